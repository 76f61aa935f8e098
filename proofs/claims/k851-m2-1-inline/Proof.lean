import JvmDerived
import JvmDerived.Pilot.@@N@@Statement
import JvmDerived.Pilot.@@N@@Code
set_option linter.unusedVariables false
set_option linter.unusedSimpArgs false
namespace Jvm.RoadKit
open Sem ClassFile Op Lib Jvm.Stand Jvm.Free Jvm.LawKit
section New
variable {p : Program} {l : Launch} {e : Env} {R : Room} {s : State} {m : MethodId} {args : Array Value} {below : List Frame} {meth : Method} {c : Code} {T : State} {locs : List Loc} {cells slots : Nat}
theorem retI (X : Stand p l e R s m args below meth c T locs cells slots) (hx : p.tables.exec = Jvm.exec) {pc : Nat} {Ls : Array Slot} {z : Int32} {rest : List Value} (hret : meth.sig.returnType = some .int) (hd : decode c.code pc = .ok (.ireturn, 1)) {fs : List Frame}
    (hl : ∀ (f : JFrame) (acts : List Action), f.method = m → f.locked = none → f.entered = [] → (doReturn e (T.setTop f) acts (some (.int z))).1 = T.setFrames fs) : Steps p.tables e below (T.setTop (mkF m pc Ls (.int z :: rest))) (T.setFrames fs) := by
  have hm' : T.vm.method? m = some meth := X.method'
  have hn : narrow .int (.int z) = .int z := rfl
  show Steps p.tables e below (T.setTop { method := m, pc := pc, locals := Ls, stack := _ :: rest, locked := none }) _
  jvm_step X.here [X.here.top, hx, hd, hm', hret, hn]
  first | (intro acts; rw [hl _ acts rfl rfl rfl]) | rw [hl _ _ rfl rfl rfl]
  exact Steps.refl _
/-- what is left of a walk: from S the run comes to its end, and Q is said of that -/
def OwnGo (p : Program) (e : Env) (below : List Frame) (s : State) (Q : Option Value → Heap → List Loc → Prop) (k n : Nat) (S : State) : Prop :=
  ∃ s₂ o, Steps p.tables e below S s₂ ∧ s₂.status = .running ∧ Ended s₂ below o ∧ ∃ v L, o = .returned v ∧ Q v s₂.heap L ∧ FrameEnd s o s₂ L k n
theorem gs {Q : Option Value → Heap → List Loc → Prop} {k n : Nat} {S S' : State} (f : ∀ t, Steps p.tables e below S' t → Steps p.tables e below S t) (h : OwnGo p e below s Q k n S') : OwnGo p e below s Q k n S := by
  obtain ⟨s₂, o, h1, r⟩ := h; exact ⟨s₂, o, f _ h1, r⟩
theorem gout {Q : Option Value → Heap → List Loc → Prop} {k n : Nat} {S : State} (X : Stand p l e R s m args below meth c T locs cells slots) (hlk : meth.locks = false) {v : Option Value} (hv : meth.sig.returnType = none → v = none) (hk : cells ≤ k) (hn : slots ≤ n) (hq : Q v T.heap locs)
    (st : ∀ fs, (∀ (f : JFrame) (acts : List Action), f.method = m → f.locked = none → f.entered = [] → (doReturn e (T.setTop f) acts v).1 = T.setFrames fs) → Steps p.tables e below S (T.setFrames fs)) : OwnGo p e below s Q k n S := by
  obtain ⟨fs, hr, hrun, hended, hW, hsame⟩ := X.leave (v := v) hv hlk
  exact ⟨_, _, st fs hr, hrun, hended, v, _, rfl, hq, ⟨v, rfl⟩, hW, hsame.mono hk hn⟩
/-- .. where String constants may be loaded on the way -/
def OwnGoW (p : Program) (e : Env) (below : List Frame) (s : State) (Z : State) (EL : List (String × Nat)) (Q : Option Value → Heap → List Loc → Prop) (k n : Nat) (S : State) : Prop :=
  ∃ s₂ o, Steps p.tables e below S s₂ ∧ s₂.status = .running ∧ Ended s₂ below o ∧ ∃ v L, o = .returned v ∧ Q v s₂.heap L ∧ CHr Z EL s.vm s.heap s₂.vm s₂.heap ∧ ReturnedEndW s o s₂ L k n
theorem gsW {Z : State} {EL : List (String × Nat)} {Q : Option Value → Heap → List Loc → Prop} {k n : Nat} {S S' : State} (f : ∀ t, Steps p.tables e below S' t → Steps p.tables e below S t) (h : OwnGoW p e below s Z EL Q k n S') : OwnGoW p e below s Z EL Q k n S := by
  obtain ⟨s₂, o, h1, r⟩ := h; exact ⟨s₂, o, f _ h1, r⟩
theorem goutW {Z : State} {a0 : Array Value} {EL : List (String × Nat)} {Q : Option Value → Heap → List Loc → Prop} {k n k0 : Nat} {S : State} {vm1 : Vm} {h0 h : Heap} (X : Stand p l e R (s.setVm vm1) m args below meth c T locs cells slots) (hS : s.Since vm1 k0) (hkk : k0 ≤ h.size) (hZ : Z.Warmed39 (s.setVm vm1).vm) (hEL : EW Z a0 EL) (hh : s.heap = h0) (eT : T.heap = h) (hR : CHr Z EL s.vm h0 vm1 h)
    (hlk : meth.locks = false) {v : Option Value} (hv : meth.sig.returnType = none → v = none) (hk : cells ≤ k) (hn : slots ≤ n) (hq : Q v h locs)
    (st : ∀ fs, (∀ (f : JFrame) (acts : List Action), f.method = m → f.locked = none → f.entered = [] → (doReturn e (T.setTop f) acts v).1 = T.setFrames fs) → Steps p.tables e below S (T.setFrames fs)) : OwnGoW p e below s Z EL Q k n S := by
  subst eT hh
  obtain ⟨fs, hr, hrun, hended, hE⟩ := X.leaveW hS hkk (v := v) hv hlk
  exact ⟨_, _, st fs hr, hrun, hended, v, _, rfl, hq, hR.trans (show CHr Z EL vm1 T.heap T.vm T.heap from CHv.at X hZ hEL hR.1), hE.1, hE.2.1, hE.2.2.1, hE.2.2.2.mono hk hn⟩
end New
def CtrW (l : Launch) (Z : State) (EL : List (String × Nat)) (y : MethodName) (bytes : ByteArray) (maxL : Nat) (ret : Option FieldType) (ws : List Jvm.Cond) (R : Room) (as' : Array Value) (h0 : Heap) (Q : Option Value → Heap → List Loc → Prop) : Prop :=
  MetFree l y (head1 (Jvm.Cond.code y bytes maxL ret :: ws) R) (fun a U => a = as' ∧ Z.Warmed39 U.vm ∧ U.heap = h0 ∧ CHv Z EL U.vm h0) (fun _ _ _ _ _ => True) (fun _ U o U' => ∃ v L, o = .returned v ∧ Q v U'.heap L ∧ CHr Z EL U.vm U.heap U'.vm U'.heap ∧ ReturnedEndW U o U' L R.cells R.slots)
/-- a method's contract -/
def Ctr (l : Launch) (Z : State) (y : MethodName) (bytes : ByteArray) (maxL : Nat) (ret : Option FieldType) (ws : List Jvm.Cond) (R : Room) (as' : Array Value) (h0 : Heap) (Q : Option Value → Heap → List Loc → Prop) : Prop :=
  MetFree l y (head1 (Jvm.Cond.code y bytes maxL ret :: ws) R) (fun a U => a = as' ∧ Z.Warmed39 U.vm ∧ U.heap = h0) (fun _ _ _ _ _ => True) (fun _ U o U' => ∃ v L, o = .returned v ∧ Q v U'.heap L ∧ FrameEnd U o U' L R.cells R.slots)
section Own
variable {p : Program} {l : Launch} {e : Env} {R : Room} {s Z : State} {args a0 : Array Value} {below : List Frame} {y : MethodName} {bytes : ByteArray} {maxL : Nat} {ret : Option FieldType} {rm : Room} {len W : Nat} {as' : Array Value} {h : Heap} {Q : Option Value → Heap → List Loc → Prop} {EL : List (String × Nat)} {vm0 : Vm} {ws : List Jvm.Cond}
theorem Ctr.of (hM : MetFree l y (head1 (Jvm.Cond.code y bytes maxL ret :: ws) R) (fun a U => a = as' ∧ Z.Warmed39 U.vm ∧ U.heap = h) (fun _ _ _ _ _ => True) (fun _ U o U' => ∃ v L, o = .returned v ∧ Q v U'.heap L ∧ FrameEnd U o U' L R.cells R.slots)) : Ctr l Z y bytes maxL ret ws R as' h Q := hM
theorem CtrW.of (hM : MetFree l y (head1 (Jvm.Cond.code y bytes maxL ret :: ws) R) (fun a U => a = as' ∧ Z.Warmed39 U.vm ∧ U.heap = h ∧ CHv Z EL U.vm h) (fun _ _ _ _ _ => True) (fun _ U o U' => ∃ v L, o = .returned v ∧ Q v U'.heap L ∧ CHr Z EL U.vm U.heap U'.vm U'.heap ∧ ReturnedEndW U o U' L R.cells R.slots)) : CtrW l Z EL y bytes maxL ret ws R as' h Q := hM
theorem backC (hM : Ctr l Z y bytes maxL ret [] rm as' h Q) (hZ : Z.Warmed39 s.vm) (wc : (Cond.code y bytes maxL ret).before a0 Z = true) (wz : (Cond.initialized y.cls).before a0 Z = true) (hf : rm.frames + 1 ≤ R.frames) (hl : W + (maxL + 11) + rm.locals ≤ R.locals) :
    Back l R p e below s args y len W (fun A a => a = as' ∧ A.U.heap = h ∧ A.cells + rm.cells ≤ R.cells ∧ A.slots + rm.slots ≤ R.slots)
      (fun A _ v B => ∃ L, Q v B.U.heap L ∧ B.locs = A.locs ++ L ∧ B.cells = A.cells + rm.cells ∧ B.slots = A.slots + rm.slots) := backOf (Q := Q) hM hZ wc wz hf hl
theorem backCW (hM : CtrW l Z EL y bytes maxL ret [] rm as' h Q) (hZ : Z.Warmed39 vm0) (wc : (Cond.code y bytes maxL ret).before a0 Z = true) (wz : (Cond.initialized y.cls).before a0 Z = true) (hf : rm.frames + 1 ≤ R.frames) (hl : W + (maxL + 11) + rm.locals ≤ R.locals) (hEL : EW Z a0 EL) (H : CHv Z EL vm0 h) :
    BackS l R p e below (s.setVm vm0) args y len W (fun A a => a = as' ∧ A.U.heap = h ∧ A.cells + rm.cells ≤ R.cells ∧ A.slots + rm.slots ≤ R.slots)
      (fun A _ v B => ∃ L, Q v B.U.heap L ∧ B.locs = A.locs ++ L ∧ B.cells = A.cells + rm.cells ∧ B.slots = A.slots + rm.slots ∧ CHr Z EL vm0 h B.U.vm B.U.heap) := backOfSH (Q := Q) hM hZ wc wz hf hl hEL H
theorem Ctr.go {h0 : Heap} (hp : plainFor y = true) (H : ∀ (p : Program) (e : Env) (s : State) (m : MethodId) (below : List Frame) (meth : Method) (c : Code) (s₁ : State), BodyLoose p l y (head1 (Jvm.Cond.code y bytes maxL ret :: ws) R) bytes maxL ret e s m as' below meth c s₁ → p.tables.exec = Jvm.exec → c.code = bytes → c.maxLocals = maxL → Z.Warmed39 s.vm → s.vm.findClass y.cls = some m.cls → meth.name = y.name → Stand p l e R s m as' below meth c s₁ [] 0 0 → s₁.heap = h0 → OwnGo p e below s Q R.cells R.slots (s₁.setTop (entryFrame m as' maxL))) : Ctr l Z y bytes maxL ret ws R as' h0 Q := by
  refine Ctr.of (MetFree.of_bodySF hp hisR ?_)
  intro p e s m args below meth c s₁ Bd hml0 hP hK
  obtain ⟨rfl, hZ, hh⟩ := hP
  exact H p e s m below meth c s₁ Bd Bd.exec Bd.bytes hml0 hZ (findClass_of_methodNamed Bd.named) (name_of_methodNamed Bd.named Bd.method).1 (Stand.of_body Bd) (by rw [← hh, Bd.state]; rfl)
end Own
end Jvm.RoadKit
/- laws to paste: Road.backV, Road.lenW, Road.eqW, Road.codOf (cut by pick.py; bodies as the Statement names them) -/
namespace Jvm.Pilot.@@N@@
namespace StrChars
open Jvm Sem ClassFile Op Lib Jvm.Stand Jvm.Free.XT Jvm.Free.ALB Jvm.Free.JM Jvm.Free
open Jvm.Lib.Cold (StaticIs)
/-- a char array whose places are chars -/
def Ch (a : Addr) (A : Cell) (U : State) : Prop := Arr .char a A U ∧ Typed .char A
theorem Ch.mv {a : Addr} {A : Cell} {U U' : State} (h : Ch a A U) (hal : U.vm.Alike U'.vm) (hh : U'.heap = U.heap) : Ch a A U' := ⟨h.1.mv hal hh, h.2⟩
theorem Ch.keep {a : Addr} {A : Cell} {U U' : State} (h : Ch a A U) (hal : U.vm.Alike U'.vm) (hk : U'.heap[a]? = some A) : Ch a A U' := ⟨h.1.keep hal hk, h.2⟩
/-- what place i of a char[]'s cell holds -/
def cv (A : Cell) (i : Nat) : Int32 := match A.slots[i]? with | some (.int x) => x | _ => 0
theorem Ch.get {a : Addr} {A : Cell} {U : State} (h : Ch a A U) {i : Nat} (hi : i < A.slots.size) : A.slots[i]? = some (.int (cv A i)) := by
  have e := Array.getElem?_eq_getElem hi
  have f := h.2 i _ e
  unfold cv; rw [e]
  generalize A.slots[i] = v at f
  cases v <;> simp [fits] at f ⊢
/-- the byte that i2b leaves of a char -/
def lo8 (x : Int32) : Int32 := x.toInt8.toInt32
theorem fits_lo8 (y : Int32) : fits .byte (.int (lo8 y)) = true := by
  have h1 := y.toInt8.le_toInt
  have h2 := y.toInt8.toInt_lt
  simp only [lo8, fits, Bool.and_eq_true, decide_eq_true_eq, Int32.le_iff_toInt_le, Int8.toInt_toInt32, show (-128 : Int32).toInt = -128 from by decide, show (127 : Int32).toInt = 127 from by decide]
  omega
/-- A' is A but that each place j of lo .. hi - 1 holds f j -/
def Laid (A A' : Cell) (lo hi : Nat) (f : Nat → Value) : Prop := A'.cls = A.cls ∧ A'.vm = A.vm ∧ A'.slots.size = A.slots.size ∧ ∀ i, A'.slots[i]? = if lo ≤ i ∧ i < hi then some (f i) else A.slots[i]?
theorem Laid.zero (A : Cell) (lo : Nat) (f : Nat → Value) : Laid A A lo (lo + 0) f := ⟨rfl, rfl, rfl, fun i => by rw [if_neg (by omega)]⟩
theorem Laid.step {A Ak : Cell} {lo k : Nat} {f : Nat → Value} {v : Value} (h : Laid A Ak lo k f) (hlo : lo ≤ k) (hk : k < Ak.slots.size) (hv : v = f k) : Laid A (Ak.setSlot k v) lo (k + 1) f := by
  refine ⟨h.1, h.2.1, by simpa [Cell.setSlot] using h.2.2.1, fun i => ?_⟩
  by_cases e : k = i
  · subst e; rw [Cell.slots_setSlot_self v hk, if_pos (by omega), hv]
  · rw [Cell.slots_setSlot_ne v e, h.2.2.2 i]
    by_cases q : lo ≤ i ∧ i < k
    · rw [if_pos q, if_pos (by omega)]
    · rw [if_neg q, if_neg (by omega)]
def U16 : String := "java/lang/StringUTF16"
namespace Cmp5
def yN : MethodName := ⟨"java/lang/StringUTF16", "compress", "([CI[BII)I"⟩
abbrev yB : ByteArray := jdk_52_method_21_code
theorem d0 : decode yB 0 = .ok (.iconst 0, 1) := by decide +kernel
theorem d1 : decode yB 1 = .ok (.istore 5, 2) := by decide +kernel
theorem d3 : decode yB 3 = .ok (.iload 5, 2) := by decide +kernel
theorem d5 : decode yB 5 = .ok (.iload 4, 2) := by decide +kernel
theorem d7 : decode yB 7 = .ok (.if_icmp (.ge) 37, 3) := by decide +kernel
theorem d10 : decode yB 10 = .ok (.aload_n 0, 1) := by decide +kernel
theorem d11 : decode yB 11 = .ok (.iload_n 1, 1) := by decide +kernel
theorem d12 : decode yB 12 = .ok (.caload, 1) := by decide +kernel
theorem d13 : decode yB 13 = .ok (.istore 6, 2) := by decide +kernel
theorem d15 : decode yB 15 = .ok (.iload 6, 2) := by decide +kernel
theorem d17 : decode yB 17 = .ok (.sipush 255, 3) := by decide +kernel
theorem d20 : decode yB 20 = .ok (.if_icmp (.le) 6, 3) := by decide +kernel
theorem d26 : decode yB 26 = .ok (.aload_n 2, 1) := by decide +kernel
theorem d27 : decode yB 27 = .ok (.iload_n 3, 1) := by decide +kernel
theorem d28 : decode yB 28 = .ok (.iload 6, 2) := by decide +kernel
theorem d30 : decode yB 30 = .ok (.i2b, 1) := by decide +kernel
theorem d31 : decode yB 31 = .ok (.bastore, 1) := by decide +kernel
theorem d32 : decode yB 32 = .ok (.iinc 1 1, 3) := by decide +kernel
theorem d35 : decode yB 35 = .ok (.iinc 3 1, 3) := by decide +kernel
theorem d38 : decode yB 38 = .ok (.iinc 5 1, 3) := by decide +kernel
theorem d41 : decode yB 41 = .ok (.goto (-38), 3) := by decide +kernel
theorem d44 : decode yB 44 = .ok (.iload 4, 2) := by decide +kernel
theorem d46 : decode yB 46 = .ok (.ireturn, 1) := by decide +kernel
def site : List Cond := []
def tab : Cond := tabOf yN yB 7 (some .int) site
def P (b : Addr) (A : Cell) (d : Addr) (B : Cell) (o q len : Nat) (args : Array Value) (s : State) : Prop := args = #[.ref b, .int (Int32.ofNat o), .ref d, .int (Int32.ofNat q), .int (Int32.ofNat len)] ∧ Ch b A s ∧ Arr .byte d B s ∧ b ≠ d ∧ o + len ≤ A.slots.size ∧ q + len ≤ B.slots.size ∧ ∀ i, i < len → ¬ 255 < cv A (o + i)
def E (b : Addr) (A : Cell) (d : Addr) (B : Cell) (o q len : Nat) (r : Option Value) (s u : State) : Prop := r = some (.int (Int32.ofNat len)) ∧ ∃ B', Put d B' s u ∧ Laid B B' q (q + len) (fun j => Value.int (lo8 (cv A (o + (j - q)))))
/-- no char of the range above 255: len; the places written hold each char's low byte -/
theorem law (l : Launch) (b : Addr) (A : Cell) (d : Addr) (B : Cell) (o q len : Nat) : Law l yN 5 5 0 0 yB 7 (some .int) site (P b A d B o q len) (E b A d B o q len) (copyLocs d q len) 0 0 := by
  refine Law.of_walk (plainFor_of_name (by decide +kernel)) (by decide +kernel) (by decide +kernel) (by decide) (fun _ _ h => by rw [h.1]; rfl) (fun _ U U' hal hh h => ⟨h.1, h.2.1.mv hal hh, h.2.2.1.mv hal hh, h.2.2.2⟩) (fun r U U' V V' h1 hal h2 h => ⟨h.1, h.2.elim fun B' q => ⟨B', q.1.mv h1 h2, q.2⟩⟩) ?_
  intro p e s m args below meth c s₁ X0 hexec hbytes hml hret hlk hnm hown hh0 W hP
  obtain ⟨rfl, hA, hB, hne, l1, l2, hp⟩ := hP
  have c1 : Steps p.tables e below (s₁.setTop (entryFrame m #[.ref b, .int (Int32.ofNat o), .ref d, .int (Int32.ofNat q), .int (Int32.ofNat len)] 7)) (s₁.setTop (mkF m 0 #[.val (.ref b), .val (.int (Int32.ofNat o)), .val (.ref d), .val (.int (Int32.ofNat q)), .val (.int (Int32.ofNat len)), .unset, .unset] [])) := entry rfl
  have hA0 := hA.1.mv X0.warmed.alike hh0
  have hB0 := hB.mv X0.warmed.alike hh0
  have a31 := hA.1.2.2.2
  have c2 : Steps p.tables e below (s₁.setTop (entryFrame m #[.ref b, .int (Int32.ofNat o), .ref d, .int (Int32.ofNat q), .int (Int32.ofNat len)] 7)) (s₁.setTop (mkF m 3 #[.val (.ref b), .val (.int (Int32.ofNat o)), .val (.ref d), .val (.int (Int32.ofNat q)), .val (.int (Int32.ofNat len)), .val (.int 0), .unset] [])) := c1.trans (by
    refine iconstV X0.here hexec rfl 0 (hb hbytes d0) (by decide) ?_
    refine XS.istore X0.here hexec rfl (hb hbytes d1) rfl rfl ?_
    exact Steps.refl _)
  have loop : ∀ (r i : Nat), i + r = len → ∀ (z : Slot), (z = .unset ∨ ∃ w, z = .val w ∧ w.category = 1) → ∀ (Tl : State) (Bk : Cell), Stand p l e { frames := 0, locals := 0, cells := 0, slots := 0 } s m #[.ref b, .int (Int32.ofNat o), .ref d, .int (Int32.ofNat q), .int (Int32.ofNat len)] below meth c Tl ([] ++ copyLocs d q i) 0 0 → Put d Bk s₁ Tl → Laid B Bk q (q + i) (fun j => Value.int (lo8 (cv A (o + (j - q))))) →
      Steps p.tables e below (s₁.setTop (entryFrame m #[.ref b, .int (Int32.ofNat o), .ref d, .int (Int32.ofNat q), .int (Int32.ofNat len)] 7)) (Tl.setTop (mkF m 3 #[.val (.ref b), .val (.int (Int32.ofNat (o + i))), .val (.ref d), .val (.int (Int32.ofNat (q + i))), .val (.int (Int32.ofNat len)), .val (.int (Int32.ofNat i)), z] [])) → ∃ (T' : State) (B' : Cell) (z' : Slot), Stand p l e { frames := 0, locals := 0, cells := 0, slots := 0 } s m #[.ref b, .int (Int32.ofNat o), .ref d, .int (Int32.ofNat q), .int (Int32.ofNat len)] below meth c T' ([] ++ copyLocs d q len) 0 0 ∧ Put d B' s₁ T' ∧ Laid B B' q (q + len) (fun j => Value.int (lo8 (cv A (o + (j - q))))) ∧
      Steps p.tables e below (s₁.setTop (entryFrame m #[.ref b, .int (Int32.ofNat o), .ref d, .int (Int32.ofNat q), .int (Int32.ofNat len)] 7)) (T'.setTop (mkF m 3 #[.val (.ref b), .val (.int (Int32.ofNat (o + len))), .val (.ref d), .val (.int (Int32.ofNat (q + len))), .val (.int (Int32.ofNat len)), .val (.int (Int32.ofNat len)), z'] [])) := by
    intro r
    induction r with
    | zero =>
      intro i hi z hz Tl Bk Xl pl fl cl
      have hil : i = len := by omega
      rw [hil] at Xl fl cl
      exact ⟨Tl, Bk, z, Xl, pl, fl, cl⟩
    | succ r ih =>
      intro i hi z hz Tl Bk Xl pl fl cl
      have all := X0.warmed.alike.symm.trans Xl.warmed.alike
      have hAl := hA0.keep all (pl.other hne hA0.1)
      have hBk := hB0.like all pl.1 fl.1 fl.2.1 fl.2.2.1
      have hlt : q + i < Bk.slots.size := by rw [fl.2.2.1]; omega
      have c3 : Steps p.tables e below (s₁.setTop (entryFrame m #[.ref b, .int (Int32.ofNat o), .ref d, .int (Int32.ofNat q), .int (Int32.ofNat len)] 7)) (Tl.setTop (mkF m 12 #[.val (.ref b), .val (.int (Int32.ofNat (o + i))), .val (.ref d), .val (.int (Int32.ofNat (q + i))), .val (.int (Int32.ofNat len)), .val (.int (Int32.ofNat i)), z] [.int (Int32.ofNat (o + i)), .ref b])) := cl.trans (by
        refine XS.iload Xl.here hexec rfl (hb hbytes d3) rfl ?_
        refine XS.iload Xl.here hexec rfl (hb hbytes d5) rfl ?_
        refine XS.icmpNo Xl.here hexec rfl (hb hbytes d7) rfl (ii_ge_f (lt32 (by omega) (by omega))) ?_
        refine XS.aloadN Xl.here hexec rfl (hb hbytes d10) rfl rfl ?_
        refine XS.iloadN Xl.here hexec rfl (hb hbytes d11) rfl ?_
        exact Steps.refl _)
      have c4 : Steps p.tables e below (s₁.setTop (entryFrame m #[.ref b, .int (Int32.ofNat o), .ref d, .int (Int32.ofNat q), .int (Int32.ofNat len)] 7)) (Tl.setTop (mkF m 13 #[.val (.ref b), .val (.int (Int32.ofNat (o + i))), .val (.ref d), .val (.int (Int32.ofNat (q + i))), .val (.int (Int32.ofNat len)), .val (.int (Int32.ofNat i)), z] [.int (cv A (o + i))])) := c3.trans (by
        refine Xl.aget hexec hAl rfl (hA.get (i := o + i) (by omega)) rfl rfl (hb hbytes d12) ?_
        exact Steps.refl _)
      have c5 : Steps p.tables e below (s₁.setTop (entryFrame m #[.ref b, .int (Int32.ofNat o), .ref d, .int (Int32.ofNat q), .int (Int32.ofNat len)] 7)) (Tl.setTop (mkF m 15 #[.val (.ref b), .val (.int (Int32.ofNat (o + i))), .val (.ref d), .val (.int (Int32.ofNat (q + i))), .val (.int (Int32.ofNat len)), .val (.int (Int32.ofNat i)), .val (.int (cv A (o + i)))] [])) := c4.trans (by
        refine XS.istoreS Xl.here hexec rfl (hb hbytes d13) rfl rfl hz ?_
        exact Steps.refl _)
      have c6 : Steps p.tables e below (s₁.setTop (entryFrame m #[.ref b, .int (Int32.ofNat o), .ref d, .int (Int32.ofNat q), .int (Int32.ofNat len)] 7)) (Tl.setTop (mkF m 31 #[.val (.ref b), .val (.int (Int32.ofNat (o + i))), .val (.ref d), .val (.int (Int32.ofNat (q + i))), .val (.int (Int32.ofNat len)), .val (.int (Int32.ofNat i)), .val (.int (cv A (o + i)))] [.int (lo8 (cv A (o + i))), .int (Int32.ofNat (q + i)), .ref d])) := c5.trans (by
        refine XS.iload Xl.here hexec rfl (hb hbytes d15) rfl ?_
        refine sipushV Xl.here hexec rfl 255 (hb hbytes d17) (by decide) ?_
        refine XS.icmpYes Xl.here hexec rfl (pc0 := 20) rfl (hb hbytes d20) rfl (ii_le_t (hp i (by omega))) (by decide) rfl ?_
        refine XS.aloadN Xl.here hexec rfl (hb hbytes d26) rfl rfl ?_
        refine XS.iloadN Xl.here hexec rfl (hb hbytes d27) rfl ?_
        refine XS.iload Xl.here hexec rfl (hb hbytes d28) rfl ?_
        refine i2b Xl.here hexec rfl (hb hbytes d30) rfl ?_
        exact Steps.refl _)
      obtain ⟨T7, X7, p7, st7⟩ := Xl.aput hexec hBk rfl hlt rfl (fits_lo8 (cv A (o + i))) (g := (mkF m 31 #[.val (.ref b), .val (.int (Int32.ofNat (o + i))), .val (.ref d), .val (.int (Int32.ofNat (q + i))), .val (.int (Int32.ofNat len)), .val (.int (Int32.ofNat i)), .val (.int (cv A (o + i)))] [.int (lo8 (cv A (o + i))), .int (Int32.ofNat (q + i)), .ref d])) rfl (rest := []) rfl (hb hbytes d31)
      have c8 : Steps p.tables e below (s₁.setTop (entryFrame m #[.ref b, .int (Int32.ofNat o), .ref d, .int (Int32.ofNat q), .int (Int32.ofNat len)] 7)) (T7.setTop (mkF m 32 #[.val (.ref b), .val (.int (Int32.ofNat (o + i))), .val (.ref d), .val (.int (Int32.ofNat (q + i))), .val (.int (Int32.ofNat len)), .val (.int (Int32.ofNat i)), .val (.int (cv A (o + i)))] [])) := c6.trans (st7 _ (Steps.refl _))
      have c9 : Steps p.tables e below (s₁.setTop (entryFrame m #[.ref b, .int (Int32.ofNat o), .ref d, .int (Int32.ofNat q), .int (Int32.ofNat len)] 7)) (T7.setTop (mkF m 3 #[.val (.ref b), .val (.int (Int32.ofNat (o + i) + 1)), .val (.ref d), .val (.int (Int32.ofNat (q + i) + 1)), .val (.int (Int32.ofNat len)), .val (.int (Int32.ofNat i + 1)), .val (.int (cv A (o + i)))] [])) := c8.trans (by
        refine iincV X7.here hexec rfl 1 (hb hbytes d32) (by decide) rfl rfl ?_
        refine iincV X7.here hexec rfl 1 (hb hbytes d35) (by decide) rfl rfl ?_
        refine iincV X7.here hexec rfl 1 (hb hbytes d38) (by decide) rfl rfl ?_
        refine XS.goto X7.here hexec rfl (pc0 := 41) rfl (hb hbytes d41) (by decide) rfl ?_
        exact Steps.refl _)
      have c10 : Steps p.tables e below (s₁.setTop (entryFrame m #[.ref b, .int (Int32.ofNat o), .ref d, .int (Int32.ofNat q), .int (Int32.ofNat len)] 7)) (T7.setTop (mkF m 3 #[.val (.ref b), .val (.int (Int32.ofNat (o + (i + 1)))), .val (.ref d), .val (.int (Int32.ofNat (q + (i + 1)))), .val (.int (Int32.ofNat len)), .val (.int (Int32.ofNat (i + 1))), .val (.int (cv A (o + i)))] [])) := by
        have := c9
        rw [succ32, succ32, succ32] at this
        exact this
      exact ih (i + 1) (by omega) _ (Or.inr ⟨_, rfl, rfl⟩) T7 _ (by rw [copyLocs_step, ← List.append_assoc]; exact X7) (pl.trans p7) (fl.step (by omega) hlt (by simp)) c10
  obtain ⟨T9, B9, z9, X9, p9, f9, g9⟩ := loop len 0 (by omega) .unset (Or.inl rfl) s₁ B (by simpa [copyLocs] using X0) ⟨hB0.1, fun _ _ => rfl, rfl⟩ (Laid.zero _ _ _) c2
  have c11 : Steps p.tables e below (s₁.setTop (entryFrame m #[.ref b, .int (Int32.ofNat o), .ref d, .int (Int32.ofNat q), .int (Int32.ofNat len)] 7)) (T9.setTop (mkF m 46 #[.val (.ref b), .val (.int (Int32.ofNat (o + len))), .val (.ref d), .val (.int (Int32.ofNat (q + len))), .val (.int (Int32.ofNat len)), .val (.int (Int32.ofNat len)), z9] [.int (Int32.ofNat len)])) := g9.trans (by
    refine XS.iload X9.here hexec rfl (hb hbytes d3) rfl ?_
    refine XS.iload X9.here hexec rfl (hb hbytes d5) rfl ?_
    refine XS.icmpYes X9.here hexec rfl (pc0 := 7) rfl (hb hbytes d7) rfl (ii_ge_t (nlt32 (by omega) (Nat.le_refl _))) (by decide) rfl ?_
    refine XS.iload X9.here hexec rfl (hb hbytes d44) rfl ?_
    exact Steps.refl _)
  exact ⟨T9, some (.int (Int32.ofNat len)), _, _, _, X9, by simp, rfl, rfl, (fun h => by cases h), ⟨rfl, B9, p9.from hh0, f9⟩, fun fs hl => c11.trans (X9.ireturnOut hexec hret rfl (Or.inl rfl) (hb hbytes d46) hl)⟩
end Cmp5
namespace Cmp3
def yN : MethodName := ⟨"java/lang/StringUTF16", "compress", "([CII)[B"⟩
abbrev yB : ByteArray := jdk_52_method_16_code
theorem d0 : decode yB 0 = .ok (.iload_n 2, 1) := by decide +kernel
theorem d1 : decode yB 1 = .ok (.newarray .byte, 2) := by decide +kernel
theorem d3 : decode yB 3 = .ok (.astore_n 3, 1) := by decide +kernel
theorem d4 : decode yB 4 = .ok (.aload_n 0, 1) := by decide +kernel
theorem d5 : decode yB 5 = .ok (.iload_n 1, 1) := by decide +kernel
theorem d6 : decode yB 6 = .ok (.aload_n 3, 1) := by decide +kernel
theorem d7 : decode yB 7 = .ok (.iconst 0, 1) := by decide +kernel
theorem d8 : decode yB 8 = .ok (.iload_n 2, 1) := by decide +kernel
theorem d9 : decode yB 9 = .ok (.invokestatic 115, 3) := by decide +kernel
theorem d12 : decode yB 12 = .ok (.istore 4, 2) := by decide +kernel
theorem d14 : decode yB 14 = .ok (.iload 4, 2) := by decide +kernel
theorem d16 : decode yB 16 = .ok (.iload_n 2, 1) := by decide +kernel
theorem d17 : decode yB 17 = .ok (.if_icmp (.eq) 40, 3) := by decide +kernel
theorem d57 : decode yB 57 = .ok (.aload_n 3, 1) := by decide +kernel
theorem d58 : decode yB 58 = .ok (.areturn, 1) := by decide +kernel
def site : List Cond := [.arrayClass .byte, Cmp5.tab] ++ staticW U16 115 Cmp5.yN
def tab : Cond := tabOf yN yB 6 (some (.array .byte)) site
def P (b : Addr) (A : Cell) (o len : Nat) (args : Array Value) (s : State) : Prop := args = #[.ref b, .int (Int32.ofNat o), .int (Int32.ofNat len)] ∧ Ch b A s ∧ o + len ≤ A.slots.size ∧ len ≤ 536870912 ∧ ∀ i, i < len → ¬ 255 < cv A (o + i)
def E (b : Addr) (A : Cell) (o len : Nat) (r : Option Value) (s u : State) : Prop := NewArr .byte "[B" len (fun j => .int (lo8 (cv A (o + j)))) r s u ∧ u.heap.size = s.heap.size + 1
/-- no char of the range above 255: a new byte[] of their low bytes -/
theorem law (l : Launch) (b : Addr) (A : Cell) (o len : Nat) : Law l yN 3 3 1 18 yB 6 (some (.array .byte)) site (P b A o len) (E b A o len) [] 1 len := by
  refine Law.of_walk (plainFor_of_name (by decide +kernel)) (by decide +kernel) (by decide +kernel) (by decide) (fun _ _ h => by rw [h.1]; rfl) (fun _ U U' hal hh h => ⟨h.1, h.2.1.mv hal hh, h.2.2⟩) (fun r U U' V V' h1 hal h2 h => ⟨NewArr.mv r U U' V V' h1 hal h2 h.1, by rw [h1, h2]; exact h.2⟩) ?_
  intro p e s m args below meth c s₁ X0 hexec hbytes hml hret hlk hnm hown hh0 W hP
  obtain ⟨rfl, hA, l1, l2, hp⟩ := hP
  have a31 := hA.1.2.2.2
  have c1 : Steps p.tables e below (s₁.setTop (entryFrame m #[.ref b, .int (Int32.ofNat o), .int (Int32.ofNat len)] 6)) (s₁.setTop (mkF m 0 #[.val (.ref b), .val (.int (Int32.ofNat o)), .val (.int (Int32.ofNat len)), .unset, .unset, .unset] [])) := entry rfl
  have c2 : Steps p.tables e below (s₁.setTop (entryFrame m #[.ref b, .int (Int32.ofNat o), .int (Int32.ofNat len)] 6)) (s₁.setTop (mkF m 1 #[.val (.ref b), .val (.int (Int32.ofNat o)), .val (.int (Int32.ofNat len)), .unset, .unset, .unset] [.int (Int32.ofNat len)])) := c1.trans (by
    refine XS.iloadN X0.here hexec rfl (hb hbytes d0) rfl ?_
    exact Steps.refl _)
  obtain ⟨T3, B3, X3, ba3, bs3, bv3, bh3, bf3, st3⟩ := X0.anew hexec (atype := .byte) (wk W (.arrayClass .byte)) rfl (by show len * 1 ≤ _; omega) (by omega) (g := (mkF m 1 #[.val (.ref b), .val (.int (Int32.ofNat o)), .val (.int (Int32.ofNat len)), .unset, .unset, .unset] [.int (Int32.ofNat len)])) rfl (hb hbytes d1) (rest := []) rfl (Nat.le_refl _) (by show 0 + len ≤ len; omega)
  rw [hh0] at ba3 st3
  have kp3 : XT.Kept s T3 := (XT.Kept.of_eq hh0).push bh3
  have hA3 := hA.keep X3.warmed.alike (kp3 _ _ hA.1.1)
  have hne : b ≠ s.heap.size := hA.1.ne
  have c4 : Steps p.tables e below (s₁.setTop (entryFrame m #[.ref b, .int (Int32.ofNat o), .int (Int32.ofNat len)] 6)) (T3.setTop (mkF m 3 #[.val (.ref b), .val (.int (Int32.ofNat o)), .val (.int (Int32.ofNat len)), .unset, .unset, .unset] [.ref s.heap.size])) := c2.trans (st3 _ (Steps.refl _))
  have c5 : Steps p.tables e below (s₁.setTop (entryFrame m #[.ref b, .int (Int32.ofNat o), .int (Int32.ofNat len)] 6)) (T3.setTop (mkF m 9 #[.val (.ref b), .val (.int (Int32.ofNat o)), .val (.int (Int32.ofNat len)), .val (.ref s.heap.size), .unset, .unset] [.int (Int32.ofNat len), .int 0, .ref s.heap.size, .int (Int32.ofNat o), .ref b])) := c4.trans (by
    refine XS.astoreN X3.here hexec rfl (hb hbytes d3) rfl rfl rfl ?_
    refine XS.aloadN X3.here hexec rfl (hb hbytes d4) rfl rfl ?_
    refine XS.iloadN X3.here hexec rfl (hb hbytes d5) rfl ?_
    refine XS.aloadN X3.here hexec rfl (hb hbytes d6) rfl rfl ?_
    refine iconstV X3.here hexec rfl 0 (hb hbytes d7) (by decide) ?_
    refine XS.iloadN X3.here hexec rfl (hb hbytes d8) rfl ?_
    exact Steps.refl _)
  obtain ⟨v6, T6, X6, E6, g6⟩ := X3.callS hexec (Cmp5.law l b A s.heap.size B3 o 0 len) hown (wks W (staticW U16 115 Cmp5.yN)) (wk W Cmp5.tab) (W := 0) (Nat.le_of_ble_eq_true rfl) (Nat.le_of_ble_eq_true rfl) (Nat.le_refl _) (by show 0 + len + 0 ≤ len; omega) (g := (mkF m 9 #[.val (.ref b), .val (.int (Int32.ofNat o)), .val (.int (Int32.ofNat len)), .val (.ref s.heap.size), .unset, .unset] [.int (Int32.ofNat len), .int (Int32.ofNat 0), .ref s.heap.size, .int (Int32.ofNat o), .ref b])) rfl (by rw [hml]; rfl) c5 (argsL := [.ref b, .int (Int32.ofNat o), .ref s.heap.size, .int (Int32.ofNat 0), .int (Int32.ofNat len)]) (rest := []) rfl rfl (by show 2 * 0 + 0 ≤ _; decide) (hb hbytes d9) (⟨rfl, hA3, ba3, hne, l1, by rw [bs3]; simp, hp⟩)
  obtain ⟨rfl, B6, p6, f6⟩ := E6
  have c7 : Steps p.tables e below (s₁.setTop (entryFrame m #[.ref b, .int (Int32.ofNat o), .int (Int32.ofNat len)] 6)) (T6.setTop (mkF m 12 #[.val (.ref b), .val (.int (Int32.ofNat o)), .val (.int (Int32.ofNat len)), .val (.ref s.heap.size), .unset, .unset] [.int (Int32.ofNat len)])) := g6
  have c8 : Steps p.tables e below (s₁.setTop (entryFrame m #[.ref b, .int (Int32.ofNat o), .int (Int32.ofNat len)] 6)) (T6.setTop (mkF m 58 #[.val (.ref b), .val (.int (Int32.ofNat o)), .val (.int (Int32.ofNat len)), .val (.ref s.heap.size), .val (.int (Int32.ofNat len)), .unset] [.ref s.heap.size])) := c7.trans (by
    refine XS.istore X6.here hexec rfl (hb hbytes d12) rfl rfl ?_
    refine XS.iload X6.here hexec rfl (hb hbytes d14) rfl ?_
    refine XS.iloadN X6.here hexec rfl (hb hbytes d16) rfl ?_
    refine XS.icmpYes X6.here hexec rfl (pc0 := 17) rfl (hb hbytes d17) rfl (ii_eq_t rfl) (by decide) rfl ?_
    refine XS.aloadN X6.here hexec rfl (hb hbytes d57) rfl rfl ?_
    exact Steps.refl _)
  have X8 := X6.wide (L' := []) (cells' := 1) (slots' := len) (fun x hx hlt => by
    simp only [List.nil_append, copyLocs, List.mem_map, List.mem_range] at hx
    obtain ⟨i, -, rfl⟩ := hx
    exact absurd hlt (Nat.lt_irrefl _)) (Nat.le_refl _) (by omega)
  exact ⟨T6, some (.ref s.heap.size), _, _, _, X8, rfl, rfl, rfl, (fun h => by cases h), ⟨⟨rfl, B6, ba3.like (X3.warmed.alike.symm.trans X6.warmed.alike) p6.1 f6.1 f6.2.1 f6.2.2.1, f6.2.1.trans bv3, by rw [X6.warmed.alike.findClass, f6.1]; exact bf3, by rw [f6.2.2.1, bs3]; simp, fun j hj => by rw [f6.2.2.2 j, if_pos (by omega)]; rfl, kp3.put p6 (Nat.le_refl _)⟩, by rw [p6.2.2, bh3, hh0]; simp⟩, fun fs hl => c8.trans (X8.areturnOut hexec rfl hret rfl (hb hbytes d58) hl)⟩
end Cmp3
namespace CodL
def yN : MethodName := ⟨"java/lang/StringUTF16", "coderFromArrayLen", "([BI)B"⟩
abbrev yB : ByteArray := jdk_52_method_15_code
theorem d0 : decode yB 0 = .ok (.iload_n 1, 1) := by decide +kernel
theorem d1 : decode yB 1 = .ok (.aload_n 0, 1) := by decide +kernel
theorem d2 : decode yB 2 = .ok (.arraylength, 1) := by decide +kernel
theorem d3 : decode yB 3 = .ok (.isub, 1) := by decide +kernel
theorem d4 : decode yB 4 = .ok (.bipush 31, 2) := by decide +kernel
theorem d6 : decode yB 6 = .ok (.iushr, 1) := by decide +kernel
theorem d7 : decode yB 7 = .ok (.i2b, 1) := by decide +kernel
theorem d8 : decode yB 8 = .ok (.ireturn, 1) := by decide +kernel
def site : List Cond := []
def tab : Cond := tabOf yN yB 2 (some .byte) site
def P (d : Addr) (B : Cell) (args : Array Value) (s : State) : Prop := args = #[.ref d, .int (Int32.ofNat B.slots.size)] ∧ Arr .byte d B s
def E (r : Option Value) (s u : State) : Prop := XT.PureE (some (.int 0)) r s u
/-- an array as long as the number of chars: LATIN1 -/
theorem law (l : Launch) (d : Addr) (B : Cell) : Law l yN 2 2 0 0 yB 2 (some .byte) site (P d B) E [] 0 0 := by
  refine Law.of_walk (plainFor_of_name (by decide +kernel)) (by decide +kernel) (by decide +kernel) (by decide) (fun _ _ h => by rw [h.1]; rfl) (fun _ U U' hal hh h => ⟨h.1, h.2.mv hal hh⟩) (fun r U U' V V' h1 hal h2 h => XT.PureE.mv r U U' V V' h1 hal h2 h) ?_
  intro p e s m args below meth c s₁ X0 hexec hbytes hml hret hlk hnm hown hh0 W hP
  obtain ⟨rfl, hB⟩ := hP
  have hB0 := hB.mv X0.warmed.alike hh0
  have c1 : Steps p.tables e below (s₁.setTop (entryFrame m #[.ref d, .int (Int32.ofNat B.slots.size)] 2)) (s₁.setTop (mkF m 0 #[.val (.ref d), .val (.int (Int32.ofNat B.slots.size))] [])) := entry rfl
  have c2 : Steps p.tables e below (s₁.setTop (entryFrame m #[.ref d, .int (Int32.ofNat B.slots.size)] 2)) (s₁.setTop (mkF m 2 #[.val (.ref d), .val (.int (Int32.ofNat B.slots.size))] [.ref d, .int (Int32.ofNat B.slots.size)])) := c1.trans (by
    refine XS.iloadN X0.here hexec rfl (hb hbytes d0) rfl ?_
    refine XS.aloadN X0.here hexec rfl (hb hbytes d1) rfl rfl ?_
    exact Steps.refl _)
  have c3 : Steps p.tables e below (s₁.setTop (entryFrame m #[.ref d, .int (Int32.ofNat B.slots.size)] 2)) (s₁.setTop (mkF m 8 #[.val (.ref d), .val (.int (Int32.ofNat B.slots.size))] [.int (lo8 (ushr (Int32.ofNat B.slots.size - Int32.ofNat B.slots.size) 31))])) := c2.trans (by
    refine X0.alen hexec hB0 rfl rfl (hb hbytes d2) ?_
    refine XS.isub X0.here hexec rfl (hb hbytes d3) rfl ?_
    refine bipushV X0.here hexec rfl 31 (hb hbytes d4) (by decide) ?_
    refine iushr X0.here hexec rfl (hb hbytes d6) rfl ?_
    refine i2b X0.here hexec rfl (hb hbytes d7) rfl ?_
    exact Steps.refl _)
  have e0 : lo8 (ushr (Int32.ofNat B.slots.size - Int32.ofNat B.slots.size) 31) = 0 := by rw [Int32.sub_self]; decide
  rw [e0] at c3
  exact ⟨s₁, some (.int 0), _, _, _, X0, rfl, rfl, rfl, (fun h => by cases h), ⟨rfl, hh0⟩, fun fs hl => c3.trans (X0.ireturnOut hexec hret rfl (Or.inr (Or.inr (Or.inl rfl))) (hb hbytes d8) hl)⟩
end CodL
/-- the String at a is Latin-1 over a new byte[] (the heap's one new cell): the low bytes of the len chars of A from o on; every cell but a is kept -/
def Got (a : Addr) (D : Cell) (fV fC : Field) (A : Cell) (o len : Nat) (r : Option Value) (s u : State) : Prop := r = none ∧ ∃ D' V : Cell, Blank "java/lang/String" a D' u ∧ Same D D' [fV.slot, fC.slot] ∧ D'.slots[fV.slot]? = some (.ref s.heap.size) ∧ D'.slots[fC.slot]? = some (.int 0) ∧ Arr .byte s.heap.size V u ∧ V.vm = .none ∧ u.vm.findClass "[B" = some V.cls ∧ V.slots.size = len ∧ (∀ j, j < len → V.slots[j]? = some (.int (lo8 (cv A (o + j))))) ∧ (∀ (y : Addr) (c : Cell), y ≠ a → s.heap[y]? = some c → u.heap[y]? = some c) ∧ u.heap.size = s.heap.size + 1
theorem Got.mv {a : Addr} {D A : Cell} {fV fC : Field} {o len : Nat} : ∀ r (U U' V V' : State), U'.heap = U.heap → V.vm.Alike V'.vm → V'.heap = V.heap → Got a D fV fC A o len r U V → Got a D fV fC A o len r U' V' :=
  fun r U U' V V' h1 hal h2 ⟨e0, D', X, a1, a2, a3, a4, a5, a6, a7, a8, a9, a10, a11⟩ => ⟨e0, D', X, a1.mv hal h2, a2, by rw [h1]; exact a3, a4, by rw [h1]; exact a5.mv hal h2, a6, by rw [hal.findClass]; exact a7, a8, a9, by rw [h1, h2]; exact a10, by rw [h1, h2]; exact a11⟩
namespace New4
def yN : MethodName := ⟨"java/lang/String", "<init>", "([CIILjava/lang/Void;)V"⟩
abbrev yB : ByteArray := jdk_42_method_149_code
theorem d0 : decode yB 0 = .ok (.aload_n 0, 1) := by decide +kernel
theorem d1 : decode yB 1 = .ok (.invokespecial 1, 3) := by decide +kernel
theorem d4 : decode yB 4 = .ok (.iload_n 3, 1) := by decide +kernel
theorem d5 : decode yB 5 = .ok (.ifCond (.ne) 22, 3) := by decide +kernel
theorem d27 : decode yB 27 = .ok (.getstatic 38, 3) := by decide +kernel
theorem d30 : decode yB 30 = .ok (.ifCond (.eq) 28, 3) := by decide +kernel
theorem d33 : decode yB 33 = .ok (.aload_n 1, 1) := by decide +kernel
theorem d34 : decode yB 34 = .ok (.iload_n 2, 1) := by decide +kernel
theorem d35 : decode yB 35 = .ok (.iload_n 3, 1) := by decide +kernel
theorem d36 : decode yB 36 = .ok (.invokestatic 177, 3) := by decide +kernel
theorem d39 : decode yB 39 = .ok (.astore 5, 2) := by decide +kernel
theorem d41 : decode yB 41 = .ok (.aload_n 0, 1) := by decide +kernel
theorem d42 : decode yB 42 = .ok (.aload 5, 2) := by decide +kernel
theorem d44 : decode yB 44 = .ok (.iload_n 3, 1) := by decide +kernel
theorem d45 : decode yB 45 = .ok (.invokestatic 47, 3) := by decide +kernel
theorem d48 : decode yB 48 = .ok (.putfield 15, 3) := by decide +kernel
theorem d51 : decode yB 51 = .ok (.aload_n 0, 1) := by decide +kernel
theorem d52 : decode yB 52 = .ok (.aload 5, 2) := by decide +kernel
theorem d54 : decode yB 54 = .ok (.putfield 9, 3) := by decide +kernel
theorem d57 : decode yB 57 = .ok (.return_, 1) := by decide +kernel
def site : List Cond := [.fieldLink "java/lang/String" 38 "java/lang/String" "COMPACT_STRINGS" "Z", Cmp3.tab, CodL.tab, .laysFinal "java/lang/String" "java/lang/String" "value" "[B", .fieldLink "java/lang/String" 9 "java/lang/String" "value" "[B", .laysFinal "java/lang/String" "java/lang/String" "coder" "B", .fieldLink "java/lang/String" 15 "java/lang/String" "coder" "B"] ++ objW "java/lang/String" 1 ++ staticW "java/lang/String" 177 Cmp3.yN ++ staticW "java/lang/String" 47 CodL.yN
def tab : Cond := tabOf yN yB 6 none site
def P (a : Addr) (D : Cell) (fV fC : Field) (b : Addr) (A : Cell) (z : Int32) (o len : Nat) (args : Array Value) (s : State) : Prop := args = #[.ref a, .ref b, .int (Int32.ofNat o), .int (Int32.ofNat len), .null] ∧ Blank "java/lang/String" a D s ∧ Found "java/lang/String" "value" "[B" fV s ∧ Found "java/lang/String" "coder" "B" fC s ∧ Ch b A s ∧ StaticIs s "java/lang/String" "COMPACT_STRINGS" "Z" (.int z) ∧ ¬ z = 0 ∧ 0 < len ∧ o + len ≤ A.slots.size ∧ len ≤ 536870912 ∧ ∀ i, i < len → ¬ 255 < cv A (o + i)
def E (a : Addr) (D : Cell) (fV fC : Field) (A : Cell) (o len : Nat) (r : Option Value) (s u : State) : Prop := Got a D fV fC A o len r s u
/-- len > 0, no char of the range above 255: a Latin-1 String of their low bytes -/
theorem law (l : Launch) (a : Addr) (D : Cell) (fV fC : Field) (b : Addr) (A : Cell) (z : Int32) (o len : Nat) : Law l yN 5 4 2 35 yB 6 none site (P a D fV fC b A z o len) (E a D fV fC A o len) [⟨a, fC.slot⟩, ⟨a, fV.slot⟩] 1 len := by
  refine Law.of_walk (plainFor_of_name (by decide +kernel)) (by decide +kernel) (by decide +kernel) (by decide) (fun _ _ h => by rw [h.1]; rfl) (fun _ U U' hal hh h => ⟨h.1, h.2.1.mv hal hh, h.2.2.1.al hal, h.2.2.2.1.al hal, h.2.2.2.2.1.mv hal hh, h.2.2.2.2.2.1.there hal hh, h.2.2.2.2.2.2⟩) (fun r U U' V V' h1 hal h2 h => Got.mv r U U' V V' h1 hal h2 h) ?_
  intro p e s m args below meth c s₁ X0 hexec hbytes hml hret hlk hnm hown hh0 W hP
  obtain ⟨rfl, hB, f1, f2, hA, s1, hz, l0, l1, l2, hp⟩ := hP
  have a31 := hA.1.2.2.2
  have c1 : Steps p.tables e below (s₁.setTop (entryFrame m #[.ref a, .ref b, .int (Int32.ofNat o), .int (Int32.ofNat len), .null] 6)) (s₁.setTop (mkF m 0 #[.val (.ref a), .val (.ref b), .val (.int (Int32.ofNat o)), .val (.int (Int32.ofNat len)), .val .null, .unset] [])) := entry rfl
  have c2 : Steps p.tables e below (s₁.setTop (entryFrame m #[.ref a, .ref b, .int (Int32.ofNat o), .int (Int32.ofNat len), .null] 6)) (s₁.setTop (mkF m 1 #[.val (.ref a), .val (.ref b), .val (.int (Int32.ofNat o)), .val (.int (Int32.ofNat len)), .val .null, .unset] [.ref a])) := c1.trans (by
    refine XS.aloadN X0.here hexec rfl (hb hbytes d0) rfl rfl ?_
    exact Steps.refl _)
  obtain ⟨T3, X3, q3, st3⟩ := X0.oinit hexec hown (wks W (objW "java/lang/String" 1)) (g := (mkF m 1 #[.val (.ref a), .val (.ref b), .val (.int (Int32.ofNat o)), .val (.int (Int32.ofNat len)), .val .null, .unset] [.ref a])) rfl (by rw [hml]; rfl) (rest := []) rfl (hb hbytes d1) (W := 0) (by show 2 * 0 + 0 ≤ _; decide) (Nat.le_of_ble_eq_true rfl) (Nat.le_of_ble_eq_true rfl)
  have hh3 := q3.trans hh0
  have c4 : Steps p.tables e below (s₁.setTop (entryFrame m #[.ref a, .ref b, .int (Int32.ofNat o), .int (Int32.ofNat len), .null] 6)) (T3.setTop (mkF m 27 #[.val (.ref a), .val (.ref b), .val (.int (Int32.ofNat o)), .val (.int (Int32.ofNat len)), .val .null, .unset] [])) := (c2.trans (st3 _ (Steps.refl _))).trans (by
    refine XS.iloadN X3.here hexec rfl (hb hbytes d4) rfl ?_
    refine XS.ifYes X3.here hexec rfl (pc0 := 5) rfl (hb hbytes d5) rfl (i0_ne_t (nz32 (by omega) l0)) (by decide) rfl ?_
    exact Steps.refl _)
  obtain ⟨T5, X5, q5, st5⟩ := X3.sget hexec hown (wk W (.fieldLink "java/lang/String" 38 "java/lang/String" "COMPACT_STRINGS" "Z")) s1 (fun _ _ h => by rw [hh3]; exact h) (g := (mkF m 27 #[.val (.ref a), .val (.ref b), .val (.int (Int32.ofNat o)), .val (.int (Int32.ofNat len)), .val .null, .unset] [])) rfl (hb hbytes d27)
  have hh5 := q5.trans hh3
  have c6 : Steps p.tables e below (s₁.setTop (entryFrame m #[.ref a, .ref b, .int (Int32.ofNat o), .int (Int32.ofNat len), .null] 6)) (T5.setTop (mkF m 30 #[.val (.ref a), .val (.ref b), .val (.int (Int32.ofNat o)), .val (.int (Int32.ofNat len)), .val .null, .unset] [.int z])) := c4.trans (st5 _ (Steps.refl _))
  have c7 : Steps p.tables e below (s₁.setTop (entryFrame m #[.ref a, .ref b, .int (Int32.ofNat o), .int (Int32.ofNat len), .null] 6)) (T5.setTop (mkF m 36 #[.val (.ref a), .val (.ref b), .val (.int (Int32.ofNat o)), .val (.int (Int32.ofNat len)), .val .null, .unset] [.int (Int32.ofNat len), .int (Int32.ofNat o), .ref b])) := c6.trans (by
    refine XS.ifNo X5.here hexec rfl (hb hbytes d30) rfl (i0_eq_f hz) ?_
    refine XS.aloadN X5.here hexec rfl (hb hbytes d33) rfl rfl ?_
    refine XS.iloadN X5.here hexec rfl (hb hbytes d34) rfl ?_
    refine XS.iloadN X5.here hexec rfl (hb hbytes d35) rfl ?_
    exact Steps.refl _)
  obtain ⟨v8, T8, X8, E8, g8⟩ := X5.callS hexec (Cmp3.law l b A o len) hown (wks W (staticW "java/lang/String" 177 Cmp3.yN)) (wk W Cmp3.tab) (W := 0) (Nat.le_of_ble_eq_true rfl) (Nat.le_of_ble_eq_true rfl) (Nat.le_refl _) (by show 0 + len ≤ len; omega) (g := (mkF m 36 #[.val (.ref a), .val (.ref b), .val (.int (Int32.ofNat o)), .val (.int (Int32.ofNat len)), .val .null, .unset] [.int (Int32.ofNat len), .int (Int32.ofNat o), .ref b])) rfl (by rw [hml]; rfl) c7 (argsL := [.ref b, .int (Int32.ofNat o), .int (Int32.ofNat len)]) (rest := []) rfl rfl (by show 2 * 0 + 0 ≤ _; decide) (hb hbytes d36) (⟨rfl, hA.mv X5.warmed.alike hh5, l1, l2, hp⟩)
  obtain ⟨e8, z8⟩ := E8
  obtain ⟨rfl, N, n1, n2, n3, n4, n5, n6⟩ := NewArr.mv _ T5 s _ _ hh5.symm (Vm.Alike.refl _) rfl e8
  rw [hh5] at z8
  have hB1 := hB.keep X8.warmed.alike (n6 _ _ hB.1)
  have hne : s.heap.size ≠ a := (Nat.ne_of_lt (Array.getElem?_eq_some_iff.mp hB.1).1).symm
  have c9 : Steps p.tables e below (s₁.setTop (entryFrame m #[.ref a, .ref b, .int (Int32.ofNat o), .int (Int32.ofNat len), .null] 6)) (T8.setTop (mkF m 39 #[.val (.ref a), .val (.ref b), .val (.int (Int32.ofNat o)), .val (.int (Int32.ofNat len)), .val .null, .unset] [.ref s.heap.size])) := g8
  have c10 : Steps p.tables e below (s₁.setTop (entryFrame m #[.ref a, .ref b, .int (Int32.ofNat o), .int (Int32.ofNat len), .null] 6)) (T8.setTop (mkF m 45 #[.val (.ref a), .val (.ref b), .val (.int (Int32.ofNat o)), .val (.int (Int32.ofNat len)), .val .null, .val (.ref s.heap.size)] [.int (Int32.ofNat N.slots.size), .ref s.heap.size, .ref a])) := by
    have hc : Steps p.tables e below (s₁.setTop (entryFrame m #[.ref a, .ref b, .int (Int32.ofNat o), .int (Int32.ofNat len), .null] 6)) (T8.setTop (mkF m 45 #[.val (.ref a), .val (.ref b), .val (.int (Int32.ofNat o)), .val (.int (Int32.ofNat len)), .val .null, .val (.ref s.heap.size)] [.int (Int32.ofNat len), .ref s.heap.size, .ref a])) := c9.trans (by
      refine XS.astore X8.here hexec rfl (hb hbytes d39) rfl rfl rfl ?_
      refine XS.aloadN X8.here hexec rfl (hb hbytes d41) rfl rfl ?_
      refine XS.aload X8.here hexec rfl (hb hbytes d42) rfl rfl ?_
      refine XS.iloadN X8.here hexec rfl (hb hbytes d44) rfl ?_
      exact Steps.refl _)
    rw [n4]; exact hc
  obtain ⟨v11, T11, X11, E11, g11⟩ := X8.callS hexec (CodL.law l s.heap.size N) hown (wks W (staticW "java/lang/String" 47 CodL.yN)) (wk W CodL.tab) (W := 1) (Nat.le_of_ble_eq_true rfl) (Nat.le_of_ble_eq_true rfl) (Nat.le_refl _) (by show 0 + len + 0 ≤ len; omega) (g := (mkF m 45 #[.val (.ref a), .val (.ref b), .val (.int (Int32.ofNat o)), .val (.int (Int32.ofNat len)), .val .null, .val (.ref s.heap.size)] [.int (Int32.ofNat N.slots.size), .ref s.heap.size, .ref a])) rfl (by rw [hml]; rfl) c10 (argsL := [.ref s.heap.size, .int (Int32.ofNat N.slots.size)]) (rest := [.ref a]) rfl rfl (by show 2 * 0 + (1 + 0) ≤ _; decide) (hb hbytes d45) (⟨rfl, n1⟩)
  obtain ⟨rfl, q11⟩ := E11
  have hB11 := hB1.mv (X8.warmed.alike.symm.trans X11.warmed.alike) q11
  have c12 : Steps p.tables e below (s₁.setTop (entryFrame m #[.ref a, .ref b, .int (Int32.ofNat o), .int (Int32.ofNat len), .null] 6)) (T11.setTop (mkF m 48 #[.val (.ref a), .val (.ref b), .val (.int (Int32.ofNat o)), .val (.int (Int32.ofNat len)), .val .null, .val (.ref s.heap.size)] [.int 0, .ref a])) := g11
  obtain ⟨T13, X13, p13, bl13, sl13, st13⟩ := X11.finit hexec hown (wk W (.fieldLink "java/lang/String" 15 "java/lang/String" "coder" "B")) (Or.inr ⟨_, (wk W (.laysFinal "java/lang/String" "java/lang/String" "coder" "B"))⟩) (Or.inl ⟨rfl, hnm⟩) f2 (Or.inl rfl) hB11 (t := .byte) (by decide +kernel) rfl (g := (mkF m 48 #[.val (.ref a), .val (.ref b), .val (.int (Int32.ofNat o)), .val (.int (Int32.ofNat len)), .val .null, .val (.ref s.heap.size)] [.int 0, .ref a])) rfl (rest := []) rfl (hb hbytes d48)
  have c14 : Steps p.tables e below (s₁.setTop (entryFrame m #[.ref a, .ref b, .int (Int32.ofNat o), .int (Int32.ofNat len), .null] 6)) (T13.setTop (mkF m 54 #[.val (.ref a), .val (.ref b), .val (.int (Int32.ofNat o)), .val (.int (Int32.ofNat len)), .val .null, .val (.ref s.heap.size)] [.ref s.heap.size, .ref a])) := (c12.trans (st13 _ (Steps.refl _))).trans (by
    refine XS.aloadN X13.here hexec rfl (hb hbytes d51) rfl rfl ?_
    refine XS.aload X13.here hexec rfl (hb hbytes d52) rfl rfl ?_
    exact Steps.refl _)
  obtain ⟨T15, X15, p15, bl15, sl15, st15⟩ := X13.finit hexec hown (wk W (.fieldLink "java/lang/String" 9 "java/lang/String" "value" "[B")) (Or.inr ⟨_, (wk W (.laysFinal "java/lang/String" "java/lang/String" "value" "[B"))⟩) (Or.inl ⟨rfl, hnm⟩) f1 (Or.inl rfl) bl13 (t := (.array .byte)) (by decide +kernel) rfl (g := (mkF m 54 #[.val (.ref a), .val (.ref b), .val (.int (Int32.ofNat o)), .val (.int (Int32.ofNat len)), .val .null, .val (.ref s.heap.size)] [.ref s.heap.size, .ref a])) rfl (rest := []) rfl (hb hbytes d54)
  have c16 : Steps p.tables e below (s₁.setTop (entryFrame m #[.ref a, .ref b, .int (Int32.ofNat o), .int (Int32.ofNat len), .null] 6)) (T15.setTop (mkF m 57 #[.val (.ref a), .val (.ref b), .val (.int (Int32.ofNat o)), .val (.int (Int32.ofNat len)), .val .null, .val (.ref s.heap.size)] [])) := c14.trans (st15 _ (Steps.refl _))
  have ap := apart (Or.inr ⟨_, (wk W (.laysFinal "java/lang/String" "java/lang/String" "value" "[B"))⟩) (Or.inr ⟨_, (wk W (.laysFinal "java/lang/String" "java/lang/String" "coder" "B"))⟩) f1 f2 (t₁ := .array .byte) (t₂ := .byte) (by decide +kernel) (by decide +kernel) (by decide)
  have al := X8.warmed.alike.symm.trans X15.warmed.alike
  have n7 : T11.heap[s.heap.size]? = some N := by rw [q11]; exact n1.1
  exact ⟨T15, none, _, _, _, X15, by simp, rfl, by omega, (fun _ => rfl), ⟨rfl, _, N, bl15, ((Same.refl D _).set _ (by simp)).set _ (by simp), sl15, (Cell.slots_setSlot_ne _ ap).trans sl13, n1.keep al (p15.other hne (p13.other hne n7)), n2, by rw [al.findClass]; exact n3, n4, n5, fun y c h1 h2 => p15.other h1 (p13.other h1 (by rw [q11]; exact n6 y c h2)), by rw [p15.2.2, p13.2.2, q11]; exact z8⟩, fun fs hl => c16.trans (X15.returnOut hexec hret (hb hbytes d57) hl)⟩
end New4
namespace New1
def yN : MethodName := ⟨"java/lang/String", "<init>", "([C)V"⟩
abbrev yB : ByteArray := jdk_42_method_3_code
theorem d0 : decode yB 0 = .ok (.aload_n 0, 1) := by decide +kernel
theorem d1 : decode yB 1 = .ok (.aload_n 1, 1) := by decide +kernel
theorem d2 : decode yB 2 = .ok (.iconst 0, 1) := by decide +kernel
theorem d3 : decode yB 3 = .ok (.aload_n 1, 1) := by decide +kernel
theorem d4 : decode yB 4 = .ok (.arraylength, 1) := by decide +kernel
theorem d5 : decode yB 5 = .ok (.aconst_null, 1) := by decide +kernel
theorem d6 : decode yB 6 = .ok (.invokespecial 27, 3) := by decide +kernel
theorem d9 : decode yB 9 = .ok (.return_, 1) := by decide +kernel
def site : List Cond := [New4.tab] ++ initW "java/lang/String" 27 New4.yN
def tab : Cond := tabOf yN yB 2 none site
def P (a : Addr) (D : Cell) (fV fC : Field) (b : Addr) (A : Cell) (z : Int32) (args : Array Value) (s : State) : Prop := args = #[.ref a, .ref b] ∧ Blank "java/lang/String" a D s ∧ Found "java/lang/String" "value" "[B" fV s ∧ Found "java/lang/String" "coder" "B" fC s ∧ Ch b A s ∧ StaticIs s "java/lang/String" "COMPACT_STRINGS" "Z" (.int z) ∧ ¬ z = 0 ∧ 0 < A.slots.size ∧ A.slots.size ≤ 536870912 ∧ ∀ i, i < A.slots.size → ¬ 255 < cv A i
def E (a : Addr) (D : Cell) (fV fC : Field) (A : Cell) (r : Option Value) (s u : State) : Prop := Got a D fV fC A 0 A.slots.size r s u
/-- new String(chars), not empty, no char above 255: a Latin-1 String of their low bytes -/
theorem law (l : Launch) (a : Addr) (D : Cell) (fV fC : Field) (b : Addr) (A : Cell) (z : Int32) : Law l yN 2 1 3 52 yB 2 none site (P a D fV fC b A z) (E a D fV fC A) [⟨a, fC.slot⟩, ⟨a, fV.slot⟩] 1 A.slots.size := by
  refine Law.of_walk (plainFor_of_name (by decide +kernel)) (by decide +kernel) (by decide +kernel) (by decide) (fun _ _ h => by rw [h.1]; rfl) (fun _ U U' hal hh h => ⟨h.1, h.2.1.mv hal hh, h.2.2.1.al hal, h.2.2.2.1.al hal, h.2.2.2.2.1.mv hal hh, h.2.2.2.2.2.1.there hal hh, h.2.2.2.2.2.2⟩) (fun r U U' V V' h1 hal h2 h => Got.mv r U U' V V' h1 hal h2 h) ?_
  intro p e s m args below meth c s₁ X0 hexec hbytes hml hret hlk hnm hown hh0 W hP
  obtain ⟨rfl, hB, f1, f2, hA, s1, hz, l0, l2, hp⟩ := hP
  have c1 : Steps p.tables e below (s₁.setTop (entryFrame m #[.ref a, .ref b] 2)) (s₁.setTop (mkF m 0 #[.val (.ref a), .val (.ref b)] [])) := entry rfl
  have c2 : Steps p.tables e below (s₁.setTop (entryFrame m #[.ref a, .ref b] 2)) (s₁.setTop (mkF m 6 #[.val (.ref a), .val (.ref b)] [.null, .int (Int32.ofNat A.slots.size), .int 0, .ref b, .ref a])) := c1.trans (by
    refine XS.aloadN X0.here hexec rfl (hb hbytes d0) rfl rfl ?_
    refine XS.aloadN X0.here hexec rfl (hb hbytes d1) rfl rfl ?_
    refine iconstV X0.here hexec rfl 0 (hb hbytes d2) (by decide) ?_
    refine XS.aloadN X0.here hexec rfl (hb hbytes d3) rfl rfl ?_
    refine X0.alen hexec (hA.1.mv X0.warmed.alike hh0) rfl rfl (hb hbytes d4) ?_
    refine XS.aconstNull X0.here hexec rfl (hb hbytes d5) ?_
    exact Steps.refl _)
  obtain ⟨v3, T3, X3, E3, g3⟩ := X0.callN hexec (New4.law l a D fV fC b A z 0 A.slots.size) rfl hown (wks W (initW "java/lang/String" 27 New4.yN)) (W New4.tab (by simp only [site, List.mem_cons, List.mem_append, true_or, or_true])) (W := 0) (Nat.le_of_ble_eq_true rfl) (Nat.le_of_ble_eq_true rfl) (Nat.le_refl _) (by show 0 + A.slots.size ≤ A.slots.size; omega) (g := (mkF m 6 #[.val (.ref a), .val (.ref b)] [.null, .int (Int32.ofNat A.slots.size), .int (Int32.ofNat 0), .ref b, .ref a])) rfl (by rw [hml]; rfl) c2 (argsL := [.ref b, .int (Int32.ofNat 0), .int (Int32.ofNat A.slots.size), .null]) (rest := []) rfl rfl (by show 2 * 0 + 0 ≤ _; decide) (hb hbytes d6) (⟨rfl, hB.mv X0.warmed.alike hh0, f1.al X0.warmed.alike, f2.al X0.warmed.alike, hA.mv X0.warmed.alike hh0, s1.there X0.warmed.alike hh0, hz, l0, by omega, l2, fun i hi => by rw [Nat.zero_add]; exact hp i hi⟩)
  have e0 := Got.mv _ s₁ s _ _ hh0.symm (Vm.Alike.refl _) rfl E3
  obtain rfl := e0.1
  have c4 : Steps p.tables e below (s₁.setTop (entryFrame m #[.ref a, .ref b] 2)) (T3.setTop (mkF m 9 #[.val (.ref a), .val (.ref b)] [])) := g3
  exact ⟨T3, none, _, _, _, X3, by simp, rfl, by omega, (fun _ => rfl), e0, fun fs hl => c4.trans (X3.returnOut hexec hret (hb hbytes d9) hl)⟩
theorem pays {l : Launch} {R : Room} {p : Program} {e : Env} {below : List Frame} {s : State} {sargs : Array Value} {len W : Nat} (a : Addr) (D : Cell) (fV fC : Field) (b : Addr) (A : Cell) (z : Int32) (htab : tab.before sargs s = true) (hfr : 4 ≤ R.frames) (hlo : W + 65 ≤ R.locals) :
    Back l R p e below s sargs yN len W (fun A₁ a₁ => A₁.cells + 1 ≤ R.cells ∧ A₁.slots + A.slots.size ≤ R.slots ∧ P a D fV fC b A z a₁ A₁.U) (fun A₁ _ v₁ B₁ => E a D fV fC A v₁ A₁.U B₁.U ∧ B₁.locs = A₁.locs ++ [⟨a, fC.slot⟩, ⟨a, fV.slot⟩] ∧ B₁.cells = A₁.cells + 1 ∧ B₁.slots = A₁.slots + A.slots.size) :=
  (law l a D fV fC b A z).pays htab hfr (by omega)
end New1
/-- the byte, read back as charAt reads it, is the char -/
theorem lo8_mask {x : Int32} (h0 : ¬ x < 0) (h1 : ¬ 255 < x) : lo8 x &&& 255 = x := by
  have t : ∀ k : Fin 256, lo8 (Int32.ofNat k.val) &&& 255 = Int32.ofNat k.val := by decide +kernel
  rw [Int32.lt_iff_toInt_lt] at h0 h1
  have e0 : (0 : Int32).toInt = 0 := rfl
  have e1 : (255 : Int32).toInt = 255 := rfl
  obtain ⟨k, hk⟩ : ∃ k : Nat, x.toInt = k := ⟨x.toInt.toNat, by omega⟩
  have hx : x = Int32.ofNat k := Int32.toInt_inj.mp (by rw [hk, Int32.toInt_ofNat_small (by omega)])
  rw [hx]
  exact t ⟨k, by omega⟩
end StrChars
namespace StrChars.Road
open Jvm Sem ClassFile Op Lib Jvm.Stand Jvm.Free Jvm.Free.XT
open Jvm.Lib.Cold (StaticIs)
abbrev ST : String := "java/lang/String"
/-- every table word that New1's law asks, flat -/
abbrev words : List Jvm.Cond := [.code New1.yN New1.yB 2 none, .initialized ST, .methodLink ST 27 New4.yN, .instanceMethod New4.yN,
  .code New4.yN New4.yB 6 none, .fieldLink ST 38 ST "COMPACT_STRINGS" "Z", .laysFinal ST ST "value" "[B", .fieldLink ST 9 ST "value" "[B", .laysFinal ST ST "coder" "B", .fieldLink ST 15 ST "coder" "B",
  .methodLink ST 1 Lib.objectInit, .instanceMethod Lib.objectInit, .code Lib.objectInit ⟨#[0xb1]⟩ 1 none, .methodLink ST 177 Cmp3.yN, .static Cmp3.yN, .methodLink ST 47 CodL.yN, .static CodL.yN,
  .code Cmp3.yN Cmp3.yB 6 (some (.array .byte)), .initialized U16, .arrayClass .byte, .methodLink U16 115 Cmp5.yN, .static Cmp5.yN, .code Cmp5.yN Cmp5.yB 7 (some .int), .code CodL.yN CodL.yB 2 (some .byte)]
theorem tab_of {a : Array Value} {s : State} (h : ∀ w ∈ words, w.before a s = true) : New1.tab.before a s = true := by
  have h5 : Cmp5.tab.before a s = true := unparts (wk h (.code Cmp5.yN Cmp5.yB 7 (some .int))) (wks h (.initialized Cmp5.yN.cls :: Cmp5.site))
  have hc : CodL.tab.before a s = true := unparts (wk h (.code CodL.yN CodL.yB 2 (some .byte))) (wks h (.initialized CodL.yN.cls :: CodL.site))
  have q5 : ∀ w ∈ Cmp5.tab :: words, w.before a s = true := fun w hw => (List.mem_cons.mp hw).elim (fun e => e ▸ h5) (h w)
  have h3 : Cmp3.tab.before a s = true := unparts (wk q5 (.code Cmp3.yN Cmp3.yB 6 (some (.array .byte)))) (wks q5 (.initialized Cmp3.yN.cls :: Cmp3.site))
  have q3 : ∀ w ∈ Cmp3.tab :: CodL.tab :: words, w.before a s = true := fun w hw => (List.mem_cons.mp hw).elim (fun e => e ▸ h3) fun hw => (List.mem_cons.mp hw).elim (fun e => e ▸ hc) (h w)
  have h4 : New4.tab.before a s = true := unparts (wk q3 (.code New4.yN New4.yB 6 none)) (wks q3 (.initialized New4.yN.cls :: New4.site))
  have q4 : ∀ w ∈ New4.tab :: words, w.before a s = true := fun w hw => (List.mem_cons.mp hw).elim (fun e => e ▸ h4) (h w)
  exact unparts (wk q4 (.code New1.yN New1.yB 2 none)) (wks q4 (.initialized New1.yN.cls :: New1.site))
/-- the words ride from the start Z to the walk's own state -/
theorem moved {Z s : State} {a0 args : Array Value} (hZ : Z.Warmed39 s.vm) (hw : ∀ d ∈ words, d.before a0 Z = true) : ∀ d ∈ words, d.before args s = true := fun d hd => by
  have q := hw d hd
  have t : ∀ d ∈ words, d = .arrayClass .byte ∨ (d.onTables && d.keepsFace) = true := by decide +kernel
  rcases t d hd with rfl | t
  · exact RoadKit.mvA hZ q
  · exact RoadKit.mv hZ q t
/-- WHAT COMES BACK, over the tables of the start Z: h the heap at the call, h' behind it -/
def Q (Z : State) (x : Addr) (A : Cell) (h : Heap) (v : Option Value) (h' : Heap) (L : List Loc) : Prop := v = none ∧ (∀ y ∈ L, y.base = x) ∧ RoadKit.Keep h h' [x] ∧ h'.size = h.size + 1 ∧ RoadKit.Exa Z h' x ST ∧ RoadKit.Fld Z h' x ST "value" "[B" (.ref h.size) ∧ RoadKit.Fld Z h' x ST "coder" "B" (.int 0) ∧
  (∃ V : Cell, RoadKit.Arr Z h' h.size V .byte ∧ V.vm = .none ∧ Z.vm.findClass "[B" = some V.cls ∧ V.slots.size = A.slots.size ∧ ∀ j, j < A.slots.size → V.slots[j]? = some (.int (lo8 (cv A j)))) ∧
  ∀ (O n d : String) (w : Value), RoadKit.Fld Z h x O n d w → RoadKit.slotOf Z O n d ≠ RoadKit.slotOf Z ST "value" "[B" → RoadKit.slotOf Z O n d ≠ RoadKit.slotOf Z ST "coder" "B" → RoadKit.Fld Z h' x O n d w
/-- **new String(chars) AT A CALL, IN THE ROAD'S FORM**: for specialBack behind newO: x the fresh String, b the char[] with the cell A -/
theorem back {p : Program} {l : Launch} {e : Env} {R : Room} {s : State} {args : Array Value} {below : List Frame} {len W : Nat} {Z : State} {a0 : Array Value} {h : Heap} (hZ : Z.Warmed39 s.vm) (hw : ∀ d ∈ words, d.before a0 Z = true) {kI : Nat} (wi : (Jvm.Cond.instantiable ST kI).before a0 Z = true)
    {x b : Addr} {A : Cell} {z : Int32} {v0 c0 : Value} (E : RoadKit.Exa Z h x ST) (V : RoadKit.Fld Z h x ST "value" "[B" v0) (C : RoadKit.Fld Z h x ST "coder" "B" c0) (K : RoadKit.Arr Z h b A .char) (hty : Typed .char A) (S : RoadKit.Sta Z h ST "COMPACT_STRINGS" "Z" (.int z)) (hz : ¬ z = 0)
    (l0 : 0 < A.slots.size) (l2 : A.slots.size ≤ 536870912) (hp : ∀ i, i < A.slots.size → ¬ 255 < cv A i) (hfr : 4 ≤ R.frames) (hlo : W + 65 ≤ R.locals) :
    Back l R p e below s args New1.yN len W (fun P a => a = #[.ref x, .ref b] ∧ P.U.heap = h ∧ P.cells + 1 ≤ R.cells ∧ P.slots + A.slots.size ≤ R.slots)
      (fun P _ v B => ∃ L, Q Z x A h v B.U.heap L ∧ B.locs = P.locs ++ L ∧ B.cells = P.cells + 1 ∧ B.slots = P.slots + A.slots.size) := by
  intro m meth c P g ig mk a X hg hsize hdg hW hn hp'
  obtain ⟨rfl, rfl, r1, r2⟩ := hp'
  have al : Z.vm.Alike P.U.vm := hZ.alike.trans X.warmed.alike
  obtain ⟨D, cfV, kV, iV, fV, hD, gV, stV, knV, obV, asV, slV⟩ := id V
  obtain ⟨D', cfC, kC, iC, fC, hD', gC, stC, -, -, asC, slC⟩ := id C
  cases hD.symm.trans hD'
  obtain ⟨D2, kD, e1, e2, e3, e4, e5⟩ := id E
  cases hD.symm.trans e1
  obtain ⟨c2, k2, i1, i2, i3, -⟩ := Cond.instantiable_spec wi
  cases e2.symm.trans i1
  cases e3.symm.trans i2
  obtain ⟨kU, u1, u2⟩ := al.2.2 _ _ e3
  have hB : Blank ST x D P.U := ⟨hD, ⟨knV, fun q hq => by rw [hq] at obV; cases obV⟩, by rw [al.findClass]; exact e2, kU, u1, by rw [u2]; exact i3, by rw [u2]; exact e5 i3⟩
  have F1 : Found ST "value" "[B" fV P.U := ⟨SBG.found_only al ⟨cfV, kV, iV, gV⟩, stV⟩
  have F2 : Found ST "coder" "B" fC P.U := ⟨SBG.found_only al ⟨cfC, kC, iC, gC⟩, stC⟩
  have hA : Ch b A P.U := ⟨⟨K.1, State.isArrayOf_alike al K.2.1, K.2.2, by omega⟩, hty⟩
  have hS : StaticIs P.U ST "COMPACT_STRINGS" "Z" (.int z) := by
    obtain ⟨cfS, iS, kS, fS, st, cS, t1, t2, t3, t4, t5, t6, t7⟩ := S
    exact StaticIs.there (s := { Z with heap := P.U.heap }) ⟨cfS, iS, kS, fS, st, cS, t1, t2, t3, t4, t5, (fun q => by rw [q] at t6; cases t6), t7⟩ al rfl
  obtain ⟨v, B, X', ⟨⟨hv, E', V', q1, q2, q3, q4, q5, q6, q7, q8, q9, q10, q11⟩, hl, hc, hs⟩, st⟩ := New1.pays x D fV fC b A z (tab_of (moved hZ hw)) hfr hlo m meth c P g ig mk _ X hg hsize hdg hW hn ⟨r1, r2, rfl, hB, F1, F2, hA, hS, hz, l0, l2, hp⟩
  have al' : Z.vm.Alike B.U.vm := hZ.alike.trans X'.warmed.alike
  have hsz : E'.slots.size = D.slots.size := by
    obtain ⟨-, -, -, kB, w1, w2, w3⟩ := q1
    obtain ⟨kB', y1, y2⟩ := al'.2.2 _ _ e3
    rw [q2.2.1] at w1
    cases w1.symm.trans y1
    rw [w3, e5 i3, y2]
  refine ⟨v, B, X', ⟨_, ⟨hv, ?_, ⟨by omega, fun y cy hy hn' => q10 y cy (by simpa using hn') hy, fun y cy hy => ?_⟩, q11, ⟨E', _, q1.1, by rw [q2.2.1]; exact e2, by rw [q2.2.1]; exact e3, by rw [q2.1]; exact obV, fun _ => by rw [hsz]; exact e5 i3⟩,
    ⟨E', cfV, kV, iV, fV, q1.1, gV, stV, by rw [q2.1]; exact knV, by rw [q2.1]; exact obV, by rw [q2.2.1]; exact asV, q3⟩, ⟨E', cfC, kC, iC, fC, q1.1, gC, stC, by rw [q2.1]; exact knV, by rw [q2.1]; exact obV, by rw [q2.2.1]; exact asC, q4⟩,
    ⟨V', ⟨q5.1, State.isArrayOf_alike al'.symm q5.2.1, q5.2.2.1⟩, q6, by rw [← al'.findClass]; exact q7, q8, fun j hj => by have := q9 j hj; rwa [Nat.zero_add] at this⟩, fun O n d w F n1 n2 => ?_⟩, hl, hc, hs⟩, st⟩
  · intro y hy
    simp only [List.mem_cons, List.not_mem_nil, or_false] at hy
    rcases hy with rfl | rfl <;> rfl
  · by_cases q : y = x
    · subst q
      cases hD.symm.trans hy
      exact ⟨E', q1.1, q2.2.1, q2.1, hsz⟩
    · exact ⟨cy, q10 y cy q hy, rfl, rfl, rfl⟩
  · obtain ⟨D3, cf, k, i, f, g1, g2, g3, g4, g5, g6, g7⟩ := F
    cases hD.symm.trans g1
    simp only [RoadKit.slotOf, g2, gV, gC, Option.map_some, Option.getD_some] at n1 n2
    exact ⟨E', cf, k, i, f, q1.1, g2, g3, by rw [q2.1]; exact g4, by rw [q2.1]; exact g5, by rw [q2.2.1]; exact g6, by rw [q2.2.2 f.slot (by simp [n1, n2])]; exact g7⟩
end StrChars.Road
namespace StrChars.Road
open Jvm Sem ClassFile Op Lib Jvm.Stand Jvm.Free Jvm.Free.XT
/-- WHAT COMES BACK, the byte[] as a list of values -/
def QA (Z : State) (x : Addr) (zn : Int32) (cs : List Int32) (h : Heap) (v : Option Value) (h' : Heap) (L : List Loc) : Prop := v = none ∧ (∀ y ∈ L, y.base = x) ∧ RoadKit.Keep h h' [x] ∧ h'.size = h.size + 1 ∧ RoadKit.Exa Z h' x ST ∧ RoadKit.Fld Z h' x ST "value" "[B" (.ref h.size) ∧ RoadKit.Fld Z h' x ST "coder" "B" (.int 0) ∧
  (∃ kb, Z.vm.findClass "[B" = some kb ∧ RoadKit.Arv Z h' h.size kb .byte zn (cs.map fun c => .int (lo8 c)) (.int 0)) ∧
  ∀ (O n d : String) (w : Value), RoadKit.Fld Z h x O n d w → RoadKit.slotOf Z O n d ≠ RoadKit.slotOf Z ST "value" "[B" → RoadKit.slotOf Z O n d ≠ RoadKit.slotOf Z ST "coder" "B" → RoadKit.Fld Z h' x O n d w
/-- **new String(chars) AT A CALL, THE ARRAYS AS LISTS**: the char[] at b holds cs, not empty, no char above 255 -/
theorem backArv {p : Program} {l : Launch} {e : Env} {R : Room} {s : State} {args : Array Value} {below : List Frame} {len W : Nat} {Z : State} {a0 : Array Value} {h : Heap} (hZ : Z.Warmed39 s.vm) (hw : ∀ d ∈ words, d.before a0 Z = true) {kI : Nat} (wi : (Jvm.Cond.instantiable ST kI).before a0 Z = true)
    {x b : Addr} {k : ClassId} {zn z : Int32} {cs : List Int32} {dv v0 c0 : Value} (E : RoadKit.Exa Z h x ST) (V : RoadKit.Fld Z h x ST "value" "[B" v0) (C : RoadKit.Fld Z h x ST "coder" "B" c0) (K : RoadKit.Arv Z h b k .char zn (cs.map Value.int) dv) (S : RoadKit.Sta Z h ST "COMPACT_STRINGS" "Z" (.int z)) (hz : ¬ z = 0)
    (hlen : zn.toNatClampNeg = cs.length) (h0 : 0 < cs.length) (hbig : cs.length ≤ 536870912) (hall : ∀ c ∈ cs, ¬ 255 < c) (hfr : 4 ≤ R.frames) (hlo : W + 65 ≤ R.locals) :
    Back l R p e below s args New1.yN len W (fun P a => a = #[.ref x, .ref b] ∧ P.U.heap = h ∧ P.cells + 1 ≤ R.cells ∧ P.slots + cs.length ≤ R.slots)
      (fun P _ v B => ∃ L, QA Z x zn cs h v B.U.heap L ∧ B.locs = P.locs ++ L ∧ B.cells = P.cells + 1 ∧ B.slots = P.slots + cs.length) := by
  obtain ⟨A, K1, K2, K3, K4, K5, K6⟩ := K
  have e : A.slots.size = cs.length := K3.trans hlen
  have hat : ∀ (i : Nat) (hi : i < cs.length), A.slots[i]? = some (.int cs[i]) := fun i hi => by rw [K5 i (by omega)]; simp [List.getD_eq_getElem?_getD, hi]
  have hcv : ∀ (i : Nat) (hi : i < cs.length), cv A i = cs[i] := fun i hi => by unfold cv; rw [hat i hi]
  have hty : Typed .char A := fun i v hv => by
    have hi : i < A.slots.size := (Array.getElem?_eq_some_iff.mp hv).1
    have q := K5 i hi
    rw [hv] at q
    rw [Option.some.inj q]
    exact K6 i hi
  refine Back.mono (back hZ hw wi E V C K1 hty S hz (by omega) (by omega) (fun i hi => by rw [hcv i (by omega)]; exact hall _ (List.getElem_mem _)) hfr hlo) (fun P a hp => ⟨hp.1, hp.2.1, hp.2.2.1, by rw [e]; exact hp.2.2.2⟩) (fun P a v B hp hq => ?_)
  obtain ⟨L, ⟨q1, q2, q3, q4, q5, q6, q7, ⟨V', v1, v2, v3, v4, v5⟩, q9⟩, hl, hc, hs⟩ := hq
  refine ⟨L, ⟨q1, q2, q3, q4, q5, q6, q7, ⟨V'.cls, v3, V', v1, rfl, by rw [v4, e, hlen], K4, fun i hi => ?_, fun i hi => ?_⟩, q9⟩, hl, hc, by rw [hs, e]⟩
  · have hi' : i < cs.length := by omega
    rw [v5 i (by omega), hcv i hi']; simp [List.getD_eq_getElem?_getD, hi']
  · have hi' : i < cs.length := by omega
    simp only [List.getD_eq_getElem?_getD, List.getElem?_map, List.getElem?_eq_getElem hi', Option.map_some, Option.getD_some]
    exact fits_lo8 _
end StrChars.Road
namespace StrChars.Road
open Jvm Sem ClassFile Op Lib Jvm.Stand Jvm.Free Jvm.Free.XT
/-- WHAT COMES BACK, in the writer's own shape -/
def QV (Z : State) (x : Addr) (N : Int32) (bs : List Int32) (h : Heap) (n0 : Nat) (v : Option Value) (h' : Heap) (L : List Loc) : Prop := v = none ∧ RoadKit.Fr n0 L ∧ RoadKit.Keep h h' [x] ∧ RoadKit.Exa Z h' x ST ∧ RoadKit.Fld Z h' x ST "coder" "B" (.int 0) ∧
  ∃ (t : Addr) (kb : ClassId), n0 ≤ t ∧ h.size ≤ t ∧ ¬ t = x ∧ RoadKit.Fld Z h' x ST "value" "[B" (.ref t) ∧ RoadKit.Arv Z h' t kb .byte N (bs.map Value.int) (.int 0)
/-- **new String(chars) AT A CALL, FOR THE WRITER**: a char[] of n known ints, each 0 to 255 -/
theorem backV {p : Program} {l : Launch} {e : Env} {R : Room} {s : State} {args : Array Value} {below : List Frame} {len W : Nat} {Z : State} {a0 : Array Value} {h : Heap} (hZ : Z.Warmed39 s.vm) (hw : ∀ d ∈ words, d.before a0 Z = true) {kI : Nat} (wi : (Jvm.Cond.instantiable ST kI).before a0 Z = true)
    {x b : Addr} {kC : ClassId} {cs bs : List Int32} {d v0 c0 : Value} {z N : Int32} {n n0 : Nat} (hx0 : n0 ≤ x) (hh0 : n0 ≤ h.size) (E : RoadKit.Exa Z h x ST) (V : RoadKit.Fld Z h x ST "value" "[B" v0) (C : RoadKit.Fld Z h x ST "coder" "B" c0) (K : RoadKit.Arv Z h b kC .char N (cs.map Value.int) d) (S : RoadKit.Sta Z h ST "COMPACT_STRINGS" "Z" (.int z)) (hz : ¬ z = 0)
    (hn : cs.length = n) (hN : N = Int32.ofNat n) (l0 : 0 < n) (l2 : n ≤ 4000) (hp : ∀ c ∈ cs, ¬ c < 0 ∧ ¬ (255 : Int32) < c) (hb : bs = cs.map (fun c => c.toInt8.toInt32)) (hfr : 4 ≤ R.frames) (hlo : W + 65 ≤ R.locals) :
    Back l R p e below s args (⟨"java/lang/String", "<init>", "([C)V"⟩ : MethodName) len W (fun P a => a = #[.ref x, .ref b] ∧ P.U.heap = h ∧ P.cells + 1 ≤ R.cells ∧ P.slots + n ≤ R.slots)
      (fun P _ v B => ∃ L, QV Z x N bs h n0 v B.U.heap L ∧ B.locs = P.locs ++ L ∧ B.cells = P.cells + 1 ∧ B.slots = P.slots + n) := by
  subst hn hN hb
  refine Back.mono (backArv hZ hw wi E V C K S hz (n32 (by omega)) l0 (by omega) (fun c hc => (hp c hc).2) hfr hlo) (fun P a hp => hp) (fun P a v B hp hq => ?_)
  obtain ⟨L, ⟨q1, q2, q3, q4, q5, q6, q7, ⟨kb, v1, v2⟩, q9⟩, hl, hc, hs⟩ := hq
  exact ⟨L, ⟨q1, fun y hy => by rw [q2 y hy]; exact hx0, q3, q5, q7, h.size, kb, hh0, Nat.le_refl _, Nat.ne_of_gt E.lt, q6, by rw [List.map_map]; exact v2⟩, hl, hc, hs⟩
end StrChars.Road
namespace StrChars
open Jvm Sem ClassFile Op Lib Jvm.Stand Jvm.Free.XT Jvm.Free.ALB Jvm.Free.JM Jvm.Free
open Jvm.Lib.Cold (StaticIs)
def hi8 (x : Int32) : Int32 := lo8 (x >>> ((8 : Int32) &&& 31))
/-- what StringUTF16.getChar makes of two bytes -/
def pairCh (u v : Int32) : Int32 := (((u &&& 255) <<< ((0 : Int32) &&& 31)) ||| ((v &&& 255) <<< ((8 : Int32) &&& 31))).toUInt32.toUInt16.toUInt32.toInt32
theorem shr0 (c : Int32) : c >>> ((0 : Int32) &&& 31) = c := by
  have e : ((0 : Int32) &&& 31) = 0 := by decide
  rw [e]
  apply Int32.toBitVec_inj.mp
  rw [Int32.toBitVec_shiftRight]
  have e1 : ((0 : Int32).toBitVec.smod 32) = 0#32 := by decide
  rw [e1, BitVec.sshiftRight_eq']
  exact BitVec.sshiftRight_zero
theorem lo8_and (x : Int32) : (lo8 x &&& 255).toBitVec.toNat = x.toBitVec.toNat % 256 := by
  have h : (lo8 x).toBitVec = (x.toBitVec.signExtend 8).signExtend 32 := by rw [lo8, Int8.toBitVec_toInt32, Int32.toBitVec_toInt8]
  rw [Int32.toBitVec_and, BitVec.toNat_and, h]
  have e : ((x.toBitVec.signExtend 8).signExtend 32).toNat % 256 = x.toBitVec.toNat % 256 := by
    rw [BitVec.toNat_signExtend]
    have hlt := x.toBitVec.isLt
    simp only [BitVec.toNat_setWidth, BitVec.toNat_signExtend]
    split <;> split <;> omega
  rw [← e]
  exact Nat.and_two_pow_sub_one_eq_mod _ 8
theorem pair_says {c : Int32} (h0 : ¬ c < 0) (h1 : ¬ 65535 < c) : pairCh (lo8 c) (hi8 c) = c := by
  rw [Int32.lt_iff_toInt_lt] at h0 h1
  have e0 : (0 : Int32).toInt = 0 := rfl
  have e1 : (65535 : Int32).toInt = 65535 := rfl
  have hc : c.toInt = c.toBitVec.toNat := by
    have := c.toBitVec.isLt
    have e : c.toInt = c.toBitVec.toInt := rfl
    rw [e] at h0 h1
    rw [e]
    rw [BitVec.toInt_eq_toNat_cond] at h0 h1 ⊢
    split at h0 <;> split <;> omega
  have hn : c.toBitVec.toNat < 65536 := by omega
  have a1 := lo8_and c
  have a2 : (hi8 c &&& 255).toBitVec.toNat = c.toBitVec.toNat / 256 := by
    rw [hi8, lo8_and]
    have e : ((8 : Int32) &&& 31) = 8 := by decide
    rw [e, Int32.toBitVec_shiftRight]
    have e2 : ((8 : Int32).toBitVec.smod 32) = 8#32 := by decide
    rw [e2, BitVec.sshiftRight_eq', BitVec.toNat_sshiftRight_of_msb_false (by rw [BitVec.msb_eq_false_iff_two_mul_lt]; omega)]
    show c.toBitVec.toNat >>> 8 % 256 = _
    rw [Nat.shiftRight_eq_div_pow]
    omega
  unfold pairCh
  apply Int32.toBitVec_inj.mp
  apply BitVec.eq_of_toNat_eq
  have f0 : ((0 : Int32) &&& 31) = 0 := by decide
  have f8 : ((8 : Int32) &&& 31) = 8 := by decide
  rw [f0, f8]
  have g : (((lo8 c &&& 255) <<< (0 : Int32)) ||| ((hi8 c &&& 255) <<< (8 : Int32))).toBitVec.toNat = c.toBitVec.toNat := by
    rw [Int32.toBitVec_or, Int32.toBitVec_shiftLeft, Int32.toBitVec_shiftLeft]
    have s0 : ((0 : Int32).toBitVec.smod 32) = 0#32 := by decide
    have s8 : ((8 : Int32).toBitVec.smod 32) = 8#32 := by decide
    rw [s0, s8, BitVec.toNat_or]
    simp only [BitVec.shiftLeft_eq', BitVec.toNat_shiftLeft, a1, a2]
    show (c.toBitVec.toNat % 256) <<< 0 % 2 ^ 32 ||| (c.toBitVec.toNat / 256) <<< 8 % 2 ^ 32 = _
    rw [Nat.shiftLeft_zero, Nat.mod_eq_of_lt (show c.toBitVec.toNat % 256 < 2 ^ 32 by omega), Nat.mod_eq_of_lt (show (c.toBitVec.toNat / 256) <<< 8 < 2 ^ 32 by rw [Nat.shiftLeft_eq]; omega), Nat.or_comm, ← Nat.shiftLeft_add_eq_or_of_lt (by omega), Nat.shiftLeft_eq]
    omega
  show BitVec.toNat (((((lo8 c &&& 255) <<< (0 : Int32)) ||| ((hi8 c &&& 255) <<< (8 : Int32))).toBitVec.setWidth 16).setWidth 32) = _
  rw [BitVec.toNat_setWidth, BitVec.toNat_setWidth, g]
  omega
end StrChars
namespace StrChars
open Jvm Sem ClassFile Op Lib Jvm.Stand Jvm.Free.XT Jvm.Free.ALB Jvm.Free.JM Jvm.Free
open Jvm.Lib.Cold (StaticIs)
theorem shr1 {n : Nat} (h : 2 * n < 2 ^ 31) : Int32.ofNat (2 * n) >>> ((1 : Int32) &&& 31) = Int32.ofNat n := by
  have e : ((1 : Int32) &&& 31) = 1 := by decide
  rw [e]
  apply Int32.toBitVec_inj.mp
  rw [Int32.toBitVec_shiftRight]
  have e1 : ((1 : Int32).toBitVec.smod 32) = 1#32 := by decide
  have hm : (BitVec.ofNat 32 (2 * n)).toNat = 2 * n := by rw [BitVec.toNat_ofNat, Nat.mod_eq_of_lt (by omega)]
  rw [e1, BitVec.sshiftRight_eq']
  apply BitVec.eq_of_toNat_eq
  show ((BitVec.ofNat 32 (2 * n)).sshiftRight 1).toNat = (BitVec.ofNat 32 n).toNat
  rw [BitVec.toNat_sshiftRight_of_msb_false (by rw [BitVec.msb_eq_false_iff_two_mul_lt, hm]; omega), hm, BitVec.toNat_ofNat, Nat.shiftRight_eq_div_pow]
  omega
/-- the array's cell V codes the n chars f 0 .. f (n - 1) by the coder cd, as the JDK does: coder 1 just where some char is above 255 -/
def Cod (cd : Int32) (n : Nat) (f : Nat → Int32) (V : Cell) : Prop := (cd = 0 ∧ V.slots.size = n ∧ ∀ j, j < n → V.slots[j]? = some (.int (lo8 (f j))) ∧ ¬ 255 < f j) ∨ (cd = 1 ∧ V.slots.size = 2 * n ∧ (∀ j, j < n → V.slots[2 * j]? = some (.int (lo8 (f j))) ∧ V.slots[2 * j + 1]? = some (.int (hi8 (f j)))) ∧ ∃ j, j < n ∧ 255 < f j)
theorem Cod.cd {cd : Int32} {n : Nat} {f : Nat → Int32} {V : Cell} (h : Cod cd n f V) : cd = 0 ∨ cd = 1 := h.imp (fun q => q.1) fun q => q.1
theorem Cod.len {cd : Int32} {n : Nat} {f : Nat → Int32} {V : Cell} (h : Cod cd n f V) (hs : V.slots.size < 2 ^ 31) : Int32.ofNat V.slots.size >>> (cd &&& 31) = Int32.ofNat n := by
  rcases h with ⟨rfl, h, -⟩ | ⟨rfl, h, -⟩
  · rw [shr0, h]
  · rw [h, shr1 (by omega)]
/-- **x is a String of the n chars f 0 .. f (n - 1)**, Latin-1 or UTF-16; its array at t has the cell V -/
def Txt (x t : Addr) (V : Cell) (cd : Int32) (n : Nat) (f : Nat → Int32) (U : State) : Prop := Exact "java/lang/String" x U ∧ Has x "java/lang/String" "value" "[B" (.ref t) U ∧ Has x "java/lang/String" "coder" "B" (.int cd) U ∧ XT.Arr .byte t V U ∧ Cod cd n f V ∧ ∀ j, j < n → ¬ f j < 0 ∧ ¬ 65535 < f j
theorem Txt.mv {x t : Addr} {V : Cell} {cd : Int32} {n : Nat} {f : Nat → Int32} {U U' : State} (h : Txt x t V cd n f U) (hal : U.vm.Alike U'.vm) (hh : U'.heap = U.heap) : Txt x t V cd n f U' := ⟨h.1.mv hal hh, h.2.1.mv hal hh, h.2.2.1.mv hal hh, h.2.2.2.1.mv hal hh, h.2.2.2.2⟩
namespace Cdr
def yN : MethodName := ⟨"java/lang/String", "coder", "()B"⟩
abbrev yB : ByteArray := jdk_42_method_152_code
theorem d0 : decode yB 0 = .ok (.getstatic 38, 3) := by decide +kernel
theorem d3 : decode yB 3 = .ok (.ifCond (.eq) 10, 3) := by decide +kernel
theorem d6 : decode yB 6 = .ok (.aload_n 0, 1) := by decide +kernel
theorem d7 : decode yB 7 = .ok (.getfield 15, 3) := by decide +kernel
theorem d10 : decode yB 10 = .ok (.goto 4, 3) := by decide +kernel
theorem d14 : decode yB 14 = .ok (.ireturn, 1) := by decide +kernel
def site : List Cond := [.fieldLink "java/lang/String" 38 "java/lang/String" "COMPACT_STRINGS" "Z", .fieldLink "java/lang/String" 15 "java/lang/String" "coder" "B"]
def tab : Cond := tabOf yN yB 1 (some .byte) site
def P (x : Addr) (cd z : Int32) (args : Array Value) (s : State) : Prop := args = #[.ref x] ∧ Has x "java/lang/String" "coder" "B" (.int cd) s ∧ (cd = 0 ∨ cd = 1) ∧ StaticIs s "java/lang/String" "COMPACT_STRINGS" "Z" (.int z) ∧ ¬ z = 0
def E (cd : Int32) (r : Option Value) (s u : State) : Prop := XT.PureE (some (.int cd)) r s u
theorem law (l : Launch) (x : Addr) (cd z : Int32) : Law l yN 1 0 0 0 yB 1 (some .byte) site (P x cd z) (E cd) [] 0 0 := by
  refine Law.of_walk (plainFor_of_name (by decide +kernel)) (by decide +kernel) (by decide +kernel) (by decide) (fun _ _ h => by rw [h.1]; rfl) (fun _ U U' hal hh h => ⟨h.1, h.2.1.mv hal hh, h.2.2.1, h.2.2.2.1.there hal hh, h.2.2.2.2⟩) (fun r U U' V V' h1 hal h2 h => XT.PureE.mv r U U' V V' h1 hal h2 h) ?_
  intro p e s m args below meth c s₁ X0 hexec hbytes hml hret hlk hnm hown hh0 W hP
  obtain ⟨rfl, hx, hc, s1, hz⟩ := hP
  have c1 : Steps p.tables e below (s₁.setTop (entryFrame m #[.ref x] 1)) (s₁.setTop (mkF m 0 #[.val (.ref x)] [])) := entry rfl
  obtain ⟨T2, X2, q2, st2⟩ := X0.sget hexec hown (wk W (.fieldLink "java/lang/String" 38 "java/lang/String" "COMPACT_STRINGS" "Z")) s1 (fun _ _ h => by rw [hh0]; exact h) (g := (mkF m 0 #[.val (.ref x)] [])) rfl (hb hbytes d0)
  have hh2 := q2.trans hh0
  have c3 : Steps p.tables e below (s₁.setTop (entryFrame m #[.ref x] 1)) (T2.setTop (mkF m 7 #[.val (.ref x)] [.ref x])) := (c1.trans (st2 _ (Steps.refl _))).trans (by
    refine XS.ifNo X2.here hexec rfl (hb hbytes d3) rfl (i0_eq_f hz) ?_
    refine XS.aloadN X2.here hexec rfl (hb hbytes d6) rfl rfl ?_
    exact Steps.refl _)
  obtain ⟨T4, X4, q4, st4⟩ := X2.hget hexec hown (wk W (.fieldLink "java/lang/String" 15 "java/lang/String" "coder" "B")) (hx.mv X2.warmed.alike hh2) (g := (mkF m 7 #[.val (.ref x)] [.ref x])) rfl (rest := []) rfl (hb hbytes d7)
  have c5 : Steps p.tables e below (s₁.setTop (entryFrame m #[.ref x] 1)) (T4.setTop (mkF m 14 #[.val (.ref x)] [.int cd])) := (c3.trans (st4 _ (Steps.refl _))).trans (by
    refine XS.goto X4.here hexec rfl (pc0 := 10) rfl (hb hbytes d10) (by decide) rfl ?_
    exact Steps.refl _)
  exact ⟨T4, some (.int cd), _, _, _, X4, rfl, rfl, rfl, (fun h => by cases h), ⟨rfl, q4.trans hh2⟩, fun fs hl => c5.trans (X4.ireturnOut hexec hret (by rcases hc with rfl | rfl <;> rfl) (Or.inr (Or.inr (Or.inl rfl))) (hb hbytes d14) hl)⟩
end Cdr
namespace Len
def yN : MethodName := ⟨"java/lang/String", "length", "()I"⟩
abbrev yB : ByteArray := jdk_42_method_54_code
theorem d0 : decode yB 0 = .ok (.aload_n 0, 1) := by decide +kernel
theorem d1 : decode yB 1 = .ok (.getfield 9, 3) := by decide +kernel
theorem d4 : decode yB 4 = .ok (.arraylength, 1) := by decide +kernel
theorem d5 : decode yB 5 = .ok (.aload_n 0, 1) := by decide +kernel
theorem d6 : decode yB 6 = .ok (.invokevirtual 335, 3) := by decide +kernel
theorem d9 : decode yB 9 = .ok (.ishr, 1) := by decide +kernel
theorem d10 : decode yB 10 = .ok (.ireturn, 1) := by decide +kernel
def site : List Cond := [.fieldLink "java/lang/String" 9 "java/lang/String" "value" "[B", Cdr.tab] ++ virtW "java/lang/String" 335 "java/lang/String" Cdr.yN Cdr.yN
def tab : Cond := tabOf yN yB 1 (some .int) site
def P (x t : Addr) (V : Cell) (cd : Int32) (n : Nat) (f : Nat → Int32) (z : Int32) (args : Array Value) (s : State) : Prop := args = #[.ref x] ∧ Txt x t V cd n f s ∧ StaticIs s "java/lang/String" "COMPACT_STRINGS" "Z" (.int z) ∧ ¬ z = 0
def E (n : Nat) (r : Option Value) (s u : State) : Prop := XT.PureE (some (.int (Int32.ofNat n))) r s u
/-- length() of a String of n chars, in either coding -/
theorem law (l : Launch) (x t : Addr) (V : Cell) (cd : Int32) (n : Nat) (f : Nat → Int32) (z : Int32) : Law l yN 1 0 1 13 yB 1 (some .int) site (P x t V cd n f z) (E n) [] 0 0 := by
  refine Law.of_walk (plainFor_of_name (by decide +kernel)) (by decide +kernel) (by decide +kernel) (by decide) (fun _ _ h => by rw [h.1]; rfl) (fun _ U U' hal hh h => ⟨h.1, h.2.1.mv hal hh, h.2.2.1.there hal hh, h.2.2.2⟩) (fun r U U' V V' h1 hal h2 h => XT.PureE.mv r U U' V V' h1 hal h2 h) ?_
  intro p e s m args below meth c s₁ X0 hexec hbytes hml hret hlk hnm hown hh0 W hP
  obtain ⟨rfl, hx, s1, hz⟩ := hP
  have v31 := hx.2.2.2.1.2.2.2
  have c1 : Steps p.tables e below (s₁.setTop (entryFrame m #[.ref x] 1)) (s₁.setTop (mkF m 1 #[.val (.ref x)] [.ref x])) := Steps.trans (entry rfl) (by
    show Steps p.tables e below (s₁.setTop (mkF m 0 #[.val (.ref x)] [])) _
    refine XS.aloadN X0.here hexec rfl (hb hbytes d0) rfl rfl ?_
    exact Steps.refl _)
  obtain ⟨T2, X2, q2, st2⟩ := X0.hget hexec hown (wk W (.fieldLink "java/lang/String" 9 "java/lang/String" "value" "[B")) (hx.mv X0.warmed.alike hh0).2.1 (g := (mkF m 1 #[.val (.ref x)] [.ref x])) rfl (rest := []) rfl (hb hbytes d1)
  have hh2 := q2.trans hh0
  have hx2 := hx.mv X2.warmed.alike hh2
  have c3 : Steps p.tables e below (s₁.setTop (entryFrame m #[.ref x] 1)) (T2.setTop (mkF m 6 #[.val (.ref x)] [.ref x, .int (Int32.ofNat V.slots.size)])) := (c1.trans (st2 _ (Steps.refl _))).trans (by
    refine X2.alen hexec hx2.2.2.2.1 rfl rfl (hb hbytes d4) ?_
    refine XS.aloadN X2.here hexec rfl (hb hbytes d5) rfl rfl ?_
    exact Steps.refl _)
  obtain ⟨v4, T4, X4, E4, g4⟩ := X2.callV hexec (Cdr.law l x cd z) hown (wks W (virtW "java/lang/String" 335 "java/lang/String" Cdr.yN Cdr.yN)) rfl (by decide) (wk W Cdr.tab) (W := 1) (Nat.le_of_ble_eq_true rfl) (Nat.le_of_ble_eq_true rfl) (Nat.le_refl _) (Nat.le_refl _) (hx2.1.fc X2.warmed.alike) hx2.1.is (g := (mkF m 6 #[.val (.ref x)] [.ref x, .int (Int32.ofNat V.slots.size)])) rfl (by rw [hml]; rfl) c3 (argsL := []) (rest := [.int (Int32.ofNat V.slots.size)]) rfl rfl (by show 2 * 0 + (1 + 0) ≤ _; decide) (hb hbytes d6) (⟨rfl, hx2.2.2.1, hx.2.2.2.2.1.cd, s1.there X2.warmed.alike hh2, hz⟩)
  obtain ⟨rfl, q4⟩ := E4
  have c5 : Steps p.tables e below (s₁.setTop (entryFrame m #[.ref x] 1)) (T4.setTop (mkF m 10 #[.val (.ref x)] [.int (Int32.ofNat V.slots.size >>> (cd &&& 31))])) := Steps.trans g4 (by
    refine ishr X4.here hexec rfl (hb hbytes d9) rfl ?_
    exact Steps.refl _)
  rw [hx.2.2.2.2.1.len v31] at c5
  exact ⟨T4, some (.int (Int32.ofNat n)), _, _, _, X4, rfl, rfl, rfl, (fun h => by cases h), ⟨rfl, q4.trans hh2⟩, fun fs hl => c5.trans (X4.ireturnOut hexec hret rfl (Or.inl rfl) (hb hbytes d10) hl)⟩
theorem pays {l : Launch} {R : Room} {p : Program} {e : Env} {below : List Frame} {s : State} {sargs : Array Value} {len W : Nat} (x t : Addr) (V : Cell) (cd : Int32) (n : Nat) (f : Nat → Int32) (z : Int32) (htab : tab.before sargs s = true) (hfr : 2 ≤ R.frames) (hlo : W + 25 ≤ R.locals) :
    Back l R p e below s sargs yN len W (fun A₁ a₁ => A₁.cells + 0 ≤ R.cells ∧ A₁.slots + 0 ≤ R.slots ∧ P x t V cd n f z a₁ A₁.U) (fun A₁ _ v₁ B₁ => E n v₁ A₁.U B₁.U ∧ B₁.locs = A₁.locs ++ [] ∧ B₁.cells = A₁.cells + 0 ∧ B₁.slots = A₁.slots + 0) :=
  (law l x t V cd n f z).pays htab hfr (by omega)
end Len
end StrChars
namespace StrChars.Road
open Jvm Sem ClassFile Op Lib Jvm.Stand Jvm.Free Jvm.Free.XT
open Jvm.Lib.Cold (StaticIs)
theorem consq {a : Array Value} {s : State} {c : Jvm.Cond} {L : List Jvm.Cond} (h0 : c.before a s = true) (h : ∀ w ∈ L, w.before a s = true) : ∀ w ∈ c :: L, w.before a s = true := fun w hw => (List.mem_cons.mp hw).elim (fun e => e ▸ h0) (h w)
/-- the words of String.length(), either coding -/
abbrev wordsLen : List Jvm.Cond := [.code Len.yN Len.yB 1 (some .int), .initialized ST, .fieldLink ST 9 ST "value" "[B", .fieldLink ST 38 ST "COMPACT_STRINGS" "Z", .fieldLink ST 15 ST "coder" "B", .code Cdr.yN Cdr.yB 1 (some .byte), .methodLink ST 335 Cdr.yN, .declares Cdr.yN, .selects ST Cdr.yN Cdr.yN, .instanceMethod Cdr.yN]
theorem tabLen_of {a : Array Value} {s : State} (h : ∀ w ∈ wordsLen, w.before a s = true) : Len.tab.before a s = true := by
  have hc : Cdr.tab.before a s = true := unparts (wk h (.code Cdr.yN Cdr.yB 1 (some .byte))) (wks h (.initialized Cdr.yN.cls :: Cdr.site))
  have q := consq hc h
  exact unparts (wk q (.code Len.yN Len.yB 1 (some .int))) (wks q (.initialized Len.yN.cls :: Len.site))
theorem movedLen {Z s : State} {a0 args : Array Value} (hZ : Z.Warmed39 s.vm) (hw : ∀ d ∈ wordsLen, d.before a0 Z = true) : ∀ d ∈ wordsLen, d.before args s = true := fun d hd => by
  have q := hw d hd
  have t : ∀ d ∈ wordsLen, d = .arrayClass .byte ∨ (d.onTables && d.keepsFace) = true := by decide +kernel
  rcases t d hd with rfl | t
  · exact RoadKit.mvA hZ q
  · exact RoadKit.mv hZ q t
/-- the bytes of the chars cs, low before high -/
def wideBytes : List Int32 → List Value
  | [] => []
  | c :: cs => .int (lo8 c) :: .int (hi8 c) :: wideBytes cs
theorem wide_lo (d : Value) : ∀ (cs : List Int32) (j : Nat), j < cs.length → (wideBytes cs).getD (2 * j) d = .int (lo8 (cs.getD j 0))
  | [], j, h => absurd h (Nat.not_lt_zero j)
  | c :: cs, 0, _ => rfl
  | c :: cs, j + 1, h => by
    have q := wide_lo d cs j (by simpa using h)
    rw [show 2 * (j + 1) = 2 * j + 1 + 1 from by omega]
    simpa [wideBytes] using q
theorem wide_hi (d : Value) : ∀ (cs : List Int32) (j : Nat), j < cs.length → (wideBytes cs).getD (2 * j + 1) d = .int (hi8 (cs.getD j 0))
  | [], j, h => absurd h (Nat.not_lt_zero j)
  | c :: cs, 0, _ => rfl
  | c :: cs, j + 1, h => by
    have q := wide_hi d cs j (by simpa using h)
    rw [show 2 * (j + 1) + 1 = 2 * j + 1 + 1 + 1 from by omega]
    simpa [wideBytes] using q
theorem low_at (d : Value) (cs : List Int32) (j : Nat) (h : j < cs.length) : (cs.map fun c => Value.int (lo8 c)).getD j d = .int (lo8 (cs.getD j 0)) := by
  simp [List.getD_eq_getElem?_getD, h]
/-- an array of N2 bytes vs codes the chars cs by the coder cd -/
def CodA (cs : List Int32) (cd N2 : Int32) (vs : List Value) : Prop := (cd = 0 ∧ N2 = Int32.ofNat cs.length ∧ vs = (cs.map fun c => Value.int (lo8 c)) ∧ ∀ c ∈ cs, ¬ 255 < c) ∨ (cd = 1 ∧ N2 = Int32.ofNat (2 * cs.length) ∧ vs = wideBytes cs ∧ ∃ c ∈ cs, 255 < c)
theorem CodA.cod {cs : List Int32} {cd N2 : Int32} {vs : List Value} {V : Cell} (h : CodA cs cd N2 vs) (hn : 2 * cs.length < 2 ^ 31) (hs : V.slots.size = N2.toNatClampNeg) (hv : RoadKit.Has V vs (.int 0)) : Cod cd cs.length (fun j => cs.getD j 0) V := by
  rcases h with ⟨rfl, rfl, rfl, h⟩ | ⟨rfl, rfl, rfl, c, hc, hw⟩
  · rw [n32 (by omega)] at hs
    exact Or.inl ⟨rfl, hs, fun j hj => ⟨by rw [hv j (by omega), low_at _ _ _ hj], by
      have e : cs.getD j 0 = cs[j] := by simp [List.getD_eq_getElem?_getD, hj]
      show ¬ 255 < cs.getD j 0
      rw [e]; exact h _ (List.getElem_mem _)⟩⟩
  · rw [n32 (by omega)] at hs
    obtain ⟨j, hj, rfl⟩ := List.getElem_of_mem hc
    exact Or.inr ⟨rfl, hs, fun j hj => ⟨by rw [hv _ (by omega), wide_lo _ _ _ hj], by rw [hv _ (by omega), wide_hi _ _ _ hj]⟩, j, hj, by
      have e : cs.getD j 0 = cs[j] := by simp [List.getD_eq_getElem?_getD, hj]
      show 255 < cs.getD j 0
      rw [e]; exact hw⟩
/-- an object of exactly java/lang/String, its two fields found: as the laws ask it -/
theorem strObj {Z U : State} {a0 : Array Value} {kI : Nat} (wi : (Jvm.Cond.instantiable ST kI).before a0 Z = true) (al : Z.vm.Alike U.vm) {x : Addr} {v0 c0 : Value} (E : RoadKit.Exa Z U.heap x ST) (V : RoadKit.Fld Z U.heap x ST "value" "[B" v0) (C : RoadKit.Fld Z U.heap x ST "coder" "B" c0) :
    ∃ (D : Cell) (fV fC : Field), Blank ST x D U ∧ Found ST "value" "[B" fV U ∧ Found ST "coder" "B" fC U ∧ D.slots[fV.slot]? = some v0 ∧ D.slots[fC.slot]? = some c0 ∧ RoadKit.slotOf Z ST "value" "[B" = fV.slot ∧ RoadKit.slotOf Z ST "coder" "B" = fC.slot := by
  obtain ⟨D, cfV, kV, iV, fV, hD, gV, stV, knV, obV, asV, slV⟩ := V
  obtain ⟨D', cfC, kC, iC, fC, hD', gC, stC, -, -, asC, slC⟩ := C
  cases hD.symm.trans hD'
  obtain ⟨D2, kD, e1, e2, e3, e4, e5⟩ := E
  cases hD.symm.trans e1
  obtain ⟨c2, k2, i1, i2, i3, -⟩ := Cond.instantiable_spec wi
  cases e2.symm.trans i1
  cases e3.symm.trans i2
  obtain ⟨kU, u1, u2⟩ := al.2.2 _ _ e3
  exact ⟨D, fV, fC, ⟨hD, ⟨knV, fun q hq => by rw [hq] at obV; cases obV⟩, by rw [al.findClass]; exact e2, kU, u1, by rw [u2]; exact i3, by rw [u2]; exact e5 i3⟩, ⟨SBG.found_only al ⟨cfV, kV, iV, gV⟩, stV⟩, ⟨SBG.found_only al ⟨cfC, kC, iC, gC⟩, stC⟩, slV, slC, by simp [RoadKit.slotOf, gV], by simp [RoadKit.slotOf, gC]⟩
theorem sta_is {Z U : State} (al : Z.vm.Alike U.vm) {C n d : String} {v : Value} (S : RoadKit.Sta Z U.heap C n d v) : StaticIs U C n d v := by
  obtain ⟨cfS, iS, kS, fS, st, cS, t1, t2, t3, t4, t5, t6, t7⟩ := S
  exact StaticIs.there (s := { Z with heap := U.heap }) ⟨cfS, iS, kS, fS, st, cS, t1, t2, t3, t4, t5, (fun q => by rw [q] at t6; cases t6), t7⟩ al rfl
/-- **length() OF SUCH A STRING** -/
theorem lenW {p : Program} {l : Launch} {e : Env} {R : Room} {s : State} {args : Array Value} {below : List Frame} {len W : Nat} {Z : State} {a0 : Array Value} {h : Heap} (hZ : Z.Warmed39 s.vm) (hw : ∀ d ∈ wordsLen, d.before a0 Z = true) {kI : Nat} (wi : (Jvm.Cond.instantiable ST kI).before a0 Z = true)
    {x t : Addr} {kb : ClassId} {cs : List Int32} {cd N2 z : Int32} {vs : List Value} (E : RoadKit.Exa Z h x ST) (V : RoadKit.Fld Z h x ST "value" "[B" (.ref t)) (C : RoadKit.Fld Z h x ST "coder" "B" (.int cd)) (K : RoadKit.Arv Z h t kb .byte N2 vs (.int 0)) (hc : CodA cs cd N2 vs) (hb : ∀ c ∈ cs, ¬ c < 0 ∧ ¬ (65535 : Int32) < c)
    (S : RoadKit.Sta Z h ST "COMPACT_STRINGS" "Z" (.int z)) (hz : ¬ z = 0) (l2 : cs.length ≤ 4000) (hfr : 2 ≤ R.frames) (hlo : W + 25 ≤ R.locals) :
    Back l R p e below s args (⟨"java/lang/String", "length", "()I"⟩ : MethodName) len W (fun P a => a = #[.ref x] ∧ P.U.heap = h ∧ P.cells + 0 ≤ R.cells ∧ P.slots + 0 ≤ R.slots)
      (fun P _ v B => ∃ L, (v = some (.int (Int32.ofNat cs.length)) ∧ L = [] ∧ B.U.heap = h) ∧ B.locs = P.locs ++ L ∧ B.cells = P.cells + 0 ∧ B.slots = P.slots + 0) := by
  obtain ⟨A, K1, K2, K3, K4, K5, K6⟩ := K
  have hcod := hc.cod (by omega) K3 K5
  intro m meth c P g ig mk a X hg hsize hdg hW hn hp'
  obtain ⟨rfl, rfl, r1, r2⟩ := hp'
  have al : Z.vm.Alike P.U.vm := hZ.alike.trans X.warmed.alike
  obtain ⟨D, fV, fC, hB, F1, F2, g1, g2, -, -⟩ := strObj wi al E V C
  have hx : Txt x t A cd cs.length (fun j => cs.getD j 0) P.U := ⟨⟨_, hB.2.2.1, D, hB.1, rfl, by cases q : D.vm <;> first | rfl | exact absurd q (hB.2.1.2 _)⟩, Has.of hB F1 g1, Has.of hB F2 g2, ⟨K1.1, State.isArrayOf_alike al K1.2.1, K1.2.2, by rcases hcod with ⟨-, q, -⟩ | ⟨-, q, -⟩ <;> omega⟩, hcod, fun j hj => by
    have e : cs.getD j 0 = cs[j] := by simp [List.getD_eq_getElem?_getD, hj]
    show ¬ cs.getD j 0 < 0 ∧ ¬ 65535 < cs.getD j 0
    rw [e]; exact hb _ (List.getElem_mem _)⟩
  obtain ⟨v, B, X', ⟨⟨hv, hh⟩, hl, hk, hs⟩, st⟩ := Len.pays x t A cd cs.length (fun j => cs.getD j 0) z (tabLen_of (movedLen hZ hw)) hfr hlo m meth c P g ig mk _ X hg hsize hdg hW hn ⟨r1, r2, rfl, hx, sta_is al S, hz⟩
  exact ⟨v, B, X', ⟨[], ⟨hv, rfl, hh⟩, hl, hk, hs⟩, st⟩
end StrChars.Road
namespace StrChars
open Jvm Sem ClassFile Op Lib Jvm.Stand Jvm.Free.XT Jvm.Free.ALB Jvm.Free.JM Jvm.Free
open Jvm.Lib.Cold (StaticIs)
/-- what place i of a byte[]'s cell holds -/
def yv (A : Cell) (i : Nat) : Int32 := match A.slots[i]? with | some (.int x) => x | _ => 0
theorem yv_get {a : Addr} {A : Cell} {U : State} (h : XT.Arr .byte a A U) (ht : Typed .byte A) {i : Nat} (hi : i < A.slots.size) : A.slots[i]? = some (.int (yv A i)) := by
  have e := Array.getElem?_eq_getElem hi
  have f := ht i _ e
  unfold yv; rw [e]
  generalize A.slots[i] = v at f
  cases v <;> simp [fits] at f ⊢
/-- the two arrays are equal, place for place -/
def EqC (A B : Cell) : Prop := A.slots.size = B.slots.size ∧ ∀ i, i < A.slots.size → yv A i = yv B i
/-- a boolean that says whether p -/
def Says01 (q : Prop) (r : Option Value) (s u : State) : Prop := ∃ v : Int32, r = some (.int v) ∧ u.heap = s.heap ∧ ((v = 1 ∧ q) ∨ (v = 0 ∧ ¬ q))
theorem Says01.mv {q : Prop} : ∀ r (U U' V V' : State), U'.heap = U.heap → V.vm.Alike V'.vm → V'.heap = V.heap → Says01 q r U V → Says01 q r U' V' :=
  fun r U U' V V' h1 _ h2 ⟨v, a, b, c⟩ => ⟨v, a, by rw [h1, h2]; exact b, c⟩
namespace LEq
def yN : MethodName := ⟨"java/lang/StringLatin1", "equals", "([B[B)Z"⟩
abbrev yB : ByteArray := jdk_43_method_13_code
theorem d0 : decode yB 0 = .ok (.aload_n 0, 1) := by decide +kernel
theorem d1 : decode yB 1 = .ok (.arraylength, 1) := by decide +kernel
theorem d2 : decode yB 2 = .ok (.aload_n 1, 1) := by decide +kernel
theorem d3 : decode yB 3 = .ok (.arraylength, 1) := by decide +kernel
theorem d4 : decode yB 4 = .ok (.if_icmp (.ne) 30, 3) := by decide +kernel
theorem d7 : decode yB 7 = .ok (.iconst 0, 1) := by decide +kernel
theorem d8 : decode yB 8 = .ok (.istore_n 2, 1) := by decide +kernel
theorem d9 : decode yB 9 = .ok (.iload_n 2, 1) := by decide +kernel
theorem d10 : decode yB 10 = .ok (.aload_n 0, 1) := by decide +kernel
theorem d11 : decode yB 11 = .ok (.arraylength, 1) := by decide +kernel
theorem d12 : decode yB 12 = .ok (.if_icmp (.ge) 20, 3) := by decide +kernel
theorem d15 : decode yB 15 = .ok (.aload_n 0, 1) := by decide +kernel
theorem d16 : decode yB 16 = .ok (.iload_n 2, 1) := by decide +kernel
theorem d17 : decode yB 17 = .ok (.baload, 1) := by decide +kernel
theorem d18 : decode yB 18 = .ok (.aload_n 1, 1) := by decide +kernel
theorem d19 : decode yB 19 = .ok (.iload_n 2, 1) := by decide +kernel
theorem d20 : decode yB 20 = .ok (.baload, 1) := by decide +kernel
theorem d21 : decode yB 21 = .ok (.if_icmp (.eq) 5, 3) := by decide +kernel
theorem d24 : decode yB 24 = .ok (.iconst 0, 1) := by decide +kernel
theorem d25 : decode yB 25 = .ok (.ireturn, 1) := by decide +kernel
theorem d26 : decode yB 26 = .ok (.iinc 2 1, 3) := by decide +kernel
theorem d29 : decode yB 29 = .ok (.goto (-20), 3) := by decide +kernel
theorem d32 : decode yB 32 = .ok (.iconst 1, 1) := by decide +kernel
theorem d33 : decode yB 33 = .ok (.ireturn, 1) := by decide +kernel
theorem d34 : decode yB 34 = .ok (.iconst 0, 1) := by decide +kernel
theorem d35 : decode yB 35 = .ok (.ireturn, 1) := by decide +kernel
def site : List Cond := []
def tab : Cond := tabOf yN yB 3 (some .boolean) site
def P (a : Addr) (A : Cell) (b : Addr) (B : Cell) (args : Array Value) (s : State) : Prop := args = #[.ref a, .ref b] ∧ XT.Arr .byte a A s ∧ Typed .byte A ∧ XT.Arr .byte b B s ∧ Typed .byte B
/-- whether two byte[] are equal, place for place -/
theorem law (l : Launch) (a : Addr) (A : Cell) (b : Addr) (B : Cell) : Law l yN 2 2 0 0 yB 3 (some .boolean) site (P a A b B) (Says01 (EqC A B)) [] 0 0 := by
  refine Law.of_walk (plainFor_of_name (by decide +kernel)) (by decide +kernel) (by decide +kernel) (by decide) (fun _ _ h => by rw [h.1]; rfl) (fun _ U U' hal hh h => ⟨h.1, h.2.1.mv hal hh, h.2.2.1, h.2.2.2.1.mv hal hh, h.2.2.2.2⟩) (fun r U U' V V' h1 hal h2 h => Says01.mv r U U' V V' h1 hal h2 h) ?_
  intro p e s m args below meth c s₁ X0 hexec hbytes hml hret hlk hnm hown hh0 W hP
  obtain ⟨rfl, hA, tA, hB, tB⟩ := hP
  have a31 := hA.2.2.2
  have b31 := hB.2.2.2
  have hA0 := hA.mv X0.warmed.alike hh0
  have hB0 := hB.mv X0.warmed.alike hh0
  have c1 : Steps p.tables e below (s₁.setTop (entryFrame m #[.ref a, .ref b] 3)) (s₁.setTop (mkF m 0 #[.val (.ref a), .val (.ref b), .unset] [])) := entry rfl
  have c2 : Steps p.tables e below (s₁.setTop (entryFrame m #[.ref a, .ref b] 3)) (s₁.setTop (mkF m 4 #[.val (.ref a), .val (.ref b), .unset] [.int (Int32.ofNat B.slots.size), .int (Int32.ofNat A.slots.size)])) := c1.trans (by
    refine XS.aloadN X0.here hexec rfl (hb hbytes d0) rfl rfl ?_
    refine X0.alen hexec hA0 rfl rfl (hb hbytes d1) ?_
    refine XS.aloadN X0.here hexec rfl (hb hbytes d2) rfl rfl ?_
    refine X0.alen hexec hB0 rfl rfl (hb hbytes d3) ?_
    exact Steps.refl _)
  by_cases hs : A.slots.size = B.slots.size
  · have c3 : Steps p.tables e below (s₁.setTop (entryFrame m #[.ref a, .ref b] 3)) (s₁.setTop (mkF m 9 #[.val (.ref a), .val (.ref b), .val (.int 0)] [])) := c2.trans (by
      refine XS.icmpNo X0.here hexec rfl (hb hbytes d4) rfl (ii_ne_f (by rw [hs])) ?_
      refine iconstV X0.here hexec rfl 0 (hb hbytes d7) (by decide) ?_
      refine XS.istoreN X0.here hexec rfl (hb hbytes d8) rfl rfl ?_
      exact Steps.refl _)
    have loop : ∀ (r i : Nat), i + r = A.slots.size → (∀ j, j < i → yv A j = yv B j) → Steps p.tables e below (s₁.setTop (entryFrame m #[.ref a, .ref b] 3)) (s₁.setTop (mkF m 9 #[.val (.ref a), .val (.ref b), .val (.int (Int32.ofNat i))] [])) → ∃ (pc : Nat) (Ls : Array Slot) (v : Int32), (pc = 25 ∨ pc = 33) ∧ ((v = 1 ∧ EqC A B) ∨ (v = 0 ∧ ¬ EqC A B)) ∧ Steps p.tables e below (s₁.setTop (entryFrame m #[.ref a, .ref b] 3)) (s₁.setTop (mkF m pc Ls [.int v])) := by
      intro r
      induction r with
      | zero =>
        intro i hi he cl
        exact ⟨33, _, 1, Or.inr rfl, Or.inl ⟨rfl, hs, fun j hj => he j (by omega)⟩, cl.trans (by
          refine XS.iloadN X0.here hexec rfl (hb hbytes d9) rfl ?_
          refine XS.aloadN X0.here hexec rfl (hb hbytes d10) rfl rfl ?_
          refine X0.alen hexec hA0 rfl rfl (hb hbytes d11) ?_
          refine XS.icmpYes X0.here hexec rfl (pc0 := 12) rfl (hb hbytes d12) rfl (ii_ge_t (nlt32 (by omega) (by omega))) (by decide) rfl ?_
          refine iconstV X0.here hexec rfl 1 (hb hbytes d32) (by decide) ?_
          exact Steps.refl _)⟩
      | succ r ih =>
        intro i hi he cl
        have c4 : Steps p.tables e below (s₁.setTop (entryFrame m #[.ref a, .ref b] 3)) (s₁.setTop (mkF m 21 #[.val (.ref a), .val (.ref b), .val (.int (Int32.ofNat i))] [.int (yv B i), .int (yv A i)])) := cl.trans (by
          refine XS.iloadN X0.here hexec rfl (hb hbytes d9) rfl ?_
          refine XS.aloadN X0.here hexec rfl (hb hbytes d10) rfl rfl ?_
          refine X0.alen hexec hA0 rfl rfl (hb hbytes d11) ?_
          refine XS.icmpNo X0.here hexec rfl (hb hbytes d12) rfl (ii_ge_f (lt32 (by omega) (by omega))) ?_
          refine XS.aloadN X0.here hexec rfl (hb hbytes d15) rfl rfl ?_
          refine XS.iloadN X0.here hexec rfl (hb hbytes d16) rfl ?_
          refine X0.aget hexec hA0 rfl (yv_get hA tA (i := i) (by omega)) rfl rfl (hb hbytes d17) ?_
          refine XS.aloadN X0.here hexec rfl (hb hbytes d18) rfl rfl ?_
          refine XS.iloadN X0.here hexec rfl (hb hbytes d19) rfl ?_
          refine X0.aget hexec hB0 rfl (yv_get hB tB (i := i) (by omega)) rfl rfl (hb hbytes d20) ?_
          exact Steps.refl _)
        by_cases hv : yv A i = yv B i
        · have c5 : Steps p.tables e below (s₁.setTop (entryFrame m #[.ref a, .ref b] 3)) (s₁.setTop (mkF m 9 #[.val (.ref a), .val (.ref b), .val (.int (Int32.ofNat i + 1))] [])) := c4.trans (by
            refine XS.icmpYes X0.here hexec rfl (pc0 := 21) rfl (hb hbytes d21) rfl (ii_eq_t hv) (by decide) rfl ?_
            refine iincV X0.here hexec rfl 1 (hb hbytes d26) (by decide) rfl rfl ?_
            refine XS.goto X0.here hexec rfl (pc0 := 29) rfl (hb hbytes d29) (by decide) rfl ?_
            exact Steps.refl _)
          rw [succ32] at c5
          exact ih (i + 1) (by omega) (fun j hj => by
            by_cases e : j = i
            · rw [e]; exact hv
            · exact he j (by omega)) c5
        · exact ⟨25, _, 0, Or.inl rfl, Or.inr ⟨rfl, fun q => hv (q.2 i (by omega))⟩, c4.trans (by
            refine XS.icmpNo X0.here hexec rfl (hb hbytes d21) rfl (ii_eq_f hv) ?_
            refine iconstV X0.here hexec rfl 0 (hb hbytes d24) (by decide) ?_
            exact Steps.refl _)⟩
    obtain ⟨pc, Ls, v, hpc, hv, cz⟩ := loop A.slots.size 0 (by omega) (fun j hj => absurd hj (Nat.not_lt_zero j)) c3
    have nv : narrow .boolean (.int v) = .int v := by rcases hv with ⟨rfl, -⟩ | ⟨rfl, -⟩ <;> rfl
    rcases hpc with rfl | rfl
    · exact ⟨s₁, some (.int v), _, _, _, X0, rfl, rfl, rfl, (fun h => by cases h), ⟨v, rfl, hh0, hv⟩, fun fs hl => cz.trans (X0.ireturnOut hexec hret nv (Or.inr (Or.inl rfl)) (hb hbytes d25) hl)⟩
    · exact ⟨s₁, some (.int v), _, _, _, X0, rfl, rfl, rfl, (fun h => by cases h), ⟨v, rfl, hh0, hv⟩, fun fs hl => cz.trans (X0.ireturnOut hexec hret nv (Or.inr (Or.inl rfl)) (hb hbytes d33) hl)⟩
  · have c3 : Steps p.tables e below (s₁.setTop (entryFrame m #[.ref a, .ref b] 3)) (s₁.setTop (mkF m 35 #[.val (.ref a), .val (.ref b), .unset] [.int 0])) := c2.trans (by
      refine XS.icmpYes X0.here hexec rfl (pc0 := 4) rfl (hb hbytes d4) rfl (ii_ne_t (ne32 a31 b31 hs)) (by decide) rfl ?_
      refine iconstV X0.here hexec rfl 0 (hb hbytes d34) (by decide) ?_
      exact Steps.refl _)
    exact ⟨s₁, some (.int 0), _, _, _, X0, rfl, rfl, rfl, (fun h => by cases h), ⟨0, rfl, hh0, Or.inr ⟨rfl, fun q => hs q.1⟩⟩, fun fs hl => c3.trans (X0.ireturnOut hexec hret rfl (Or.inr (Or.inl rfl)) (hb hbytes d35) hl)⟩
end LEq
theorem Cod.ty {cd : Int32} {n : Nat} {f : Nat → Int32} {V : Cell} (h : Cod cd n f V) : Typed .byte V := fun i v hv => by
  have hi : i < V.slots.size := (Array.getElem?_eq_some_iff.mp hv).1
  rcases h with ⟨-, k1, k2⟩ | ⟨-, k1, k2, -⟩
  · rw [(k2 i (by omega)).1] at hv; cases hv; exact fits_lo8 _
  · rcases Nat.mod_two_eq_zero_or_one i with e | e
    · obtain ⟨j, rfl⟩ : ∃ j, i = 2 * j := ⟨i / 2, by omega⟩
      rw [(k2 j (by omega)).1] at hv; cases hv; exact fits_lo8 _
    · obtain ⟨j, rfl⟩ : ∃ j, i = 2 * j + 1 := ⟨i / 2, by omega⟩
      rw [(k2 j (by omega)).2] at hv; cases hv; exact fits_lo8 _
/-- the same text -/
def SameT (n : Nat) (f : Nat → Int32) (k : Nat) (g : Nat → Int32) : Prop := n = k ∧ ∀ j, j < n → f j = g j
theorem lo8_inj {x y : Int32} (h0 : ¬ x < 0) (h1 : ¬ 255 < x) (k0 : ¬ y < 0) (k1 : ¬ 255 < y) (h : lo8 x = lo8 y) : x = y := by
  rw [← lo8_mask h0 h1, ← lo8_mask k0 k1, h]
/-- arrays coded by one coder are equal just where the texts are -/
theorem Cod.eqv {cd : Int32} {n k : Nat} {f g : Nat → Int32} {V V' : Cell} (h : Cod cd n f V) (h' : Cod cd k g V') (hf : ∀ j, j < n → ¬ f j < 0 ∧ ¬ 65535 < f j) (hg : ∀ j, j < k → ¬ g j < 0 ∧ ¬ 65535 < g j) : EqC V V' ↔ SameT n f k g := by
  have yvv : ∀ {W : Cell} {i : Nat} {x : Int32}, W.slots[i]? = some (.int x) → yv W i = x := fun q => by unfold yv; rw [q]
  rcases h with ⟨rfl, k1, k2⟩ | ⟨rfl, k1, k2, -⟩
  · rcases h' with ⟨-, m1, m2⟩ | ⟨e, -⟩
    · constructor
      · rintro ⟨e1, e2⟩
        refine ⟨by omega, fun j hj => ?_⟩
        have q := e2 j (by omega)
        rw [yvv (k2 j hj).1, yvv (m2 j (by omega)).1] at q
        exact lo8_inj (hf j hj).1 (k2 j hj).2 (hg j (by omega)).1 (m2 j (by omega)).2 q
      · rintro ⟨rfl, e2⟩
        refine ⟨by omega, fun j hj => ?_⟩
        rw [yvv (k2 j (by omega)).1, yvv (m2 j (by omega)).1, e2 j (by omega)]
    · exact absurd e (by decide)
  · rcases h' with ⟨e, -⟩ | ⟨-, m1, m2, -⟩
    · exact absurd e (by decide)
    · constructor
      · rintro ⟨e1, e2⟩
        refine ⟨by omega, fun j hj => ?_⟩
        have q1 := e2 (2 * j) (by omega)
        have q2 := e2 (2 * j + 1) (by omega)
        rw [yvv (k2 j hj).1, yvv (m2 j (by omega)).1] at q1
        rw [yvv (k2 j hj).2, yvv (m2 j (by omega)).2] at q2
        rw [← pair_says (hf j hj).1 (hf j hj).2, ← pair_says (hg j (by omega)).1 (hg j (by omega)).2, q1, q2]
      · rintro ⟨rfl, e2⟩
        refine ⟨by omega, fun i hi => ?_⟩
        rcases Nat.mod_two_eq_zero_or_one i with e | e
        · obtain ⟨j, rfl⟩ : ∃ j, i = 2 * j := ⟨i / 2, by omega⟩
          rw [yvv (k2 j (by omega)).1, yvv (m2 j (by omega)).1, e2 j (by omega)]
        · obtain ⟨j, rfl⟩ : ∃ j, i = 2 * j + 1 := ⟨i / 2, by omega⟩
          rw [yvv (k2 j (by omega)).2, yvv (m2 j (by omega)).2, e2 j (by omega)]
/-- two codings differ: so do the texts -/
theorem Cod.dif {cd cd' : Int32} {n k : Nat} {f g : Nat → Int32} {V V' : Cell} (h : Cod cd n f V) (h' : Cod cd' k g V') (hne : ¬ cd = cd') : ¬ SameT n f k g := by
  rintro ⟨rfl, e⟩
  rcases h with ⟨rfl, -, k2⟩ | ⟨rfl, -, -, j, hj, hw⟩
  · rcases h' with ⟨rfl, -⟩ | ⟨-, -, -, j, hj, hw⟩
    · exact hne rfl
    · exact (k2 j hj).2 (by rw [e j hj]; exact hw)
  · rcases h' with ⟨-, -, m2⟩ | ⟨rfl, -⟩
    · exact (m2 j hj).2 (by rw [← e j hj]; exact hw)
    · exact hne rfl
/-- an object of exactly C is an instance of C -/
theorem cinst {p : Program} {l : Launch} {e : Env} {R : Room} {s : State} {m : MethodId} {args : Array Value} {below : List Frame} {meth : Method} {c : Code} {T : State} {locs : List Loc} {cells slots : Nat} (X : Stand p l e R s m args below meth c T locs cells slots) (hexec : p.tables.exec = Jvm.exec) {own C : String} {index : Nat} (hown : s.vm.findClass own = some m.cls) (hlink : (Cond.classLink own index C).before args s = true) {a : Addr} (hE : Exact C a T)
    {g : JFrame} (hg : g.method = m) {rest : List Value} (hstack : g.stack = .ref a :: rest) (hdg : decode c.code g.pc = .ok (.instanceof index, 3)) :
    ∃ T', Stand p l e R s m args below meth c T' locs cells slots ∧ T'.heap = T.heap ∧ ∀ target, Steps p.tables e below (T'.setTop { g with pc := g.pc + 3, stack := .int 1 :: rest }) target → Steps p.tables e below (T.setTop g) target := by
  obtain ⟨cB, h1, D, h2, h3, h4⟩ := hE
  have h1' : s.vm.findClass C = some cB := by rw [← X.warmed.alike.findClass]; exact h1
  obtain ⟨vm', X', st⟩ := X.instanceofYes hexec hown hlink h2 h4 h1' (by rw [h3]; exact Jvm.Free.SB.assignable_self _ _) hg hstack hdg
  exact ⟨_, X', rfl, st⟩
theorem cself {p : Program} {l : Launch} {e : Env} {R : Room} {s : State} {m : MethodId} {args : Array Value} {below : List Frame} {meth : Method} {c : Code} {T : State} {locs : List Loc} {cells slots : Nat} (X : Stand p l e R s m args below meth c T locs cells slots) (hexec : p.tables.exec = Jvm.exec) {own C : String} {index : Nat} (hown : s.vm.findClass own = some m.cls) (hlink : (Cond.classLink own index C).before args s = true) {a : Addr} (hE : Exact C a T)
    {g : JFrame} (hg : g.method = m) {rest : List Value} (hstack : g.stack = .ref a :: rest) (hdg : decode c.code g.pc = .ok (.checkcast index, 3)) :
    ∃ T', Stand p l e R s m args below meth c T' locs cells slots ∧ T'.heap = T.heap ∧ ∀ target, Steps p.tables e below (T'.setTop { g with pc := g.pc + 3, stack := .ref a :: rest }) target → Steps p.tables e below (T.setTop g) target := by
  obtain ⟨cB, h1, D, h2, h3, h4⟩ := hE
  have h1' : s.vm.findClass C = some cB := by rw [← X.warmed.alike.findClass]; exact h1
  obtain ⟨vm', X', st⟩ := X.checkcastYes hexec hown hlink h2 h4 h1' (by rw [h3]; exact Jvm.Free.SB.assignable_self _ _) hg hstack hdg
  exact ⟨_, X', rfl, fun t h => st t (by rw [← hstack] at h; exact h)⟩
namespace SEq
def yN : MethodName := ⟨"java/lang/String", "equals", "(Ljava/lang/Object;)Z"⟩
abbrev yB : ByteArray := jdk_42_method_66_code
theorem d0 : decode yB 0 = .ok (.aload_n 0, 1) := by decide +kernel
theorem d1 : decode yB 1 = .ok (.aload_n 1, 1) := by decide +kernel
theorem d2 : decode yB 2 = .ok (.if_acmp (.ne) 5, 3) := by decide +kernel
theorem d5 : decode yB 5 = .ok (.iconst 1, 1) := by decide +kernel
theorem d6 : decode yB 6 = .ok (.ireturn, 1) := by decide +kernel
theorem d7 : decode yB 7 = .ok (.aload_n 1, 1) := by decide +kernel
theorem d8 : decode yB 8 = .ok (.instanceof 10, 3) := by decide +kernel
theorem d11 : decode yB 11 = .ok (.ifCond (.eq) 43, 3) := by decide +kernel
theorem d14 : decode yB 14 = .ok (.aload_n 1, 1) := by decide +kernel
theorem d15 : decode yB 15 = .ok (.checkcast 10, 3) := by decide +kernel
theorem d18 : decode yB 18 = .ok (.astore_n 2, 1) := by decide +kernel
theorem d19 : decode yB 19 = .ok (.getstatic 38, 3) := by decide +kernel
theorem d22 : decode yB 22 = .ok (.ifCond (.eq) 14, 3) := by decide +kernel
theorem d25 : decode yB 25 = .ok (.aload_n 0, 1) := by decide +kernel
theorem d26 : decode yB 26 = .ok (.getfield 15, 3) := by decide +kernel
theorem d29 : decode yB 29 = .ok (.aload_n 2, 1) := by decide +kernel
theorem d30 : decode yB 30 = .ok (.getfield 15, 3) := by decide +kernel
theorem d33 : decode yB 33 = .ok (.if_icmp (.ne) 21, 3) := by decide +kernel
theorem d36 : decode yB 36 = .ok (.aload_n 0, 1) := by decide +kernel
theorem d37 : decode yB 37 = .ok (.getfield 9, 3) := by decide +kernel
theorem d40 : decode yB 40 = .ok (.aload_n 2, 1) := by decide +kernel
theorem d41 : decode yB 41 = .ok (.getfield 9, 3) := by decide +kernel
theorem d44 : decode yB 44 = .ok (.invokestatic 541, 3) := by decide +kernel
theorem d47 : decode yB 47 = .ok (.ifCond (.eq) 7, 3) := by decide +kernel
theorem d50 : decode yB 50 = .ok (.iconst 1, 1) := by decide +kernel
theorem d51 : decode yB 51 = .ok (.goto 4, 3) := by decide +kernel
theorem d54 : decode yB 54 = .ok (.iconst 0, 1) := by decide +kernel
theorem d55 : decode yB 55 = .ok (.ireturn, 1) := by decide +kernel
def site : List Cond := [.classLink "java/lang/String" 10 "java/lang/String", .fieldLink "java/lang/String" 38 "java/lang/String" "COMPACT_STRINGS" "Z", .fieldLink "java/lang/String" 15 "java/lang/String" "coder" "B", .fieldLink "java/lang/String" 9 "java/lang/String" "value" "[B", LEq.tab] ++ staticW "java/lang/String" 541 LEq.yN
def tab : Cond := tabOf yN yB 3 (some .boolean) site
def P (x t : Addr) (V : Cell) (cd : Int32) (n : Nat) (f : Nat → Int32) (y t' : Addr) (V' : Cell) (cd' : Int32) (k : Nat) (g : Nat → Int32) (z : Int32) (args : Array Value) (s : State) : Prop := args = #[.ref x, .ref y] ∧ Txt x t V cd n f s ∧ Txt y t' V' cd' k g s ∧ StaticIs s "java/lang/String" "COMPACT_STRINGS" "Z" (.int z) ∧ ¬ z = 0
/-- equals(Object) of two Strings: whether the texts are the same -/
theorem law (l : Launch) (x t : Addr) (V : Cell) (cd : Int32) (n : Nat) (f : Nat → Int32) (y t' : Addr) (V' : Cell) (cd' : Int32) (k : Nat) (g : Nat → Int32) (z : Int32) : Law l yN 2 1 1 14 yB 3 (some .boolean) site (P x t V cd n f y t' V' cd' k g z) (Says01 (SameT n f k g)) [] 0 0 := by
  refine Law.of_walk (plainFor_of_name (by decide +kernel)) (by decide +kernel) (by decide +kernel) (by decide) (fun _ _ h => by rw [h.1]; rfl) (fun _ U U' hal hh h => ⟨h.1, h.2.1.mv hal hh, h.2.2.1.mv hal hh, h.2.2.2.1.there hal hh, h.2.2.2.2⟩) (fun r U U' V V' h1 hal h2 h => Says01.mv r U U' V V' h1 hal h2 h) ?_
  intro p e s m args below meth c s₁ X0 hexec hbytes hml hret hlk hnm hown hh0 W hP
  obtain ⟨rfl, hx, hy, s1, hz⟩ := hP
  have c1 : Steps p.tables e below (s₁.setTop (entryFrame m #[.ref x, .ref y] 3)) (s₁.setTop (mkF m 2 #[.val (.ref x), .val (.ref y), .unset] [.ref y, .ref x])) := Steps.trans (entry rfl) (by
    show Steps p.tables e below (s₁.setTop (mkF m 0 #[.val (.ref x), .val (.ref y), .unset] [])) _
    refine XS.aloadN X0.here hexec rfl (hb hbytes d0) rfl rfl ?_
    refine XS.aloadN X0.here hexec rfl (hb hbytes d1) rfl rfl ?_
    exact Steps.refl _)
  by_cases hxy : x = y
  · have c2 : Steps p.tables e below (s₁.setTop (entryFrame m #[.ref x, .ref y] 3)) (s₁.setTop (mkF m 6 #[.val (.ref x), .val (.ref y), .unset] [.int 1])) := c1.trans (by
      refine acmpNo X0.here hexec rfl (hb hbytes d2) rfl rfl rfl (by simp [acmp, hxy]) ?_
      refine iconstV X0.here hexec rfl 1 (hb hbytes d5) (by decide) ?_
      exact Steps.refl _)
    subst hxy
    have ec : cd = cd' := by
      obtain ⟨D, fd, a1, a2, a3⟩ := hx.2.2.1
      obtain ⟨D', fd', b1, b2, b3⟩ := hy.2.2.1
      cases a1.symm.trans b1
      obtain ⟨q1, q2, q3, q4⟩ := a2.1
      obtain ⟨r1, r2, r3, r4⟩ := b2.1
      cases q4.symm.trans r4
      cases a3.symm.trans b3; rfl
    have et : t = t' := by
      obtain ⟨D, fd, a1, a2, a3⟩ := hx.2.1
      obtain ⟨D', fd', b1, b2, b3⟩ := hy.2.1
      cases a1.symm.trans b1
      obtain ⟨q1, q2, q3, q4⟩ := a2.1
      obtain ⟨r1, r2, r3, r4⟩ := b2.1
      cases q4.symm.trans r4
      cases a3.symm.trans b3; rfl
    subst ec et
    have ev : V = V' := by cases hx.2.2.2.1.1.symm.trans hy.2.2.2.1.1; rfl
    subst ev
    have hs : SameT n f k g := (Cod.eqv hx.2.2.2.2.1 hy.2.2.2.2.1 hx.2.2.2.2.2 hy.2.2.2.2.2).mp ⟨rfl, fun _ _ => rfl⟩
    exact ⟨s₁, some (.int 1), _, _, _, X0, rfl, rfl, rfl, (fun h => by cases h), ⟨1, rfl, hh0, Or.inl ⟨rfl, hs⟩⟩, fun fs hl => c2.trans (X0.ireturnOut hexec hret rfl (Or.inr (Or.inl rfl)) (hb hbytes d6) hl)⟩
  · have c2 : Steps p.tables e below (s₁.setTop (entryFrame m #[.ref x, .ref y] 3)) (s₁.setTop (mkF m 8 #[.val (.ref x), .val (.ref y), .unset] [.ref y])) := c1.trans (by
      refine acmpYes X0.here hexec rfl (pc0 := 2) rfl (hb hbytes d2) rfl rfl rfl (by simp [acmp, hxy]) (by decide) rfl ?_
      refine XS.aloadN X0.here hexec rfl (hb hbytes d7) rfl rfl ?_
      exact Steps.refl _)
    obtain ⟨T3, X3, q3, st3⟩ := cinst X0 hexec hown (wk W (.classLink "java/lang/String" 10 "java/lang/String")) (hy.mv X0.warmed.alike hh0).1 (g := (mkF m 8 #[.val (.ref x), .val (.ref y), .unset] [.ref y])) rfl (rest := []) rfl (hb hbytes d8)
    have hh3 := q3.trans hh0
    have c4 : Steps p.tables e below (s₁.setTop (entryFrame m #[.ref x, .ref y] 3)) (T3.setTop (mkF m 15 #[.val (.ref x), .val (.ref y), .unset] [.ref y])) := (c2.trans (st3 _ (Steps.refl _))).trans (by
      refine XS.ifNo X3.here hexec rfl (hb hbytes d11) rfl (i0_eq_f (by decide)) ?_
      refine XS.aloadN X3.here hexec rfl (hb hbytes d14) rfl rfl ?_
      exact Steps.refl _)
    obtain ⟨T5, X5, q5, st5⟩ := cself X3 hexec hown (wk W (.classLink "java/lang/String" 10 "java/lang/String")) (hy.mv X3.warmed.alike hh3).1 (g := (mkF m 15 #[.val (.ref x), .val (.ref y), .unset] [.ref y])) rfl (rest := []) rfl (hb hbytes d15)
    have hh5 := q5.trans hh3
    have c6 : Steps p.tables e below (s₁.setTop (entryFrame m #[.ref x, .ref y] 3)) (T5.setTop (mkF m 19 #[.val (.ref x), .val (.ref y), .val (.ref y)] [])) := (c4.trans (st5 _ (Steps.refl _))).trans (by
      refine XS.astoreN X5.here hexec rfl (hb hbytes d18) rfl rfl rfl ?_
      exact Steps.refl _)
    obtain ⟨T7, X7, q7, st7⟩ := X5.sget hexec hown (wk W (.fieldLink "java/lang/String" 38 "java/lang/String" "COMPACT_STRINGS" "Z")) s1 (fun _ _ h => by rw [hh5]; exact h) (g := (mkF m 19 #[.val (.ref x), .val (.ref y), .val (.ref y)] [])) rfl (hb hbytes d19)
    have hh7 := q7.trans hh5
    have c8 : Steps p.tables e below (s₁.setTop (entryFrame m #[.ref x, .ref y] 3)) (T7.setTop (mkF m 26 #[.val (.ref x), .val (.ref y), .val (.ref y)] [.ref x])) := (c6.trans (st7 _ (Steps.refl _))).trans (by
      refine XS.ifNo X7.here hexec rfl (hb hbytes d22) rfl (i0_eq_f hz) ?_
      refine XS.aloadN X7.here hexec rfl (hb hbytes d25) rfl rfl ?_
      exact Steps.refl _)
    obtain ⟨T9, X9, q9, st9⟩ := X7.hget hexec hown (wk W (.fieldLink "java/lang/String" 15 "java/lang/String" "coder" "B")) (hx.mv X7.warmed.alike hh7).2.2.1 (g := (mkF m 26 #[.val (.ref x), .val (.ref y), .val (.ref y)] [.ref x])) rfl (rest := []) rfl (hb hbytes d26)
    have hh9 := q9.trans hh7
    have c10 : Steps p.tables e below (s₁.setTop (entryFrame m #[.ref x, .ref y] 3)) (T9.setTop (mkF m 30 #[.val (.ref x), .val (.ref y), .val (.ref y)] [.ref y, .int cd])) := (c8.trans (st9 _ (Steps.refl _))).trans (by
      refine XS.aloadN X9.here hexec rfl (hb hbytes d29) rfl rfl ?_
      exact Steps.refl _)
    obtain ⟨T11, X11, q11, st11⟩ := X9.hget hexec hown (wk W (.fieldLink "java/lang/String" 15 "java/lang/String" "coder" "B")) (hy.mv X9.warmed.alike hh9).2.2.1 (g := (mkF m 30 #[.val (.ref x), .val (.ref y), .val (.ref y)] [.ref y, .int cd])) rfl (rest := [.int cd]) rfl (hb hbytes d30)
    have hh11 := q11.trans hh9
    have c12 : Steps p.tables e below (s₁.setTop (entryFrame m #[.ref x, .ref y] 3)) (T11.setTop (mkF m 33 #[.val (.ref x), .val (.ref y), .val (.ref y)] [.int cd', .int cd])) := c10.trans (st11 _ (Steps.refl _))
    by_cases hcd : cd = cd'
    · subst hcd
      have c13 : Steps p.tables e below (s₁.setTop (entryFrame m #[.ref x, .ref y] 3)) (T11.setTop (mkF m 37 #[.val (.ref x), .val (.ref y), .val (.ref y)] [.ref x])) := c12.trans (by
        refine XS.icmpNo X11.here hexec rfl (hb hbytes d33) rfl (ii_ne_f rfl) ?_
        refine XS.aloadN X11.here hexec rfl (hb hbytes d36) rfl rfl ?_
        exact Steps.refl _)
      obtain ⟨T14, X14, q14, st14⟩ := X11.hget hexec hown (wk W (.fieldLink "java/lang/String" 9 "java/lang/String" "value" "[B")) (hx.mv X11.warmed.alike hh11).2.1 (g := (mkF m 37 #[.val (.ref x), .val (.ref y), .val (.ref y)] [.ref x])) rfl (rest := []) rfl (hb hbytes d37)
      have hh14 := q14.trans hh11
      have c15 : Steps p.tables e below (s₁.setTop (entryFrame m #[.ref x, .ref y] 3)) (T14.setTop (mkF m 41 #[.val (.ref x), .val (.ref y), .val (.ref y)] [.ref y, .ref t])) := (c13.trans (st14 _ (Steps.refl _))).trans (by
        refine XS.aloadN X14.here hexec rfl (hb hbytes d40) rfl rfl ?_
        exact Steps.refl _)
      obtain ⟨T16, X16, q16, st16⟩ := X14.hget hexec hown (wk W (.fieldLink "java/lang/String" 9 "java/lang/String" "value" "[B")) (hy.mv X14.warmed.alike hh14).2.1 (g := (mkF m 41 #[.val (.ref x), .val (.ref y), .val (.ref y)] [.ref y, .ref t])) rfl (rest := [.ref t]) rfl (hb hbytes d41)
      have hh16 := q16.trans hh14
      have c17 : Steps p.tables e below (s₁.setTop (entryFrame m #[.ref x, .ref y] 3)) (T16.setTop (mkF m 44 #[.val (.ref x), .val (.ref y), .val (.ref y)] [.ref t', .ref t])) := c15.trans (st16 _ (Steps.refl _))
      obtain ⟨v18, T18, X18, E18, g18⟩ := X16.callS hexec (LEq.law l t V t' V') hown (wks W (staticW "java/lang/String" 541 LEq.yN)) (wk W LEq.tab) (W := 0) (Nat.le_of_ble_eq_true rfl) (Nat.le_of_ble_eq_true rfl) (Nat.le_refl _) (Nat.le_refl _) (g := (mkF m 44 #[.val (.ref x), .val (.ref y), .val (.ref y)] [.ref t', .ref t])) rfl (by rw [hml]; rfl) c17 (argsL := [.ref t, .ref t']) (rest := []) rfl rfl (by show 2 * 0 + 0 ≤ _; decide) (hb hbytes d44) (⟨rfl, hx.2.2.2.1.mv X16.warmed.alike hh16, hx.2.2.2.2.1.ty, hy.2.2.2.1.mv X16.warmed.alike hh16, hy.2.2.2.2.1.ty⟩)
      obtain ⟨v, rfl, q18, hv⟩ := E18
      have iff := Cod.eqv hx.2.2.2.2.1 hy.2.2.2.2.1 hx.2.2.2.2.2 hy.2.2.2.2.2
      rcases hv with ⟨rfl, he⟩ | ⟨rfl, he⟩
      · have c19 : Steps p.tables e below (s₁.setTop (entryFrame m #[.ref x, .ref y] 3)) (T18.setTop (mkF m 55 #[.val (.ref x), .val (.ref y), .val (.ref y)] [.int 1])) := Steps.trans g18 (by
          refine XS.ifNo X18.here hexec rfl (hb hbytes d47) rfl (i0_eq_f (by decide)) ?_
          refine iconstV X18.here hexec rfl 1 (hb hbytes d50) (by decide) ?_
          refine XS.goto X18.here hexec rfl (pc0 := 51) rfl (hb hbytes d51) (by decide) rfl ?_
          exact Steps.refl _)
        exact ⟨T18, some (.int 1), _, _, _, X18, rfl, rfl, rfl, (fun h => by cases h), ⟨1, rfl, q18.trans hh16, Or.inl ⟨rfl, iff.mp he⟩⟩, fun fs hl => c19.trans (X18.ireturnOut hexec hret rfl (Or.inr (Or.inl rfl)) (hb hbytes d55) hl)⟩
      · have c19 : Steps p.tables e below (s₁.setTop (entryFrame m #[.ref x, .ref y] 3)) (T18.setTop (mkF m 55 #[.val (.ref x), .val (.ref y), .val (.ref y)] [.int 0])) := Steps.trans g18 (by
          refine XS.ifYes X18.here hexec rfl (pc0 := 47) rfl (hb hbytes d47) rfl (i0_eq_t rfl) (by decide) rfl ?_
          refine iconstV X18.here hexec rfl 0 (hb hbytes d54) (by decide) ?_
          exact Steps.refl _)
        exact ⟨T18, some (.int 0), _, _, _, X18, rfl, rfl, rfl, (fun h => by cases h), ⟨0, rfl, q18.trans hh16, Or.inr ⟨rfl, fun q => he (iff.mpr q)⟩⟩, fun fs hl => c19.trans (X18.ireturnOut hexec hret rfl (Or.inr (Or.inl rfl)) (hb hbytes d55) hl)⟩
    · have c13 : Steps p.tables e below (s₁.setTop (entryFrame m #[.ref x, .ref y] 3)) (T11.setTop (mkF m 55 #[.val (.ref x), .val (.ref y), .val (.ref y)] [.int 0])) := c12.trans (by
        refine XS.icmpYes X11.here hexec rfl (pc0 := 33) rfl (hb hbytes d33) rfl (ii_ne_t hcd) (by decide) rfl ?_
        refine iconstV X11.here hexec rfl 0 (hb hbytes d54) (by decide) ?_
        exact Steps.refl _)
      exact ⟨T11, some (.int 0), _, _, _, X11, rfl, rfl, rfl, (fun h => by cases h), ⟨0, rfl, hh11, Or.inr ⟨rfl, Cod.dif hx.2.2.2.2.1 hy.2.2.2.2.1 hcd⟩⟩, fun fs hl => c13.trans (X11.ireturnOut hexec hret rfl (Or.inr (Or.inl rfl)) (hb hbytes d55) hl)⟩
theorem pays {l : Launch} {R : Room} {p : Program} {e : Env} {below : List Frame} {s : State} {sargs : Array Value} {len W : Nat} (x t : Addr) (V : Cell) (cd : Int32) (n : Nat) (f : Nat → Int32) (y t' : Addr) (V' : Cell) (cd' : Int32) (k : Nat) (g : Nat → Int32) (z : Int32) (htab : tab.before sargs s = true) (hfr : 2 ≤ R.frames) (hlo : W + 28 ≤ R.locals) :
    Back l R p e below s sargs yN len W (fun A₁ a₁ => A₁.cells + 0 ≤ R.cells ∧ A₁.slots + 0 ≤ R.slots ∧ P x t V cd n f y t' V' cd' k g z a₁ A₁.U) (fun A₁ _ v₁ B₁ => Says01 (SameT n f k g) v₁ A₁.U B₁.U ∧ B₁.locs = A₁.locs ++ [] ∧ B₁.cells = A₁.cells + 0 ∧ B₁.slots = A₁.slots + 0) :=
  (law l x t V cd n f y t' V' cd' k g z).pays htab hfr (by omega)
end SEq
end StrChars
namespace StrChars.Road
open Jvm Sem ClassFile Op Lib Jvm.Stand Jvm.Free Jvm.Free.XT
open Jvm.Lib.Cold (StaticIs)
/-- the words of String.equals(Object) -/
abbrev wordsEq : List Jvm.Cond := [.code SEq.yN SEq.yB 3 (some .boolean), .initialized ST, .classLink ST 10 ST, .fieldLink ST 38 ST "COMPACT_STRINGS" "Z", .fieldLink ST 15 ST "coder" "B", .fieldLink ST 9 ST "value" "[B", .methodLink ST 541 LEq.yN, .static LEq.yN, .code LEq.yN LEq.yB 3 (some .boolean), .initialized "java/lang/StringLatin1"]
theorem tabEq_of {a : Array Value} {s : State} (h : ∀ w ∈ wordsEq, w.before a s = true) : SEq.tab.before a s = true := by
  have hl : LEq.tab.before a s = true := unparts (wk h (.code LEq.yN LEq.yB 3 (some .boolean))) (wks h (.initialized LEq.yN.cls :: LEq.site))
  have q := consq hl h
  exact unparts (wk q (.code SEq.yN SEq.yB 3 (some .boolean))) (wks q (.initialized SEq.yN.cls :: SEq.site))
theorem movedEq {Z s : State} {a0 args : Array Value} (hZ : Z.Warmed39 s.vm) (hw : ∀ d ∈ wordsEq, d.before a0 Z = true) : ∀ d ∈ wordsEq, d.before args s = true := fun d hd => by
  have t : ∀ d ∈ wordsEq, (d.onTables && d.keepsFace) = true := by decide +kernel
  exact RoadKit.mv hZ (hw d hd) (t d hd)
/-- the road's facts of a String, as the laws ask it -/
theorem txt_of {Z U : State} {a0 : Array Value} {kI : Nat} (wi : (Jvm.Cond.instantiable ST kI).before a0 Z = true) (al : Z.vm.Alike U.vm) {x t : Addr} {kb : ClassId} {cs : List Int32} {cd N2 : Int32} {vs : List Value} (E : RoadKit.Exa Z U.heap x ST) (V : RoadKit.Fld Z U.heap x ST "value" "[B" (.ref t)) (C : RoadKit.Fld Z U.heap x ST "coder" "B" (.int cd)) (K : RoadKit.Arv Z U.heap t kb .byte N2 vs (.int 0)) (hc : CodA cs cd N2 vs) (hb : ∀ c ∈ cs, ¬ c < 0 ∧ ¬ (65535 : Int32) < c) (l2 : cs.length ≤ 4000) :
    ∃ A, Txt x t A cd cs.length (fun j => cs.getD j 0) U := by
  obtain ⟨A, K1, K2, K3, K4, K5, K6⟩ := K
  have hcod := hc.cod (by omega) K3 K5
  obtain ⟨D, fV, fC, hB, F1, F2, g1, g2, -, -⟩ := strObj wi al E V C
  exact ⟨A, ⟨_, hB.2.2.1, D, hB.1, rfl, by cases q : D.vm <;> first | rfl | exact absurd q (hB.2.1.2 _)⟩, Has.of hB F1 g1, Has.of hB F2 g2, ⟨K1.1, State.isArrayOf_alike al K1.2.1, K1.2.2, by rcases hcod with ⟨-, q, -⟩ | ⟨-, q, -⟩ <;> omega⟩, hcod, fun j hj => by
    have e : cs.getD j 0 = cs[j] := by simp [List.getD_eq_getElem?_getD, hj]
    show ¬ cs.getD j 0 < 0 ∧ ¬ 65535 < cs.getD j 0
    rw [e]; exact hb _ (List.getElem_mem _)⟩
theorem same_list (cs ds : List Int32) : SameT cs.length (fun j => cs.getD j 0) ds.length (fun j => ds.getD j 0) ↔ cs = ds := by
  constructor
  · rintro ⟨e, q⟩
    refine List.ext_getElem e fun j h1 h2 => ?_
    have := q j h1
    simpa [List.getD_eq_getElem?_getD, h1, h2] using this
  · rintro rfl
    exact ⟨rfl, fun _ _ => rfl⟩
/-- **equals(Object) OF TWO SUCH STRINGS**: 1 just where the chars are the same -/
theorem eqW {p : Program} {l : Launch} {e : Env} {R : Room} {s : State} {args : Array Value} {below : List Frame} {len W : Nat} {Z : State} {a0 : Array Value} {h : Heap} (hZ : Z.Warmed39 s.vm) (hw : ∀ d ∈ wordsEq, d.before a0 Z = true) {kI : Nat} (wi : (Jvm.Cond.instantiable ST kI).before a0 Z = true)
    {x t : Addr} {kb : ClassId} {cs : List Int32} {cd N2 : Int32} {vs : List Value} (E : RoadKit.Exa Z h x ST) (V : RoadKit.Fld Z h x ST "value" "[B" (.ref t)) (C : RoadKit.Fld Z h x ST "coder" "B" (.int cd)) (K : RoadKit.Arv Z h t kb .byte N2 vs (.int 0)) (hc : CodA cs cd N2 vs) (hb : ∀ c ∈ cs, ¬ c < 0 ∧ ¬ (65535 : Int32) < c) (l2 : cs.length ≤ 4000)
    {y t' : Addr} {kb' : ClassId} {ds : List Int32} {cd' N2' : Int32} {vs' : List Value} (E' : RoadKit.Exa Z h y ST) (V' : RoadKit.Fld Z h y ST "value" "[B" (.ref t')) (C' : RoadKit.Fld Z h y ST "coder" "B" (.int cd')) (K' : RoadKit.Arv Z h t' kb' .byte N2' vs' (.int 0)) (hc' : CodA ds cd' N2' vs') (hb' : ∀ c ∈ ds, ¬ c < 0 ∧ ¬ (65535 : Int32) < c) (l2' : ds.length ≤ 4000)
    {z : Int32} (S : RoadKit.Sta Z h ST "COMPACT_STRINGS" "Z" (.int z)) (hz : ¬ z = 0) (hfr : 2 ≤ R.frames) (hlo : W + 28 ≤ R.locals) :
    Back l R p e below s args (⟨"java/lang/String", "equals", "(Ljava/lang/Object;)Z"⟩ : MethodName) len W (fun P a => a = #[.ref x, .ref y] ∧ P.U.heap = h ∧ P.cells + 0 ≤ R.cells ∧ P.slots + 0 ≤ R.slots)
      (fun P _ v B => ∃ L, (((v = some (.int 1) ∧ cs = ds) ∨ (v = some (.int 0) ∧ ¬ cs = ds)) ∧ L = [] ∧ B.U.heap = h) ∧ B.locs = P.locs ++ L ∧ B.cells = P.cells + 0 ∧ B.slots = P.slots + 0) := by
  intro m meth c P g ig mk a X hg hsize hdg hW hn hp'
  obtain ⟨rfl, rfl, r1, r2⟩ := hp'
  have al : Z.vm.Alike P.U.vm := hZ.alike.trans X.warmed.alike
  obtain ⟨A, hx⟩ := txt_of wi al E V C K hc hb l2
  obtain ⟨A', hy⟩ := txt_of wi al E' V' C' K' hc' hb' l2'
  obtain ⟨v, B, X', ⟨⟨w, hv, hh, hq⟩, hl, hk, hs⟩, st⟩ := SEq.pays x t A cd cs.length (fun j => cs.getD j 0) y t' A' cd' ds.length (fun j => ds.getD j 0) z (tabEq_of (movedEq hZ hw)) hfr hlo m meth c P g ig mk _ X hg hsize hdg hW hn ⟨r1, r2, rfl, hx, hy, sta_is al S, hz⟩
  refine ⟨v, B, X', ⟨[], ⟨?_, rfl, hh⟩, hl, hk, hs⟩, st⟩
  rcases hq with ⟨rfl, q⟩ | ⟨rfl, q⟩
  · exact Or.inl ⟨hv, (same_list cs ds).mp q⟩
  · exact Or.inr ⟨hv, fun e => q ((same_list cs ds).mpr e)⟩
end StrChars.Road
namespace StrChars.Road
open Jvm Sem ClassFile Op Lib Jvm.Stand Jvm.Free Jvm.Free.XT
open Jvm.Lib.Cold (StaticIs)
/-- what backV says of its String, as the contracts of this text ask it: cs's low bytes, coder 0 -/
theorem codOf {cs : List Int32} {n : Nat} (hn : cs.length = n) (hb : ∀ c ∈ cs, ¬ 255 < c) : CodA cs 0 (Int32.ofNat n) ((cs.map lo8).map Value.int) := Or.inl ⟨rfl, by rw [hn], by simp [List.map_map, Function.comp_def], hb⟩
end StrChars.Road
end Jvm.Pilot.@@N@@
namespace Jvm.Pilot.@@N@@
open Jvm Jvm.ClassFile Sem Op Lib Jvm.Free Jvm.Stand Jvm.LawKit Jvm.RoadKit Bundle Jvm.Pilot.@@N@@.Jvm.D
section Ow
variable {p : Program} {l : Launch} {e : Env} {R : Room} {s : State} {m : MethodId} {args : Array Value} {below : List Frame} {meth : Method} {c : Code} {T : State} {locs : List Loc} {cells slots : Nat} {code : ByteArray} {pc : Nat} {L : Array Slot} {S : List Value} {tg : State}
theorem o_aconstNull (X : Stand p l e R s m args below meth c T locs cells slots) (hx : p.tables.exec = Jvm.exec) (hby : c.code = code) (d : decode code pc = .ok (.aconst_null, 1)) (r : Steps p.tables e below (T.setTop (mkF m (pc + 1) L (.null :: S))) tg)  : Steps p.tables e below (T.setTop (mkF m pc L (S))) tg := XS.aconstNull X.here hx rfl (hb hby d) r
theorem o_aload (X : Stand p l e R s m args below meth c T locs cells slots) (hx : p.tables.exec = Jvm.exec) (hby : c.code = code) {k : Nat} {v : Value} (d : decode code pc = .ok (.aload k, 2)) (hl : L[k]? = some (.val v)) (hv : v.isRef = true) (r : Steps p.tables e below (T.setTop (mkF m (pc + 2) L (v :: S))) tg)  : Steps p.tables e below (T.setTop (mkF m pc L (S))) tg := XS.aload X.here hx rfl (hb hby d) hl hv r
theorem o_aloadN (X : Stand p l e R s m args below meth c T locs cells slots) (hx : p.tables.exec = Jvm.exec) (hby : c.code = code) {k : Fin 4} {v : Value} (d : decode code pc = .ok (.aload_n k, 1)) (hl : L[k.val]? = some (.val v)) (hv : v.isRef = true) (r : Steps p.tables e below (T.setTop (mkF m (pc + 1) L (v :: S))) tg)  : Steps p.tables e below (T.setTop (mkF m pc L (S))) tg := XS.aloadN X.here hx rfl (hb hby d) hl hv r
theorem o_astore (X : Stand p l e R s m args below meth c T locs cells slots) (hx : p.tables.exec = Jvm.exec) (hby : c.code = code) {k : Nat} {x : Value} {l' : Array Slot} (d : decode code pc = .ok (.astore k, 2)) (hv : x.isRef = true) (hl : storeLocals L k x = some l') (r : Steps p.tables e below (T.setTop (mkF m (pc + 2) l' (S))) tg)  : Steps p.tables e below (T.setTop (mkF m pc L (x :: S))) tg := XS.astore X.here hx rfl (hb hby d) rfl hv hl r
theorem o_astoreN (X : Stand p l e R s m args below meth c T locs cells slots) (hx : p.tables.exec = Jvm.exec) (hby : c.code = code) {k : Fin 4} {x : Value} {l' : Array Slot} (d : decode code pc = .ok (.astore_n k, 1)) (hv : x.isRef = true) (hl : storeLocals L k.val x = some l') (r : Steps p.tables e below (T.setTop (mkF m (pc + 1) l' (S))) tg)  : Steps p.tables e below (T.setTop (mkF m pc L (x :: S))) tg := XS.astoreN X.here hx rfl (hb hby d) rfl hv hl r
theorem o_bipush (X : Stand p l e R s m args below meth c T locs cells slots) (hx : p.tables.exec = Jvm.exec) (hby : c.code = code) {v : Int32} {i : Int} (d : decode code pc = .ok (.bipush i, 2)) (r : Steps p.tables e below (T.setTop (mkF m (pc + 2) L (.int v :: S))) tg) (hv : (Int8.ofInt i).toInt32 = v := by rfl) : Steps p.tables e below (T.setTop (mkF m pc L S)) tg := by subst hv; exact XS.bipush X.here hx rfl (hb hby d) r
theorem o_dup (X : Stand p l e R s m args below meth c T locs cells slots) (hx : p.tables.exec = Jvm.exec) (hby : c.code = code) {x : Value} (d : decode code pc = .ok (.dup, 1)) (hc : x.category = 1) (r : Steps p.tables e below (T.setTop (mkF m (pc + 1) L (x :: x :: S))) tg)  : Steps p.tables e below (T.setTop (mkF m pc L (x :: S))) tg := XS.dup X.here hx rfl (hb hby d) rfl hc r
theorem o_goto (X : Stand p l e R s m args below meth c T locs cells slots) (hx : p.tables.exec = Jvm.exec) (hby : c.code = code) {o : Int} {pc' : Nat} (d : decode code pc = .ok (.goto o, 3)) (r : Steps p.tables e below (T.setTop (mkF m (pc') L (S))) tg) (ho : decide (0 ≤ (pc : Int) + o) = true := by rfl) (hp : ((pc : Int) + o).toNat = pc' := by rfl) : Steps p.tables e below (T.setTop (mkF m pc L (S))) tg := XS.goto X.here hx rfl rfl (hb hby d) (of_decide_eq_true ho) hp r
theorem o_i2c (X : Stand p l e R s m args below meth c T locs cells slots) (hx : p.tables.exec = Jvm.exec) (hby : c.code = code) {v : Int32} (d : decode code pc = .ok (.i2c, 1)) (r : Steps p.tables e below (T.setTop (mkF m (pc + 1) L (.int (v.toUInt32.toUInt16.toUInt32.toInt32) :: S))) tg)  : Steps p.tables e below (T.setTop (mkF m pc L (.int v :: S))) tg := XS.i2c X.here hx rfl (hb hby d) rfl r
theorem o_iadd (X : Stand p l e R s m args below meth c T locs cells slots) (hx : p.tables.exec = Jvm.exec) (hby : c.code = code) {x y : Int32} (d : decode code pc = .ok (.iadd, 1)) (r : Steps p.tables e below (T.setTop (mkF m (pc + 1) L (.int (x + y) :: S))) tg)  : Steps p.tables e below (T.setTop (mkF m pc L (.int y :: .int x :: S))) tg := XS.iadd X.here hx rfl (hb hby d) rfl r
theorem o_iand (X : Stand p l e R s m args below meth c T locs cells slots) (hx : p.tables.exec = Jvm.exec) (hby : c.code = code) {x y : Int32} (d : decode code pc = .ok (.iand, 1)) (r : Steps p.tables e below (T.setTop (mkF m (pc + 1) L (.int (x &&& y) :: S))) tg)  : Steps p.tables e below (T.setTop (mkF m pc L (.int y :: .int x :: S))) tg := XS.iand X.here hx rfl (hb hby d) rfl r
theorem o_icmpNo (X : Stand p l e R s m args below meth c T locs cells slots) (hx : p.tables.exec = Jvm.exec) (hby : c.code = code) {cd : ClassFile.Cond} {o : Int} {x y : Int32} (d : decode code pc = .ok (.if_icmp cd o, 3)) (hc : if_icmp.holds cd x y = false) (r : Steps p.tables e below (T.setTop (mkF m (pc + 3) L (S))) tg)  : Steps p.tables e below (T.setTop (mkF m pc L (.int y :: .int x :: S))) tg := XS.icmpNo X.here hx rfl (hb hby d) rfl hc r
theorem o_icmpYes (X : Stand p l e R s m args below meth c T locs cells slots) (hx : p.tables.exec = Jvm.exec) (hby : c.code = code) {cd : ClassFile.Cond} {x y : Int32} {o : Int} {pc' : Nat} (d : decode code pc = .ok (.if_icmp cd o, 3)) (hc : if_icmp.holds cd x y = true) (r : Steps p.tables e below (T.setTop (mkF m (pc') L (S))) tg) (ho : decide (0 ≤ (pc : Int) + o) = true := by rfl) (hp : ((pc : Int) + o).toNat = pc' := by rfl) : Steps p.tables e below (T.setTop (mkF m pc L (.int y :: .int x :: S))) tg := XS.icmpYes X.here hx rfl rfl (hb hby d) rfl hc (of_decide_eq_true ho) hp r
theorem o_iconst (X : Stand p l e R s m args below meth c T locs cells slots) (hx : p.tables.exec = Jvm.exec) (hby : c.code = code) {v : Int32} {i : Int} (d : decode code pc = .ok (.iconst i, 1)) (r : Steps p.tables e below (T.setTop (mkF m (pc + 1) L (.int v :: S))) tg) (hv : Int32.ofInt i = v := by rfl) : Steps p.tables e below (T.setTop (mkF m pc L S)) tg := by subst hv; exact XS.iconst X.here hx rfl (hb hby d) r
theorem o_ifNo (X : Stand p l e R s m args below meth c T locs cells slots) (hx : p.tables.exec = Jvm.exec) (hby : c.code = code) {cd : ClassFile.Cond} {o : Int} {x : Int32} (d : decode code pc = .ok (.ifCond cd o, 3)) (hc : ifCond.holds cd x = false) (r : Steps p.tables e below (T.setTop (mkF m (pc + 3) L (S))) tg)  : Steps p.tables e below (T.setTop (mkF m pc L (.int x :: S))) tg := XS.ifNo X.here hx rfl (hb hby d) rfl hc r
theorem o_ifYes (X : Stand p l e R s m args below meth c T locs cells slots) (hx : p.tables.exec = Jvm.exec) (hby : c.code = code) {cd : ClassFile.Cond} {x : Int32} {o : Int} {pc' : Nat} (d : decode code pc = .ok (.ifCond cd o, 3)) (hc : ifCond.holds cd x = true) (r : Steps p.tables e below (T.setTop (mkF m (pc') L (S))) tg) (ho : decide (0 ≤ (pc : Int) + o) = true := by rfl) (hp : ((pc : Int) + o).toNat = pc' := by rfl) : Steps p.tables e below (T.setTop (mkF m pc L (.int x :: S))) tg := XS.ifYes X.here hx rfl rfl (hb hby d) rfl hc (of_decide_eq_true ho) hp r
theorem o_ifnonnullYes (X : Stand p l e R s m args below meth c T locs cells slots) (hx : p.tables.exec = Jvm.exec) (hby : c.code = code) {b : Addr} {o : Int} {pc' : Nat} (d : decode code pc = .ok (.ifnonnull o, 3)) (r : Steps p.tables e below (T.setTop (mkF m (pc') L (S))) tg) (ho : decide (0 ≤ (pc : Int) + o) = true := by rfl) (hp : ((pc : Int) + o).toNat = pc' := by rfl) : Steps p.tables e below (T.setTop (mkF m pc L (.ref b :: S))) tg := XS.ifnonnullYes X.here hx rfl rfl (hb hby d) rfl (of_decide_eq_true ho) hp r
theorem o_iload (X : Stand p l e R s m args below meth c T locs cells slots) (hx : p.tables.exec = Jvm.exec) (hby : c.code = code) {k : Nat} {v : Int32} (d : decode code pc = .ok (.iload k, 2)) (hl : L[k]? = some (.val (.int v))) (r : Steps p.tables e below (T.setTop (mkF m (pc + 2) L (.int v :: S))) tg)  : Steps p.tables e below (T.setTop (mkF m pc L (S))) tg := XS.iload X.here hx rfl (hb hby d) hl r
theorem o_iloadN (X : Stand p l e R s m args below meth c T locs cells slots) (hx : p.tables.exec = Jvm.exec) (hby : c.code = code) {k : Fin 4} {v : Int32} (d : decode code pc = .ok (.iload_n k, 1)) (hl : L[k.val]? = some (.val (.int v))) (r : Steps p.tables e below (T.setTop (mkF m (pc + 1) L (.int v :: S))) tg)  : Steps p.tables e below (T.setTop (mkF m pc L (S))) tg := XS.iloadN X.here hx rfl (hb hby d) hl r
theorem o_ishl (X : Stand p l e R s m args below meth c T locs cells slots) (hx : p.tables.exec = Jvm.exec) (hby : c.code = code) {x : Int32} {y : Int32} (d : decode code pc = .ok (.ishl, 1)) (r : Steps p.tables e below (T.setTop (mkF m (pc + 1) L (.int (x <<< (y &&& 31)) :: S))) tg)  : Steps p.tables e below (T.setTop (mkF m pc L (.int y :: .int x :: S))) tg := XS.ishl X.here hx rfl (hb hby d) rfl r
theorem o_ishr (X : Stand p l e R s m args below meth c T locs cells slots) (hx : p.tables.exec = Jvm.exec) (hby : c.code = code) {x : Int32} {y : Int32} (d : decode code pc = .ok (.ishr, 1)) (r : Steps p.tables e below (T.setTop (mkF m (pc + 1) L (.int (x >>> (y &&& 31)) :: S))) tg)  : Steps p.tables e below (T.setTop (mkF m pc L (.int y :: .int x :: S))) tg := XS.ishr X.here hx rfl (hb hby d) rfl r
theorem o_istore (X : Stand p l e R s m args below meth c T locs cells slots) (hx : p.tables.exec = Jvm.exec) (hby : c.code = code) {k : Nat} {x : Int32} {l' : Array Slot} (d : decode code pc = .ok (.istore k, 2)) (hl : storeLocals L k (.int x) = some l') (r : Steps p.tables e below (T.setTop (mkF m (pc + 2) l' (S))) tg)  : Steps p.tables e below (T.setTop (mkF m pc L (.int x :: S))) tg := XS.istore X.here hx rfl (hb hby d) rfl hl r
theorem o_istoreN (X : Stand p l e R s m args below meth c T locs cells slots) (hx : p.tables.exec = Jvm.exec) (hby : c.code = code) {k : Fin 4} {x : Int32} {l' : Array Slot} (d : decode code pc = .ok (.istore_n k, 1)) (hl : storeLocals L k.val (.int x) = some l') (r : Steps p.tables e below (T.setTop (mkF m (pc + 1) l' (S))) tg)  : Steps p.tables e below (T.setTop (mkF m pc L (.int x :: S))) tg := XS.istoreN X.here hx rfl (hb hby d) rfl hl r
theorem o_isub (X : Stand p l e R s m args below meth c T locs cells slots) (hx : p.tables.exec = Jvm.exec) (hby : c.code = code) {x y : Int32} (d : decode code pc = .ok (.isub, 1)) (r : Steps p.tables e below (T.setTop (mkF m (pc + 1) L (.int (x - y) :: S))) tg)  : Steps p.tables e below (T.setTop (mkF m pc L (.int y :: .int x :: S))) tg := XS.isub X.here hx rfl (hb hby d) rfl r
theorem o_pop (X : Stand p l e R s m args below meth c T locs cells slots) (hx : p.tables.exec = Jvm.exec) (hby : c.code = code) {x : Value} (d : decode code pc = .ok (.pop, 1)) (hc : x.category = 1) (r : Steps p.tables e below (T.setTop (mkF m (pc + 1) L (S))) tg)  : Steps p.tables e below (T.setTop (mkF m pc L (x :: S))) tg := XS.pop X.here hx rfl (hb hby d) rfl hc r
end Ow
section Oc
variable {p : Program} {l : Launch} {e : Env} {R : Room} {s u Z : State} {m : MethodId} {args a0 : Array Value} {below : List Frame} {meth : Method} {c : Code} {T : State} {locs : List Loc} {cells slots : Nat} {code : ByteArray} {pc : Nat} {L : Array Slot} {S : List Value} {EL : List (String × Nat)} {QQ : Option Value → Heap → List Loc → Prop} {kk nn : Nat} {own : String} {index : Nat} {y : MethodName} {bytes : ByteArray} {maxL : Nat} {ret : Option FieldType} {rm : Room} {as' : Array Value} {h : Heap} {Q' : Option Value → Heap → List Loc → Prop} {vm0 : Vm} {k0 : Nat}
theorem nfs {C : String} (hZ : Z.Warmed39 u.vm) (w : (Cond.selects C y y).before a0 Z = true) : NotFace u y := notFace_of_selects (args := #[]) (mvT hZ w)
theorem cVS (X : Stand p l e R (s.setVm vm0) m args below meth c T locs cells slots) (hx : p.tables.exec = Jvm.exec) (hS : s.Since vm0 k0) (hk : k0 ≤ h.size) (hZ : Z.Warmed39 (s.setVm vm0).vm) (hown : (s.setVm vm0).vm.findClass own = some m.cls) {y' : MethodName} {C : String} (w1 : (Cond.methodLink own index y').before a0 Z = true) (w2 : (Cond.declares y').before a0 Z = true) (hnf : NotFace (s.setVm vm0) y') (ws : (Cond.selects C y' y).before a0 Z = true) (wi : (Cond.instanceMethod y).before a0 Z = true) (wz : (Cond.initialized y.cls).before a0 Z = true) (wc : (Cond.code y bytes maxL ret).before a0 Z = true) (hM : CtrW l Z EL y bytes maxL ret [] rm as' h Q') (hEL : EW Z a0 EL) (H : CHv Z EL vm0 h) (hby : c.code = code) (d : decode code pc = .ok (.invokevirtual index, 3)) (eT : T.heap = h) {ps : List FieldType} {r : Option FieldType} (pd : parseMethodDescriptor y'.desc = some ⟨ps, r⟩) {argsL rest : List Value} (W : Nat) (hsz : L.size = c.maxLocals) {a : Addr} (E : Exa Z h a C) (q1 : as' = (.ref a :: argsL).toArray) (q2 : argsL.length = ps.length) (q3 : S = argsL.reverse ++ .ref a :: rest) (q4 : (rest.map fun v => v.category).sum = W) (q5 : (y'.cls ≠ "java/lang/invoke/MethodHandle" ∧ y'.cls ≠ "java/lang/invoke/VarHandle") ∧ rm.frames + 1 ≤ R.frames ∧ W + (maxL + 11) + rm.locals ≤ R.locals ∧ cells + rm.cells ≤ R.cells) (q6 : slots + rm.slots ≤ R.slots)
    (K : ∀ v T' Lc, Stand p l e R (s.setVm T'.vm) m args below meth c T' (locs ++ Lc) (cells + rm.cells) (slots + rm.slots) → s.Since T'.vm T'.heap.size → Z.Warmed39 (s.setVm T'.vm).vm → (s.setVm T'.vm).vm.findClass own = some m.cls → Q' v T'.heap Lc → CHr Z EL vm0 h T'.vm T'.heap → OwnGoW p e below s Z EL QQ kk nn (T'.setTop (mkF m (pc + 3) L (v.toList ++ rest)))) : OwnGoW p e below s Z EL QQ kk nn (T.setTop (mkF m pc L S)) := by
  obtain ⟨cq, kq, qa, qb, qc⟩ := isOf hZ eT E
  obtain ⟨v, _, ⟨T', L', k', n'⟩, -, Xq, hSq, gq, ⟨Lc, hQ, l', y', z', rq⟩, st⟩ := X.virtualBackS hx (y := y') (z := y) hown (mvT hZ w1) (mvT hZ w2) hnf (mvT hZ ws) (mvT hZ wi) q5.1 (backCW (W := W) hM hZ wc wz q5.2.1 q5.2.2.1 hEL H) qa qc (g := mkF m pc L S) rfl hsz (Steps.refl _) (argsL := argsL) (rest := rest) (lenOf pd q2) q3 (by show 2 * 0 + _ ≤ _; rw [q4]; omega) (hb hby d) (fun _ _ => ⟨q1.symm, eT, q5.2.2.2, q6⟩)
  dsimp only [Pt.U, Pt.locs, Pt.cells, Pt.slots] at Xq hSq gq rq l' y' z' st hQ
  subst l' y' z'
  obtain ⟨X', hS', hZ', hown'⟩ := rebS hS (Nat.le_trans hk (Nat.le_of_eq (congrArg Array.size eT.symm))) Xq hSq gq hZ hown
  exact gsW (fun _ k => st.trans k) (K _ _ _ X' hS' hZ' hown' hQ rq)
theorem cS (X : Stand p l e R u m args below meth c T locs cells slots) (hx : p.tables.exec = Jvm.exec) (hZ : Z.Warmed39 u.vm) (hown : u.vm.findClass own = some m.cls) (w1 : (Cond.methodLink own index y).before a0 Z = true) (w2 : (Cond.static y).before a0 Z = true) (wz : (Cond.initialized y.cls).before a0 Z = true) (wc : (Cond.code y bytes maxL ret).before a0 Z = true) (hM : Ctr l Z y bytes maxL ret [] rm as' h Q') (hby : c.code = code) (d : decode code pc = .ok (.invokestatic index, 3)) (eT : T.heap = h) {ps : List FieldType} {r : Option FieldType} (pd : parseMethodDescriptor y.desc = some ⟨ps, r⟩) {argsL rest : List Value} (W : Nat) (hsz : L.size = c.maxLocals) (q1 : as' = argsL.toArray) (q2 : argsL.length = ps.length) (q3 : S = argsL.reverse ++ rest) (q4 : (rest.map fun v => v.category).sum = W) (q5 : (y.cls ≠ "java/lang/invoke/MethodHandle" ∧ y.cls ≠ "java/lang/invoke/VarHandle") ∧ rm.frames + 1 ≤ R.frames ∧ W + (maxL + 11) + rm.locals ≤ R.locals ∧ cells + rm.cells ≤ R.cells) (q6 : slots + rm.slots ≤ R.slots)
    (K : ∀ v T' Lc, Stand p l e R u m args below meth c T' (locs ++ Lc) (cells + rm.cells) (slots + rm.slots) → Q' v T'.heap Lc → OwnGo p e below s QQ kk nn (T'.setTop (mkF m (pc + 3) L (v.toList ++ rest)))) : OwnGo p e below s QQ kk nn (T.setTop (mkF m pc L S)) := by
  obtain ⟨v, _, ⟨T', L', k', n'⟩, -, X', ⟨Lc, hQ, l', y', z'⟩, st⟩ := Jvm.LawKit.callS X hx (y := y) hown (mvT hZ w1) (mvT hZ w2) (mvT hZ wz) (mvT hZ wc) q5.1 (backC (W := W) hM hZ wc wz q5.2.1 q5.2.2.1) (g := mkF m pc L S) rfl hsz (argsL := argsL) (rest := rest) (lenOf pd q2) q3 (by show 2 * 0 + _ ≤ _; rw [q4]; omega) (hb hby d) (fun _ _ => ⟨q1.symm, eT, q5.2.2.2, q6⟩)
  dsimp only [Pt.U, Pt.locs, Pt.cells, Pt.slots] at X' l' y' z' st hQ
  subst l' y' z'
  exact gs st (K _ _ _ X' hQ)
theorem cI (X : Stand p l e R u m args below meth c T locs cells slots) (hx : p.tables.exec = Jvm.exec) (hZ : Z.Warmed39 u.vm) (hown : u.vm.findClass own = some m.cls) (hy1 : y.name = "<init>") (w1 : (Cond.methodLink own index y).before a0 Z = true) (w2 : (Cond.instanceMethod y).before a0 Z = true) (wz : (Cond.initialized y.cls).before a0 Z = true) (wc : (Cond.code y bytes maxL none).before a0 Z = true) (hM : Ctr l Z y bytes maxL none [] rm as' h Q') (hby : c.code = code) (d : decode code pc = .ok (.invokespecial index, 3)) (eT : T.heap = h) {ps : List FieldType} {r : Option FieldType} (pd : parseMethodDescriptor y.desc = some ⟨ps, r⟩) {argsL rest : List Value} (W : Nat) (hsz : L.size = c.maxLocals) {a : Addr} (q1 : as' = (.ref a :: argsL).toArray) (q2 : argsL.length = ps.length) (q3 : S = argsL.reverse ++ .ref a :: rest) (q4 : (rest.map fun v => v.category).sum = W) (q5 : (y.cls ≠ "java/lang/invoke/MethodHandle" ∧ y.cls ≠ "java/lang/invoke/VarHandle") ∧ rm.frames + 1 ≤ R.frames ∧ W + (maxL + 11) + rm.locals ≤ R.locals ∧ cells + rm.cells ≤ R.cells) (q6 : slots + rm.slots ≤ R.slots)
    (K : ∀ v T' Lc, Stand p l e R u m args below meth c T' (locs ++ Lc) (cells + rm.cells) (slots + rm.slots) → Q' v T'.heap Lc → OwnGo p e below s QQ kk nn (T'.setTop (mkF m (pc + 3) L (v.toList ++ rest)))) : OwnGo p e below s QQ kk nn (T.setTop (mkF m pc L S)) := by
  obtain ⟨v, _, ⟨T', L', k', n'⟩, -, X', ⟨Lc, hQ, l', y', z'⟩, st⟩ := X.specialBack hx (y := y) hy1 hown (mvT hZ w1) (mvT hZ w2) (mvT hZ wc) q5.1 (backC (W := W) hM hZ wc wz q5.2.1 q5.2.2.1) (g := mkF m pc L S) rfl hsz (Steps.refl _) (a := a) (argsL := argsL) (rest := rest) (lenOf pd q2) q3 (by show 2 * 0 + _ ≤ _; rw [q4]; omega) (hb hby d) (fun _ _ => ⟨q1.symm, eT, q5.2.2.2, q6⟩)
  dsimp only [Pt.U, Pt.locs, Pt.cells, Pt.slots] at X' l' y' z' st hQ
  subst l' y' z'
  exact gs (fun _ k => st.trans k) (K _ _ _ X' hQ)
theorem cV (X : Stand p l e R u m args below meth c T locs cells slots) (hx : p.tables.exec = Jvm.exec) (hZ : Z.Warmed39 u.vm) (hown : u.vm.findClass own = some m.cls) {y' : MethodName} {C : String} (w1 : (Cond.methodLink own index y').before a0 Z = true) (w2 : (Cond.declares y').before a0 Z = true) (hnf : NotFace u y') (ws : (Cond.selects C y' y).before a0 Z = true) (wi : (Cond.instanceMethod y).before a0 Z = true) (wz : (Cond.initialized y.cls).before a0 Z = true) (wc : (Cond.code y bytes maxL ret).before a0 Z = true) (hM : Ctr l Z y bytes maxL ret [] rm as' h Q') (hby : c.code = code) (d : decode code pc = .ok (.invokevirtual index, 3)) (eT : T.heap = h) {ps : List FieldType} {r : Option FieldType} (pd : parseMethodDescriptor y'.desc = some ⟨ps, r⟩) {argsL rest : List Value} (W : Nat) (hsz : L.size = c.maxLocals) {a : Addr} (E : Exa Z h a C) (q1 : as' = (.ref a :: argsL).toArray) (q2 : argsL.length = ps.length) (q3 : S = argsL.reverse ++ .ref a :: rest) (q4 : (rest.map fun v => v.category).sum = W) (q5 : (y'.cls ≠ "java/lang/invoke/MethodHandle" ∧ y'.cls ≠ "java/lang/invoke/VarHandle") ∧ rm.frames + 1 ≤ R.frames ∧ W + (maxL + 11) + rm.locals ≤ R.locals ∧ cells + rm.cells ≤ R.cells) (q6 : slots + rm.slots ≤ R.slots)
    (K : ∀ v T' Lc, Stand p l e R u m args below meth c T' (locs ++ Lc) (cells + rm.cells) (slots + rm.slots) → Q' v T'.heap Lc → OwnGo p e below s QQ kk nn (T'.setTop (mkF m (pc + 3) L (v.toList ++ rest)))) : OwnGo p e below s QQ kk nn (T.setTop (mkF m pc L S)) := by
  obtain ⟨cq, kq, qa, qb, qc⟩ := isOf hZ eT E
  obtain ⟨v, _, ⟨T', L', k', n'⟩, -, X', ⟨Lc, hQ, l', y', z'⟩, st⟩ := X.virtualBack hx (y := y') (z := y) hown (mvT hZ w1) (mvT hZ w2) hnf (mvT hZ ws) (mvT hZ wi) q5.1 (backC (W := W) hM hZ wc wz q5.2.1 q5.2.2.1) qa qc (g := mkF m pc L S) rfl hsz (Steps.refl _) (argsL := argsL) (rest := rest) (lenOf pd q2) q3 (by show 2 * 0 + _ ≤ _; rw [q4]; omega) (hb hby d) (fun _ _ => ⟨q1.symm, eT, q5.2.2.2, q6⟩)
  dsimp only [Pt.U, Pt.locs, Pt.cells, Pt.slots] at X' l' y' z' st hQ
  subst l' y' z'
  exact gs (fun _ k => st.trans k) (K _ _ _ X' hQ)
theorem gF (X : Stand p l e R u m args below meth c T locs cells slots) (hx : p.tables.exec = Jvm.exec) (hZ : Z.Warmed39 u.vm) (hown : u.vm.findClass own = some m.cls) {R0 O n d' host : String} (w : (Cond.fieldLink own index R0 n d').before a0 Z = true ∨ (Cond.fieldLinkNest own index R0 n d' host).before a0 Z = true) (via : Via Z R0 O n d') (eT : T.heap = h) {a : Addr} {v : Value} (F : Fld Z h a O n d' v) (hby : c.code = code) (d : decode code pc = .ok (.getfield index, 3)) (K : ∀ T', Stand p l e R u m args below meth c T' locs cells slots → T'.heap = h → OwnGo p e below s QQ kk nn (T'.setTop (mkF m (pc + 3) L (v :: S)))) : OwnGo p e below s QQ kk nn (T.setTop (mkF m pc L (.ref a :: S))) := by
  obtain ⟨T', X', e', st⟩ := getF X hx hZ hown w via eT F (g := mkF m pc L (.ref a :: S)) rfl rfl (hb hby d)
  exact gs st (K _ X' e')
theorem gS (X : Stand p l e R u m args below meth c T locs cells slots) (hx : p.tables.exec = Jvm.exec) (hZ : Z.Warmed39 u.vm) (hown : u.vm.findClass own = some m.cls) {R0 O n d' host : String} (w : (Cond.fieldLink own index R0 n d').before a0 Z = true ∨ (Cond.fieldLinkNest own index R0 n d' host).before a0 Z = true) (via : Via Z R0 O n d') (eT : T.heap = h) {v : Value} (F : Sta Z h O n d' v) (hby : c.code = code) (d : decode code pc = .ok (.getstatic index, 3)) (K : ∀ T', Stand p l e R u m args below meth c T' locs cells slots → T'.heap = h → OwnGo p e below s QQ kk nn (T'.setTop (mkF m (pc + 3) L (v :: S)))) : OwnGo p e below s QQ kk nn (T.setTop (mkF m pc L S)) := by
  obtain ⟨T', X', e', st⟩ := getS2 X hx hZ hown w via eT F (g := mkF m pc L S) rfl (hb hby d)
  exact gs st (K _ X' e')
theorem cP (X : Stand p l e R u m args below meth c T locs cells slots) (hx : p.tables.exec = Jvm.exec) (hZ : Z.Warmed39 u.vm) (hown : u.vm.findClass own = some m.cls) (w1 : (Cond.methodLink own index y).before a0 Z = true) (w2 : (Cond.sameMethod y.cls y.cls y.name y.desc).before a0 Z = true) (w3 : (Cond.instanceMethod y).before a0 Z = true) (w4 : (Cond.superclass own y.cls).before a0 Z = true) (wz : (Cond.initialized y.cls).before a0 Z = true) (wc : (Cond.code y bytes maxL ret).before a0 Z = true) (hM : Ctr l Z y bytes maxL ret [] rm as' h Q') (hby : c.code = code) (d : decode code pc = .ok (.invokespecial index, 3)) (eT : T.heap = h) {ps : List FieldType} {r : Option FieldType} (pd : parseMethodDescriptor y.desc = some ⟨ps, r⟩) {argsL rest : List Value} (W : Nat) (hsz : L.size = c.maxLocals) {a : Addr} {C : String} (E : Exa Z h a C) (q1 : as' = (.ref a :: argsL).toArray) (q2 : argsL.length = ps.length) (q3 : S = argsL.reverse ++ .ref a :: rest) (q4 : (rest.map fun v => v.category).sum = W) (q5 : y.name ≠ "<init>" ∧ rm.frames + 1 ≤ R.frames ∧ W + (maxL + 11) + rm.locals ≤ R.locals ∧ cells + rm.cells ≤ R.cells) (q6 : slots + rm.slots ≤ R.slots)
    (K : ∀ v T' Lc, Stand p l e R u m args below meth c T' (locs ++ Lc) (cells + rm.cells) (slots + rm.slots) → Q' v T'.heap Lc → OwnGo p e below s QQ kk nn (T'.setTop (mkF m (pc + 3) L (v.toList ++ rest)))) : OwnGo p e below s QQ kk nn (T.setTop (mkF m pc L S)) := by
  obtain ⟨v, _, ⟨T', L', k', n'⟩, -, X', ⟨Lc, hQ, l', y', z'⟩, st⟩ := superBack X hx hZ (y := y) hown w1 w2 w3 w4 q5.1 (backC (W := W) hM hZ wc wz q5.2.1 q5.2.2.1) eT (Ins.self E) (g := mkF m pc L S) rfl hsz wc (argsL := argsL) (rest := rest) (lenOf pd q2) q3 (by show 2 * 0 + _ ≤ _; rw [q4]; omega) (hb hby d) (fun _ _ => ⟨q1.symm, eT, q5.2.2.2, q6⟩)
  dsimp only [Pt.U, Pt.locs, Pt.cells, Pt.slots] at X' l' y' z' st hQ
  subst l' y' z'
  exact gs (fun _ k => st.trans k) (K _ _ _ X' hQ)
theorem cSW (X : Stand p l e R u m args below meth c T locs cells slots) (hx : p.tables.exec = Jvm.exec) (hZ : Z.Warmed39 u.vm) (hown : u.vm.findClass own = some m.cls) (w1 : (Cond.methodLink own index y).before a0 Z = true) (w2 : (Cond.static y).before a0 Z = true) (wz : (Cond.initialized y.cls).before a0 Z = true) (wc : (Cond.code y bytes maxL ret).before a0 Z = true) (hM : Ctr l Z y bytes maxL ret [] rm as' h Q') (hby : c.code = code) (d : decode code pc = .ok (.invokestatic index, 3)) (eT : T.heap = h) {ps : List FieldType} {r : Option FieldType} (pd : parseMethodDescriptor y.desc = some ⟨ps, r⟩) {argsL rest : List Value} (W : Nat) (hsz : L.size = c.maxLocals) (q1 : as' = argsL.toArray) (q2 : argsL.length = ps.length) (q3 : S = argsL.reverse ++ rest) (q4 : (rest.map fun v => v.category).sum = W) (q5 : (y.cls ≠ "java/lang/invoke/MethodHandle" ∧ y.cls ≠ "java/lang/invoke/VarHandle") ∧ rm.frames + 1 ≤ R.frames ∧ W + (maxL + 11) + rm.locals ≤ R.locals ∧ cells + rm.cells ≤ R.cells) (q6 : slots + rm.slots ≤ R.slots)
    (K : ∀ v T' Lc, Stand p l e R u m args below meth c T' (locs ++ Lc) (cells + rm.cells) (slots + rm.slots) → Q' v T'.heap Lc → OwnGoW p e below s Z EL QQ kk nn (T'.setTop (mkF m (pc + 3) L (v.toList ++ rest)))) : OwnGoW p e below s Z EL QQ kk nn (T.setTop (mkF m pc L S)) := by
  obtain ⟨v, _, ⟨T', L', k', n'⟩, -, X', ⟨Lc, hQ, l', y', z'⟩, st⟩ := Jvm.LawKit.callS X hx (y := y) hown (mvT hZ w1) (mvT hZ w2) (mvT hZ wz) (mvT hZ wc) q5.1 (backC (W := W) hM hZ wc wz q5.2.1 q5.2.2.1) (g := mkF m pc L S) rfl hsz (argsL := argsL) (rest := rest) (lenOf pd q2) q3 (by show 2 * 0 + _ ≤ _; rw [q4]; omega) (hb hby d) (fun _ _ => ⟨q1.symm, eT, q5.2.2.2, q6⟩)
  dsimp only [Pt.U, Pt.locs, Pt.cells, Pt.slots] at X' l' y' z' st hQ
  subst l' y' z'
  exact gsW st (K _ _ _ X' hQ)
theorem cIW (X : Stand p l e R u m args below meth c T locs cells slots) (hx : p.tables.exec = Jvm.exec) (hZ : Z.Warmed39 u.vm) (hown : u.vm.findClass own = some m.cls) (hy1 : y.name = "<init>") (w1 : (Cond.methodLink own index y).before a0 Z = true) (w2 : (Cond.instanceMethod y).before a0 Z = true) (wz : (Cond.initialized y.cls).before a0 Z = true) (wc : (Cond.code y bytes maxL none).before a0 Z = true) (hM : Ctr l Z y bytes maxL none [] rm as' h Q') (hby : c.code = code) (d : decode code pc = .ok (.invokespecial index, 3)) (eT : T.heap = h) {ps : List FieldType} {r : Option FieldType} (pd : parseMethodDescriptor y.desc = some ⟨ps, r⟩) {argsL rest : List Value} (W : Nat) (hsz : L.size = c.maxLocals) {a : Addr} (q1 : as' = (.ref a :: argsL).toArray) (q2 : argsL.length = ps.length) (q3 : S = argsL.reverse ++ .ref a :: rest) (q4 : (rest.map fun v => v.category).sum = W) (q5 : (y.cls ≠ "java/lang/invoke/MethodHandle" ∧ y.cls ≠ "java/lang/invoke/VarHandle") ∧ rm.frames + 1 ≤ R.frames ∧ W + (maxL + 11) + rm.locals ≤ R.locals ∧ cells + rm.cells ≤ R.cells) (q6 : slots + rm.slots ≤ R.slots)
    (K : ∀ v T' Lc, Stand p l e R u m args below meth c T' (locs ++ Lc) (cells + rm.cells) (slots + rm.slots) → Q' v T'.heap Lc → OwnGoW p e below s Z EL QQ kk nn (T'.setTop (mkF m (pc + 3) L (v.toList ++ rest)))) : OwnGoW p e below s Z EL QQ kk nn (T.setTop (mkF m pc L S)) := by
  obtain ⟨v, _, ⟨T', L', k', n'⟩, -, X', ⟨Lc, hQ, l', y', z'⟩, st⟩ := X.specialBack hx (y := y) hy1 hown (mvT hZ w1) (mvT hZ w2) (mvT hZ wc) q5.1 (backC (W := W) hM hZ wc wz q5.2.1 q5.2.2.1) (g := mkF m pc L S) rfl hsz (Steps.refl _) (a := a) (argsL := argsL) (rest := rest) (lenOf pd q2) q3 (by show 2 * 0 + _ ≤ _; rw [q4]; omega) (hb hby d) (fun _ _ => ⟨q1.symm, eT, q5.2.2.2, q6⟩)
  dsimp only [Pt.U, Pt.locs, Pt.cells, Pt.slots] at X' l' y' z' st hQ
  subst l' y' z'
  exact gsW (fun _ k => st.trans k) (K _ _ _ X' hQ)
theorem cVW (X : Stand p l e R u m args below meth c T locs cells slots) (hx : p.tables.exec = Jvm.exec) (hZ : Z.Warmed39 u.vm) (hown : u.vm.findClass own = some m.cls) {y' : MethodName} {C : String} (w1 : (Cond.methodLink own index y').before a0 Z = true) (w2 : (Cond.declares y').before a0 Z = true) (hnf : NotFace u y') (ws : (Cond.selects C y' y).before a0 Z = true) (wi : (Cond.instanceMethod y).before a0 Z = true) (wz : (Cond.initialized y.cls).before a0 Z = true) (wc : (Cond.code y bytes maxL ret).before a0 Z = true) (hM : Ctr l Z y bytes maxL ret [] rm as' h Q') (hby : c.code = code) (d : decode code pc = .ok (.invokevirtual index, 3)) (eT : T.heap = h) {ps : List FieldType} {r : Option FieldType} (pd : parseMethodDescriptor y'.desc = some ⟨ps, r⟩) {argsL rest : List Value} (W : Nat) (hsz : L.size = c.maxLocals) {a : Addr} (E : Exa Z h a C) (q1 : as' = (.ref a :: argsL).toArray) (q2 : argsL.length = ps.length) (q3 : S = argsL.reverse ++ .ref a :: rest) (q4 : (rest.map fun v => v.category).sum = W) (q5 : (y'.cls ≠ "java/lang/invoke/MethodHandle" ∧ y'.cls ≠ "java/lang/invoke/VarHandle") ∧ rm.frames + 1 ≤ R.frames ∧ W + (maxL + 11) + rm.locals ≤ R.locals ∧ cells + rm.cells ≤ R.cells) (q6 : slots + rm.slots ≤ R.slots)
    (K : ∀ v T' Lc, Stand p l e R u m args below meth c T' (locs ++ Lc) (cells + rm.cells) (slots + rm.slots) → Q' v T'.heap Lc → OwnGoW p e below s Z EL QQ kk nn (T'.setTop (mkF m (pc + 3) L (v.toList ++ rest)))) : OwnGoW p e below s Z EL QQ kk nn (T.setTop (mkF m pc L S)) := by
  obtain ⟨cq, kq, qa, qb, qc⟩ := isOf hZ eT E
  obtain ⟨v, _, ⟨T', L', k', n'⟩, -, X', ⟨Lc, hQ, l', y', z'⟩, st⟩ := X.virtualBack hx (y := y') (z := y) hown (mvT hZ w1) (mvT hZ w2) hnf (mvT hZ ws) (mvT hZ wi) q5.1 (backC (W := W) hM hZ wc wz q5.2.1 q5.2.2.1) qa qc (g := mkF m pc L S) rfl hsz (Steps.refl _) (argsL := argsL) (rest := rest) (lenOf pd q2) q3 (by show 2 * 0 + _ ≤ _; rw [q4]; omega) (hb hby d) (fun _ _ => ⟨q1.symm, eT, q5.2.2.2, q6⟩)
  dsimp only [Pt.U, Pt.locs, Pt.cells, Pt.slots] at X' l' y' z' st hQ
  subst l' y' z'
  exact gsW (fun _ k => st.trans k) (K _ _ _ X' hQ)
theorem gFW (X : Stand p l e R u m args below meth c T locs cells slots) (hx : p.tables.exec = Jvm.exec) (hZ : Z.Warmed39 u.vm) (hown : u.vm.findClass own = some m.cls) {R0 O n d' host : String} (w : (Cond.fieldLink own index R0 n d').before a0 Z = true ∨ (Cond.fieldLinkNest own index R0 n d' host).before a0 Z = true) (via : Via Z R0 O n d') (eT : T.heap = h) {a : Addr} {v : Value} (F : Fld Z h a O n d' v) (hby : c.code = code) (d : decode code pc = .ok (.getfield index, 3)) (K : ∀ T', Stand p l e R u m args below meth c T' locs cells slots → T'.heap = h → OwnGoW p e below s Z EL QQ kk nn (T'.setTop (mkF m (pc + 3) L (v :: S)))) : OwnGoW p e below s Z EL QQ kk nn (T.setTop (mkF m pc L (.ref a :: S))) := by
  obtain ⟨T', X', e', st⟩ := getF X hx hZ hown w via eT F (g := mkF m pc L (.ref a :: S)) rfl rfl (hb hby d)
  exact gsW st (K _ X' e')
end Oc
abbrev my0 : MethodName := ⟨"java/lang/String", "<init>", "([C)V"⟩
abbrev my1 : MethodName := ⟨"java/lang/String", "length", "()I"⟩
abbrev my2 : MethodName := ⟨"java/lang/String", "equals", "(Ljava/lang/Object;)Z"⟩
abbrev my3 : MethodName := ⟨"java/lang/Math", "min", "(II)I"⟩
abbrev my4 : MethodName := ⟨"java/lang/Math", "max", "(II)I"⟩
abbrev my5 : MethodName := ⟨"java/lang/String", "getBytes", "([BIB)V"⟩
abbrev my6 : MethodName := ⟨"java/lang/AbstractStringBuilder", "putStringAt", "(ILjava/lang/String;)V"⟩
abbrev my7 : MethodName := ⟨"java/lang/AbstractStringBuilder", "ensureCapacityInternal", "(I)V"⟩
abbrev my8 : MethodName := ⟨"java/lang/AbstractStringBuilder", "append", "(Ljava/lang/String;)Ljava/lang/AbstractStringBuilder;"⟩
abbrev my9 : MethodName := ⟨"java/lang/StringBuilder", "append", "(Ljava/lang/String;)Ljava/lang/StringBuilder;"⟩
abbrev my10 : MethodName := ⟨"com/example/strict_resources/strictresources/core/MediaTypeIsJsonApiPinLaw", "full", "(Z)[C"⟩
abbrev my11 : MethodName := ⟨"com/example/strict_resources/strictresources/core/MediaTypeIsJsonApiPinLaw", "longer", "(Z)[C"⟩
abbrev my12 : MethodName := ⟨"com/example/strict_resources/strictresources/core/MediaTypeIsJsonApiPinLaw", "shorter", "(Z)[C"⟩
abbrev my13 : MethodName := ⟨"com/example/strict_resources/strictresources/core/MediaTypeIsJsonApiPinLaw", "make", "(ZIII)Ljava/lang/String;"⟩
abbrev my14 : MethodName := ⟨"com/example/strict_resources/strictresources/core/MediaTypeIsJsonApiPinLaw", "matches", "(ZIII)Z"⟩
abbrev HW (Z : State) (a0 : Array Value) : Prop := ∀ d ∈ tables_1, d.before a0 Z = true
abbrev PS0 (Z : State) (q : Value) : Prop := Sta Z Z.heap "java/lang/String" "COMPACT_STRINGS" "Z" q
theorem own_w0 {a b : Nat} (h : a = b) : a ≤ b := Nat.le_of_eq h
abbrev uu : Slot := .unset
theorem nt {a b c : Nat} (h : a ≤ b) (k : b ≤ c) : a ≤ c := Nat.le_trans h k
theorem nu {a b c : Nat} (h : a < b) (k : b ≤ c) : a < c := Nat.lt_of_lt_of_le h k
theorem nw {a b : Nat} (h : a < b) : a ≠ b := Nat.ne_of_lt h
theorem nb {a b : Nat} (h : Nat.ble a b = true) : a ≤ b := Nat.le_of_ble_eq_true h
theorem ow {Z : State} {a0 : Array Value} (hw : HW Z a0) (i : Nat) {d : Jvm.Cond} (q : tables_1[i]? = some d) : d.before a0 Z = true := hw d (List.mem_of_getElem? q)
def own_EL : List (String × Nat) := [("com/example/strict_resources/strictresources/core/MediaType", 69), ("com/example/strict_resources/strictresources/core/MediaType", 77)]
theorem own_EW {Z : State} {a0 : Array Value} (hw : HW Z a0) : EW Z a0 own_EL := (EW.cons (ow hw 132 rfl) (by decide) (EW.cons (ow hw 197 rfl) (by decide) EW.nil))
theorem own_wS {Z : State} {a0 : Array Value} (hw : HW Z a0) : ∀ a ∈ Bundle.stringAtoms, a.before a0 Z = true := fun d hd => hw d ((by decide +kernel : ∀ d ∈ Bundle.stringAtoms, d ∈ tables_1) d hd)
theorem own_narc (x : Int32) : nar .char (x.toUInt32.toUInt16.toUInt32.toInt32) = x.toUInt32.toUInt16.toUInt32.toInt32 := by
  show (x.toUInt32.toUInt16.toUInt32.toInt32).toUInt32.toUInt16.toUInt32.toInt32 = _
  simp only [UInt32.toUInt32_toInt32, UInt16.toUInt16_toUInt32]
theorem own_narb (x : Int32) : nar .byte (x.toInt8.toInt32) = x.toInt8.toInt32 := by
  show (x.toInt8.toInt32).toInt8.toInt32 = _
  simp
theorem own_ci (x : Int32) : ¬ (x &&& (255 : Int32)).toUInt32.toUInt16.toUInt32.toInt32 < 0 ∧ ¬ (255 : Int32) < (x &&& (255 : Int32)).toUInt32.toUInt16.toUInt32.toInt32 := by
  have h := c_i2c (x &&& (255 : Int32)); have h2 := c_and x 255 (by decide)
  have e : (255 : Int32).toInt = 255 := by decide
  have z : (0 : Int32).toInt = 0 := by decide
  simp only [Int32.lt_iff_toInt_lt]
  omega


/-- a String at a spells cs (each 0 to 255) -/
def Str (Z : State) (h : Heap) (a : Addr) (cs : List Int32) : Prop := ∃ (t : Addr) (kb : ClassId), Exa Z h a "java/lang/String" ∧ Fld Z h a "java/lang/String" "coder" "B" (.int 0) ∧ Fld Z h a "java/lang/String" "value" "[B" (.ref t) ∧ Arv Z h t kb .byte (Int32.ofNat cs.length) ((cs.map (fun c => c.toInt8.toInt32)).map Value.int) (.int 0)
theorem Str.exa {Z : State} {h : Heap} {a : Addr} {cs : List Int32} (F : Str Z h a cs) : Exa Z h a "java/lang/String" := by obtain ⟨t, kb, E, -⟩ := F; exact E
theorem Str.lt {Z : State} {h : Heap} {a : Addr} {cs : List Int32} (F : Str Z h a cs) : a < h.size := F.exa.lt
theorem Str.ext {Z : State} {h h' : Heap} {a : Addr} {cs : List Int32} (F : Str Z h a cs) (E : Ext h h') : Str Z h' a cs := by obtain ⟨t, kb, x, c, v, k⟩ := F; exact ⟨t, kb, x.ext E, c.ext E, v.ext E, k.ext E⟩
theorem Str.keep0 {Z : State} {h h' : Heap} {a : Addr} {cs : List Int32} (F : Str Z h a cs) (K : Keep h h' []) : Str Z h' a cs := by obtain ⟨t, kb, x, c, v, k⟩ := F; exact ⟨t, kb, x.keep K, c.keep K nin0, v.keep K nin0, k.keep K nin0⟩
theorem Str.keepE {Z : State} {h h' : Heap} {a b : Addr} {C : String} {cs : List Int32} (F : Str Z h a cs) (K : Keep h h' [b]) (E : Exa Z h b C) (hC : C ≠ "java/lang/String") {a0 : Array Value} {n : Nat} (w : (Cond.instantiable C n).before a0 Z = true) : Str Z h' a cs := by
  obtain ⟨t, kb, x, c, v, k⟩ := F
  have n1 : a ≠ b := Ne.symm (Exa.ne E x hC)
  have n2 : t ≠ b := Ne.symm (Exa.neArv E k w)
  exact ⟨t, kb, x.keep K, c.keep K (ninS n1 nin0), v.keep K (ninS n1 nin0), k.keep K (ninS n2 nin0)⟩
theorem Str.wrE {Z : State} {h h' : Heap} {a b : Addr} {C : String} {cs : List Int32} {sl : Nat} {v : Value} (F : Str Z h a cs) (W : Wr h h' b sl v) (E : Exa Z h b C) (hC : C ≠ "java/lang/String") {a0 : Array Value} {n : Nat} (w : (Cond.instantiable C n).before a0 Z = true) : Str Z h' a cs := F.keepE (Keep.of_wr W) E hC w
theorem own_up {cs : List Int32} (hb : ∀ c ∈ cs, ¬ c < 0 ∧ ¬ (255 : Int32) < c) : ∀ c ∈ cs, ¬ c < 0 ∧ ¬ (65535 : Int32) < c := fun c hc => by
  have h := hb c hc
  have e1 : (255 : Int32).toInt = 255 := by decide
  have e2 : (65535 : Int32).toInt = 65535 := by decide
  simp only [Int32.lt_iff_toInt_lt] at h ⊢
  omega

theorem own_lenB {p : Program} {l : Launch} {e : Env} {R : Room} {s : State} {args : Array Value} {below : List Frame} {len W : Nat} {Z : State} {a0 : Array Value} {h : Heap} {x : Addr} {cs : List Int32} {z : Int32} (hZ : Z.Warmed39 s.vm) (hw : HW Z a0) (F : Str Z h x cs) (hb : ∀ c ∈ cs, ¬ c < 0 ∧ ¬ (255 : Int32) < c)
    (S : Sta Z h "java/lang/String" "COMPACT_STRINGS" "Z" (.int z)) (hz : ¬ z = 0) (l2 : cs.length ≤ 4000) (hfr : 2 ≤ R.frames) (hlo : W + 25 ≤ R.locals) :
    Back l R p e below s args my1 len W (fun P a => a = #[.ref x] ∧ P.U.heap = h ∧ P.cells + 0 ≤ R.cells ∧ P.slots + 0 ≤ R.slots)
      (fun P _ v B => ∃ L, (v = some (.int (Int32.ofNat cs.length)) ∧ L = [] ∧ B.U.heap = h) ∧ B.locs = P.locs ++ L ∧ B.cells = P.cells + 0 ∧ B.slots = P.slots + 0) := by
  obtain ⟨t, kb, E, C, V, K⟩ := F
  exact StrChars.Road.lenW hZ (fun d hd => hw d ((by decide +kernel : ∀ d ∈ StrChars.Road.wordsLen, d ∈ tables_1) d hd)) (kI := 4) (ow hw 8 rfl) E V C K (StrChars.Road.codOf rfl fun c hc => (hb c hc).2) (own_up hb) S hz l2 hfr hlo

theorem own_eqB {p : Program} {l : Launch} {e : Env} {R : Room} {s : State} {args : Array Value} {below : List Frame} {len W : Nat} {Z : State} {a0 : Array Value} {h : Heap} {x y : Addr} {cs ds : List Int32} {z : Int32} (hZ : Z.Warmed39 s.vm) (hw : HW Z a0) (F : Str Z h x cs) (hb : ∀ c ∈ cs, ¬ c < 0 ∧ ¬ (255 : Int32) < c) (l2 : cs.length ≤ 4000) (F' : Str Z h y ds) (hb' : ∀ c ∈ ds, ¬ c < 0 ∧ ¬ (255 : Int32) < c) (l2' : ds.length ≤ 4000)
    (S : Sta Z h "java/lang/String" "COMPACT_STRINGS" "Z" (.int z)) (hz : ¬ z = 0) (hfr : 2 ≤ R.frames) (hlo : W + 28 ≤ R.locals) :
    Back l R p e below s args my2 len W (fun P a => a = #[.ref x, .ref y] ∧ P.U.heap = h ∧ P.cells + 0 ≤ R.cells ∧ P.slots + 0 ≤ R.slots)
      (fun P _ v B => ∃ L, (((v = some (.int 1) ∧ cs = ds) ∨ (v = some (.int 0) ∧ ¬ cs = ds)) ∧ L = [] ∧ B.U.heap = h) ∧ B.locs = P.locs ++ L ∧ B.cells = P.cells + 0 ∧ B.slots = P.slots + 0) := by
  obtain ⟨t, kb, E, C, V, K⟩ := F
  obtain ⟨t', kb', E', C', V', K'⟩ := F'
  exact StrChars.Road.eqW hZ (fun d hd => hw d ((by decide +kernel : ∀ d ∈ StrChars.Road.wordsEq, d ∈ tables_1) d hd)) (kI := 4) (ow hw 8 rfl) E V C K (StrChars.Road.codOf rfl fun c hc => (hb c hc).2) (own_up hb) l2 E' V' C' K' (StrChars.Road.codOf rfl fun c hc => (hb' c hc).2) (own_up hb') l2' S hz hfr hlo

abbrev own_bv (cs : List Int32) : List Value := (cs.map (fun c => c.toInt8.toInt32)).map Value.int
theorem own_bvl (cs : List Int32) : (own_bv cs).length = cs.length := by simp [own_bv]
theorem own_bva (ds cs : List Int32) : own_bv (ds ++ cs) = own_bv ds ++ own_bv cs := by simp [own_bv]
theorem own_n32 {k : Nat} (h : k < 2 ^ 31) : (Int32.ofNat k).toNatClampNeg = k := Int32.toNatClampNeg_ofNat_of_lt h
theorem own_nn32 {k : Nat} (h : k < 2 ^ 31) : ¬ Int32.ofNat k < 0 := fun q => Int32.ofNat_not_neg h q
theorem own_decl {a0 : Array Value} {Z : State} {y : MethodName} {bytes : ByteArray} {maxL : Nat} {ret : Option FieldType} (h : (Cond.instanceMethod y).before a0 Z = true) (hc : (Cond.code y bytes maxL ret).before a0 Z = true) : (Cond.declares y).before a0 Z = true := by
  obtain ⟨mk, methM, hnamed, hmethM, hst, -⟩ := Cond.instanceMethod_spec h
  obtain ⟨m', cM, hm', -, -, -, -, -, -, hsig⟩ := Cond.code_spec hnamed hc
  cases hmethM.symm.trans hm'
  simp [Cond.before, Cond.holds, Cond.value, hnamed, hmethM, hst, hsig]
theorem own_same {a0 : Array Value} {Z : State} {C : String} {y0 y : MethodName} (hs : (Cond.selects C y0 y0).before a0 Z = true) (hi : (Cond.instanceMethod y).before a0 Z = true) (hy : y.cls ≠ "java/lang/invoke/MethodHandle" ∧ y.cls ≠ "java/lang/invoke/VarHandle") (e : y0.cls = y.cls) : (Cond.sameMethod y.cls y.cls y.name y.desc).before a0 Z = true := by
  obtain ⟨mk, methM, hnamed, -, -, -⟩ := Cond.instanceMethod_spec hi
  obtain ⟨c2, r2, m2, -, -, q3, -, kP, hkP, hkPi⟩ := Cond.selects_spec hs
  have f1 := findClass_of_methodNamed hnamed
  have f2 := findClass_of_methodNamed q3
  rw [e, f1] at f2
  have e2 : mk.cls = m2.cls := Option.some.inj f2
  have hf := State.methodFound?_of_named hnamed hy
  have hn' : Z.methodNamed? ⟨y.cls, y.name, y.desc⟩ = some mk := hnamed
  rw [← e2] at hkP
  simp [Cond.before, Cond.holds, Cond.value, f1, hf, hn', hkP, hkPi]
theorem own_nf {a0 : Array Value} {s : State} {C : String} {y0 y : MethodName} (hs : (Cond.selects C y0 y0).before a0 s = true) (e : y0.cls = y.cls) : NotFace s y := fun r0 h0 => by
  obtain ⟨c2, r2, m2, -, -, q3, -, kP, hkP, hkPi⟩ := Cond.selects_spec hs
  have f1 := findClass_of_methodNamed h0
  have f2 := findClass_of_methodNamed q3
  rw [e, f1] at f2
  have e2 : r0.cls = m2.cls := Option.some.inj f2
  rw [← e2] at hkP
  exact ⟨kP, hkP, hkPi⟩
theorem own_cp {p : Program} {l : Launch} {e : Env} {R : Room} {s : State} {m : MethodId} {args : Array Value} {below : List Frame} {meth : Method} {c : Code} {T : State} {locs : List Loc} {cells slots : Nat} {Z : State} {h : Heap}
    (X : Stand p l e R s m args below meth c T locs cells slots) (hx : p.tables.exec = Jvm.exec) (hZ : Z.Warmed39 s.vm) {a0 : Array Value} {own : String} {index : Nat} (hown : s.vm.findClass own = some m.cls)
    (w1 : (Cond.methodLink own index Jvm.Stand.acN).before a0 Z = true) (w2 : (Cond.native Jvm.Stand.acN).before a0 Z = true) (w3 : (Cond.static Jvm.Stand.acN).before a0 Z = true) (w4 : (Cond.initialized "java/lang/System").before a0 Z = true) (eT : T.heap = h)
    {a b : Addr} {k k' : ClassId} {cs ds : List Int32} {zN zM nn dp : Int32} (A : Arv Z h a k .byte zN (own_bv cs) (.int 0)) (B : Arv Z h b k' .byte zM (own_bv ds) (.int 0)) (N M K : Nat) (eN : zN = Int32.ofNat N) (eM : zM = Int32.ofNat M) (en : nn = Int32.ofNat K) (ed : dp = Int32.ofNat ds.length)
    (hN : N < 2 ^ 31) (hM : M < 2 ^ 31) (h1 : cs.length ≤ K) (h2 : K ≤ N) (h3 : ds.length + K ≤ M) {n0 : Nat} (N0 : Fr n0 locs) (ge : n0 ≤ b)
    {g : JFrame} (hg : g.method = m) (hsize : g.locals.size = c.maxLocals) {rest : List Value} (hs : g.stack = .int nn :: .int dp :: .ref b :: .int 0 :: .ref a :: rest) (hd : decode c.code g.pc = .ok (.invokestatic index, 3))
    (hf : 1 ≤ R.frames) {W : Nat} (hW : 2 * g.monitorRoom + (rest.map fun v => v.category).sum ≤ W) (hlo : W + (nativeFrameWords "java/lang/System" "arraycopy" 5 + 11) ≤ R.locals) :
    ∃ T' h' L, Stand p l e R s m args below meth c T' L cells slots ∧ T'.heap = h' ∧ Fr n0 L ∧ Keep h h' [b] ∧ Arv Z h' b k' .byte zM (own_bv (ds ++ cs)) (.int 0) ∧
      ∀ target, Steps p.tables e below (T'.setTop { g with pc := g.pc + 3, stack := rest }) target → Steps p.tables e below (T.setTop g) target := by
  have kN : zN.toNatClampNeg = N := by rw [eN]; exact own_n32 hN
  have kM : zM.toNatClampNeg = M := by rw [eM]; exact own_n32 hM
  have kn : nn.toNatClampNeg = K := by rw [en]; exact own_n32 (by omega)
  have kd : dp.toNatClampNeg = ds.length := by rw [ed]; exact own_n32 (by omega)
  have k0 : (0 : Int32).toNatClampNeg = 0 := by decide
  have B' := B.pad (vs' := own_bv ds ++ List.replicate K (.int 0)) (pad_rep _ _ _)
  obtain ⟨T', h', L, X', e', N', K', A', st⟩ := cpA X hx hZ hown w1 w2 w3 w4 eT (us := (List.range nn.toNatClampNeg).map fun i => (own_bv cs).getD ((0 : Int32).toNatClampNeg + i) (.int 0)) A B' (Or.inl ⟨rfl, rfl⟩) (sp := 0) (dp := dp) (nn := nn) (by decide) (by rw [ed]; exact own_nn32 (by omega)) (by rw [en]; exact own_nn32 (by omega))
    (by rw [kn, kN, k0]; omega) (by rw [kd, kn, kM]; omega) rfl (by rw [kd, kn]; simp) N0 ge hg hsize hs hd hf hW hlo
  refine ⟨T', h', L, X', e', N', K', A'.pad fun i => ?_, st⟩
  rw [kd, kn, k0, own_bva]
  have t1 : (own_bv ds ++ List.replicate K (Value.int 0)).take ds.length = own_bv ds := by rw [← own_bvl ds]; simp
  have t2 : (own_bv ds ++ List.replicate K (Value.int 0)).drop (ds.length + K) = [] := by apply List.drop_eq_nil_of_le; simp
  rw [t1, t2, List.append_nil]
  simp only [List.getD_eq_getElem?_getD]
  by_cases c1 : i < ds.length
  · rw [List.getElem?_append_left (by simpa using c1), List.getElem?_append_left (by simpa using c1)]
  · rw [List.getElem?_append_right (by simpa using c1), List.getElem?_append_right (by simpa using c1), own_bvl]
    by_cases c2 : i - ds.length < K
    · simp [c2]
    · rw [List.getElem?_eq_none (by simp; omega), List.getElem?_eq_none (by simp; omega)]
theorem own_shr0 (x : Int32) : (x >>> ((0 : Int32) &&& 31)) = x := by
  have s0 := c_ishr x 0 0 (by decide)
  rw [← Int32.toInt_inj]; omega
theorem own_shl0 (x : Int32) : (x <<< ((0 : Int32) &&& 31)) = x := by
  have l0 := c_ishl x 0 0 (by decide)
  have r0 := rng32 x
  have r1 := rng32 (x <<< ((0 : Int32) &&& 31))
  rw [← Int32.toInt_inj]; omega
theorem own_add32 (a b : Nat) : (Int32.ofNat a + Int32.ofNat b : Int32) = Int32.ofNat (a + b) := by rw [Int32.ofNat_add]
theorem own_pf1 : plainFor my4 = true := by decide +kernel
theorem own_pf2 : plainFor my3 = true := by decide +kernel
theorem own_sub0 (x : Int32) : x - (0 : Int32) = x := by rw [← Int32.toInt_inj]; simp
theorem own_lenapp (cs ds : List Int32) : Int32.ofNat cs.length + Int32.ofNat ds.length = Int32.ofNat (cs ++ ds).length := by rw [List.length_append, Int32.ofNat_add]
theorem ef_0 (m : MethodId) (x0 : Addr) (x1 : Int32) : entryFrame m #[(.ref x0), (.int x1)] 2 = mkF m 0 #[.val (.ref x0), .val (.int x1)] [] := by first | (simp [entryFrame, mkF, argsToLocals, Value.category]; done) | rfl
theorem d0_0 : decode jdk_68_method_2_code 0 = .ok (.aload_n 0, 1) := by decide +kernel
theorem d0_1 : decode jdk_68_method_2_code 1 = .ok (.invokespecial 3, 3) := by decide +kernel
theorem d0_4 : decode jdk_68_method_2_code 4 = .ok (.getstatic 18, 3) := by decide +kernel
theorem d0_7 : decode jdk_68_method_2_code 7 = .ok (.ifCond .eq 18, 3) := by decide +kernel
theorem d0_10 : decode jdk_68_method_2_code 10 = .ok (.aload_n 0, 1) := by decide +kernel
theorem d0_11 : decode jdk_68_method_2_code 11 = .ok (.iload_n 1, 1) := by decide +kernel
theorem d0_12 : decode jdk_68_method_2_code 12 = .ok (.newarray .byte, 2) := by decide +kernel
theorem d0_14 : decode jdk_68_method_2_code 14 = .ok (.putfield 15, 3) := by decide +kernel
theorem d0_17 : decode jdk_68_method_2_code 17 = .ok (.aload_n 0, 1) := by decide +kernel
theorem d0_18 : decode jdk_68_method_2_code 18 = .ok (.iconst 0, 1) := by decide +kernel
theorem d0_19 : decode jdk_68_method_2_code 19 = .ok (.putfield 22, 3) := by decide +kernel
theorem d0_22 : decode jdk_68_method_2_code 22 = .ok (.goto 16, 3) := by decide +kernel
theorem d0_38 : decode jdk_68_method_2_code 38 = .ok (.return_, 1) := by decide +kernel
theorem pn_14 : plainName "java/lang/AbstractStringBuilder" = true := by first | (simp [plainName, overriddenIn]; done) | decide +kernel
set_option maxRecDepth 65536 in
set_option maxHeartbeats 40000000 in
theorem rm_asb (l : Launch) (Z : State) (a0 : Array Value) (hw : HW Z a0) (ws : List Jvm.Cond) (b : Addr) (z : Int32) (h0 : Heap) (n0 : Nat) (Z0 : n0 ≤ h0.size) (O0 : Old Z n0 h0) (E_b : Exa Z h0 b "java/lang/StringBuilder") (F_v : Fld Z h0 b "java/lang/AbstractStringBuilder" "value" "[B" .null) (F_c : Fld Z h0 b "java/lang/AbstractStringBuilder" "coder" "B" (.int (0 : Int32))) (F_n : Fld Z h0 b "java/lang/AbstractStringBuilder" "count" "I" (.int (0 : Int32))) (g_b : n0 ≤ b) (S0 : PS0 Z (.int z)) (hz : ¬ z = 0) :
    Ctr l Z (⟨"java/lang/AbstractStringBuilder", "<init>", "(I)V"⟩ : MethodName) jdk_68_method_2_code 2 ((Option.none : Option Jvm.ClassFile.FieldType)) ws (⟨1, 1, 16, 12⟩ : Room) #[(.ref b), (.int (16 : Int32))] h0 (fun v h L => ∃ (t : Addr) (kb : ClassId), v = none ∧ Fr n0 L ∧ Keep h0 h [b] ∧ h0.size ≤ t ∧ Fld Z h b "java/lang/AbstractStringBuilder" "value" "[B" (.ref t) ∧ Fld Z h b "java/lang/AbstractStringBuilder" "coder" "B" (.int (0 : Int32)) ∧ Fld Z h b "java/lang/AbstractStringBuilder" "count" "I" (.int (Int32.ofNat ([] : List Int32).length)) ∧ Arv Z h t kb .byte (16 : Int32) (own_bv ([] : List Int32)) (.int (0 : Int32))) := by
  refine Ctr.go (plainFor_of_name pn_14) fun p e s m below meth c s₁ Bd hx hby hml hZ hown hnm X0 e0 => ?_
  have N0 := Fr.nil n0
  have K0 := Keep.refl h0 [b]
  refine gs (S' := s₁.setTop (mkF m 0 #[rv (b), iv ((16 : Int32))] [])) (fun tg kg => castTop (ef_0 m b (16 : Int32)) kg) ?_
  refine gs (fun _ k => o_aloadN X0 hx hby d0_0 rfl rfl k) ?_
  obtain ⟨T1, X1, e1, st1⟩ := initO X0 hx hZ hown (ow hw 79 rfl) (ow hw 22 rfl) (ow hw 23 rfl) e0 (g := (mkF m 1 #[rv (b), iv ((16 : Int32))] [(.ref b)])) rfl (by rw [hml]; rfl) rfl (hb hby d0_1) (by decide) (W := 0) (own_w0 rfl) (by decide)
  refine gs (S' := T1.setTop (mkF m 4 #[rv (b), iv ((16 : Int32))] [])) st1 ?_
  refine gS X1 hx hZ hown (host := "") (Or.inl (ow hw 80 rfl)) Via.refl e1 (S0.ext O0.2) hby d0_4 fun T2 X2 e2 => ?_
  refine gs (fun _ k => o_ifNo X2 hx hby d0_7 ((if0 _ _).trans (feq hz).1) (o_aloadN X2 hx hby d0_10 rfl rfl (o_iloadN X2 hx hby d0_11 rfl k))) ?_
  obtain ⟨T3, h3, k3, X3, e3, E3, A3, st3⟩ := newP X2 hx hZ (ow hw 29 rfl) e2 (g := (mkF m 12 #[rv (b), iv ((16 : Int32))] [(.int (16 : Int32)), (.ref b)])) rfl (hb hby d0_12) rfl (by decide) (cap := 16) (by decide) (by decide) (by decide) (by decide)
  obtain ⟨b3, q3⟩ : ∃ z, z = h0.size := ⟨_, rfl⟩
  rw [← q3] at A3 st3
  have g_b3 : n0 ≤ b3 := nt Z0 (Nat.le_of_eq q3.symm)
  have sz_b3 : h0.size ≤ b3 := nt K0.1 (Nat.le_of_eq q3.symm)
  have Z4 := nt Z0 E3.1
  have O4 := O0.ext E3
  have K4 := K0.ext E3
  have V3 : Arv Z h3 b3 k3 .byte (16 : Int32) [] (.int (0 : Int32)) := Arv.new A3 (by decide)
  refine gs (S' := T3.setTop (mkF m 14 #[rv (b), iv ((16 : Int32))] [(.ref b3), (.ref b)])) st3 ?_
  have f5 := (F_v.ext E3)
  have f6 := (E_b.ext E3)
  obtain ⟨T7, h7, X7, e7, W7, st7⟩ := putF X3 hx hZ hown (host := "") (Or.inl (ow hw 81 rfl)) Via.refl e3 f5 f6 (Or.inl (ow hw 82 rfl)) (ow hw 68 rfl) (ty := (.array .byte)) (by decide) rfl rfl (g := (mkF m 14 #[rv (b), iv ((16 : Int32))] [(.ref b3), (.ref b)])) rfl rfl (hb hby d0_14)
  have N7 := Fr.snoc X7 N0 g_b
  have Fw7 := f5.same W7
  have Z8 := nt Z4 (Keep.of_wr W7).1
  have O8 := O4.wr W7 g_b
  have K8 := K4.wr W7 (Or.inl (List.mem_of_getElem? (i := 0) rfl))
  refine gs (S' := T7.setTop (mkF m 17 #[rv (b), iv ((16 : Int32))] [])) st7 ?_
  refine gs (fun _ k => o_aloadN X7 hx hby d0_17 rfl rfl (o_iconst (v := (0 : Int32)) X7 hx hby d0_18 k)) ?_
  have f9 := ((F_c.ext E3).other W7 (Or.inr (slot_ne (Or.inl (ow hw 84 rfl)) (Or.inl (ow hw 82 rfl)) (by decide) (t := .byte) (t' := (.array .byte)) (by decide) (by decide))))
  have f10 := (f6.wr W7)
  obtain ⟨T11, h11, X11, e11, W11, st11⟩ := putFN X7 hx hZ hown (ow hw 83 rfl) Via.refl e7 f9 f10 (Or.inl (ow hw 84 rfl)) (ow hw 68 rfl) (ty := .byte) (v' := (.int (0 : Int32))) (by decide) rfl rfl (g := (mkF m 19 #[rv (b), iv ((16 : Int32))] [(.int (0 : Int32)), (.ref b)])) rfl rfl (hb hby d0_19)
  have N11 := Fr.snoc X11 N7 g_b
  have Fw11 := f9.same W11
  have Z12 := nt Z8 (Keep.of_wr W11).1
  have O12 := O8.wr W11 g_b
  have K12 := K8.wr W11 (Or.inl (List.mem_of_getElem? (i := 0) rfl))
  refine gs (S' := T11.setTop (mkF m 22 #[rv (b), iv ((16 : Int32))] [])) st11 ?_
  refine gs (fun _ k => o_goto (pc' := 38) X11 hx hby d0_22 k) ?_
  have f13 := (Fw7.other W11 (Or.inr (slot_ne (Or.inl (ow hw 82 rfl)) (Or.inl (ow hw 84 rfl)) (by decide) (t := (.array .byte)) (t' := .byte) (by decide) (by decide))))
  have f14 := (((F_n.ext E3).other W7 (Or.inr (slot_ne (Or.inl (ow hw 106 rfl)) (Or.inl (ow hw 82 rfl)) (by decide) (t := .int) (t' := (.array .byte)) (by decide) (by decide)))).other W11 (Or.inr (slot_ne (Or.inl (ow hw 106 rfl)) (Or.inl (ow hw 84 rfl)) (by decide) (t := .int) (t' := .byte) (by decide) (by decide))))
  have f15 := ((V3.other W7 (Ne.symm (nw (nu (nu E_b.lt (Nat.le_refl _)) (Nat.le_of_eq q3.symm))))).other W11 (Ne.symm (nw (nu (nu E_b.lt (Nat.le_refl _)) (Nat.le_of_eq q3.symm)))))
  refine gout (v := none) X11 Bd.notSynchronized (fun _ => rfl) (by decide) (by decide) ?_ (fun fs hr => X11.returnOut hx Bd.returns (hb hby d0_38) hr)
  rw [e11]
  exact ⟨_, _, rfl, N11, K12, sz_b3, f13, Fw11, f14, f15⟩
theorem ef_15 (m : MethodId) (x0 : Addr) : entryFrame m #[(.ref x0)] 1 = mkF m 0 #[.val (.ref x0)] [] := by first | (simp [entryFrame, mkF, argsToLocals, Value.category]; done) | rfl
theorem d1_0 : decode jdk_67_method_1_code 0 = .ok (.aload_n 0, 1) := by decide +kernel
theorem d1_1 : decode jdk_67_method_1_code 1 = .ok (.bipush 16, 2) := by decide +kernel
theorem d1_3 : decode jdk_67_method_1_code 3 = .ok (.invokespecial 1, 3) := by decide +kernel
theorem pd_19 : parseMethodDescriptor "(I)V" = some ⟨[.int], none⟩ := by decide +kernel
theorem d1_6 : decode jdk_67_method_1_code 6 = .ok (.return_, 1) := by decide +kernel
theorem pn_21 : plainName "java/lang/StringBuilder" = true := by first | (simp [plainName, overriddenIn]; done) | decide +kernel
set_option maxRecDepth 65536 in
set_option maxHeartbeats 40000000 in
theorem rm_sbi (l : Launch) (Z : State) (a0 : Array Value) (hw : HW Z a0) (ws : List Jvm.Cond) (b : Addr) (z : Int32) (h0 : Heap) (n0 : Nat) (Z0 : n0 ≤ h0.size) (O0 : Old Z n0 h0) (E_b : Exa Z h0 b "java/lang/StringBuilder") (F_v : Fld Z h0 b "java/lang/AbstractStringBuilder" "value" "[B" .null) (F_c : Fld Z h0 b "java/lang/AbstractStringBuilder" "coder" "B" (.int (0 : Int32))) (F_n : Fld Z h0 b "java/lang/AbstractStringBuilder" "count" "I" (.int (0 : Int32))) (g_b : n0 ≤ b) (S0 : PS0 Z (.int z)) (hz : ¬ z = 0) :
    Ctr l Z (⟨"java/lang/StringBuilder", "<init>", "()V"⟩ : MethodName) jdk_67_method_1_code 1 ((Option.none : Option Jvm.ClassFile.FieldType)) ws (⟨2, 1, 16, 25⟩ : Room) #[(.ref b)] h0 (fun v h L => ∃ (t : Addr) (kb : ClassId), v = none ∧ Fr n0 L ∧ Keep h0 h [b] ∧ h0.size ≤ t ∧ Fld Z h b "java/lang/AbstractStringBuilder" "value" "[B" (.ref t) ∧ Fld Z h b "java/lang/AbstractStringBuilder" "coder" "B" (.int (0 : Int32)) ∧ Fld Z h b "java/lang/AbstractStringBuilder" "count" "I" (.int (Int32.ofNat ([] : List Int32).length)) ∧ Arv Z h t kb .byte (16 : Int32) (own_bv ([] : List Int32)) (.int (0 : Int32))) := by
  refine Ctr.go (plainFor_of_name pn_21) fun p e s m below meth c s₁ Bd hx hby hml hZ hown hnm X0 e0 => ?_
  have N0 := Fr.nil n0
  have K0 := Keep.refl h0 [b]
  refine gs (S' := s₁.setTop (mkF m 0 #[rv (b)] [])) (fun tg kg => castTop (ef_15 m b) kg) ?_
  refine gs (fun _ k => o_aloadN X0 hx hby d1_0 rfl rfl (o_bipush (v := (16 : Int32)) X0 hx hby d1_1 k)) ?_
  refine cI (rest := []) X0 hx hZ hown rfl (ow hw 73 rfl) (ow hw 74 rfl) (ow hw 77 rfl) (ow hw 78 rfl) (rm_asb l Z a0 hw [] b z h0 n0 Z0 O0 E_b F_v F_c F_n g_b S0 hz) hby d1_3 e0 pd_19 0 (by rw [hml]; rfl) rfl rfl rfl rfl (by decide) (by decide) fun _ T1 Lc1 X1 hQ1 => ?_
  obtain ⟨t1, kb1, rfl, N1q, K1q, g1t, F1v, F1c, F1n, V1q⟩ := hQ1
  have N1 := Fr.app N0 N1q
  have g_t1 : n0 ≤ t1 := nt Z0 g1t
  have sz_t1 : h0.size ≤ t1 := nt K0.1 g1t
  have Z2 := nt Z0 K1q.1
  have O2 := O0.keep K1q (allS g_b all0)
  have K2 := K0.trans K1q (allS (Or.inl (List.mem_of_getElem? (i := 0) rfl)) all0)
  refine gout (v := none) X1 Bd.notSynchronized (fun _ => rfl) (by decide) (by decide) ?_ (fun fs hr => X1.returnOut hx Bd.returns (hb hby d1_6) hr)
  exact ⟨_, _, rfl, N1, K2, sz_t1, F1v, F1c, F1n, V1q⟩
theorem ef_22 (m : MethodId) (x0 : Addr) : entryFrame m #[(.ref x0)] 1 = mkF m 0 #[.val (.ref x0)] [] := by first | (simp [entryFrame, mkF, argsToLocals, Value.category]; done) | rfl
theorem d2_0 : decode jdk_42_method_152_code 0 = .ok (.getstatic 38, 3) := by decide +kernel
theorem d2_3 : decode jdk_42_method_152_code 3 = .ok (.ifCond .eq 10, 3) := by decide +kernel
theorem d2_6 : decode jdk_42_method_152_code 6 = .ok (.aload_n 0, 1) := by decide +kernel
theorem d2_7 : decode jdk_42_method_152_code 7 = .ok (.getfield 15, 3) := by decide +kernel
theorem d2_10 : decode jdk_42_method_152_code 10 = .ok (.goto 4, 3) := by decide +kernel
theorem d2_14 : decode jdk_42_method_152_code 14 = .ok (.ireturn, 1) := by decide +kernel
theorem pn_29 : plainName "java/lang/String" = true := by first | (simp [plainName, overriddenIn]; done) | decide +kernel
set_option maxRecDepth 65536 in
set_option maxHeartbeats 40000000 in
theorem rm_coder0 (l : Launch) (Z : State) (a0 : Array Value) (hw : HW Z a0) (ws : List Jvm.Cond) (x : Addr) (ds : List Int32) (z : Int32) (h0 : Heap) (n0 : Nat) (Z0 : n0 ≤ h0.size) (O0 : Old Z n0 h0) (S0 : PS0 Z (.int z)) (hz : ¬ z = 0) (T_x : Str Z h0 x ds) :
    Ctr l Z (⟨"java/lang/String", "coder", "()B"⟩ : MethodName) jdk_42_method_152_code 1 ((Option.some Jvm.ClassFile.FieldType.byte)) ws (⟨0, 0, 0, 0⟩ : Room) #[(.ref x)] h0 (fun v h L => v = some (.int (0 : Int32)) ∧ Fr n0 L ∧ h = h0) := by
  refine Ctr.go (plainFor_of_name pn_29) fun p e s m below meth c s₁ Bd hx hby hml hZ hown hnm X0 e0 => ?_
  have N0 := Fr.nil n0
  have K0 := Keep.refl h0 []
  refine gs (S' := s₁.setTop (mkF m 0 #[rv (x)] [])) (fun tg kg => castTop (ef_22 m x) kg) ?_
  obtain ⟨u, ku, E_x, F_cx, F_vx, V_u⟩ := id T_x
  refine gS X0 hx hZ hown (host := "") (Or.inl (ow hw 24 rfl)) Via.refl e0 (S0.ext O0.2) hby d2_0 fun T1 X1 e1 => ?_
  refine gs (fun _ k => o_ifNo X1 hx hby d2_3 ((if0 _ _).trans (feq hz).1) (o_aloadN X1 hx hby d2_6 rfl rfl k)) ?_
  refine gF X1 hx hZ hown (host := "") (Or.inl (ow hw 36 rfl)) Via.refl e1 F_cx hby d2_7 fun T2 X2 e2 => ?_
  refine gs (fun _ k => o_goto (pc' := 14) X2 hx hby d2_10 k) ?_
  refine gout (v := some (.int (0 : Int32))) X2 Bd.notSynchronized (fun h => by rw [Bd.returns] at h; cases h) (by decide) (by decide) ?_ (fun fs hr => retN X2 hx (t := .byte) Bd.returns (by simp) (hb hby d2_14) hr)
  rw [e2]
  exact ⟨rfl, N0, rfl⟩
theorem ef_30 (m : MethodId) (x0 : Addr) (x1 : Addr) : entryFrame m #[(.ref x0), (.ref x1)] 2 = mkF m 0 #[.val (.ref x0), .val (.ref x1)] [] := by first | (simp [entryFrame, mkF, argsToLocals, Value.category]; done) | rfl
theorem d3_0 : decode jdk_68_method_71_code 0 = .ok (.getstatic 18, 3) := by decide +kernel
theorem d3_3 : decode jdk_68_method_71_code 3 = .ok (.ifCond .eq 18, 3) := by decide +kernel
theorem d3_6 : decode jdk_68_method_71_code 6 = .ok (.aload_n 0, 1) := by decide +kernel
theorem d3_7 : decode jdk_68_method_71_code 7 = .ok (.getfield 22, 3) := by decide +kernel
theorem d3_10 : decode jdk_68_method_71_code 10 = .ok (.aload_n 1, 1) := by decide +kernel
theorem d3_11 : decode jdk_68_method_71_code 11 = .ok (.invokevirtual 40, 3) := by decide +kernel
theorem pd_37 : parseMethodDescriptor "()B" = some ⟨[], some .byte⟩ := by decide +kernel
theorem d3_14 : decode jdk_68_method_71_code 14 = .ok (.if_icmp .eq 7, 3) := by decide +kernel
theorem d3_21 : decode jdk_68_method_71_code 21 = .ok (.return_, 1) := by decide +kernel
set_option maxRecDepth 65536 in
set_option maxHeartbeats 40000000 in
theorem rm_inf (l : Launch) (Z : State) (a0 : Array Value) (hw : HW Z a0) (ws : List Jvm.Cond) (b : Addr) (x : Addr) (ds : List Int32) (z : Int32) (h0 : Heap) (n0 : Nat) (Z0 : n0 ≤ h0.size) (O0 : Old Z n0 h0) (S0 : PS0 Z (.int z)) (hz : ¬ z = 0) (F_c : Fld Z h0 b "java/lang/AbstractStringBuilder" "coder" "B" (.int (0 : Int32))) (T_x : Str Z h0 x ds) :
    Ctr l Z (⟨"java/lang/AbstractStringBuilder", "inflateIfNeededFor", "(Ljava/lang/String;)V"⟩ : MethodName) jdk_68_method_71_code 2 ((Option.none : Option Jvm.ClassFile.FieldType)) ws (⟨1, 0, 0, 13⟩ : Room) #[(.ref b), (.ref x)] h0 (fun v h L => v = none ∧ Fr n0 L ∧ h = h0) := by
  refine Ctr.go (plainFor_of_name pn_14) fun p e s m below meth c s₁ Bd hx hby hml hZ hown hnm X0 e0 => ?_
  have N0 := Fr.nil n0
  have K0 := Keep.refl h0 []
  refine gs (S' := s₁.setTop (mkF m 0 #[rv (b), rv (x)] [])) (fun tg kg => castTop (ef_30 m b x) kg) ?_
  refine gS X0 hx hZ hown (host := "") (Or.inl (ow hw 80 rfl)) Via.refl e0 (S0.ext O0.2) hby d3_0 fun T1 X1 e1 => ?_
  refine gs (fun _ k => o_ifNo X1 hx hby d3_3 ((if0 _ _).trans (feq hz).1) (o_aloadN X1 hx hby d3_6 rfl rfl k)) ?_
  refine gF X1 hx hZ hown (host := "") (Or.inl (ow hw 83 rfl)) Via.refl e1 F_c hby d3_7 fun T2 X2 e2 => ?_
  refine gs (fun _ k => o_aloadN X2 hx hby d3_10 rfl rfl k) ?_
  refine cV (rest := [(.int (0 : Int32))]) X2 hx hZ hown (ow hw 122 rfl) (ow hw 101 rfl) (nfs hZ (ow hw 103 rfl)) (ow hw 103 rfl) (ow hw 102 rfl) (ow hw 9 rfl) (ow hw 104 rfl) (rm_coder0 l Z a0 hw [] x ds z h0 n0 Z0 O0 S0 hz T_x) hby d3_11 e2 pd_37 1 (by rw [hml]; rfl) T_x.exa rfl rfl rfl rfl (by decide) (by decide) fun _ T3 Lc3 X3 hQ3 => ?_
  obtain ⟨rfl, N3q, e3q⟩ := hQ3
  have N3 := Fr.app N0 N3q
  refine gs (fun _ k => o_icmpYes (pc' := 21) X3 hx hby d3_14 (teq (by decide : (0 : Int32) = (0 : Int32))).1 k) ?_
  refine gout (v := none) X3 Bd.notSynchronized (fun _ => rfl) (by decide) (by decide) ?_ (fun fs hr => X3.returnOut hx Bd.returns (hb hby d3_21) hr)
  rw [e3q]
  exact ⟨rfl, N3, rfl⟩
theorem ef_40 (m : MethodId) (x0 : Addr) (x1 : Addr) (x2 : Int32) (x3 : Int32) : entryFrame m #[(.ref x0), (.ref x1), (.int x2), (.int x3)] 4 = mkF m 0 #[.val (.ref x0), .val (.ref x1), .val (.int x2), .val (.int x3)] [] := by first | (simp [entryFrame, mkF, argsToLocals, Value.category]; done) | rfl
theorem d4_0 : decode jdk_42_method_147_code 0 = .ok (.aload_n 0, 1) := by decide +kernel
theorem d4_1 : decode jdk_42_method_147_code 1 = .ok (.invokevirtual 335, 3) := by decide +kernel
theorem d4_4 : decode jdk_42_method_147_code 4 = .ok (.iload_n 3, 1) := by decide +kernel
theorem d4_5 : decode jdk_42_method_147_code 5 = .ok (.if_icmp .ne 23, 3) := by decide +kernel
theorem d4_8 : decode jdk_42_method_147_code 8 = .ok (.aload_n 0, 1) := by decide +kernel
theorem d4_9 : decode jdk_42_method_147_code 9 = .ok (.getfield 9, 3) := by decide +kernel
theorem d4_12 : decode jdk_42_method_147_code 12 = .ok (.iconst 0, 1) := by decide +kernel
theorem d4_13 : decode jdk_42_method_147_code 13 = .ok (.aload_n 1, 1) := by decide +kernel
theorem d4_14 : decode jdk_42_method_147_code 14 = .ok (.iload_n 2, 1) := by decide +kernel
theorem d4_15 : decode jdk_42_method_147_code 15 = .ok (.iload_n 3, 1) := by decide +kernel
theorem d4_16 : decode jdk_42_method_147_code 16 = .ok (.ishl, 1) := by decide +kernel
theorem d4_17 : decode jdk_42_method_147_code 17 = .ok (.aload_n 0, 1) := by decide +kernel
theorem d4_18 : decode jdk_42_method_147_code 18 = .ok (.getfield 9, 3) := by decide +kernel
theorem d4_21 : decode jdk_42_method_147_code 21 = .ok (.arraylength, 1) := by decide +kernel
theorem d4_22 : decode jdk_42_method_147_code 22 = .ok (.invokestatic 212, 3) := by decide +kernel
theorem d4_25 : decode jdk_42_method_147_code 25 = .ok (.goto 18, 3) := by decide +kernel
theorem d4_43 : decode jdk_42_method_147_code 43 = .ok (.return_, 1) := by decide +kernel
set_option maxRecDepth 65536 in
set_option maxHeartbeats 40000000 in
theorem rm_gbA (l : Launch) (Z : State) (a0 : Array Value) (hw : HW Z a0) (ws : List Jvm.Cond) (t : Addr) (kb : ClassId) (cs : List Int32) (x : Addr) (ds : List Int32) (z : Int32) (h0 : Heap) (n0 : Nat) (Z0 : n0 ≤ h0.size) (O0 : Old Z n0 h0) (S0 : PS0 Z (.int z)) (hz : ¬ z = 0) (T_x : Str Z h0 x ds) (V_t : Arv Z h0 t kb .byte (16 : Int32) (own_bv cs) (.int (0 : Int32))) (g_t : n0 ≤ t) (hfit : cs.length + ds.length ≤ 16) :
    Ctr l Z my5 jdk_42_method_147_code 4 ((Option.none : Option Jvm.ClassFile.FieldType)) ws (⟨1, 0, 0, 18⟩ : Room) #[(.ref x), (.ref t), (.int (Int32.ofNat cs.length)), (.int (0 : Int32))] h0 (fun v h L => v = none ∧ Fr n0 L ∧ Keep h0 h [t] ∧ Arv Z h t kb .byte (16 : Int32) (own_bv (cs ++ ds)) (.int (0 : Int32))) := by
  refine Ctr.go (plainFor_of_name pn_29) fun p e s m below meth c s₁ Bd hx hby hml hZ hown hnm X0 e0 => ?_
  have N0 := Fr.nil n0
  have K0 := Keep.refl h0 [t]
  refine gs (S' := s₁.setTop (mkF m 0 #[rv (x), rv (t), iv ((Int32.ofNat cs.length)), iv ((0 : Int32))] [])) (fun tg kg => castTop (ef_40 m x t (Int32.ofNat cs.length) (0 : Int32)) kg) ?_
  obtain ⟨u, ku, E_x, F_cx, F_vx, V_u⟩ := id T_x
  refine gs (fun _ k => o_aloadN X0 hx hby d4_0 rfl rfl k) ?_
  refine cV (rest := []) X0 hx hZ hown (ow hw 100 rfl) (ow hw 101 rfl) (nfs hZ (ow hw 103 rfl)) (ow hw 103 rfl) (ow hw 102 rfl) (ow hw 9 rfl) (ow hw 104 rfl) (rm_coder0 l Z a0 hw [] x ds z h0 n0 Z0 O0 S0 hz T_x) hby d4_1 e0 pd_37 0 (by rw [hml]; rfl) E_x rfl rfl rfl rfl (by decide) (by decide) fun _ T1 Lc1 X1 hQ1 => ?_
  obtain ⟨rfl, N1q, e1q⟩ := hQ1
  have N1 := Fr.app N0 N1q
  refine gs (fun _ k => o_iloadN X1 hx hby d4_4 rfl (o_icmpNo X1 hx hby d4_5 (teq (by decide : (0 : Int32) = (0 : Int32))).2 (o_aloadN X1 hx hby d4_8 rfl rfl k))) ?_
  refine gF X1 hx hZ hown (host := "") (Or.inl (ow hw 38 rfl)) Via.refl e1q F_vx hby d4_9 fun T2 X2 e2 => ?_
  refine gs (fun _ k => o_iconst (v := (0 : Int32)) X2 hx hby d4_12 (o_aloadN X2 hx hby d4_13 rfl rfl (o_iloadN X2 hx hby d4_14 rfl (o_iloadN X2 hx hby d4_15 rfl (o_ishl X2 hx hby d4_16 (o_aloadN X2 hx hby d4_17 rfl rfl k)))))) ?_
  refine gF X2 hx hZ hown (host := "") (Or.inl (ow hw 38 rfl)) Via.refl e2 F_vx hby d4_18 fun T3 X3 e3 => ?_
  obtain ⟨cl4, A4, a4q, a4S, a4N, a4H, a4G⟩ := id V_u
  refine gs (S' := T3.setTop (mkF m 22 #[rv (x), rv (t), iv ((Int32.ofNat cs.length)), iv ((0 : Int32))] [(.int (Int32.ofNat ds.length)), (.int ((Int32.ofNat cs.length) <<< ((0 : Int32) &&& 31))), (.ref t), (.int (0 : Int32)), (.ref u)])) (fun _ k => by refine X3.arraylength hx (by rw [e3]; exact A4.1) (State.isArrayOf_alike hZ.alike A4.2.1) (g := (mkF m 21 #[rv (x), rv (t), iv ((Int32.ofNat cs.length)), iv ((0 : Int32))] [(.ref u), (.int ((Int32.ofNat cs.length) <<< ((0 : Int32) &&& 31))), (.ref t), (.int (0 : Int32)), (.ref u)])) rfl rfl (hb hby d4_21) _ ?_; rw [len_of a4S a4N]; exact k) ?_
  obtain ⟨T5, h5, L5, X5, e5, N5, K5q, V5, st5⟩ := own_cp X3 hx hZ hown (ow hw 128 rfl) (ow hw 131 rfl) (ow hw 129 rfl) (ow hw 130 rfl) e3 (cs := ds) (ds := cs) V_u V_t ds.length 16 ds.length rfl rfl rfl (own_shl0 _) (by omega) (by omega) (Nat.le_refl _) (Nat.le_refl _) hfit N1 g_t (g := (mkF m 22 #[rv (x), rv (t), iv ((Int32.ofNat cs.length)), iv ((0 : Int32))] [(.int (Int32.ofNat ds.length)), (.int ((Int32.ofNat cs.length) <<< ((0 : Int32) &&& 31))), (.ref t), (.int (0 : Int32)), (.ref u)])) rfl (by rw [hml]; rfl) rfl (hb hby d4_22) (by decide) (W := 0) (own_w0 rfl) (by decide)
  have Z6 := nt Z0 K5q.1
  have O6 := O0.keep K5q (allS g_t all0)
  have K6 := K0.trans K5q (allS (Or.inl (List.mem_of_getElem? (i := 0) rfl)) all0)
  refine gs (S' := T5.setTop (mkF m 25 #[rv (x), rv (t), iv ((Int32.ofNat cs.length)), iv ((0 : Int32))] [])) st5 ?_
  refine gs (fun _ k => o_goto (pc' := 43) X5 hx hby d4_25 k) ?_
  refine gout (v := none) X5 Bd.notSynchronized (fun _ => rfl) (by decide) (by decide) ?_ (fun fs hr => X5.returnOut hx Bd.returns (hb hby d4_43) hr)
  rw [e5]
  exact ⟨rfl, N5, K6, V5⟩
theorem ef_58 (m : MethodId) (x0 : Addr) (x1 : Int32) (x2 : Addr) : entryFrame m #[(.ref x0), (.int x1), (.ref x2)] 3 = mkF m 0 #[.val (.ref x0), .val (.int x1), .val (.ref x2)] [] := by first | (simp [entryFrame, mkF, argsToLocals, Value.category]; done) | rfl
theorem d5_0 : decode jdk_68_method_73_code 0 = .ok (.aload_n 0, 1) := by decide +kernel
theorem d5_1 : decode jdk_68_method_73_code 1 = .ok (.aload_n 2, 1) := by decide +kernel
theorem d5_2 : decode jdk_68_method_73_code 2 = .ok (.invokevirtual 397, 3) := by decide +kernel
theorem pd_62 : parseMethodDescriptor "(Ljava/lang/String;)V" = some ⟨[(.object "java/lang/String")], none⟩ := by decide +kernel
theorem d5_5 : decode jdk_68_method_73_code 5 = .ok (.aload_n 2, 1) := by decide +kernel
theorem d5_6 : decode jdk_68_method_73_code 6 = .ok (.aload_n 0, 1) := by decide +kernel
theorem d5_7 : decode jdk_68_method_73_code 7 = .ok (.getfield 15, 3) := by decide +kernel
theorem d5_10 : decode jdk_68_method_73_code 10 = .ok (.iload_n 1, 1) := by decide +kernel
theorem d5_11 : decode jdk_68_method_73_code 11 = .ok (.aload_n 0, 1) := by decide +kernel
theorem d5_12 : decode jdk_68_method_73_code 12 = .ok (.getfield 22, 3) := by decide +kernel
theorem d5_15 : decode jdk_68_method_73_code 15 = .ok (.invokevirtual 399, 3) := by decide +kernel
theorem pd_70 : parseMethodDescriptor "([BIB)V" = some ⟨[(.array .byte), .int, .byte], none⟩ := by decide +kernel
theorem d5_18 : decode jdk_68_method_73_code 18 = .ok (.return_, 1) := by decide +kernel
set_option maxRecDepth 65536 in
set_option maxHeartbeats 40000000 in
theorem rm_paA (l : Launch) (Z : State) (a0 : Array Value) (hw : HW Z a0) (ws : List Jvm.Cond) (b : Addr) (t : Addr) (kb : ClassId) (cs : List Int32) (x : Addr) (ds : List Int32) (z : Int32) (h0 : Heap) (n0 : Nat) (Z0 : n0 ≤ h0.size) (O0 : Old Z n0 h0) (E_b : Exa Z h0 b "java/lang/StringBuilder") (F_v : Fld Z h0 b "java/lang/AbstractStringBuilder" "value" "[B" (.ref t)) (F_c : Fld Z h0 b "java/lang/AbstractStringBuilder" "coder" "B" (.int (0 : Int32))) (F_n : Fld Z h0 b "java/lang/AbstractStringBuilder" "count" "I" (.int (Int32.ofNat cs.length))) (V_t : Arv Z h0 t kb .byte (16 : Int32) (own_bv cs) (.int (0 : Int32))) (g_t : n0 ≤ t) (S0 : PS0 Z (.int z)) (hz : ¬ z = 0) (T_x : Str Z h0 x ds) (hfit : cs.length + ds.length ≤ 16) :
    Ctr l Z my6 jdk_68_method_73_code 3 ((Option.none : Option Jvm.ClassFile.FieldType)) ws (⟨2, 0, 0, 33⟩ : Room) #[(.ref b), (.int (Int32.ofNat cs.length)), (.ref x)] h0 (fun v h L => v = none ∧ Fr n0 L ∧ Keep h0 h [t] ∧ Arv Z h t kb .byte (16 : Int32) (own_bv (cs ++ ds)) (.int (0 : Int32))) := by
  refine Ctr.go (plainFor_of_name pn_14) fun p e s m below meth c s₁ Bd hx hby hml hZ hown hnm X0 e0 => ?_
  have N0 := Fr.nil n0
  have K0 := Keep.refl h0 [t]
  refine gs (S' := s₁.setTop (mkF m 0 #[rv (b), iv ((Int32.ofNat cs.length)), rv (x)] [])) (fun tg kg => castTop (ef_58 m b (Int32.ofNat cs.length) x) kg) ?_
  refine gs (fun _ k => o_aloadN X0 hx hby d5_0 rfl rfl (o_aloadN X0 hx hby d5_1 rfl rfl k)) ?_
  refine cV (rest := []) X0 hx hZ hown (ow hw 117 rfl) (own_decl (ow hw 118 rfl) (ow hw 121 rfl)) (nfs hZ (ow hw 120 rfl)) (ow hw 120 rfl) (ow hw 118 rfl) (ow hw 77 rfl) (ow hw 121 rfl) (rm_inf l Z a0 hw [] b x ds z h0 n0 Z0 O0 S0 hz F_c T_x) hby d5_2 e0 pd_62 0 (by rw [hml]; rfl) E_b rfl rfl rfl rfl (by decide) (by decide) fun _ T1 Lc1 X1 hQ1 => ?_
  obtain ⟨rfl, N1q, e1q⟩ := hQ1
  have N1 := Fr.app N0 N1q
  refine gs (fun _ k => o_aloadN X1 hx hby d5_5 rfl rfl (o_aloadN X1 hx hby d5_6 rfl rfl k)) ?_
  refine gF X1 hx hZ hown (host := "") (Or.inl (ow hw 81 rfl)) Via.refl e1q F_v hby d5_7 fun T2 X2 e2 => ?_
  refine gs (fun _ k => o_iloadN X2 hx hby d5_10 rfl (o_aloadN X2 hx hby d5_11 rfl rfl k)) ?_
  refine gF X2 hx hZ hown (host := "") (Or.inl (ow hw 83 rfl)) Via.refl e2 F_c hby d5_12 fun T3 X3 e3 => ?_
  refine cV (rest := []) X3 hx hZ hown (ow hw 123 rfl) (ow hw 124 rfl) (nfs hZ (ow hw 126 rfl)) (ow hw 126 rfl) (ow hw 125 rfl) (ow hw 9 rfl) (ow hw 127 rfl) (rm_gbA l Z a0 hw [] t kb cs x ds z h0 n0 Z0 O0 S0 hz T_x V_t g_t hfit) hby d5_15 e3 pd_70 0 (by rw [hml]; rfl) T_x.exa rfl rfl rfl rfl (by decide) (by decide) fun _ T4 Lc4 X4 hQ4 => ?_
  obtain ⟨rfl, N4q, K4q, V4q⟩ := hQ4
  have N4 := Fr.app N1 N4q
  have Z5 := nt Z0 K4q.1
  have O5 := O0.keep K4q (allS g_t all0)
  have K5 := K0.trans K4q (allS (Or.inl (List.mem_of_getElem? (i := 0) rfl)) all0)
  refine gout (v := none) X4 Bd.notSynchronized (fun _ => rfl) (by decide) (by decide) ?_ (fun fs hr => X4.returnOut hx Bd.returns (hb hby d5_18) hr)
  exact ⟨rfl, N4, K5, V4q⟩
theorem ef_72 (m : MethodId) (x0 : Addr) (x1 : Int32) : entryFrame m #[(.ref x0), (.int x1)] 3 = mkF m 0 #[.val (.ref x0), .val (.int x1), .unset] [] := by first | (simp [entryFrame, mkF, argsToLocals, Value.category]; done) | rfl
theorem d6_0 : decode jdk_68_method_9_code 0 = .ok (.aload_n 0, 1) := by decide +kernel
theorem d6_1 : decode jdk_68_method_9_code 1 = .ok (.getfield 15, 3) := by decide +kernel
theorem d6_4 : decode jdk_68_method_9_code 4 = .ok (.arraylength, 1) := by decide +kernel
theorem d6_5 : decode jdk_68_method_9_code 5 = .ok (.aload_n 0, 1) := by decide +kernel
theorem d6_6 : decode jdk_68_method_9_code 6 = .ok (.getfield 22, 3) := by decide +kernel
theorem d6_9 : decode jdk_68_method_9_code 9 = .ok (.ishr, 1) := by decide +kernel
theorem d6_10 : decode jdk_68_method_9_code 10 = .ok (.istore_n 2, 1) := by decide +kernel
theorem d6_11 : decode jdk_68_method_9_code 11 = .ok (.iload_n 1, 1) := by decide +kernel
theorem d6_12 : decode jdk_68_method_9_code 12 = .ok (.iload_n 2, 1) := by decide +kernel
theorem d6_13 : decode jdk_68_method_9_code 13 = .ok (.isub, 1) := by decide +kernel
theorem d6_14 : decode jdk_68_method_9_code 14 = .ok (.ifCond .le 24, 3) := by decide +kernel
theorem d6_38 : decode jdk_68_method_9_code 38 = .ok (.return_, 1) := by decide +kernel
set_option maxRecDepth 65536 in
set_option maxHeartbeats 40000000 in
theorem rm_enA (l : Launch) (Z : State) (a0 : Array Value) (hw : HW Z a0) (ws : List Jvm.Cond) (b : Addr) (t : Addr) (kb : ClassId) (cs : List Int32) (ds : List Int32) (h0 : Heap) (n0 : Nat) (Z0 : n0 ≤ h0.size) (O0 : Old Z n0 h0) (E_b : Exa Z h0 b "java/lang/StringBuilder") (F_v : Fld Z h0 b "java/lang/AbstractStringBuilder" "value" "[B" (.ref t)) (F_c : Fld Z h0 b "java/lang/AbstractStringBuilder" "coder" "B" (.int (0 : Int32))) (F_n : Fld Z h0 b "java/lang/AbstractStringBuilder" "count" "I" (.int (Int32.ofNat cs.length))) (V_t : Arv Z h0 t kb .byte (16 : Int32) (own_bv cs) (.int (0 : Int32))) (hroom : ¬ (0 : Int32) < (((Int32.ofNat cs.length) + (Int32.ofNat ds.length)) - (16 : Int32))) :
    Ctr l Z my7 jdk_68_method_9_code 3 ((Option.none : Option Jvm.ClassFile.FieldType)) ws (⟨0, 0, 0, 0⟩ : Room) #[(.ref b), (.int ((Int32.ofNat cs.length) + (Int32.ofNat ds.length)))] h0 (fun v h L => v = none ∧ Fr n0 L ∧ h = h0) := by
  refine Ctr.go (plainFor_of_name pn_14) fun p e s m below meth c s₁ Bd hx hby hml hZ hown hnm X0 e0 => ?_
  have N0 := Fr.nil n0
  have K0 := Keep.refl h0 []
  refine gs (S' := s₁.setTop (mkF m 0 #[rv (b), iv (((Int32.ofNat cs.length) + (Int32.ofNat ds.length))), uu] [])) (fun tg kg => castTop (ef_72 m b ((Int32.ofNat cs.length) + (Int32.ofNat ds.length))) kg) ?_
  refine gs (fun _ k => o_aloadN X0 hx hby d6_0 rfl rfl k) ?_
  refine gF X0 hx hZ hown (host := "") (Or.inl (ow hw 81 rfl)) Via.refl e0 F_v hby d6_1 fun T1 X1 e1 => ?_
  obtain ⟨cl2, A2, a2q, a2S, a2N, a2H, a2G⟩ := id V_t
  refine gs (S' := T1.setTop (mkF m 5 #[rv (b), iv (((Int32.ofNat cs.length) + (Int32.ofNat ds.length))), uu] [(.int (16 : Int32))])) (fun _ k => by refine X1.arraylength hx (by rw [e1]; exact A2.1) (State.isArrayOf_alike hZ.alike A2.2.1) (g := (mkF m 4 #[rv (b), iv (((Int32.ofNat cs.length) + (Int32.ofNat ds.length))), uu] [(.ref t)])) rfl rfl (hb hby d6_4) _ ?_; rw [len_of a2S a2N]; exact k) ?_
  refine gs (fun _ k => o_aloadN X1 hx hby d6_5 rfl rfl k) ?_
  refine gF X1 hx hZ hown (host := "") (Or.inl (ow hw 83 rfl)) Via.refl e1 F_c hby d6_6 fun T3 X3 e3 => ?_
  refine gs (fun _ k => o_ishr X3 hx hby d6_9 (o_istoreN X3 hx hby d6_10 rfl (o_iloadN X3 hx hby d6_11 rfl (o_iloadN X3 hx hby d6_12 rfl (o_isub X3 hx hby d6_13 (o_ifYes (pc' := 38) X3 hx hby d6_14 ((if0 _ _).trans (flt hroom).2.2.2) k)))))) ?_
  refine gout (v := none) X3 Bd.notSynchronized (fun _ => rfl) (by decide) (by decide) ?_ (fun fs hr => X3.returnOut hx Bd.returns (hb hby d6_38) hr)
  rw [e3]
  exact ⟨rfl, N0, rfl⟩
theorem ef_85 (m : MethodId) (x0 : Addr) (x1 : Addr) : entryFrame m #[(.ref x0), (.ref x1)] 3 = mkF m 0 #[.val (.ref x0), .val (.ref x1), .unset] [] := by first | (simp [entryFrame, mkF, argsToLocals, Value.category]; done) | rfl
theorem d7_0 : decode jdk_68_method_22_code 0 = .ok (.aload_n 1, 1) := by decide +kernel
theorem d7_1 : decode jdk_68_method_22_code 1 = .ok (.ifnonnull 8, 3) := by decide +kernel
theorem d7_9 : decode jdk_68_method_22_code 9 = .ok (.aload_n 1, 1) := by decide +kernel
theorem d7_10 : decode jdk_68_method_22_code 10 = .ok (.invokevirtual 32, 3) := by decide +kernel
theorem pd_90 : parseMethodDescriptor "()I" = some ⟨[], some .int⟩ := by decide +kernel
theorem d7_13 : decode jdk_68_method_22_code 13 = .ok (.istore_n 2, 1) := by decide +kernel
theorem d7_14 : decode jdk_68_method_22_code 14 = .ok (.aload_n 0, 1) := by decide +kernel
theorem d7_15 : decode jdk_68_method_22_code 15 = .ok (.aload_n 0, 1) := by decide +kernel
theorem d7_16 : decode jdk_68_method_22_code 16 = .ok (.getfield 79, 3) := by decide +kernel
theorem d7_19 : decode jdk_68_method_22_code 19 = .ok (.iload_n 2, 1) := by decide +kernel
theorem d7_20 : decode jdk_68_method_22_code 20 = .ok (.iadd, 1) := by decide +kernel
theorem d7_21 : decode jdk_68_method_22_code 21 = .ok (.invokevirtual 100, 3) := by decide +kernel
theorem d7_24 : decode jdk_68_method_22_code 24 = .ok (.aload_n 0, 1) := by decide +kernel
theorem d7_25 : decode jdk_68_method_22_code 25 = .ok (.aload_n 0, 1) := by decide +kernel
theorem d7_26 : decode jdk_68_method_22_code 26 = .ok (.getfield 79, 3) := by decide +kernel
theorem d7_29 : decode jdk_68_method_22_code 29 = .ok (.aload_n 1, 1) := by decide +kernel
theorem d7_30 : decode jdk_68_method_22_code 30 = .ok (.invokevirtual 208, 3) := by decide +kernel
theorem pd_103 : parseMethodDescriptor "(ILjava/lang/String;)V" = some ⟨[.int, (.object "java/lang/String")], none⟩ := by decide +kernel
theorem d7_33 : decode jdk_68_method_22_code 33 = .ok (.aload_n 0, 1) := by decide +kernel
theorem d7_34 : decode jdk_68_method_22_code 34 = .ok (.dup, 1) := by decide +kernel
theorem d7_35 : decode jdk_68_method_22_code 35 = .ok (.getfield 79, 3) := by decide +kernel
theorem d7_38 : decode jdk_68_method_22_code 38 = .ok (.iload_n 2, 1) := by decide +kernel
theorem d7_39 : decode jdk_68_method_22_code 39 = .ok (.iadd, 1) := by decide +kernel
theorem d7_40 : decode jdk_68_method_22_code 40 = .ok (.putfield 79, 3) := by decide +kernel
theorem d7_43 : decode jdk_68_method_22_code 43 = .ok (.aload_n 0, 1) := by decide +kernel
theorem d7_44 : decode jdk_68_method_22_code 44 = .ok (.areturn, 1) := by decide +kernel
set_option maxRecDepth 65536 in
set_option maxHeartbeats 40000000 in
theorem rm_aaA (l : Launch) (Z : State) (a0 : Array Value) (hw : HW Z a0) (ws : List Jvm.Cond) (b : Addr) (t : Addr) (kb : ClassId) (cs : List Int32) (x : Addr) (ds : List Int32) (z : Int32) (h0 : Heap) (n0 : Nat) (Z0 : n0 ≤ h0.size) (O0 : Old Z n0 h0) (E_b : Exa Z h0 b "java/lang/StringBuilder") (F_v : Fld Z h0 b "java/lang/AbstractStringBuilder" "value" "[B" (.ref t)) (F_c : Fld Z h0 b "java/lang/AbstractStringBuilder" "coder" "B" (.int (0 : Int32))) (F_n : Fld Z h0 b "java/lang/AbstractStringBuilder" "count" "I" (.int (Int32.ofNat cs.length))) (V_t : Arv Z h0 t kb .byte (16 : Int32) (own_bv cs) (.int (0 : Int32))) (g_b : n0 ≤ b) (g_t : n0 ≤ t) (S0 : PS0 Z (.int z)) (hz : ¬ z = 0) (T_x : Str Z h0 x ds) (hbx : ∀ c ∈ ds, ¬ c < 0 ∧ ¬ (255 : Int32) < c) (l2x : ds.length ≤ 4000) (hroom : ¬ (0 : Int32) < (((Int32.ofNat cs.length) + (Int32.ofNat ds.length)) - (16 : Int32))) (hfit : cs.length + ds.length ≤ 16) :
    Ctr l Z my8 jdk_68_method_22_code 3 ((Option.some (Jvm.ClassFile.FieldType.object "java/lang/AbstractStringBuilder"))) ws (⟨3, 0, 0, 47⟩ : Room) #[(.ref b), (.ref x)] h0 (fun v h L => v = some (.ref b) ∧ Fr n0 L ∧ Keep h0 h [b, t] ∧ Fld Z h b "java/lang/AbstractStringBuilder" "value" "[B" (.ref t) ∧ Fld Z h b "java/lang/AbstractStringBuilder" "coder" "B" (.int (0 : Int32)) ∧ Fld Z h b "java/lang/AbstractStringBuilder" "count" "I" (.int (Int32.ofNat (cs ++ ds).length)) ∧ Arv Z h t kb .byte (16 : Int32) (own_bv (cs ++ ds)) (.int (0 : Int32))) := by
  refine Ctr.go (plainFor_of_name pn_14) fun p e s m below meth c s₁ Bd hx hby hml hZ hown hnm X0 e0 => ?_
  have N0 := Fr.nil n0
  have K0 := Keep.refl h0 [b, t]
  refine gs (S' := s₁.setTop (mkF m 0 #[rv (b), rv (x), uu] [])) (fun tg kg => castTop (ef_85 m b x) kg) ?_
  refine gs (fun _ k => o_aloadN X0 hx hby d7_0 rfl rfl (o_ifnonnullYes (pc' := 9) X0 hx hby d7_1 (o_aloadN X0 hx hby d7_9 rfl rfl k))) ?_
  obtain ⟨cq1, kq1, q1a, q1b, q1c⟩ := isOf hZ e0 T_x.exa
  obtain ⟨_, _, ⟨T1, L1, k1, n1⟩, -, X1, ⟨Lc1, hQ1, l1, y1, z1⟩, st1⟩ := X0.virtualBack hx (y := my1) (z := my1) hown (mvT hZ (ow hw 95 rfl)) (mvT hZ (ow hw 96 rfl)) (notFace_of_selects (args := #[]) (mvT hZ (ow hw 98 rfl))) (mvT hZ (ow hw 98 rfl)) (mvT hZ (ow hw 97 rfl)) (by decide) (own_lenB (W := 0) hZ hw T_x hbx (S0.ext O0.2) hz l2x (by decide) (by decide)) q1a q1c (g := (mkF m 10 #[rv (b), rv (x), uu] [(.ref x)])) rfl (by rw [hml]; rfl) (Steps.refl _) (argsL := []) (rest := []) (lenOf pd_90 rfl) rfl (own_w0 rfl) (hb hby d7_10) (fun _ _ => ⟨rfl, e0, (by decide : 0 + 0 ≤ _), (by decide : 0 + 0 ≤ _)⟩)
  dsimp only [Pt.U, Pt.locs, Pt.cells, Pt.slots] at X1 l1 y1 z1 st1 hQ1
  subst l1 y1 z1
  obtain ⟨rfl, rfl, e1q⟩ := hQ1
  have N1 := Fr.app N0 (Fr.nil n0)
  refine gs (S' := T1.setTop (mkF m 13 #[rv (b), rv (x), uu] [(.int (Int32.ofNat ds.length))])) (fun _ k => st1.trans k) ?_
  refine gs (fun _ k => o_istoreN X1 hx hby d7_13 rfl (o_aloadN X1 hx hby d7_14 rfl rfl (o_aloadN X1 hx hby d7_15 rfl rfl k))) ?_
  refine gF X1 hx hZ hown (host := "") (Or.inl (ow hw 105 rfl)) Via.refl e1q F_n hby d7_16 fun T2 X2 e2 => ?_
  refine gs (fun _ k => o_iloadN X2 hx hby d7_19 rfl (o_iadd X2 hx hby d7_20 k)) ?_
  refine cV (rest := []) X2 hx hZ hown (ow hw 107 rfl) (own_decl (ow hw 108 rfl) (ow hw 111 rfl)) (nfs hZ (ow hw 110 rfl)) (ow hw 110 rfl) (ow hw 108 rfl) (ow hw 77 rfl) (ow hw 111 rfl) (rm_enA l Z a0 hw [] b t kb cs ds h0 n0 Z0 O0 E_b F_v F_c F_n V_t hroom) hby d7_21 e2 pd_19 0 (by rw [hml]; rfl) E_b rfl rfl rfl rfl (by decide) (by decide) fun _ T3 Lc3 X3 hQ3 => ?_
  obtain ⟨rfl, N3q, e3q⟩ := hQ3
  have N3 := Fr.app N1 N3q
  refine gs (fun _ k => o_aloadN X3 hx hby d7_24 rfl rfl (o_aloadN X3 hx hby d7_25 rfl rfl k)) ?_
  refine gF X3 hx hZ hown (host := "") (Or.inl (ow hw 105 rfl)) Via.refl e3q F_n hby d7_26 fun T4 X4 e4 => ?_
  refine gs (fun _ k => o_aloadN X4 hx hby d7_29 rfl rfl k) ?_
  refine cV (rest := []) X4 hx hZ hown (ow hw 112 rfl) (own_decl (ow hw 113 rfl) (ow hw 116 rfl)) (nfs hZ (ow hw 115 rfl)) (ow hw 115 rfl) (ow hw 113 rfl) (ow hw 77 rfl) (ow hw 116 rfl) (rm_paA l Z a0 hw [] b t kb cs x ds z h0 n0 Z0 O0 E_b F_v F_c F_n V_t g_t S0 hz T_x hfit) hby d7_30 e4 pd_103 0 (by rw [hml]; rfl) E_b rfl rfl rfl rfl (by decide) (by decide) fun _ T5 Lc5 X5 hQ5 => ?_
  obtain ⟨rfl, N5q, K5q, V5q⟩ := hQ5
  have N5 := Fr.app N3 N5q
  have Z6 := nt Z0 K5q.1
  have O6 := O0.keep K5q (allS g_t all0)
  have K6 := K0.trans K5q (allS (Or.inl (List.mem_of_getElem? (i := 1) rfl)) all0)
  refine gs (fun _ k => o_aloadN X5 hx hby d7_33 rfl rfl (o_dup X5 hx hby d7_34 rfl k)) ?_
  have f7 := (F_n.keep K5q (ninS (Exa.neArv E_b V_t (ow hw 68 rfl)) nin0))
  refine gF X5 hx hZ hown (host := "") (Or.inl (ow hw 105 rfl)) Via.refl rfl f7 hby d7_35 fun T8 X8 e8 => ?_
  refine gs (fun _ k => o_iloadN X8 hx hby d7_38 rfl (o_iadd X8 hx hby d7_39 k)) ?_
  have f9 := (E_b.keep K5q)
  obtain ⟨T10, h10, X10, e10, W10, st10⟩ := putF X8 hx hZ hown (host := "") (Or.inl (ow hw 105 rfl)) Via.refl e8 f7 f9 (Or.inl (ow hw 106 rfl)) (ow hw 68 rfl) (ty := .int) (by decide) rfl rfl (g := (mkF m 40 #[rv (b), rv (x), iv ((Int32.ofNat ds.length))] [(.int ((Int32.ofNat cs.length) + (Int32.ofNat ds.length))), (.ref b)])) rfl rfl (hb hby d7_40)
  have N10 := Fr.snoc X10 N5 g_b
  have Fw10 := f7.same W10
  have Z11 := nt Z6 (Keep.of_wr W10).1
  have O11 := O6.wr W10 g_b
  have K11 := K6.wr W10 (Or.inl (List.mem_of_getElem? (i := 0) rfl))
  refine gs (S' := T10.setTop (mkF m 43 #[rv (b), rv (x), iv ((Int32.ofNat ds.length))] [])) st10 ?_
  refine gs (fun _ k => o_aloadN X10 hx hby d7_43 rfl rfl k) ?_
  have Fn := Fw10
  rw [own_lenapp] at Fn
  have f12 := ((F_v.keep K5q (ninS (Exa.neArv E_b V_t (ow hw 68 rfl)) nin0)).other W10 (Or.inr (slot_ne (Or.inl (ow hw 82 rfl)) (Or.inl (ow hw 106 rfl)) (by decide) (t := (.array .byte)) (t' := .int) (by decide) (by decide))))
  have f13 := ((F_c.keep K5q (ninS (Exa.neArv E_b V_t (ow hw 68 rfl)) nin0)).other W10 (Or.inr (slot_ne (Or.inl (ow hw 84 rfl)) (Or.inl (ow hw 106 rfl)) (by decide) (t := .byte) (t' := .int) (by decide) (by decide))))
  have f14 := (V5q.other W10 (Ne.symm (Exa.neArv E_b V_t (ow hw 68 rfl))))
  refine gout (v := some (.ref b)) X10 Bd.notSynchronized (fun h => by rw [Bd.returns] at h; cases h) (by decide) (by decide) ?_ (fun fs hr => retOut X10 hx Bd.returns rfl (Or.inr (Or.inr (Or.inr (Or.inr ⟨rfl, rfl, rfl⟩)))) (hb hby d7_44) hr)
  rw [e10]
  exact ⟨rfl, N10, K11, f12, f13, Fn, f14⟩
theorem ef_112 (m : MethodId) (x0 : Addr) (x1 : Addr) : entryFrame m #[(.ref x0), (.ref x1)] 2 = mkF m 0 #[.val (.ref x0), .val (.ref x1)] [] := by first | (simp [entryFrame, mkF, argsToLocals, Value.category]; done) | rfl
theorem d8_0 : decode jdk_67_method_7_code 0 = .ok (.aload_n 0, 1) := by decide +kernel
theorem d8_1 : decode jdk_67_method_7_code 1 = .ok (.aload_n 1, 1) := by decide +kernel
theorem d8_2 : decode jdk_67_method_7_code 2 = .ok (.invokespecial 29, 3) := by decide +kernel
theorem pd_116 : parseMethodDescriptor "(Ljava/lang/String;)Ljava/lang/AbstractStringBuilder;" = some ⟨[(.object "java/lang/String")], some (.object "java/lang/AbstractStringBuilder")⟩ := by decide +kernel
theorem d8_5 : decode jdk_67_method_7_code 5 = .ok (.pop, 1) := by decide +kernel
theorem d8_6 : decode jdk_67_method_7_code 6 = .ok (.aload_n 0, 1) := by decide +kernel
theorem d8_7 : decode jdk_67_method_7_code 7 = .ok (.areturn, 1) := by decide +kernel
set_option maxRecDepth 65536 in
set_option maxHeartbeats 40000000 in
theorem rm_saA (l : Launch) (Z : State) (a0 : Array Value) (hw : HW Z a0) (ws : List Jvm.Cond) (b : Addr) (t : Addr) (kb : ClassId) (cs : List Int32) (x : Addr) (ds : List Int32) (z : Int32) (h0 : Heap) (n0 : Nat) (Z0 : n0 ≤ h0.size) (O0 : Old Z n0 h0) (E_b : Exa Z h0 b "java/lang/StringBuilder") (F_v : Fld Z h0 b "java/lang/AbstractStringBuilder" "value" "[B" (.ref t)) (F_c : Fld Z h0 b "java/lang/AbstractStringBuilder" "coder" "B" (.int (0 : Int32))) (F_n : Fld Z h0 b "java/lang/AbstractStringBuilder" "count" "I" (.int (Int32.ofNat cs.length))) (V_t : Arv Z h0 t kb .byte (16 : Int32) (own_bv cs) (.int (0 : Int32))) (g_b : n0 ≤ b) (g_t : n0 ≤ t) (S0 : PS0 Z (.int z)) (hz : ¬ z = 0) (T_x : Str Z h0 x ds) (hbx : ∀ c ∈ ds, ¬ c < 0 ∧ ¬ (255 : Int32) < c) (l2x : ds.length ≤ 4000) (hroom : ¬ (0 : Int32) < (((Int32.ofNat cs.length) + (Int32.ofNat ds.length)) - (16 : Int32))) (hfit : cs.length + ds.length ≤ 16) :
    Ctr l Z my9 jdk_67_method_7_code 2 ((Option.some (Jvm.ClassFile.FieldType.object "java/lang/StringBuilder"))) ws (⟨4, 0, 0, 61⟩ : Room) #[(.ref b), (.ref x)] h0 (fun v h L => v = some (.ref b) ∧ Fr n0 L ∧ Keep h0 h [b, t] ∧ Fld Z h b "java/lang/AbstractStringBuilder" "value" "[B" (.ref t) ∧ Fld Z h b "java/lang/AbstractStringBuilder" "coder" "B" (.int (0 : Int32)) ∧ Fld Z h b "java/lang/AbstractStringBuilder" "count" "I" (.int (Int32.ofNat (cs ++ ds).length)) ∧ Arv Z h t kb .byte (16 : Int32) (own_bv (cs ++ ds)) (.int (0 : Int32))) := by
  refine Ctr.go (plainFor_of_name pn_21) fun p e s m below meth c s₁ Bd hx hby hml hZ hown hnm X0 e0 => ?_
  have N0 := Fr.nil n0
  have K0 := Keep.refl h0 [b, t]
  refine gs (S' := s₁.setTop (mkF m 0 #[rv (b), rv (x)] [])) (fun tg kg => castTop (ef_112 m b x) kg) ?_
  refine gs (fun _ k => o_aloadN X0 hx hby d8_0 rfl rfl (o_aloadN X0 hx hby d8_1 rfl rfl k)) ?_
  refine cP (rest := []) X0 hx hZ hown (ow hw 90 rfl) (own_same (ow hw 110 rfl) (ow hw 91 rfl) (by decide) rfl) (ow hw 91 rfl) (ow hw 92 rfl) (ow hw 77 rfl) (ow hw 94 rfl) (rm_aaA l Z a0 hw [] b t kb cs x ds z h0 n0 Z0 O0 E_b F_v F_c F_n V_t g_b g_t S0 hz T_x hbx l2x hroom hfit) hby d8_2 e0 pd_116 0 (by rw [hml]; rfl) E_b rfl rfl rfl rfl (by decide) (by decide) fun _ T1 Lc1 X1 hQ1 => ?_
  obtain ⟨rfl, N1q, K1q, F1v, F1c, F1n, V1q⟩ := hQ1
  have N1 := Fr.app N0 N1q
  have Z2 := nt Z0 K1q.1
  have O2 := O0.keep K1q (allS g_b (allS g_t all0))
  have K2 := K0.trans K1q (allS (Or.inl (List.mem_of_getElem? (i := 0) rfl)) (allS (Or.inl (List.mem_of_getElem? (i := 1) rfl)) all0))
  refine gs (fun _ k => o_pop X1 hx hby d8_5 rfl (o_aloadN X1 hx hby d8_6 rfl rfl k)) ?_
  refine gout (v := some (.ref b)) X1 Bd.notSynchronized (fun h => by rw [Bd.returns] at h; cases h) (by decide) (by decide) ?_ (fun fs hr => retOut X1 hx Bd.returns rfl (Or.inr (Or.inr (Or.inr (Or.inr ⟨rfl, rfl, rfl⟩)))) (hb hby d8_7) hr)
  exact ⟨rfl, N1, K2, F1v, F1c, F1n, V1q⟩
theorem ef_120 (m : MethodId) (x0 : Addr) (x1 : Addr) (x2 : Int32) (x3 : Int32) : entryFrame m #[(.ref x0), (.ref x1), (.int x2), (.int x3)] 4 = mkF m 0 #[.val (.ref x0), .val (.ref x1), .val (.int x2), .val (.int x3)] [] := by first | (simp [entryFrame, mkF, argsToLocals, Value.category]; done) | rfl
set_option maxRecDepth 65536 in
set_option maxHeartbeats 40000000 in
theorem rm_gbGp (l : Launch) (Z : State) (a0 : Array Value) (hw : HW Z a0) (ws : List Jvm.Cond) (t : Addr) (kb : ClassId) (cs : List Int32) (x : Addr) (ds : List Int32) (z : Int32) (h0 : Heap) (n0 : Nat) (Z0 : n0 ≤ h0.size) (O0 : Old Z n0 h0) (S0 : PS0 Z (.int z)) (hz : ¬ z = 0) (T_x : Str Z h0 x ds) (V_t : Arv Z h0 t kb .byte (34 : Int32) (own_bv cs) (.int (0 : Int32))) (g_t : n0 ≤ t) (hfit : cs.length + ds.length ≤ 34) :
    Ctr l Z my5 jdk_42_method_147_code 4 ((Option.none : Option Jvm.ClassFile.FieldType)) ws (⟨1, 0, 0, 18⟩ : Room) #[(.ref x), (.ref t), (.int (Int32.ofNat cs.length)), (.int (0 : Int32))] h0 (fun v h L => v = none ∧ Fr n0 L ∧ Keep h0 h [t] ∧ Arv Z h t kb .byte (34 : Int32) (own_bv (cs ++ ds)) (.int (0 : Int32))) := by
  refine Ctr.go (plainFor_of_name pn_29) fun p e s m below meth c s₁ Bd hx hby hml hZ hown hnm X0 e0 => ?_
  have N0 := Fr.nil n0
  have K0 := Keep.refl h0 [t]
  refine gs (S' := s₁.setTop (mkF m 0 #[rv (x), rv (t), iv ((Int32.ofNat cs.length)), iv ((0 : Int32))] [])) (fun tg kg => castTop (ef_120 m x t (Int32.ofNat cs.length) (0 : Int32)) kg) ?_
  obtain ⟨u, ku, E_x, F_cx, F_vx, V_u⟩ := id T_x
  refine gs (fun _ k => o_aloadN X0 hx hby d4_0 rfl rfl k) ?_
  refine cV (rest := []) X0 hx hZ hown (ow hw 100 rfl) (ow hw 101 rfl) (nfs hZ (ow hw 103 rfl)) (ow hw 103 rfl) (ow hw 102 rfl) (ow hw 9 rfl) (ow hw 104 rfl) (rm_coder0 l Z a0 hw [] x ds z h0 n0 Z0 O0 S0 hz T_x) hby d4_1 e0 pd_37 0 (by rw [hml]; rfl) E_x rfl rfl rfl rfl (by decide) (by decide) fun _ T1 Lc1 X1 hQ1 => ?_
  obtain ⟨rfl, N1q, e1q⟩ := hQ1
  have N1 := Fr.app N0 N1q
  refine gs (fun _ k => o_iloadN X1 hx hby d4_4 rfl (o_icmpNo X1 hx hby d4_5 (teq (by decide : (0 : Int32) = (0 : Int32))).2 (o_aloadN X1 hx hby d4_8 rfl rfl k))) ?_
  refine gF X1 hx hZ hown (host := "") (Or.inl (ow hw 38 rfl)) Via.refl e1q F_vx hby d4_9 fun T2 X2 e2 => ?_
  refine gs (fun _ k => o_iconst (v := (0 : Int32)) X2 hx hby d4_12 (o_aloadN X2 hx hby d4_13 rfl rfl (o_iloadN X2 hx hby d4_14 rfl (o_iloadN X2 hx hby d4_15 rfl (o_ishl X2 hx hby d4_16 (o_aloadN X2 hx hby d4_17 rfl rfl k)))))) ?_
  refine gF X2 hx hZ hown (host := "") (Or.inl (ow hw 38 rfl)) Via.refl e2 F_vx hby d4_18 fun T3 X3 e3 => ?_
  obtain ⟨cl4, A4, a4q, a4S, a4N, a4H, a4G⟩ := id V_u
  refine gs (S' := T3.setTop (mkF m 22 #[rv (x), rv (t), iv ((Int32.ofNat cs.length)), iv ((0 : Int32))] [(.int (Int32.ofNat ds.length)), (.int ((Int32.ofNat cs.length) <<< ((0 : Int32) &&& 31))), (.ref t), (.int (0 : Int32)), (.ref u)])) (fun _ k => by refine X3.arraylength hx (by rw [e3]; exact A4.1) (State.isArrayOf_alike hZ.alike A4.2.1) (g := (mkF m 21 #[rv (x), rv (t), iv ((Int32.ofNat cs.length)), iv ((0 : Int32))] [(.ref u), (.int ((Int32.ofNat cs.length) <<< ((0 : Int32) &&& 31))), (.ref t), (.int (0 : Int32)), (.ref u)])) rfl rfl (hb hby d4_21) _ ?_; rw [len_of a4S a4N]; exact k) ?_
  obtain ⟨T5, h5, L5, X5, e5, N5, K5q, V5, st5⟩ := own_cp X3 hx hZ hown (ow hw 128 rfl) (ow hw 131 rfl) (ow hw 129 rfl) (ow hw 130 rfl) e3 (cs := ds) (ds := cs) V_u V_t ds.length 34 ds.length rfl rfl rfl (own_shl0 _) (by omega) (by omega) (Nat.le_refl _) (Nat.le_refl _) hfit N1 g_t (g := (mkF m 22 #[rv (x), rv (t), iv ((Int32.ofNat cs.length)), iv ((0 : Int32))] [(.int (Int32.ofNat ds.length)), (.int ((Int32.ofNat cs.length) <<< ((0 : Int32) &&& 31))), (.ref t), (.int (0 : Int32)), (.ref u)])) rfl (by rw [hml]; rfl) rfl (hb hby d4_22) (by decide) (W := 0) (own_w0 rfl) (by decide)
  have Z6 := nt Z0 K5q.1
  have O6 := O0.keep K5q (allS g_t all0)
  have K6 := K0.trans K5q (allS (Or.inl (List.mem_of_getElem? (i := 0) rfl)) all0)
  refine gs (S' := T5.setTop (mkF m 25 #[rv (x), rv (t), iv ((Int32.ofNat cs.length)), iv ((0 : Int32))] [])) st5 ?_
  refine gs (fun _ k => o_goto (pc' := 43) X5 hx hby d4_25 k) ?_
  refine gout (v := none) X5 Bd.notSynchronized (fun _ => rfl) (by decide) (by decide) ?_ (fun fs hr => X5.returnOut hx Bd.returns (hb hby d4_43) hr)
  rw [e5]
  exact ⟨rfl, N5, K6, V5⟩
theorem ef_121 (m : MethodId) (x0 : Addr) (x1 : Int32) (x2 : Addr) : entryFrame m #[(.ref x0), (.int x1), (.ref x2)] 3 = mkF m 0 #[.val (.ref x0), .val (.int x1), .val (.ref x2)] [] := by first | (simp [entryFrame, mkF, argsToLocals, Value.category]; done) | rfl
set_option maxRecDepth 65536 in
set_option maxHeartbeats 40000000 in
theorem rm_paGp (l : Launch) (Z : State) (a0 : Array Value) (hw : HW Z a0) (ws : List Jvm.Cond) (b : Addr) (t : Addr) (kb : ClassId) (cs : List Int32) (x : Addr) (ds : List Int32) (z : Int32) (h0 : Heap) (n0 : Nat) (Z0 : n0 ≤ h0.size) (O0 : Old Z n0 h0) (E_b : Exa Z h0 b "java/lang/StringBuilder") (F_v : Fld Z h0 b "java/lang/AbstractStringBuilder" "value" "[B" (.ref t)) (F_c : Fld Z h0 b "java/lang/AbstractStringBuilder" "coder" "B" (.int (0 : Int32))) (F_n : Fld Z h0 b "java/lang/AbstractStringBuilder" "count" "I" (.int (Int32.ofNat cs.length))) (V_t : Arv Z h0 t kb .byte (34 : Int32) (own_bv cs) (.int (0 : Int32))) (g_t : n0 ≤ t) (S0 : PS0 Z (.int z)) (hz : ¬ z = 0) (T_x : Str Z h0 x ds) (hfit : cs.length + ds.length ≤ 34) :
    Ctr l Z my6 jdk_68_method_73_code 3 ((Option.none : Option Jvm.ClassFile.FieldType)) ws (⟨2, 0, 0, 33⟩ : Room) #[(.ref b), (.int (Int32.ofNat cs.length)), (.ref x)] h0 (fun v h L => v = none ∧ Fr n0 L ∧ Keep h0 h [t] ∧ Arv Z h t kb .byte (34 : Int32) (own_bv (cs ++ ds)) (.int (0 : Int32))) := by
  refine Ctr.go (plainFor_of_name pn_14) fun p e s m below meth c s₁ Bd hx hby hml hZ hown hnm X0 e0 => ?_
  have N0 := Fr.nil n0
  have K0 := Keep.refl h0 [t]
  refine gs (S' := s₁.setTop (mkF m 0 #[rv (b), iv ((Int32.ofNat cs.length)), rv (x)] [])) (fun tg kg => castTop (ef_121 m b (Int32.ofNat cs.length) x) kg) ?_
  refine gs (fun _ k => o_aloadN X0 hx hby d5_0 rfl rfl (o_aloadN X0 hx hby d5_1 rfl rfl k)) ?_
  refine cV (rest := []) X0 hx hZ hown (ow hw 117 rfl) (own_decl (ow hw 118 rfl) (ow hw 121 rfl)) (nfs hZ (ow hw 120 rfl)) (ow hw 120 rfl) (ow hw 118 rfl) (ow hw 77 rfl) (ow hw 121 rfl) (rm_inf l Z a0 hw [] b x ds z h0 n0 Z0 O0 S0 hz F_c T_x) hby d5_2 e0 pd_62 0 (by rw [hml]; rfl) E_b rfl rfl rfl rfl (by decide) (by decide) fun _ T1 Lc1 X1 hQ1 => ?_
  obtain ⟨rfl, N1q, e1q⟩ := hQ1
  have N1 := Fr.app N0 N1q
  refine gs (fun _ k => o_aloadN X1 hx hby d5_5 rfl rfl (o_aloadN X1 hx hby d5_6 rfl rfl k)) ?_
  refine gF X1 hx hZ hown (host := "") (Or.inl (ow hw 81 rfl)) Via.refl e1q F_v hby d5_7 fun T2 X2 e2 => ?_
  refine gs (fun _ k => o_iloadN X2 hx hby d5_10 rfl (o_aloadN X2 hx hby d5_11 rfl rfl k)) ?_
  refine gF X2 hx hZ hown (host := "") (Or.inl (ow hw 83 rfl)) Via.refl e2 F_c hby d5_12 fun T3 X3 e3 => ?_
  refine cV (rest := []) X3 hx hZ hown (ow hw 123 rfl) (ow hw 124 rfl) (nfs hZ (ow hw 126 rfl)) (ow hw 126 rfl) (ow hw 125 rfl) (ow hw 9 rfl) (ow hw 127 rfl) (rm_gbGp l Z a0 hw [] t kb cs x ds z h0 n0 Z0 O0 S0 hz T_x V_t g_t hfit) hby d5_15 e3 pd_70 0 (by rw [hml]; rfl) T_x.exa rfl rfl rfl rfl (by decide) (by decide) fun _ T4 Lc4 X4 hQ4 => ?_
  obtain ⟨rfl, N4q, K4q, V4q⟩ := hQ4
  have N4 := Fr.app N1 N4q
  have Z5 := nt Z0 K4q.1
  have O5 := O0.keep K4q (allS g_t all0)
  have K5 := K0.trans K4q (allS (Or.inl (List.mem_of_getElem? (i := 0) rfl)) all0)
  refine gout (v := none) X4 Bd.notSynchronized (fun _ => rfl) (by decide) (by decide) ?_ (fun fs hr => X4.returnOut hx Bd.returns (hb hby d5_18) hr)
  exact ⟨rfl, N4, K5, V4q⟩
theorem ef_122 (m : MethodId) (x0 : Int32) (x1 : Int32) : entryFrame m #[(.int x0), (.int x1)] 2 = mkF m 0 #[.val (.int x0), .val (.int x1)] [] := by first | (simp [entryFrame, mkF, argsToLocals, Value.category]; done) | rfl
theorem d9_0 : decode jdk_29_method_65_code 0 = .ok (.iload_n 0, 1) := by decide +kernel
theorem d9_1 : decode jdk_29_method_65_code 1 = .ok (.iload_n 1, 1) := by decide +kernel
theorem d9_2 : decode jdk_29_method_65_code 2 = .ok (.if_icmp .lt 7, 3) := by decide +kernel
theorem d9_9 : decode jdk_29_method_65_code 9 = .ok (.iload_n 1, 1) := by decide +kernel
theorem d9_10 : decode jdk_29_method_65_code 10 = .ok (.ireturn, 1) := by decide +kernel
set_option maxRecDepth 65536 in
set_option maxHeartbeats 40000000 in
theorem rm_mxG (l : Launch) (Z : State) (a0 : Array Value) (hw : HW Z a0) (ws : List Jvm.Cond) (gr : Int32) (h0 : Heap) (n0 : Nat) (Z0 : n0 ≤ h0.size) (O0 : Old Z n0 h0) (hgr : gr < (18 : Int32)) :
    Ctr l Z my4 jdk_29_method_65_code 2 ((Option.some Jvm.ClassFile.FieldType.int)) ws (⟨0, 0, 0, 0⟩ : Room) #[(.int gr), (.int (18 : Int32))] h0 (fun v h L => v = some (.int (18 : Int32)) ∧ Fr n0 L ∧ h = h0) := by
  refine Ctr.go own_pf1 fun p e s m below meth c s₁ Bd hx hby hml hZ hown hnm X0 e0 => ?_
  have N0 := Fr.nil n0
  have K0 := Keep.refl h0 []
  refine gs (S' := s₁.setTop (mkF m 0 #[iv (gr), iv ((18 : Int32))] [])) (fun tg kg => castTop (ef_122 m gr (18 : Int32)) kg) ?_
  refine gs (fun _ k => o_iloadN X0 hx hby d9_0 rfl (o_iloadN X0 hx hby d9_1 rfl (o_icmpYes (pc' := 9) X0 hx hby d9_2 (tlt hgr).1 (o_iloadN X0 hx hby d9_9 rfl k)))) ?_
  refine gout (v := some (.int (18 : Int32))) X0 Bd.notSynchronized (fun h => by rw [Bd.returns] at h; cases h) (by decide) (by decide) ?_ (fun fs hr => retI X0 hx Bd.returns (hb hby d9_10) hr)
  rw [e0]
  exact ⟨rfl, N0, rfl⟩
theorem ef_128 (m : MethodId) (x0 : Int32) (x1 : Int32) (x2 : Int32) : entryFrame m #[(.int x0), (.int x1), (.int x2)] 4 = mkF m 0 #[.val (.int x0), .val (.int x1), .val (.int x2), .unset] [] := by first | (simp [entryFrame, mkF, argsToLocals, Value.category]; done) | rfl
theorem d10_0 : decode jdk_48_method_27_code 0 = .ok (.iload_n 0, 1) := by decide +kernel
theorem d10_1 : decode jdk_48_method_27_code 1 = .ok (.iload_n 1, 1) := by decide +kernel
theorem d10_2 : decode jdk_48_method_27_code 2 = .ok (.iload_n 2, 1) := by decide +kernel
theorem d10_3 : decode jdk_48_method_27_code 3 = .ok (.invokestatic 194, 3) := by decide +kernel
theorem pd_133 : parseMethodDescriptor "(II)I" = some ⟨[.int, .int], some .int⟩ := by decide +kernel
theorem d10_6 : decode jdk_48_method_27_code 6 = .ok (.iadd, 1) := by decide +kernel
theorem d10_7 : decode jdk_48_method_27_code 7 = .ok (.istore_n 3, 1) := by decide +kernel
theorem d10_8 : decode jdk_48_method_27_code 8 = .ok (.iconst 0, 1) := by decide +kernel
theorem d10_9 : decode jdk_48_method_27_code 9 = .ok (.iload_n 3, 1) := by decide +kernel
theorem d10_10 : decode jdk_48_method_27_code 10 = .ok (.if_icmp .ge 11, 3) := by decide +kernel
theorem d10_13 : decode jdk_48_method_27_code 13 = .ok (.iload_n 3, 1) := by decide +kernel
theorem d10_14 : decode jdk_48_method_27_code 14 = .ok (.ldc 200, 2) := by decide +kernel
theorem d10_16 : decode jdk_48_method_27_code 16 = .ok (.if_icmp .gt 5, 3) := by decide +kernel
theorem d10_19 : decode jdk_48_method_27_code 19 = .ok (.iload_n 3, 1) := by decide +kernel
theorem d10_20 : decode jdk_48_method_27_code 20 = .ok (.ireturn, 1) := by decide +kernel
theorem pn_144 : plainName "jdk/internal/util/ArraysSupport" = true := by first | (simp [plainName, overriddenIn]; done) | decide +kernel
set_option maxRecDepth 65536 in
set_option maxHeartbeats 40000000 in
theorem rm_nlG (l : Launch) (Z : State) (a0 : Array Value) (hw : HW Z a0) (ws : List Jvm.Cond) (gr : Int32) (h0 : Heap) (n0 : Nat) (Z0 : n0 ≤ h0.size) (O0 : Old Z n0 h0) (hgr : gr < (18 : Int32)) :
    Ctr l Z (⟨"jdk/internal/util/ArraysSupport", "newLength", "(III)I"⟩ : MethodName) jdk_48_method_27_code 4 ((Option.some Jvm.ClassFile.FieldType.int)) ws (⟨1, 0, 0, 14⟩ : Room) #[(.int (16 : Int32)), (.int gr), (.int (18 : Int32))] h0 (fun v h L => v = some (.int (34 : Int32)) ∧ Fr n0 L ∧ h = h0) := by
  refine Ctr.go (plainFor_of_name pn_144) fun p e s m below meth c s₁ Bd hx hby hml hZ hown hnm X0 e0 => ?_
  have N0 := Fr.nil n0
  have K0 := Keep.refl h0 []
  refine gs (S' := s₁.setTop (mkF m 0 #[iv ((16 : Int32)), iv (gr), iv ((18 : Int32)), uu] [])) (fun tg kg => castTop (ef_128 m (16 : Int32) gr (18 : Int32)) kg) ?_
  refine gs (fun _ k => o_iloadN X0 hx hby d10_0 rfl (o_iloadN X0 hx hby d10_1 rfl (o_iloadN X0 hx hby d10_2 rfl k))) ?_
  refine cS (rest := [(.int (16 : Int32))]) X0 hx hZ hown (ow hw 144 rfl) (ow hw 145 rfl) (ow hw 146 rfl) (ow hw 147 rfl) (rm_mxG l Z a0 hw [] gr h0 n0 Z0 O0 hgr) hby d10_3 e0 pd_133 1 (by rw [hml]; rfl) rfl rfl rfl rfl (by decide) (by decide) fun _ T1 Lc1 X1 hQ1 => ?_
  obtain ⟨rfl, N1q, e1q⟩ := hQ1
  have N1 := Fr.app N0 N1q
  refine gs (fun _ k => o_iadd X1 hx hby d10_6 (o_istoreN X1 hx hby d10_7 rfl (o_iconst (v := (0 : Int32)) X1 hx hby d10_8 (o_iloadN X1 hx hby d10_9 rfl (o_icmpNo X1 hx hby d10_10 (tlt (by decide : (0 : Int32) < (34 : Int32))).2.1 (o_iloadN X1 hx hby d10_13 rfl (X1.ldcInt hx hown (mvT hZ (ow hw 148 rfl)) (g := (mkF m 14 #[iv ((16 : Int32)), iv (gr), iv ((18 : Int32)), iv ((34 : Int32))] [(.int (34 : Int32))])) rfl (hb hby d10_14) _ (o_icmpNo X1 hx hby d10_16 (flt (by decide : ¬ ((2147483639 : Int32) < (34 : Int32)))).2.2.1 (o_iloadN X1 hx hby d10_19 rfl k))))))))) ?_
  refine gout (v := some (.int (34 : Int32))) X1 Bd.notSynchronized (fun h => by rw [Bd.returns] at h; cases h) (by decide) (by decide) ?_ (fun fs hr => retI X1 hx Bd.returns (hb hby d10_20) hr)
  rw [e1q]
  exact ⟨rfl, N1, rfl⟩
theorem ef_145 (m : MethodId) (x0 : Addr) (x1 : Int32) : entryFrame m #[(.ref x0), (.int x1)] 6 = mkF m 0 #[.val (.ref x0), .val (.int x1), .unset, .unset, .unset, .unset] [] := by first | (simp [entryFrame, mkF, argsToLocals, Value.category]; done) | rfl
theorem d11_0 : decode jdk_68_method_10_code 0 = .ok (.aload_n 0, 1) := by decide +kernel
theorem d11_1 : decode jdk_68_method_10_code 1 = .ok (.getfield 15, 3) := by decide +kernel
theorem d11_4 : decode jdk_68_method_10_code 4 = .ok (.arraylength, 1) := by decide +kernel
theorem d11_5 : decode jdk_68_method_10_code 5 = .ok (.istore_n 2, 1) := by decide +kernel
theorem d11_6 : decode jdk_68_method_10_code 6 = .ok (.iload_n 1, 1) := by decide +kernel
theorem d11_7 : decode jdk_68_method_10_code 7 = .ok (.aload_n 0, 1) := by decide +kernel
theorem d11_8 : decode jdk_68_method_10_code 8 = .ok (.getfield 22, 3) := by decide +kernel
theorem d11_11 : decode jdk_68_method_10_code 11 = .ok (.ishl, 1) := by decide +kernel
theorem d11_12 : decode jdk_68_method_10_code 12 = .ok (.istore_n 3, 1) := by decide +kernel
theorem d11_13 : decode jdk_68_method_10_code 13 = .ok (.iload_n 3, 1) := by decide +kernel
theorem d11_14 : decode jdk_68_method_10_code 14 = .ok (.iload_n 2, 1) := by decide +kernel
theorem d11_15 : decode jdk_68_method_10_code 15 = .ok (.isub, 1) := by decide +kernel
theorem d11_16 : decode jdk_68_method_10_code 16 = .ok (.istore 4, 2) := by decide +kernel
theorem d11_18 : decode jdk_68_method_10_code 18 = .ok (.iload_n 2, 1) := by decide +kernel
theorem d11_19 : decode jdk_68_method_10_code 19 = .ok (.iload 4, 2) := by decide +kernel
theorem d11_21 : decode jdk_68_method_10_code 21 = .ok (.iload_n 2, 1) := by decide +kernel
theorem d11_22 : decode jdk_68_method_10_code 22 = .ok (.iconst 2, 1) := by decide +kernel
theorem d11_23 : decode jdk_68_method_10_code 23 = .ok (.aload_n 0, 1) := by decide +kernel
theorem d11_24 : decode jdk_68_method_10_code 24 = .ok (.getfield 22, 3) := by decide +kernel
theorem d11_27 : decode jdk_68_method_10_code 27 = .ok (.ishl, 1) := by decide +kernel
theorem d11_28 : decode jdk_68_method_10_code 28 = .ok (.iadd, 1) := by decide +kernel
theorem d11_29 : decode jdk_68_method_10_code 29 = .ok (.invokestatic 114, 3) := by decide +kernel
theorem pd_168 : parseMethodDescriptor "(III)I" = some ⟨[.int, .int, .int], some .int⟩ := by decide +kernel
theorem d11_32 : decode jdk_68_method_10_code 32 = .ok (.istore 5, 2) := by decide +kernel
theorem d11_34 : decode jdk_68_method_10_code 34 = .ok (.iload 5, 2) := by decide +kernel
theorem d11_36 : decode jdk_68_method_10_code 36 = .ok (.ldc 39, 2) := by decide +kernel
theorem d11_38 : decode jdk_68_method_10_code 38 = .ok (.if_icmp .ne 13, 3) := by decide +kernel
theorem d11_51 : decode jdk_68_method_10_code 51 = .ok (.iload 5, 2) := by decide +kernel
theorem d11_53 : decode jdk_68_method_10_code 53 = .ok (.aload_n 0, 1) := by decide +kernel
theorem d11_54 : decode jdk_68_method_10_code 54 = .ok (.getfield 22, 3) := by decide +kernel
theorem d11_57 : decode jdk_68_method_10_code 57 = .ok (.ishr, 1) := by decide +kernel
theorem d11_58 : decode jdk_68_method_10_code 58 = .ok (.ireturn, 1) := by decide +kernel
set_option maxRecDepth 65536 in
set_option maxHeartbeats 40000000 in
theorem rm_ncG (l : Launch) (Z : State) (a0 : Array Value) (hw : HW Z a0) (ws : List Jvm.Cond) (b : Addr) (t : Addr) (kb : ClassId) (cs : List Int32) (ds : List Int32) (h0 : Heap) (n0 : Nat) (Z0 : n0 ≤ h0.size) (O0 : Old Z n0 h0) (E_b : Exa Z h0 b "java/lang/StringBuilder") (F_v : Fld Z h0 b "java/lang/AbstractStringBuilder" "value" "[B" (.ref t)) (F_c : Fld Z h0 b "java/lang/AbstractStringBuilder" "coder" "B" (.int (0 : Int32))) (F_n : Fld Z h0 b "java/lang/AbstractStringBuilder" "count" "I" (.int (Int32.ofNat cs.length))) (V_t : Arv Z h0 t kb .byte (16 : Int32) (own_bv cs) (.int (0 : Int32))) (hgr : ((((Int32.ofNat cs.length) + (Int32.ofNat ds.length)) <<< ((0 : Int32) &&& 31)) - (16 : Int32)) < (18 : Int32)) :
    Ctr l Z (⟨"java/lang/AbstractStringBuilder", "newCapacity", "(I)I"⟩ : MethodName) jdk_68_method_10_code 6 ((Option.some Jvm.ClassFile.FieldType.int)) ws (⟨2, 0, 0, 29⟩ : Room) #[(.ref b), (.int ((Int32.ofNat cs.length) + (Int32.ofNat ds.length)))] h0 (fun v h L => v = some (.int (34 : Int32)) ∧ Fr n0 L ∧ h = h0) := by
  refine Ctr.go (plainFor_of_name pn_14) fun p e s m below meth c s₁ Bd hx hby hml hZ hown hnm X0 e0 => ?_
  have N0 := Fr.nil n0
  have K0 := Keep.refl h0 []
  refine gs (S' := s₁.setTop (mkF m 0 #[rv (b), iv (((Int32.ofNat cs.length) + (Int32.ofNat ds.length))), uu, uu, uu, uu] [])) (fun tg kg => castTop (ef_145 m b ((Int32.ofNat cs.length) + (Int32.ofNat ds.length))) kg) ?_
  refine gs (fun _ k => o_aloadN X0 hx hby d11_0 rfl rfl k) ?_
  refine gF X0 hx hZ hown (host := "") (Or.inl (ow hw 81 rfl)) Via.refl e0 F_v hby d11_1 fun T1 X1 e1 => ?_
  obtain ⟨cl2, A2, a2q, a2S, a2N, a2H, a2G⟩ := id V_t
  refine gs (S' := T1.setTop (mkF m 5 #[rv (b), iv (((Int32.ofNat cs.length) + (Int32.ofNat ds.length))), uu, uu, uu, uu] [(.int (16 : Int32))])) (fun _ k => by refine X1.arraylength hx (by rw [e1]; exact A2.1) (State.isArrayOf_alike hZ.alike A2.2.1) (g := (mkF m 4 #[rv (b), iv (((Int32.ofNat cs.length) + (Int32.ofNat ds.length))), uu, uu, uu, uu] [(.ref t)])) rfl rfl (hb hby d11_4) _ ?_; rw [len_of a2S a2N]; exact k) ?_
  refine gs (fun _ k => o_istoreN X1 hx hby d11_5 rfl (o_iloadN X1 hx hby d11_6 rfl (o_aloadN X1 hx hby d11_7 rfl rfl k))) ?_
  refine gF X1 hx hZ hown (host := "") (Or.inl (ow hw 83 rfl)) Via.refl e1 F_c hby d11_8 fun T3 X3 e3 => ?_
  refine gs (fun _ k => o_ishl X3 hx hby d11_11 (o_istoreN X3 hx hby d11_12 rfl (o_iloadN X3 hx hby d11_13 rfl (o_iloadN X3 hx hby d11_14 rfl (o_isub X3 hx hby d11_15 (o_istore X3 hx hby d11_16 rfl (o_iloadN X3 hx hby d11_18 rfl (o_iload X3 hx hby d11_19 rfl (o_iloadN X3 hx hby d11_21 rfl (o_iconst (v := (2 : Int32)) X3 hx hby d11_22 (o_aloadN X3 hx hby d11_23 rfl rfl k))))))))))) ?_
  refine gF X3 hx hZ hown (host := "") (Or.inl (ow hw 83 rfl)) Via.refl e3 F_c hby d11_24 fun T4 X4 e4 => ?_
  refine gs (fun _ k => o_ishl X4 hx hby d11_27 (o_iadd X4 hx hby d11_28 k)) ?_
  refine cS (rest := []) X4 hx hZ hown (ow hw 140 rfl) (ow hw 141 rfl) (ow hw 142 rfl) (ow hw 143 rfl) (rm_nlG l Z a0 hw [] ((((Int32.ofNat cs.length) + (Int32.ofNat ds.length)) <<< ((0 : Int32) &&& 31)) - (16 : Int32)) h0 n0 Z0 O0 hgr) hby d11_29 e4 pd_168 0 (by rw [hml]; rfl) rfl rfl rfl rfl (by decide) (by decide) fun _ T5 Lc5 X5 hQ5 => ?_
  obtain ⟨rfl, N5q, e5q⟩ := hQ5
  have N5 := Fr.app N0 N5q
  refine gs (fun _ k => o_istore X5 hx hby d11_32 rfl (o_iload X5 hx hby d11_34 rfl (X5.ldcInt hx hown (mvT hZ (ow hw 149 rfl)) (g := (mkF m 36 #[rv (b), iv (((Int32.ofNat cs.length) + (Int32.ofNat ds.length))), iv ((16 : Int32)), iv ((((Int32.ofNat cs.length) + (Int32.ofNat ds.length)) <<< ((0 : Int32) &&& 31))), iv (((((Int32.ofNat cs.length) + (Int32.ofNat ds.length)) <<< ((0 : Int32) &&& 31)) - (16 : Int32))), iv ((34 : Int32))] [(.int (34 : Int32))])) rfl (hb hby d11_36) _ (o_icmpYes (pc' := 51) X5 hx hby d11_38 (feq (by decide : ¬ ((34 : Int32) = (2147483647 : Int32)))).2 (o_iload X5 hx hby d11_51 rfl (o_aloadN X5 hx hby d11_53 rfl rfl k)))))) ?_
  refine gF X5 hx hZ hown (host := "") (Or.inl (ow hw 83 rfl)) Via.refl e5q F_c hby d11_54 fun T6 X6 e6 => ?_
  refine gs (fun _ k => o_ishr X6 hx hby d11_57 k) ?_
  refine gout (v := some (.int (34 : Int32))) X6 Bd.notSynchronized (fun h => by rw [Bd.returns] at h; cases h) (by decide) (by decide) ?_ (fun fs hr => retI X6 hx Bd.returns (hb hby d11_58) hr)
  rw [e6]
  exact ⟨rfl, N5, rfl⟩
theorem ef_178 (m : MethodId) (x0 : Int32) (x1 : Int32) : entryFrame m #[(.int x0), (.int x1)] 2 = mkF m 0 #[.val (.int x0), .val (.int x1)] [] := by first | (simp [entryFrame, mkF, argsToLocals, Value.category]; done) | rfl
theorem d12_0 : decode jdk_29_method_69_code 0 = .ok (.iload_n 0, 1) := by decide +kernel
theorem d12_1 : decode jdk_29_method_69_code 1 = .ok (.iload_n 1, 1) := by decide +kernel
theorem d12_2 : decode jdk_29_method_69_code 2 = .ok (.if_icmp .gt 7, 3) := by decide +kernel
theorem d12_5 : decode jdk_29_method_69_code 5 = .ok (.iload_n 0, 1) := by decide +kernel
theorem d12_6 : decode jdk_29_method_69_code 6 = .ok (.goto 4, 3) := by decide +kernel
theorem d12_10 : decode jdk_29_method_69_code 10 = .ok (.ireturn, 1) := by decide +kernel
set_option maxRecDepth 65536 in
set_option maxHeartbeats 40000000 in
theorem rm_mnG (l : Launch) (Z : State) (a0 : Array Value) (hw : HW Z a0) (ws : List Jvm.Cond)  (h0 : Heap) (n0 : Nat) (Z0 : n0 ≤ h0.size) (O0 : Old Z n0 h0)  :
    Ctr l Z my3 jdk_29_method_69_code 2 ((Option.some Jvm.ClassFile.FieldType.int)) ws (⟨0, 0, 0, 0⟩ : Room) #[(.int (16 : Int32)), (.int (34 : Int32))] h0 (fun v h L => v = some (.int (16 : Int32)) ∧ Fr n0 L ∧ h = h0) := by
  refine Ctr.go own_pf2 fun p e s m below meth c s₁ Bd hx hby hml hZ hown hnm X0 e0 => ?_
  have N0 := Fr.nil n0
  have K0 := Keep.refl h0 []
  refine gs (S' := s₁.setTop (mkF m 0 #[iv ((16 : Int32)), iv ((34 : Int32))] [])) (fun tg kg => castTop (ef_178 m (16 : Int32) (34 : Int32)) kg) ?_
  refine gs (fun _ k => o_iloadN X0 hx hby d12_0 rfl (o_iloadN X0 hx hby d12_1 rfl (o_icmpNo X0 hx hby d12_2 (flt (by decide : ¬ ((34 : Int32) < (16 : Int32)))).2.2.1 (o_iloadN X0 hx hby d12_5 rfl (o_goto (pc' := 10) X0 hx hby d12_6 k))))) ?_
  refine gout (v := some (.int (16 : Int32))) X0 Bd.notSynchronized (fun h => by rw [Bd.returns] at h; cases h) (by decide) (by decide) ?_ (fun fs hr => retI X0 hx Bd.returns (hb hby d12_10) hr)
  rw [e0]
  exact ⟨rfl, N0, rfl⟩
theorem ef_185 (m : MethodId) (x0 : Addr) (x1 : Int32) : entryFrame m #[(.ref x0), (.int x1)] 3 = mkF m 0 #[.val (.ref x0), .val (.int x1), .unset] [] := by first | (simp [entryFrame, mkF, argsToLocals, Value.category]; done) | rfl
theorem d13_0 : decode jdk_65_method_121_code 0 = .ok (.iload_n 1, 1) := by decide +kernel
theorem d13_1 : decode jdk_65_method_121_code 1 = .ok (.aload_n 0, 1) := by decide +kernel
theorem d13_2 : decode jdk_65_method_121_code 2 = .ok (.arraylength, 1) := by decide +kernel
theorem d13_3 : decode jdk_65_method_121_code 3 = .ok (.if_icmp .ne 11, 3) := by decide +kernel
theorem d13_14 : decode jdk_65_method_121_code 14 = .ok (.iload_n 1, 1) := by decide +kernel
theorem d13_15 : decode jdk_65_method_121_code 15 = .ok (.newarray .byte, 2) := by decide +kernel
theorem d13_17 : decode jdk_65_method_121_code 17 = .ok (.astore_n 2, 1) := by decide +kernel
theorem d13_18 : decode jdk_65_method_121_code 18 = .ok (.aload_n 0, 1) := by decide +kernel
theorem d13_19 : decode jdk_65_method_121_code 19 = .ok (.iconst 0, 1) := by decide +kernel
theorem d13_20 : decode jdk_65_method_121_code 20 = .ok (.aload_n 2, 1) := by decide +kernel
theorem d13_21 : decode jdk_65_method_121_code 21 = .ok (.iconst 0, 1) := by decide +kernel
theorem d13_22 : decode jdk_65_method_121_code 22 = .ok (.aload_n 0, 1) := by decide +kernel
theorem d13_23 : decode jdk_65_method_121_code 23 = .ok (.arraylength, 1) := by decide +kernel
theorem d13_24 : decode jdk_65_method_121_code 24 = .ok (.iload_n 1, 1) := by decide +kernel
theorem d13_25 : decode jdk_65_method_121_code 25 = .ok (.invokestatic 304, 3) := by decide +kernel
theorem d13_28 : decode jdk_65_method_121_code 28 = .ok (.invokestatic 150, 3) := by decide +kernel
theorem d13_31 : decode jdk_65_method_121_code 31 = .ok (.aload_n 2, 1) := by decide +kernel
theorem d13_32 : decode jdk_65_method_121_code 32 = .ok (.areturn, 1) := by decide +kernel
theorem pn_204 : plainName "java/util/Arrays" = true := by first | (simp [plainName, overriddenIn]; done) | decide +kernel
set_option maxRecDepth 65536 in
set_option maxHeartbeats 40000000 in
theorem rm_coG (l : Launch) (Z : State) (a0 : Array Value) (hw : HW Z a0) (ws : List Jvm.Cond) (t : Addr) (kb : ClassId) (cs : List Int32) (h0 : Heap) (n0 : Nat) (Z0 : n0 ≤ h0.size) (O0 : Old Z n0 h0) (V_t : Arv Z h0 t kb .byte (16 : Int32) (own_bv cs) (.int (0 : Int32))) (hk_ : cs.length ≤ 16) :
    Ctr l Z (⟨"java/util/Arrays", "copyOf", "([BI)[B"⟩ : MethodName) jdk_65_method_121_code 3 ((Option.some (Jvm.ClassFile.FieldType.array Jvm.ClassFile.FieldType.byte))) ws (⟨1, 1, 34, 18⟩ : Room) #[(.ref t), (.int (34 : Int32))] h0 (fun v h L => ∃ (t1 : Addr) (k1 : ClassId), v = some (.ref t1) ∧ Fr n0 L ∧ Keep h0 h [] ∧ h0.size ≤ t1 ∧ Arv Z h t1 k1 .byte (34 : Int32) (own_bv cs) (.int (0 : Int32))) := by
  refine Ctr.go (plainFor_of_name pn_204) fun p e s m below meth c s₁ Bd hx hby hml hZ hown hnm X0 e0 => ?_
  have N0 := Fr.nil n0
  have K0 := Keep.refl h0 []
  refine gs (S' := s₁.setTop (mkF m 0 #[rv (t), iv ((34 : Int32)), uu] [])) (fun tg kg => castTop (ef_185 m t (34 : Int32)) kg) ?_
  refine gs (fun _ k => o_iloadN X0 hx hby d13_0 rfl (o_aloadN X0 hx hby d13_1 rfl rfl k)) ?_
  obtain ⟨cl1, A1, a1q, a1S, a1N, a1H, a1G⟩ := id V_t
  refine gs (S' := s₁.setTop (mkF m 3 #[rv (t), iv ((34 : Int32)), uu] [(.int (16 : Int32)), (.int (34 : Int32))])) (fun _ k => by refine X0.arraylength hx (by rw [e0]; exact A1.1) (State.isArrayOf_alike hZ.alike A1.2.1) (g := (mkF m 2 #[rv (t), iv ((34 : Int32)), uu] [(.ref t), (.int (34 : Int32))])) rfl rfl (hb hby d13_2) _ ?_; rw [len_of a1S a1N]; exact k) ?_
  refine gs (fun _ k => o_icmpYes (pc' := 14) X0 hx hby d13_3 (feq (by decide : ¬ ((34 : Int32) = (16 : Int32)))).2 (o_iloadN X0 hx hby d13_14 rfl k)) ?_
  obtain ⟨T2, h2, k2, X2, e2, E2, A2, st2⟩ := newP X0 hx hZ (ow hw 29 rfl) e0 (g := (mkF m 15 #[rv (t), iv ((34 : Int32)), uu] [(.int (34 : Int32))])) rfl (hb hby d13_15) rfl (by decide) (cap := 34) (by decide) (by decide) (by decide) (by decide)
  obtain ⟨b2, q2⟩ : ∃ z, z = h0.size := ⟨_, rfl⟩
  rw [← q2] at A2 st2
  have g_b2 : n0 ≤ b2 := nt Z0 (Nat.le_of_eq q2.symm)
  have sz_b2 : h0.size ≤ b2 := nt K0.1 (Nat.le_of_eq q2.symm)
  have Z3 := nt Z0 E2.1
  have O3 := O0.ext E2
  have K3 := K0.ext E2
  have V2 : Arv Z h2 b2 k2 .byte (34 : Int32) [] (.int (0 : Int32)) := Arv.new A2 (by decide)
  refine gs (S' := T2.setTop (mkF m 17 #[rv (t), iv ((34 : Int32)), uu] [(.ref b2)])) st2 ?_
  refine gs (fun _ k => o_astoreN X2 hx hby d13_17 rfl rfl (o_aloadN X2 hx hby d13_18 rfl rfl (o_iconst (v := (0 : Int32)) X2 hx hby d13_19 (o_aloadN X2 hx hby d13_20 rfl rfl (o_iconst (v := (0 : Int32)) X2 hx hby d13_21 (o_aloadN X2 hx hby d13_22 rfl rfl k)))))) ?_
  have f4 := (V_t.ext E2)
  obtain ⟨cl5, A5, a5q, a5S, a5N, a5H, a5G⟩ := id f4
  refine gs (S' := T2.setTop (mkF m 24 #[rv (t), iv ((34 : Int32)), rv (b2)] [(.int (16 : Int32)), (.int (0 : Int32)), (.ref b2), (.int (0 : Int32)), (.ref t)])) (fun _ k => by refine X2.arraylength hx (by rw [e2]; exact A5.1) (State.isArrayOf_alike hZ.alike A5.2.1) (g := (mkF m 23 #[rv (t), iv ((34 : Int32)), rv (b2)] [(.ref t), (.int (0 : Int32)), (.ref b2), (.int (0 : Int32)), (.ref t)])) rfl rfl (hb hby d13_23) _ ?_; rw [len_of a5S a5N]; exact k) ?_
  refine gs (fun _ k => o_iloadN X2 hx hby d13_24 rfl k) ?_
  refine cS (rest := [(.int (0 : Int32)), (.ref b2), (.int (0 : Int32)), (.ref t)]) X2 hx hZ hown (ow hw 154 rfl) (ow hw 155 rfl) (ow hw 146 rfl) (ow hw 156 rfl) (rm_mnG l Z a0 hw []  h2 n0 Z3 O3 ) hby d13_25 e2 pd_133 4 (by rw [hml]; rfl) rfl rfl rfl rfl (by decide) (by decide) fun _ T6 Lc6 X6 hQ6 => ?_
  obtain ⟨rfl, N6q, e6q⟩ := hQ6
  have N6 := Fr.app N0 N6q
  obtain ⟨T7, h7, L7, X7, e7, N7, K7q, V7, st7⟩ := own_cp X6 hx hZ hown (ow hw 157 rfl) (ow hw 131 rfl) (ow hw 129 rfl) (ow hw 130 rfl) e6q (cs := cs) (ds := []) f4 V2 16 34 16 rfl rfl rfl rfl (by decide) (by decide) hk_ (by decide) (by decide) N6 g_b2 (g := (mkF m 28 #[rv (t), iv ((34 : Int32)), rv (b2)] [(.int (16 : Int32)), (.int (0 : Int32)), (.ref b2), (.int (0 : Int32)), (.ref t)])) rfl (by rw [hml]; rfl) rfl (hb hby d13_28) (by decide) (W := 0) (own_w0 rfl) (by decide)
  have Z8 := nt Z3 K7q.1
  have O8 := O3.keep K7q (allS g_b2 all0)
  have K8 := K3.trans K7q (allS (Or.inr sz_b2) all0)
  refine gs (S' := T7.setTop (mkF m 31 #[rv (t), iv ((34 : Int32)), rv (b2)] [])) st7 ?_
  refine gs (fun _ k => o_aloadN X7 hx hby d13_31 rfl rfl k) ?_
  refine gout (v := some (.ref b2)) X7 Bd.notSynchronized (fun h => by rw [Bd.returns] at h; cases h) (by decide) (by decide) ?_ (fun fs hr => retOut X7 hx Bd.returns rfl (Or.inr (Or.inr (Or.inr (Or.inr ⟨rfl, rfl, rfl⟩)))) (hb hby d13_32) hr)
  rw [e7]
  exact ⟨_, _, rfl, N7, K8, sz_b2, V7⟩
theorem ef_205 (m : MethodId) (x0 : Addr) (x1 : Int32) : entryFrame m #[(.ref x0), (.int x1)] 3 = mkF m 0 #[.val (.ref x0), .val (.int x1), .unset] [] := by first | (simp [entryFrame, mkF, argsToLocals, Value.category]; done) | rfl
theorem d6_17 : decode jdk_68_method_9_code 17 = .ok (.aload_n 0, 1) := by decide +kernel
theorem d6_18 : decode jdk_68_method_9_code 18 = .ok (.aload_n 0, 1) := by decide +kernel
theorem d6_19 : decode jdk_68_method_9_code 19 = .ok (.getfield 15, 3) := by decide +kernel
theorem d6_22 : decode jdk_68_method_9_code 22 = .ok (.aload_n 0, 1) := by decide +kernel
theorem d6_23 : decode jdk_68_method_9_code 23 = .ok (.iload_n 1, 1) := by decide +kernel
theorem d6_24 : decode jdk_68_method_9_code 24 = .ok (.invokevirtual 104, 3) := by decide +kernel
theorem pd_212 : parseMethodDescriptor "(I)I" = some ⟨[.int], some .int⟩ := by decide +kernel
theorem d6_27 : decode jdk_68_method_9_code 27 = .ok (.aload_n 0, 1) := by decide +kernel
theorem d6_28 : decode jdk_68_method_9_code 28 = .ok (.getfield 22, 3) := by decide +kernel
theorem d6_31 : decode jdk_68_method_9_code 31 = .ok (.ishl, 1) := by decide +kernel
theorem d6_32 : decode jdk_68_method_9_code 32 = .ok (.invokestatic 108, 3) := by decide +kernel
theorem pd_217 : parseMethodDescriptor "([BI)[B" = some ⟨[(.array .byte), .int], some (.array .byte)⟩ := by decide +kernel
theorem d6_35 : decode jdk_68_method_9_code 35 = .ok (.putfield 15, 3) := by decide +kernel
set_option maxRecDepth 65536 in
set_option maxHeartbeats 40000000 in
theorem rm_enG (l : Launch) (Z : State) (a0 : Array Value) (hw : HW Z a0) (ws : List Jvm.Cond) (b : Addr) (t : Addr) (kb : ClassId) (cs : List Int32) (ds : List Int32) (h0 : Heap) (n0 : Nat) (Z0 : n0 ≤ h0.size) (O0 : Old Z n0 h0) (E_b : Exa Z h0 b "java/lang/StringBuilder") (F_v : Fld Z h0 b "java/lang/AbstractStringBuilder" "value" "[B" (.ref t)) (F_c : Fld Z h0 b "java/lang/AbstractStringBuilder" "coder" "B" (.int (0 : Int32))) (F_n : Fld Z h0 b "java/lang/AbstractStringBuilder" "count" "I" (.int (Int32.ofNat cs.length))) (V_t : Arv Z h0 t kb .byte (16 : Int32) (own_bv cs) (.int (0 : Int32))) (g_b : n0 ≤ b) (hgrow : (0 : Int32) < (((Int32.ofNat cs.length) + (Int32.ofNat ds.length)) - (16 : Int32))) (hgr : ((((Int32.ofNat cs.length) + (Int32.ofNat ds.length)) <<< ((0 : Int32) &&& 31)) - (16 : Int32)) < (18 : Int32)) (hk_ : cs.length ≤ 16) :
    Ctr l Z my7 jdk_68_method_9_code 3 ((Option.none : Option Jvm.ClassFile.FieldType)) ws (⟨3, 1, 34, 48⟩ : Room) #[(.ref b), (.int ((Int32.ofNat cs.length) + (Int32.ofNat ds.length)))] h0 (fun v h L => ∃ (t1 : Addr) (k1 : ClassId), v = none ∧ Fr n0 L ∧ Keep h0 h [b] ∧ h0.size ≤ t1 ∧ Fld Z h b "java/lang/AbstractStringBuilder" "value" "[B" (.ref t1) ∧ Fld Z h b "java/lang/AbstractStringBuilder" "coder" "B" (.int (0 : Int32)) ∧ Fld Z h b "java/lang/AbstractStringBuilder" "count" "I" (.int (Int32.ofNat cs.length)) ∧ Arv Z h t1 k1 .byte (34 : Int32) (own_bv cs) (.int (0 : Int32))) := by
  refine Ctr.go (plainFor_of_name pn_14) fun p e s m below meth c s₁ Bd hx hby hml hZ hown hnm X0 e0 => ?_
  have N0 := Fr.nil n0
  have K0 := Keep.refl h0 [b]
  refine gs (S' := s₁.setTop (mkF m 0 #[rv (b), iv (((Int32.ofNat cs.length) + (Int32.ofNat ds.length))), uu] [])) (fun tg kg => castTop (ef_205 m b ((Int32.ofNat cs.length) + (Int32.ofNat ds.length))) kg) ?_
  refine gs (fun _ k => o_aloadN X0 hx hby d6_0 rfl rfl k) ?_
  refine gF X0 hx hZ hown (host := "") (Or.inl (ow hw 81 rfl)) Via.refl e0 F_v hby d6_1 fun T1 X1 e1 => ?_
  obtain ⟨cl2, A2, a2q, a2S, a2N, a2H, a2G⟩ := id V_t
  refine gs (S' := T1.setTop (mkF m 5 #[rv (b), iv (((Int32.ofNat cs.length) + (Int32.ofNat ds.length))), uu] [(.int (16 : Int32))])) (fun _ k => by refine X1.arraylength hx (by rw [e1]; exact A2.1) (State.isArrayOf_alike hZ.alike A2.2.1) (g := (mkF m 4 #[rv (b), iv (((Int32.ofNat cs.length) + (Int32.ofNat ds.length))), uu] [(.ref t)])) rfl rfl (hb hby d6_4) _ ?_; rw [len_of a2S a2N]; exact k) ?_
  refine gs (fun _ k => o_aloadN X1 hx hby d6_5 rfl rfl k) ?_
  refine gF X1 hx hZ hown (host := "") (Or.inl (ow hw 83 rfl)) Via.refl e1 F_c hby d6_6 fun T3 X3 e3 => ?_
  refine gs (fun _ k => o_ishr X3 hx hby d6_9 (o_istoreN X3 hx hby d6_10 rfl (o_iloadN X3 hx hby d6_11 rfl (o_iloadN X3 hx hby d6_12 rfl (o_isub X3 hx hby d6_13 (o_ifNo X3 hx hby d6_14 ((if0 _ _).trans (tlt hgrow).2.2.2) (o_aloadN X3 hx hby d6_17 rfl rfl (o_aloadN X3 hx hby d6_18 rfl rfl k)))))))) ?_
  refine gF X3 hx hZ hown (host := "") (Or.inl (ow hw 81 rfl)) Via.refl e3 F_v hby d6_19 fun T4 X4 e4 => ?_
  refine gs (fun _ k => o_aloadN X4 hx hby d6_22 rfl rfl (o_iloadN X4 hx hby d6_23 rfl k)) ?_
  refine cV (rest := [(.ref t), (.ref b)]) X4 hx hZ hown (ow hw 135 rfl) (own_decl (ow hw 136 rfl) (ow hw 139 rfl)) (nfs hZ (ow hw 138 rfl)) (ow hw 138 rfl) (ow hw 136 rfl) (ow hw 77 rfl) (ow hw 139 rfl) (rm_ncG l Z a0 hw [] b t kb cs ds h0 n0 Z0 O0 E_b F_v F_c F_n V_t hgr) hby d6_24 e4 pd_212 2 (by rw [hml]; rfl) E_b rfl rfl rfl rfl (by decide) (by decide) fun _ T5 Lc5 X5 hQ5 => ?_
  obtain ⟨rfl, N5q, e5q⟩ := hQ5
  have N5 := Fr.app N0 N5q
  refine gs (fun _ k => o_aloadN X5 hx hby d6_27 rfl rfl k) ?_
  refine gF X5 hx hZ hown (host := "") (Or.inl (ow hw 83 rfl)) Via.refl e5q F_c hby d6_28 fun T6 X6 e6 => ?_
  refine gs (fun _ k => o_ishl X6 hx hby d6_31 k) ?_
  refine cS (rest := [(.ref b)]) X6 hx hZ hown (ow hw 150 rfl) (ow hw 151 rfl) (ow hw 152 rfl) (ow hw 153 rfl) (rm_coG l Z a0 hw [] t kb cs h0 n0 Z0 O0 V_t hk_) hby d6_32 e6 pd_217 1 (by rw [hml]; rfl) rfl rfl rfl rfl (by decide) (by decide) fun _ T7 Lc7 X7 hQ7 => ?_
  obtain ⟨t7, kb7, rfl, N7q, K7q, g7t, V7q⟩ := hQ7
  have N7 := Fr.app N5 N7q
  have g_t7 : n0 ≤ t7 := nt Z0 g7t
  have sz_t7 : h0.size ≤ t7 := nt K0.1 g7t
  have Z8 := nt Z0 K7q.1
  have O8 := O0.keep K7q all0
  have K8 := K0.trans K7q all0
  have f9 := (F_v.keep K7q nin0)
  have f10 := (E_b.keep K7q)
  obtain ⟨T11, h11, X11, e11, W11, st11⟩ := putF X7 hx hZ hown (host := "") (Or.inl (ow hw 81 rfl)) Via.refl rfl f9 f10 (Or.inl (ow hw 82 rfl)) (ow hw 68 rfl) (ty := (.array .byte)) (by decide) rfl rfl (g := (mkF m 35 #[rv (b), iv (((Int32.ofNat cs.length) + (Int32.ofNat ds.length))), iv ((16 : Int32))] [(.ref t7), (.ref b)])) rfl rfl (hb hby d6_35)
  have N11 := Fr.snoc X11 N7 g_b
  have Fw11 := f9.same W11
  have Z12 := nt Z8 (Keep.of_wr W11).1
  have O12 := O8.wr W11 g_b
  have K12 := K8.wr W11 (Or.inl (List.mem_of_getElem? (i := 0) rfl))
  refine gs (S' := T11.setTop (mkF m 38 #[rv (b), iv (((Int32.ofNat cs.length) + (Int32.ofNat ds.length))), iv ((16 : Int32))] [])) st11 ?_
  have f13 := ((F_c.keep K7q nin0).other W11 (Or.inr (slot_ne (Or.inl (ow hw 84 rfl)) (Or.inl (ow hw 82 rfl)) (by decide) (t := .byte) (t' := (.array .byte)) (by decide) (by decide))))
  have f14 := ((F_n.keep K7q nin0).other W11 (Or.inr (slot_ne (Or.inl (ow hw 106 rfl)) (Or.inl (ow hw 82 rfl)) (by decide) (t := .int) (t' := (.array .byte)) (by decide) (by decide))))
  have f15 := (V7q.other W11 (Ne.symm (nw (nu (nu E_b.lt (Nat.le_refl _)) g7t))))
  refine gout (v := none) X11 Bd.notSynchronized (fun _ => rfl) (by decide) (by decide) ?_ (fun fs hr => X11.returnOut hx Bd.returns (hb hby d6_38) hr)
  rw [e11]
  exact ⟨_, _, rfl, N11, K12, sz_t7, Fw11, f13, f14, f15⟩
theorem ef_219 (m : MethodId) (x0 : Addr) (x1 : Addr) : entryFrame m #[(.ref x0), (.ref x1)] 3 = mkF m 0 #[.val (.ref x0), .val (.ref x1), .unset] [] := by first | (simp [entryFrame, mkF, argsToLocals, Value.category]; done) | rfl
set_option maxRecDepth 65536 in
set_option maxHeartbeats 40000000 in
theorem rm_aaG (l : Launch) (Z : State) (a0 : Array Value) (hw : HW Z a0) (ws : List Jvm.Cond) (b : Addr) (t : Addr) (kb : ClassId) (cs : List Int32) (x : Addr) (ds : List Int32) (z : Int32) (h0 : Heap) (n0 : Nat) (Z0 : n0 ≤ h0.size) (O0 : Old Z n0 h0) (E_b : Exa Z h0 b "java/lang/StringBuilder") (F_v : Fld Z h0 b "java/lang/AbstractStringBuilder" "value" "[B" (.ref t)) (F_c : Fld Z h0 b "java/lang/AbstractStringBuilder" "coder" "B" (.int (0 : Int32))) (F_n : Fld Z h0 b "java/lang/AbstractStringBuilder" "count" "I" (.int (Int32.ofNat cs.length))) (V_t : Arv Z h0 t kb .byte (16 : Int32) (own_bv cs) (.int (0 : Int32))) (g_b : n0 ≤ b) (S0 : PS0 Z (.int z)) (hz : ¬ z = 0) (T_x : Str Z h0 x ds) (hbx : ∀ c ∈ ds, ¬ c < 0 ∧ ¬ (255 : Int32) < c) (l2x : ds.length ≤ 4000) (hgrow : (0 : Int32) < (((Int32.ofNat cs.length) + (Int32.ofNat ds.length)) - (16 : Int32))) (hgr : ((((Int32.ofNat cs.length) + (Int32.ofNat ds.length)) <<< ((0 : Int32) &&& 31)) - (16 : Int32)) < (18 : Int32)) (hk_ : cs.length ≤ 16) (hfit : cs.length + ds.length ≤ 34) :
    Ctr l Z my8 jdk_68_method_22_code 3 ((Option.some (Jvm.ClassFile.FieldType.object "java/lang/AbstractStringBuilder"))) ws (⟨4, 1, 34, 62⟩ : Room) #[(.ref b), (.ref x)] h0 (fun v h L => ∃ (t1 : Addr) (k1 : ClassId), v = some (.ref b) ∧ Fr n0 L ∧ Keep h0 h [b] ∧ h0.size ≤ t1 ∧ Fld Z h b "java/lang/AbstractStringBuilder" "value" "[B" (.ref t1) ∧ Fld Z h b "java/lang/AbstractStringBuilder" "coder" "B" (.int (0 : Int32)) ∧ Fld Z h b "java/lang/AbstractStringBuilder" "count" "I" (.int (Int32.ofNat (cs ++ ds).length)) ∧ Arv Z h t1 k1 .byte (34 : Int32) (own_bv (cs ++ ds)) (.int (0 : Int32))) := by
  refine Ctr.go (plainFor_of_name pn_14) fun p e s m below meth c s₁ Bd hx hby hml hZ hown hnm X0 e0 => ?_
  have N0 := Fr.nil n0
  have K0 := Keep.refl h0 [b]
  refine gs (S' := s₁.setTop (mkF m 0 #[rv (b), rv (x), uu] [])) (fun tg kg => castTop (ef_219 m b x) kg) ?_
  refine gs (fun _ k => o_aloadN X0 hx hby d7_0 rfl rfl (o_ifnonnullYes (pc' := 9) X0 hx hby d7_1 (o_aloadN X0 hx hby d7_9 rfl rfl k))) ?_
  obtain ⟨cq1, kq1, q1a, q1b, q1c⟩ := isOf hZ e0 T_x.exa
  obtain ⟨_, _, ⟨T1, L1, k1, n1⟩, -, X1, ⟨Lc1, hQ1, l1, y1, z1⟩, st1⟩ := X0.virtualBack hx (y := my1) (z := my1) hown (mvT hZ (ow hw 95 rfl)) (mvT hZ (ow hw 96 rfl)) (notFace_of_selects (args := #[]) (mvT hZ (ow hw 98 rfl))) (mvT hZ (ow hw 98 rfl)) (mvT hZ (ow hw 97 rfl)) (by decide) (own_lenB (W := 0) hZ hw T_x hbx (S0.ext O0.2) hz l2x (by decide) (by decide)) q1a q1c (g := (mkF m 10 #[rv (b), rv (x), uu] [(.ref x)])) rfl (by rw [hml]; rfl) (Steps.refl _) (argsL := []) (rest := []) (lenOf pd_90 rfl) rfl (own_w0 rfl) (hb hby d7_10) (fun _ _ => ⟨rfl, e0, (by decide : 0 + 0 ≤ _), (by decide : 0 + 0 ≤ _)⟩)
  dsimp only [Pt.U, Pt.locs, Pt.cells, Pt.slots] at X1 l1 y1 z1 st1 hQ1
  subst l1 y1 z1
  obtain ⟨rfl, rfl, e1q⟩ := hQ1
  have N1 := Fr.app N0 (Fr.nil n0)
  refine gs (S' := T1.setTop (mkF m 13 #[rv (b), rv (x), uu] [(.int (Int32.ofNat ds.length))])) (fun _ k => st1.trans k) ?_
  refine gs (fun _ k => o_istoreN X1 hx hby d7_13 rfl (o_aloadN X1 hx hby d7_14 rfl rfl (o_aloadN X1 hx hby d7_15 rfl rfl k))) ?_
  refine gF X1 hx hZ hown (host := "") (Or.inl (ow hw 105 rfl)) Via.refl e1q F_n hby d7_16 fun T2 X2 e2 => ?_
  refine gs (fun _ k => o_iloadN X2 hx hby d7_19 rfl (o_iadd X2 hx hby d7_20 k)) ?_
  refine cV (rest := []) X2 hx hZ hown (ow hw 107 rfl) (own_decl (ow hw 108 rfl) (ow hw 111 rfl)) (nfs hZ (ow hw 110 rfl)) (ow hw 110 rfl) (ow hw 108 rfl) (ow hw 77 rfl) (ow hw 111 rfl) (rm_enG l Z a0 hw [] b t kb cs ds h0 n0 Z0 O0 E_b F_v F_c F_n V_t g_b hgrow hgr hk_) hby d7_21 e2 pd_19 0 (by rw [hml]; rfl) E_b rfl rfl rfl rfl (by decide) (by decide) fun _ T3 Lc3 X3 hQ3 => ?_
  obtain ⟨t3, kb3, rfl, N3q, K3q, g3t, F3v, F3c, F3n, V3q⟩ := hQ3
  have N3 := Fr.app N1 N3q
  have g_t3 : n0 ≤ t3 := nt Z0 g3t
  have sz_t3 : h0.size ≤ t3 := nt K0.1 g3t
  have Z4 := nt Z0 K3q.1
  have O4 := O0.keep K3q (allS g_b all0)
  have K4 := K0.trans K3q (allS (Or.inl (List.mem_of_getElem? (i := 0) rfl)) all0)
  refine gs (fun _ k => o_aloadN X3 hx hby d7_24 rfl rfl (o_aloadN X3 hx hby d7_25 rfl rfl k)) ?_
  refine gF X3 hx hZ hown (host := "") (Or.inl (ow hw 105 rfl)) Via.refl rfl F3n hby d7_26 fun T5 X5 e5 => ?_
  refine gs (fun _ k => o_aloadN X5 hx hby d7_29 rfl rfl k) ?_
  have f6 := (E_b.keep K3q)
  have f7 := (T_x.keepE K3q E_b (by decide) (ow hw 68 rfl))
  refine cV (rest := []) X5 hx hZ hown (ow hw 112 rfl) (own_decl (ow hw 113 rfl) (ow hw 116 rfl)) (nfs hZ (ow hw 115 rfl)) (ow hw 115 rfl) (ow hw 113 rfl) (ow hw 77 rfl) (ow hw 116 rfl) (rm_paGp l Z a0 hw [] b t3 kb3 cs x ds z T3.heap n0 Z4 O4 f6 F3v F3c F3n V3q g_t3 S0 hz f7 hfit) hby d7_30 e5 pd_103 0 (by rw [hml]; rfl) f6 rfl rfl rfl rfl (by decide) (by decide) fun _ T8 Lc8 X8 hQ8 => ?_
  obtain ⟨rfl, N8q, K8q, V8q⟩ := hQ8
  have N8 := Fr.app N3 N8q
  have Z9 := nt Z4 K8q.1
  have O9 := O4.keep K8q (allS g_t3 all0)
  have K9 := K4.trans K8q (allS (Or.inr sz_t3) all0)
  refine gs (fun _ k => o_aloadN X8 hx hby d7_33 rfl rfl (o_dup X8 hx hby d7_34 rfl k)) ?_
  have f10 := (F3n.keep K8q (ninS (nw (nu (nu E_b.lt (Nat.le_refl _)) g3t)) nin0))
  refine gF X8 hx hZ hown (host := "") (Or.inl (ow hw 105 rfl)) Via.refl rfl f10 hby d7_35 fun T11 X11 e11 => ?_
  refine gs (fun _ k => o_iloadN X11 hx hby d7_38 rfl (o_iadd X11 hx hby d7_39 k)) ?_
  have f12 := (f6.keep K8q)
  obtain ⟨T13, h13, X13, e13, W13, st13⟩ := putF X11 hx hZ hown (host := "") (Or.inl (ow hw 105 rfl)) Via.refl e11 f10 f12 (Or.inl (ow hw 106 rfl)) (ow hw 68 rfl) (ty := .int) (by decide) rfl rfl (g := (mkF m 40 #[rv (b), rv (x), iv ((Int32.ofNat ds.length))] [(.int ((Int32.ofNat cs.length) + (Int32.ofNat ds.length))), (.ref b)])) rfl rfl (hb hby d7_40)
  have N13 := Fr.snoc X13 N8 g_b
  have Fw13 := f10.same W13
  have Z14 := nt Z9 (Keep.of_wr W13).1
  have O14 := O9.wr W13 g_b
  have K14 := K9.wr W13 (Or.inl (List.mem_of_getElem? (i := 0) rfl))
  refine gs (S' := T13.setTop (mkF m 43 #[rv (b), rv (x), iv ((Int32.ofNat ds.length))] [])) st13 ?_
  refine gs (fun _ k => o_aloadN X13 hx hby d7_43 rfl rfl k) ?_
  have Fn := Fw13
  rw [own_lenapp] at Fn
  have f15 := ((F3v.keep K8q (ninS (nw (nu (nu E_b.lt (Nat.le_refl _)) g3t)) nin0)).other W13 (Or.inr (slot_ne (Or.inl (ow hw 82 rfl)) (Or.inl (ow hw 106 rfl)) (by decide) (t := (.array .byte)) (t' := .int) (by decide) (by decide))))
  have f16 := ((F3c.keep K8q (ninS (nw (nu (nu E_b.lt (Nat.le_refl _)) g3t)) nin0)).other W13 (Or.inr (slot_ne (Or.inl (ow hw 84 rfl)) (Or.inl (ow hw 106 rfl)) (by decide) (t := .byte) (t' := .int) (by decide) (by decide))))
  have f17 := (V8q.other W13 (Ne.symm (nw (nu (nu E_b.lt (Nat.le_refl _)) g3t))))
  refine gout (v := some (.ref b)) X13 Bd.notSynchronized (fun h => by rw [Bd.returns] at h; cases h) (by decide) (by decide) ?_ (fun fs hr => retOut X13 hx Bd.returns rfl (Or.inr (Or.inr (Or.inr (Or.inr ⟨rfl, rfl, rfl⟩)))) (hb hby d7_44) hr)
  rw [e13]
  exact ⟨_, _, rfl, N13, K14, sz_t3, f15, f16, Fn, f17⟩
theorem ef_220 (m : MethodId) (x0 : Addr) (x1 : Addr) : entryFrame m #[(.ref x0), (.ref x1)] 2 = mkF m 0 #[.val (.ref x0), .val (.ref x1)] [] := by first | (simp [entryFrame, mkF, argsToLocals, Value.category]; done) | rfl
set_option maxRecDepth 65536 in
set_option maxHeartbeats 40000000 in
theorem rm_saG (l : Launch) (Z : State) (a0 : Array Value) (hw : HW Z a0) (ws : List Jvm.Cond) (b : Addr) (t : Addr) (kb : ClassId) (cs : List Int32) (x : Addr) (ds : List Int32) (z : Int32) (h0 : Heap) (n0 : Nat) (Z0 : n0 ≤ h0.size) (O0 : Old Z n0 h0) (E_b : Exa Z h0 b "java/lang/StringBuilder") (F_v : Fld Z h0 b "java/lang/AbstractStringBuilder" "value" "[B" (.ref t)) (F_c : Fld Z h0 b "java/lang/AbstractStringBuilder" "coder" "B" (.int (0 : Int32))) (F_n : Fld Z h0 b "java/lang/AbstractStringBuilder" "count" "I" (.int (Int32.ofNat cs.length))) (V_t : Arv Z h0 t kb .byte (16 : Int32) (own_bv cs) (.int (0 : Int32))) (g_b : n0 ≤ b) (S0 : PS0 Z (.int z)) (hz : ¬ z = 0) (T_x : Str Z h0 x ds) (hbx : ∀ c ∈ ds, ¬ c < 0 ∧ ¬ (255 : Int32) < c) (l2x : ds.length ≤ 4000) (hgrow : (0 : Int32) < (((Int32.ofNat cs.length) + (Int32.ofNat ds.length)) - (16 : Int32))) (hgr : ((((Int32.ofNat cs.length) + (Int32.ofNat ds.length)) <<< ((0 : Int32) &&& 31)) - (16 : Int32)) < (18 : Int32)) (hk_ : cs.length ≤ 16) (hfit : cs.length + ds.length ≤ 34) :
    Ctr l Z my9 jdk_67_method_7_code 2 ((Option.some (Jvm.ClassFile.FieldType.object "java/lang/StringBuilder"))) ws (⟨5, 1, 34, 76⟩ : Room) #[(.ref b), (.ref x)] h0 (fun v h L => ∃ (t1 : Addr) (k1 : ClassId), v = some (.ref b) ∧ Fr n0 L ∧ Keep h0 h [b] ∧ h0.size ≤ t1 ∧ Fld Z h b "java/lang/AbstractStringBuilder" "value" "[B" (.ref t1) ∧ Fld Z h b "java/lang/AbstractStringBuilder" "coder" "B" (.int (0 : Int32)) ∧ Fld Z h b "java/lang/AbstractStringBuilder" "count" "I" (.int (Int32.ofNat (cs ++ ds).length)) ∧ Arv Z h t1 k1 .byte (34 : Int32) (own_bv (cs ++ ds)) (.int (0 : Int32))) := by
  refine Ctr.go (plainFor_of_name pn_21) fun p e s m below meth c s₁ Bd hx hby hml hZ hown hnm X0 e0 => ?_
  have N0 := Fr.nil n0
  have K0 := Keep.refl h0 [b]
  refine gs (S' := s₁.setTop (mkF m 0 #[rv (b), rv (x)] [])) (fun tg kg => castTop (ef_220 m b x) kg) ?_
  refine gs (fun _ k => o_aloadN X0 hx hby d8_0 rfl rfl (o_aloadN X0 hx hby d8_1 rfl rfl k)) ?_
  refine cP (rest := []) X0 hx hZ hown (ow hw 90 rfl) (own_same (ow hw 110 rfl) (ow hw 91 rfl) (by decide) rfl) (ow hw 91 rfl) (ow hw 92 rfl) (ow hw 77 rfl) (ow hw 94 rfl) (rm_aaG l Z a0 hw [] b t kb cs x ds z h0 n0 Z0 O0 E_b F_v F_c F_n V_t g_b S0 hz T_x hbx l2x hgrow hgr hk_ hfit) hby d8_2 e0 pd_116 0 (by rw [hml]; rfl) E_b rfl rfl rfl rfl (by decide) (by decide) fun _ T1 Lc1 X1 hQ1 => ?_
  obtain ⟨t1, kb1, rfl, N1q, K1q, g1t, F1v, F1c, F1n, V1q⟩ := hQ1
  have N1 := Fr.app N0 N1q
  have g_t1 : n0 ≤ t1 := nt Z0 g1t
  have sz_t1 : h0.size ≤ t1 := nt K0.1 g1t
  have Z2 := nt Z0 K1q.1
  have O2 := O0.keep K1q (allS g_b all0)
  have K2 := K0.trans K1q (allS (Or.inl (List.mem_of_getElem? (i := 0) rfl)) all0)
  refine gs (fun _ k => o_pop X1 hx hby d8_5 rfl (o_aloadN X1 hx hby d8_6 rfl rfl k)) ?_
  refine gout (v := some (.ref b)) X1 Bd.notSynchronized (fun h => by rw [Bd.returns] at h; cases h) (by decide) (by decide) ?_ (fun fs hr => retOut X1 hx Bd.returns rfl (Or.inr (Or.inr (Or.inr (Or.inr ⟨rfl, rfl, rfl⟩)))) (hb hby d8_7) hr)
  exact ⟨_, _, rfl, N1, K2, sz_t1, F1v, F1c, F1n, V1q⟩
theorem ef_221 (m : MethodId) (x0 : Addr) : entryFrame m #[(.ref x0)] 1 = mkF m 0 #[.val (.ref x0)] [] := by first | (simp [entryFrame, mkF, argsToLocals, Value.category]; done) | rfl
theorem d14_0 : decode jdk_68_method_64_code 0 = .ok (.aload_n 0, 1) := by decide +kernel
theorem d14_1 : decode jdk_68_method_64_code 1 = .ok (.getfield 15, 3) := by decide +kernel
theorem d14_4 : decode jdk_68_method_64_code 4 = .ok (.areturn, 1) := by decide +kernel
set_option maxRecDepth 65536 in
set_option maxHeartbeats 40000000 in
theorem rm_gvS (l : Launch) (Z : State) (a0 : Array Value) (hw : HW Z a0) (ws : List Jvm.Cond) (b : Addr) (t : Addr) (kb : ClassId) (cs : List Int32) (h0 : Heap) (n0 : Nat) (Z0 : n0 ≤ h0.size) (O0 : Old Z n0 h0) (E_b : Exa Z h0 b "java/lang/StringBuilder") (F_v : Fld Z h0 b "java/lang/AbstractStringBuilder" "value" "[B" (.ref t)) (F_c : Fld Z h0 b "java/lang/AbstractStringBuilder" "coder" "B" (.int (0 : Int32))) (F_n : Fld Z h0 b "java/lang/AbstractStringBuilder" "count" "I" (.int (Int32.ofNat cs.length))) (V_t : Arv Z h0 t kb .byte (34 : Int32) (own_bv cs) (.int (0 : Int32))) :
    Ctr l Z (⟨"java/lang/AbstractStringBuilder", "getValue", "()[B"⟩ : MethodName) jdk_68_method_64_code 1 ((Option.some (Jvm.ClassFile.FieldType.array Jvm.ClassFile.FieldType.byte))) ws (⟨0, 0, 0, 0⟩ : Room) #[(.ref b)] h0 (fun v h L => v = some (.ref t) ∧ Fr n0 L ∧ h = h0) := by
  refine Ctr.go (plainFor_of_name pn_14) fun p e s m below meth c s₁ Bd hx hby hml hZ hown hnm X0 e0 => ?_
  have N0 := Fr.nil n0
  have K0 := Keep.refl h0 []
  refine gs (S' := s₁.setTop (mkF m 0 #[rv (b)] [])) (fun tg kg => castTop (ef_221 m b) kg) ?_
  refine gs (fun _ k => o_aloadN X0 hx hby d14_0 rfl rfl k) ?_
  refine gF X0 hx hZ hown (host := "") (Or.inl (ow hw 81 rfl)) Via.refl e0 F_v hby d14_1 fun T1 X1 e1 => ?_
  refine gout (v := some (.ref t)) X1 Bd.notSynchronized (fun h => by rw [Bd.returns] at h; cases h) (by decide) (by decide) ?_ (fun fs hr => retOut X1 hx Bd.returns rfl (Or.inr (Or.inr (Or.inr (Or.inr ⟨rfl, rfl, rfl⟩)))) (hb hby d14_4) hr)
  rw [e1]
  exact ⟨rfl, N0, rfl⟩
theorem ef_225 (m : MethodId) (x0 : Addr) : entryFrame m #[(.ref x0)] 1 = mkF m 0 #[.val (.ref x0)] [] := by first | (simp [entryFrame, mkF, argsToLocals, Value.category]; done) | rfl
theorem d15_0 : decode jdk_68_method_6_code 0 = .ok (.aload_n 0, 1) := by decide +kernel
theorem d15_1 : decode jdk_68_method_6_code 1 = .ok (.getfield 79, 3) := by decide +kernel
theorem d15_4 : decode jdk_68_method_6_code 4 = .ok (.ireturn, 1) := by decide +kernel
set_option maxRecDepth 65536 in
set_option maxHeartbeats 40000000 in
theorem rm_alS (l : Launch) (Z : State) (a0 : Array Value) (hw : HW Z a0) (ws : List Jvm.Cond) (b : Addr) (t : Addr) (kb : ClassId) (cs : List Int32) (h0 : Heap) (n0 : Nat) (Z0 : n0 ≤ h0.size) (O0 : Old Z n0 h0) (E_b : Exa Z h0 b "java/lang/StringBuilder") (F_v : Fld Z h0 b "java/lang/AbstractStringBuilder" "value" "[B" (.ref t)) (F_c : Fld Z h0 b "java/lang/AbstractStringBuilder" "coder" "B" (.int (0 : Int32))) (F_n : Fld Z h0 b "java/lang/AbstractStringBuilder" "count" "I" (.int (Int32.ofNat cs.length))) (V_t : Arv Z h0 t kb .byte (34 : Int32) (own_bv cs) (.int (0 : Int32))) :
    Ctr l Z (⟨"java/lang/AbstractStringBuilder", "length", "()I"⟩ : MethodName) jdk_68_method_6_code 1 ((Option.some Jvm.ClassFile.FieldType.int)) ws (⟨0, 0, 0, 0⟩ : Room) #[(.ref b)] h0 (fun v h L => v = some (.int (Int32.ofNat cs.length)) ∧ Fr n0 L ∧ h = h0) := by
  refine Ctr.go (plainFor_of_name pn_14) fun p e s m below meth c s₁ Bd hx hby hml hZ hown hnm X0 e0 => ?_
  have N0 := Fr.nil n0
  have K0 := Keep.refl h0 []
  refine gs (S' := s₁.setTop (mkF m 0 #[rv (b)] [])) (fun tg kg => castTop (ef_225 m b) kg) ?_
  refine gs (fun _ k => o_aloadN X0 hx hby d15_0 rfl rfl k) ?_
  refine gF X0 hx hZ hown (host := "") (Or.inl (ow hw 105 rfl)) Via.refl e0 F_n hby d15_1 fun T1 X1 e1 => ?_
  refine gout (v := some (.int (Int32.ofNat cs.length))) X1 Bd.notSynchronized (fun h => by rw [Bd.returns] at h; cases h) (by decide) (by decide) ?_ (fun fs hr => retI X1 hx Bd.returns (hb hby d15_4) hr)
  rw [e1]
  exact ⟨rfl, N0, rfl⟩
theorem ef_229 (m : MethodId) (x0 : Addr) : entryFrame m #[(.ref x0)] 1 = mkF m 0 #[.val (.ref x0)] [] := by first | (simp [entryFrame, mkF, argsToLocals, Value.category]; done) | rfl
theorem d16_0 : decode jdk_67_method_93_code 0 = .ok (.aload_n 0, 1) := by decide +kernel
theorem d16_1 : decode jdk_67_method_93_code 1 = .ok (.invokespecial 343, 3) := by decide +kernel
theorem d16_4 : decode jdk_67_method_93_code 4 = .ok (.ireturn, 1) := by decide +kernel
set_option maxRecDepth 65536 in
set_option maxHeartbeats 40000000 in
theorem rm_slS (l : Launch) (Z : State) (a0 : Array Value) (hw : HW Z a0) (ws : List Jvm.Cond) (b : Addr) (t : Addr) (kb : ClassId) (cs : List Int32) (h0 : Heap) (n0 : Nat) (Z0 : n0 ≤ h0.size) (O0 : Old Z n0 h0) (E_b : Exa Z h0 b "java/lang/StringBuilder") (F_v : Fld Z h0 b "java/lang/AbstractStringBuilder" "value" "[B" (.ref t)) (F_c : Fld Z h0 b "java/lang/AbstractStringBuilder" "coder" "B" (.int (0 : Int32))) (F_n : Fld Z h0 b "java/lang/AbstractStringBuilder" "count" "I" (.int (Int32.ofNat cs.length))) (V_t : Arv Z h0 t kb .byte (34 : Int32) (own_bv cs) (.int (0 : Int32))) :
    Ctr l Z (⟨"java/lang/StringBuilder", "length", "()I"⟩ : MethodName) jdk_67_method_93_code 1 ((Option.some Jvm.ClassFile.FieldType.int)) ws (⟨1, 0, 0, 12⟩ : Room) #[(.ref b)] h0 (fun v h L => v = some (.int (Int32.ofNat cs.length)) ∧ Fr n0 L ∧ h = h0) := by
  refine Ctr.go (plainFor_of_name pn_21) fun p e s m below meth c s₁ Bd hx hby hml hZ hown hnm X0 e0 => ?_
  have N0 := Fr.nil n0
  have K0 := Keep.refl h0 []
  refine gs (S' := s₁.setTop (mkF m 0 #[rv (b)] [])) (fun tg kg => castTop (ef_229 m b) kg) ?_
  refine gs (fun _ k => o_aloadN X0 hx hby d16_0 rfl rfl k) ?_
  refine cP (rest := []) X0 hx hZ hown (ow hw 181 rfl) (own_same (ow hw 110 rfl) (ow hw 177 rfl) (by decide) rfl) (ow hw 177 rfl) (ow hw 92 rfl) (ow hw 77 rfl) (ow hw 182 rfl) (rm_alS l Z a0 hw [] b t kb cs h0 n0 Z0 O0 E_b F_v F_c F_n V_t) hby d16_1 e0 pd_90 0 (by rw [hml]; rfl) E_b rfl rfl rfl rfl (by decide) (by decide) fun _ T1 Lc1 X1 hQ1 => ?_
  obtain ⟨rfl, N1q, e1q⟩ := hQ1
  have N1 := Fr.app N0 N1q
  refine gout (v := some (.int (Int32.ofNat cs.length))) X1 Bd.notSynchronized (fun h => by rw [Bd.returns] at h; cases h) (by decide) (by decide) ?_ (fun fs hr => retI X1 hx Bd.returns (hb hby d16_4) hr)
  rw [e1q]
  exact ⟨rfl, N1, rfl⟩
theorem ef_233 (m : MethodId) (x0 : Addr) : entryFrame m #[(.ref x0)] 1 = mkF m 0 #[.val (.ref x0)] [] := by first | (simp [entryFrame, mkF, argsToLocals, Value.category]; done) | rfl
theorem d17_0 : decode jdk_68_method_68_code 0 = .ok (.getstatic 18, 3) := by decide +kernel
theorem d17_3 : decode jdk_68_method_68_code 3 = .ok (.ifCond .eq 14, 3) := by decide +kernel
theorem d17_6 : decode jdk_68_method_68_code 6 = .ok (.aload_n 0, 1) := by decide +kernel
theorem d17_7 : decode jdk_68_method_68_code 7 = .ok (.getfield 22, 3) := by decide +kernel
theorem d17_10 : decode jdk_68_method_68_code 10 = .ok (.ifCond .ne 7, 3) := by decide +kernel
theorem d17_13 : decode jdk_68_method_68_code 13 = .ok (.iconst 1, 1) := by decide +kernel
theorem d17_14 : decode jdk_68_method_68_code 14 = .ok (.goto 4, 3) := by decide +kernel
theorem d17_18 : decode jdk_68_method_68_code 18 = .ok (.ireturn, 1) := by decide +kernel
set_option maxRecDepth 65536 in
set_option maxHeartbeats 40000000 in
theorem rm_ilS (l : Launch) (Z : State) (a0 : Array Value) (hw : HW Z a0) (ws : List Jvm.Cond) (b : Addr) (t : Addr) (kb : ClassId) (cs : List Int32) (z : Int32) (h0 : Heap) (n0 : Nat) (Z0 : n0 ≤ h0.size) (O0 : Old Z n0 h0) (E_b : Exa Z h0 b "java/lang/StringBuilder") (F_v : Fld Z h0 b "java/lang/AbstractStringBuilder" "value" "[B" (.ref t)) (F_c : Fld Z h0 b "java/lang/AbstractStringBuilder" "coder" "B" (.int (0 : Int32))) (F_n : Fld Z h0 b "java/lang/AbstractStringBuilder" "count" "I" (.int (Int32.ofNat cs.length))) (V_t : Arv Z h0 t kb .byte (34 : Int32) (own_bv cs) (.int (0 : Int32))) (S0 : PS0 Z (.int z)) (hz : ¬ z = 0) :
    Ctr l Z (⟨"java/lang/AbstractStringBuilder", "isLatin1", "()Z"⟩ : MethodName) jdk_68_method_68_code 1 ((Option.some Jvm.ClassFile.FieldType.boolean)) ws (⟨0, 0, 0, 0⟩ : Room) #[(.ref b)] h0 (fun v h L => v = some (.int (1 : Int32)) ∧ Fr n0 L ∧ h = h0) := by
  refine Ctr.go (plainFor_of_name pn_14) fun p e s m below meth c s₁ Bd hx hby hml hZ hown hnm X0 e0 => ?_
  have N0 := Fr.nil n0
  have K0 := Keep.refl h0 []
  refine gs (S' := s₁.setTop (mkF m 0 #[rv (b)] [])) (fun tg kg => castTop (ef_233 m b) kg) ?_
  refine gS X0 hx hZ hown (host := "") (Or.inl (ow hw 80 rfl)) Via.refl e0 (S0.ext O0.2) hby d17_0 fun T1 X1 e1 => ?_
  refine gs (fun _ k => o_ifNo X1 hx hby d17_3 ((if0 _ _).trans (feq hz).1) (o_aloadN X1 hx hby d17_6 rfl rfl k)) ?_
  refine gF X1 hx hZ hown (host := "") (Or.inl (ow hw 83 rfl)) Via.refl e1 F_c hby d17_7 fun T2 X2 e2 => ?_
  refine gs (fun _ k => o_ifNo X2 hx hby d17_10 ((if0 _ _).trans (teq (by decide : (0 : Int32) = (0 : Int32))).2) (o_iconst (v := (1 : Int32)) X2 hx hby d17_13 (o_goto (pc' := 18) X2 hx hby d17_14 k))) ?_
  refine gout (v := some (.int (1 : Int32))) X2 Bd.notSynchronized (fun h => by rw [Bd.returns] at h; cases h) (by decide) (by decide) ?_ (fun fs hr => retN X2 hx (t := .boolean) Bd.returns (by simp) (hb hby d17_18) hr)
  rw [e2]
  exact ⟨rfl, N0, rfl⟩
theorem ef_242 (m : MethodId) (x0 : Int32) (x1 : Int32) : entryFrame m #[(.int x0), (.int x1)] 2 = mkF m 0 #[.val (.int x0), .val (.int x1)] [] := by first | (simp [entryFrame, mkF, argsToLocals, Value.category]; done) | rfl
theorem d18_0 : decode jdk_65_method_131_code 0 = .ok (.iload_n 1, 1) := by decide +kernel
theorem d18_1 : decode jdk_65_method_131_code 1 = .ok (.iload_n 0, 1) := by decide +kernel
theorem d18_2 : decode jdk_65_method_131_code 2 = .ok (.if_icmp .ge 35, 3) := by decide +kernel
theorem d18_37 : decode jdk_65_method_131_code 37 = .ok (.return_, 1) := by decide +kernel
set_option maxRecDepth 65536 in
set_option maxHeartbeats 40000000 in
theorem rm_clS (l : Launch) (Z : State) (a0 : Array Value) (hw : HW Z a0) (ws : List Jvm.Cond) (cs : List Int32) (h0 : Heap) (n0 : Nat) (Z0 : n0 ≤ h0.size) (O0 : Old Z n0 h0) (hcap : cs.length ≤ 26) :
    Ctr l Z (⟨"java/util/Arrays", "checkLength", "(II)V"⟩ : MethodName) jdk_65_method_131_code 2 ((Option.none : Option Jvm.ClassFile.FieldType)) ws (⟨0, 0, 0, 0⟩ : Room) #[(.int (0 : Int32)), (.int (Int32.ofNat cs.length))] h0 (fun v h L => v = none ∧ Fr n0 L ∧ h = h0) := by
  refine Ctr.go (plainFor_of_name pn_204) fun p e s m below meth c s₁ Bd hx hby hml hZ hown hnm X0 e0 => ?_
  have N0 := Fr.nil n0
  have K0 := Keep.refl h0 []
  refine gs (S' := s₁.setTop (mkF m 0 #[iv ((0 : Int32)), iv ((Int32.ofNat cs.length))] [])) (fun tg kg => castTop (ef_242 m (0 : Int32) (Int32.ofNat cs.length)) kg) ?_
  refine gs (fun _ k => o_iloadN X0 hx hby d18_0 rfl (o_iloadN X0 hx hby d18_1 rfl (o_icmpYes (pc' := 37) X0 hx hby d18_2 (flt (own_nn32 (Nat.lt_of_le_of_lt hcap (by decide)))).2.1 k))) ?_
  refine gout (v := none) X0 Bd.notSynchronized (fun _ => rfl) (by decide) (by decide) ?_ (fun fs hr => X0.returnOut hx Bd.returns (hb hby d18_37) hr)
  rw [e0]
  exact ⟨rfl, N0, rfl⟩
theorem ef_247 (m : MethodId) (x0 : Int32) (x1 : Int32) : entryFrame m #[(.int x0), (.int x1)] 2 = mkF m 0 #[.val (.int x0), .val (.int x1)] [] := by first | (simp [entryFrame, mkF, argsToLocals, Value.category]; done) | rfl
theorem d12_9 : decode jdk_29_method_69_code 9 = .ok (.iload_n 1, 1) := by decide +kernel
set_option maxRecDepth 65536 in
set_option maxHeartbeats 40000000 in
theorem rm_mtS (l : Launch) (Z : State) (a0 : Array Value) (hw : HW Z a0) (ws : List Jvm.Cond) (cs : List Int32) (h0 : Heap) (n0 : Nat) (Z0 : n0 ≤ h0.size) (O0 : Old Z n0 h0) (hlt : (Int32.ofNat cs.length) < (34 : Int32)) :
    Ctr l Z my3 jdk_29_method_69_code 2 ((Option.some Jvm.ClassFile.FieldType.int)) ws (⟨0, 0, 0, 0⟩ : Room) #[(.int (34 : Int32)), (.int (Int32.ofNat cs.length))] h0 (fun v h L => v = some (.int (Int32.ofNat cs.length)) ∧ Fr n0 L ∧ h = h0) := by
  refine Ctr.go own_pf2 fun p e s m below meth c s₁ Bd hx hby hml hZ hown hnm X0 e0 => ?_
  have N0 := Fr.nil n0
  have K0 := Keep.refl h0 []
  refine gs (S' := s₁.setTop (mkF m 0 #[iv ((34 : Int32)), iv ((Int32.ofNat cs.length))] [])) (fun tg kg => castTop (ef_247 m (34 : Int32) (Int32.ofNat cs.length)) kg) ?_
  refine gs (fun _ k => o_iloadN X0 hx hby d12_0 rfl (o_iloadN X0 hx hby d12_1 rfl (o_icmpYes (pc' := 9) X0 hx hby d12_2 (tlt hlt).2.2.1 (o_iloadN X0 hx hby d12_9 rfl k)))) ?_
  refine gout (v := some (.int (Int32.ofNat cs.length))) X0 Bd.notSynchronized (fun h => by rw [Bd.returns] at h; cases h) (by decide) (by decide) ?_ (fun fs hr => retI X0 hx Bd.returns (hb hby d12_10) hr)
  rw [e0]
  exact ⟨rfl, N0, rfl⟩
theorem ef_249 (m : MethodId) (x0 : Addr) (x1 : Int32) (x2 : Int32) : entryFrame m #[(.ref x0), (.int x1), (.int x2)] 5 = mkF m 0 #[.val (.ref x0), .val (.int x1), .val (.int x2), .unset, .unset] [] := by first | (simp [entryFrame, mkF, argsToLocals, Value.category]; done) | rfl
theorem d19_0 : decode jdk_65_method_133_code 0 = .ok (.iload_n 1, 1) := by decide +kernel
theorem d19_1 : decode jdk_65_method_133_code 1 = .ok (.iload_n 2, 1) := by decide +kernel
theorem d19_2 : decode jdk_65_method_133_code 2 = .ok (.invokestatic 343, 3) := by decide +kernel
theorem pd_253 : parseMethodDescriptor "(II)V" = some ⟨[.int, .int], none⟩ := by decide +kernel
theorem d19_5 : decode jdk_65_method_133_code 5 = .ok (.iload_n 2, 1) := by decide +kernel
theorem d19_6 : decode jdk_65_method_133_code 6 = .ok (.iload_n 1, 1) := by decide +kernel
theorem d19_7 : decode jdk_65_method_133_code 7 = .ok (.isub, 1) := by decide +kernel
theorem d19_8 : decode jdk_65_method_133_code 8 = .ok (.istore_n 3, 1) := by decide +kernel
theorem d19_9 : decode jdk_65_method_133_code 9 = .ok (.iload_n 3, 1) := by decide +kernel
theorem d19_10 : decode jdk_65_method_133_code 10 = .ok (.newarray .byte, 2) := by decide +kernel
theorem d19_12 : decode jdk_65_method_133_code 12 = .ok (.astore 4, 2) := by decide +kernel
theorem d19_14 : decode jdk_65_method_133_code 14 = .ok (.aload_n 0, 1) := by decide +kernel
theorem d19_15 : decode jdk_65_method_133_code 15 = .ok (.iload_n 1, 1) := by decide +kernel
theorem d19_16 : decode jdk_65_method_133_code 16 = .ok (.aload 4, 2) := by decide +kernel
theorem d19_18 : decode jdk_65_method_133_code 18 = .ok (.iconst 0, 1) := by decide +kernel
theorem d19_19 : decode jdk_65_method_133_code 19 = .ok (.aload_n 0, 1) := by decide +kernel
theorem d19_20 : decode jdk_65_method_133_code 20 = .ok (.arraylength, 1) := by decide +kernel
theorem d19_21 : decode jdk_65_method_133_code 21 = .ok (.iload_n 1, 1) := by decide +kernel
theorem d19_22 : decode jdk_65_method_133_code 22 = .ok (.isub, 1) := by decide +kernel
theorem d19_23 : decode jdk_65_method_133_code 23 = .ok (.iload_n 3, 1) := by decide +kernel
theorem d19_24 : decode jdk_65_method_133_code 24 = .ok (.invokestatic 304, 3) := by decide +kernel
theorem d19_27 : decode jdk_65_method_133_code 27 = .ok (.invokestatic 150, 3) := by decide +kernel
theorem d19_30 : decode jdk_65_method_133_code 30 = .ok (.aload 4, 2) := by decide +kernel
theorem d19_32 : decode jdk_65_method_133_code 32 = .ok (.areturn, 1) := by decide +kernel
set_option maxRecDepth 65536 in
set_option maxHeartbeats 40000000 in
theorem rm_cbS (l : Launch) (Z : State) (a0 : Array Value) (hw : HW Z a0) (ws : List Jvm.Cond) (t : Addr) (kb : ClassId) (cs : List Int32) (h0 : Heap) (n0 : Nat) (Z0 : n0 ≤ h0.size) (O0 : Old Z n0 h0) (V_t : Arv Z h0 t kb .byte (34 : Int32) (own_bv cs) (.int (0 : Int32))) (hlt : (Int32.ofNat cs.length) < (34 : Int32)) (hne : ¬ (Int32.ofNat cs.length) = (34 : Int32)) (hcap : cs.length ≤ 26) :
    Ctr l Z (⟨"java/util/Arrays", "copyOfRangeByte", "([BII)[B"⟩ : MethodName) jdk_65_method_133_code 5 ((Option.some (Jvm.ClassFile.FieldType.array Jvm.ClassFile.FieldType.byte))) ws (⟨1, 1, 26, 18⟩ : Room) #[(.ref t), (.int (0 : Int32)), (.int (Int32.ofNat cs.length))] h0 (fun v h L => ∃ (t1 : Addr) (k1 : ClassId), v = some (.ref t1) ∧ Fr n0 L ∧ Keep h0 h [] ∧ h0.size ≤ t1 ∧ Arv Z h t1 k1 .byte (Int32.ofNat cs.length) (own_bv cs) (.int (0 : Int32))) := by
  refine Ctr.go (plainFor_of_name pn_204) fun p e s m below meth c s₁ Bd hx hby hml hZ hown hnm X0 e0 => ?_
  have N0 := Fr.nil n0
  have K0 := Keep.refl h0 []
  refine gs (S' := s₁.setTop (mkF m 0 #[rv (t), iv ((0 : Int32)), iv ((Int32.ofNat cs.length)), uu, uu] [])) (fun tg kg => castTop (ef_249 m t (0 : Int32) (Int32.ofNat cs.length)) kg) ?_
  refine gs (fun _ k => o_iloadN X0 hx hby d19_0 rfl (o_iloadN X0 hx hby d19_1 rfl k)) ?_
  refine cS (rest := []) X0 hx hZ hown (ow hw 194 rfl) (ow hw 195 rfl) (ow hw 152 rfl) (ow hw 196 rfl) (rm_clS l Z a0 hw [] cs h0 n0 Z0 O0 hcap) hby d19_2 e0 pd_253 0 (by rw [hml]; rfl) rfl rfl rfl rfl (by decide) (by decide) fun _ T1 Lc1 X1 hQ1 => ?_
  obtain ⟨rfl, N1q, e1q⟩ := hQ1
  have N1 := Fr.app N0 N1q
  refine gs (fun _ k => o_iloadN X1 hx hby d19_5 rfl (o_iloadN X1 hx hby d19_6 rfl (o_isub X1 hx hby d19_7 k))) ?_
  show OwnGo p e below s _ _ _ (T1.setTop (mkF m 8 #[rv (t), iv ((0 : Int32)), iv ((Int32.ofNat cs.length)), uu, uu] [(.int ((Int32.ofNat cs.length) - (0 : Int32)))]))
  rw [own_sub0]
  refine gs (fun _ k => o_istoreN X1 hx hby d19_8 rfl (o_iloadN X1 hx hby d19_9 rfl k)) ?_
  obtain ⟨T2, h2, k2, X2, e2, E2, A2, st2⟩ := newP X1 hx hZ (ow hw 29 rfl) e1q (g := (mkF m 10 #[rv (t), iv ((0 : Int32)), iv ((Int32.ofNat cs.length)), iv ((Int32.ofNat cs.length)), uu] [(.int (Int32.ofNat cs.length))])) rfl (hb hby d19_10) rfl (own_nn32 (Nat.lt_of_le_of_lt hcap (by decide))) (cap := 26) (by rw [own_n32 (Nat.lt_of_le_of_lt hcap (by decide))]; exact hcap) (by decide) (by decide) (by decide)
  obtain ⟨b2, q2⟩ : ∃ z, z = h0.size := ⟨_, rfl⟩
  rw [← q2] at A2 st2
  have g_b2 : n0 ≤ b2 := nt Z0 (Nat.le_of_eq q2.symm)
  have sz_b2 : h0.size ≤ b2 := nt K0.1 (Nat.le_of_eq q2.symm)
  have Z3 := nt Z0 E2.1
  have O3 := O0.ext E2
  have K3 := K0.ext E2
  have V2 : Arv Z h2 b2 k2 .byte (Int32.ofNat cs.length) [] (.int (0 : Int32)) := Arv.new A2 (own_nn32 (Nat.lt_of_le_of_lt hcap (by decide)))
  refine gs (S' := T2.setTop (mkF m 12 #[rv (t), iv ((0 : Int32)), iv ((Int32.ofNat cs.length)), iv ((Int32.ofNat cs.length)), uu] [(.ref b2)])) st2 ?_
  refine gs (fun _ k => o_astore X2 hx hby d19_12 rfl rfl (o_aloadN X2 hx hby d19_14 rfl rfl (o_iloadN X2 hx hby d19_15 rfl (o_aload X2 hx hby d19_16 rfl rfl (o_iconst (v := (0 : Int32)) X2 hx hby d19_18 (o_aloadN X2 hx hby d19_19 rfl rfl k)))))) ?_
  have f4 := (V_t.ext E2)
  obtain ⟨cl5, A5, a5q, a5S, a5N, a5H, a5G⟩ := id f4
  refine gs (S' := T2.setTop (mkF m 21 #[rv (t), iv ((0 : Int32)), iv ((Int32.ofNat cs.length)), iv ((Int32.ofNat cs.length)), rv (b2)] [(.int (34 : Int32)), (.int (0 : Int32)), (.ref b2), (.int (0 : Int32)), (.ref t)])) (fun _ k => by refine X2.arraylength hx (by rw [e2]; exact A5.1) (State.isArrayOf_alike hZ.alike A5.2.1) (g := (mkF m 20 #[rv (t), iv ((0 : Int32)), iv ((Int32.ofNat cs.length)), iv ((Int32.ofNat cs.length)), rv (b2)] [(.ref t), (.int (0 : Int32)), (.ref b2), (.int (0 : Int32)), (.ref t)])) rfl rfl (hb hby d19_20) _ ?_; rw [len_of a5S a5N]; exact k) ?_
  refine gs (fun _ k => o_iloadN X2 hx hby d19_21 rfl (o_isub X2 hx hby d19_22 (o_iloadN X2 hx hby d19_23 rfl k))) ?_
  refine cS (rest := [(.int (0 : Int32)), (.ref b2), (.int (0 : Int32)), (.ref t)]) X2 hx hZ hown (ow hw 154 rfl) (ow hw 155 rfl) (ow hw 146 rfl) (ow hw 156 rfl) (rm_mtS l Z a0 hw [] cs h2 n0 Z3 O3 hlt) hby d19_24 e2 pd_133 4 (by rw [hml]; rfl) rfl rfl rfl rfl (by decide) (by decide) fun _ T6 Lc6 X6 hQ6 => ?_
  obtain ⟨rfl, N6q, e6q⟩ := hQ6
  have N6 := Fr.app N1 N6q
  obtain ⟨T7, h7, L7, X7, e7, N7, K7q, V7, st7⟩ := own_cp X6 hx hZ hown (ow hw 157 rfl) (ow hw 131 rfl) (ow hw 129 rfl) (ow hw 130 rfl) e6q (cs := cs) (ds := []) f4 V2 34 cs.length cs.length rfl rfl rfl rfl (by decide) (Nat.lt_of_le_of_lt hcap (by decide)) (Nat.le_refl _) (nt hcap (by decide)) (Nat.le_of_eq (Nat.zero_add _)) N6 g_b2 (g := (mkF m 27 #[rv (t), iv ((0 : Int32)), iv ((Int32.ofNat cs.length)), iv ((Int32.ofNat cs.length)), rv (b2)] [(.int (Int32.ofNat cs.length)), (.int (0 : Int32)), (.ref b2), (.int (0 : Int32)), (.ref t)])) rfl (by rw [hml]; rfl) rfl (hb hby d19_27) (by decide) (W := 0) (own_w0 rfl) (by decide)
  have Z8 := nt Z3 K7q.1
  have O8 := O3.keep K7q (allS g_b2 all0)
  have K8 := K3.trans K7q (allS (Or.inr sz_b2) all0)
  refine gs (S' := T7.setTop (mkF m 30 #[rv (t), iv ((0 : Int32)), iv ((Int32.ofNat cs.length)), iv ((Int32.ofNat cs.length)), rv (b2)] [])) st7 ?_
  refine gs (fun _ k => o_aload X7 hx hby d19_30 rfl rfl k) ?_
  refine gout (v := some (.ref b2)) X7 Bd.notSynchronized (fun h => by rw [Bd.returns] at h; cases h) (by decide) (by decide) ?_ (fun fs hr => retOut X7 hx Bd.returns rfl (Or.inr (Or.inr (Or.inr (Or.inr ⟨rfl, rfl, rfl⟩)))) (hb hby d19_32) hr)
  rw [e7]
  exact ⟨_, _, rfl, N7, K8, sz_b2, V7⟩
theorem ef_274 (m : MethodId) (x0 : Addr) (x1 : Int32) (x2 : Int32) : entryFrame m #[(.ref x0), (.int x1), (.int x2)] 3 = mkF m 0 #[.val (.ref x0), .val (.int x1), .val (.int x2)] [] := by first | (simp [entryFrame, mkF, argsToLocals, Value.category]; done) | rfl
theorem d20_0 : decode jdk_65_method_132_code 0 = .ok (.iload_n 1, 1) := by decide +kernel
theorem d20_1 : decode jdk_65_method_132_code 1 = .ok (.ifCond .ne 9, 3) := by decide +kernel
theorem d20_4 : decode jdk_65_method_132_code 4 = .ok (.iload_n 2, 1) := by decide +kernel
theorem d20_5 : decode jdk_65_method_132_code 5 = .ok (.aload_n 0, 1) := by decide +kernel
theorem d20_6 : decode jdk_65_method_132_code 6 = .ok (.arraylength, 1) := by decide +kernel
theorem d20_7 : decode jdk_65_method_132_code 7 = .ok (.if_icmp .eq 10, 3) := by decide +kernel
theorem d20_10 : decode jdk_65_method_132_code 10 = .ok (.aload_n 0, 1) := by decide +kernel
theorem d20_11 : decode jdk_65_method_132_code 11 = .ok (.iload_n 1, 1) := by decide +kernel
theorem d20_12 : decode jdk_65_method_132_code 12 = .ok (.iload_n 2, 1) := by decide +kernel
theorem d20_13 : decode jdk_65_method_132_code 13 = .ok (.invokestatic 339, 3) := by decide +kernel
theorem pd_285 : parseMethodDescriptor "([BII)[B" = some ⟨[(.array .byte), .int, .int], some (.array .byte)⟩ := by decide +kernel
theorem d20_16 : decode jdk_65_method_132_code 16 = .ok (.areturn, 1) := by decide +kernel
set_option maxRecDepth 65536 in
set_option maxHeartbeats 40000000 in
theorem rm_crS (l : Launch) (Z : State) (a0 : Array Value) (hw : HW Z a0) (ws : List Jvm.Cond) (t : Addr) (kb : ClassId) (cs : List Int32) (h0 : Heap) (n0 : Nat) (Z0 : n0 ≤ h0.size) (O0 : Old Z n0 h0) (V_t : Arv Z h0 t kb .byte (34 : Int32) (own_bv cs) (.int (0 : Int32))) (hlt : (Int32.ofNat cs.length) < (34 : Int32)) (hne : ¬ (Int32.ofNat cs.length) = (34 : Int32)) (hcap : cs.length ≤ 26) :
    Ctr l Z (⟨"java/util/Arrays", "copyOfRange", "([BII)[B"⟩ : MethodName) jdk_65_method_132_code 3 ((Option.some (Jvm.ClassFile.FieldType.array Jvm.ClassFile.FieldType.byte))) ws (⟨2, 1, 26, 34⟩ : Room) #[(.ref t), (.int (0 : Int32)), (.int (Int32.ofNat cs.length))] h0 (fun v h L => ∃ (t1 : Addr) (k1 : ClassId), v = some (.ref t1) ∧ Fr n0 L ∧ Keep h0 h [] ∧ h0.size ≤ t1 ∧ Arv Z h t1 k1 .byte (Int32.ofNat cs.length) (own_bv cs) (.int (0 : Int32))) := by
  refine Ctr.go (plainFor_of_name pn_204) fun p e s m below meth c s₁ Bd hx hby hml hZ hown hnm X0 e0 => ?_
  have N0 := Fr.nil n0
  have K0 := Keep.refl h0 []
  refine gs (S' := s₁.setTop (mkF m 0 #[rv (t), iv ((0 : Int32)), iv ((Int32.ofNat cs.length))] [])) (fun tg kg => castTop (ef_274 m t (0 : Int32) (Int32.ofNat cs.length)) kg) ?_
  refine gs (fun _ k => o_iloadN X0 hx hby d20_0 rfl (o_ifNo X0 hx hby d20_1 ((if0 _ _).trans (teq (by decide : (0 : Int32) = (0 : Int32))).2) (o_iloadN X0 hx hby d20_4 rfl (o_aloadN X0 hx hby d20_5 rfl rfl k)))) ?_
  obtain ⟨cl1, A1, a1q, a1S, a1N, a1H, a1G⟩ := id V_t
  refine gs (S' := s₁.setTop (mkF m 7 #[rv (t), iv ((0 : Int32)), iv ((Int32.ofNat cs.length))] [(.int (34 : Int32)), (.int (Int32.ofNat cs.length))])) (fun _ k => by refine X0.arraylength hx (by rw [e0]; exact A1.1) (State.isArrayOf_alike hZ.alike A1.2.1) (g := (mkF m 6 #[rv (t), iv ((0 : Int32)), iv ((Int32.ofNat cs.length))] [(.ref t), (.int (Int32.ofNat cs.length))])) rfl rfl (hb hby d20_6) _ ?_; rw [len_of a1S a1N]; exact k) ?_
  refine gs (fun _ k => o_icmpNo X0 hx hby d20_7 (feq hne).1 (o_aloadN X0 hx hby d20_10 rfl rfl (o_iloadN X0 hx hby d20_11 rfl (o_iloadN X0 hx hby d20_12 rfl k)))) ?_
  refine cS (rest := []) X0 hx hZ hown (ow hw 191 rfl) (ow hw 192 rfl) (ow hw 152 rfl) (ow hw 193 rfl) (rm_cbS l Z a0 hw [] t kb cs h0 n0 Z0 O0 V_t hlt hne hcap) hby d20_13 e0 pd_285 0 (by rw [hml]; rfl) rfl rfl rfl rfl (by decide) (by decide) fun _ T2 Lc2 X2 hQ2 => ?_
  obtain ⟨t2, kb2, rfl, N2q, K2q, g2t, V2q⟩ := hQ2
  have N2 := Fr.app N0 N2q
  have g_t2 : n0 ≤ t2 := nt Z0 g2t
  have sz_t2 : h0.size ≤ t2 := nt K0.1 g2t
  have Z3 := nt Z0 K2q.1
  have O3 := O0.keep K2q all0
  have K3 := K0.trans K2q all0
  refine gout (v := some (.ref t2)) X2 Bd.notSynchronized (fun h => by rw [Bd.returns] at h; cases h) (by decide) (by decide) ?_ (fun fs hr => retOut X2 hx Bd.returns rfl (Or.inr (Or.inr (Or.inr (Or.inr ⟨rfl, rfl, rfl⟩)))) (hb hby d20_16) hr)
  exact ⟨_, _, rfl, N2, K3, sz_t2, V2q⟩
theorem ef_287 (m : MethodId) (x0 : Addr) (x1 : Addr) : entryFrame m #[(.ref x0), (.ref x1), .null] 5 = mkF m 0 #[.val (.ref x0), .val (.ref x1), .val .null, .unset, .unset] [] := by first | (simp [entryFrame, mkF, argsToLocals, Value.category]; done) | rfl
theorem d21_0 : decode jdk_42_method_150_code 0 = .ok (.aload_n 0, 1) := by decide +kernel
theorem d21_1 : decode jdk_42_method_150_code 1 = .ok (.invokespecial 1, 3) := by decide +kernel
theorem d21_4 : decode jdk_42_method_150_code 4 = .ok (.aload_n 1, 1) := by decide +kernel
theorem d21_5 : decode jdk_42_method_150_code 5 = .ok (.invokevirtual 552, 3) := by decide +kernel
theorem pd_292 : parseMethodDescriptor "()[B" = some ⟨[], some (.array .byte)⟩ := by decide +kernel
theorem d21_8 : decode jdk_42_method_150_code 8 = .ok (.astore_n 3, 1) := by decide +kernel
theorem d21_9 : decode jdk_42_method_150_code 9 = .ok (.aload_n 1, 1) := by decide +kernel
theorem d21_10 : decode jdk_42_method_150_code 10 = .ok (.invokevirtual 549, 3) := by decide +kernel
theorem d21_13 : decode jdk_42_method_150_code 13 = .ok (.istore 4, 2) := by decide +kernel
theorem d21_15 : decode jdk_42_method_150_code 15 = .ok (.aload_n 1, 1) := by decide +kernel
theorem d21_16 : decode jdk_42_method_150_code 16 = .ok (.invokevirtual 1047, 3) := by decide +kernel
theorem pd_299 : parseMethodDescriptor "()Z" = some ⟨[], some .boolean⟩ := by decide +kernel
theorem d21_19 : decode jdk_42_method_150_code 19 = .ok (.ifCond .eq 22, 3) := by decide +kernel
theorem d21_22 : decode jdk_42_method_150_code 22 = .ok (.aload_n 0, 1) := by decide +kernel
theorem d21_23 : decode jdk_42_method_150_code 23 = .ok (.iconst 0, 1) := by decide +kernel
theorem d21_24 : decode jdk_42_method_150_code 24 = .ok (.putfield 15, 3) := by decide +kernel
theorem d21_27 : decode jdk_42_method_150_code 27 = .ok (.aload_n 0, 1) := by decide +kernel
theorem d21_28 : decode jdk_42_method_150_code 28 = .ok (.aload_n 3, 1) := by decide +kernel
theorem d21_29 : decode jdk_42_method_150_code 29 = .ok (.iconst 0, 1) := by decide +kernel
theorem d21_30 : decode jdk_42_method_150_code 30 = .ok (.iload 4, 2) := by decide +kernel
theorem d21_32 : decode jdk_42_method_150_code 32 = .ok (.invokestatic 54, 3) := by decide +kernel
theorem d21_35 : decode jdk_42_method_150_code 35 = .ok (.putfield 9, 3) := by decide +kernel
theorem d21_38 : decode jdk_42_method_150_code 38 = .ok (.goto 59, 3) := by decide +kernel
theorem d21_97 : decode jdk_42_method_150_code 97 = .ok (.return_, 1) := by decide +kernel
set_option maxRecDepth 65536 in
set_option maxHeartbeats 40000000 in
theorem rm_iaS (l : Launch) (Z : State) (a0 : Array Value) (hw : HW Z a0) (ws : List Jvm.Cond) (a : Addr) (b : Addr) (t : Addr) (kb : ClassId) (cs : List Int32) (z : Int32) (h0 : Heap) (n0 : Nat) (Z0 : n0 ≤ h0.size) (O0 : Old Z n0 h0) (E_a : Exa Z h0 a "java/lang/String") (F_va : Fld Z h0 a "java/lang/String" "value" "[B" .null) (F_ca : Fld Z h0 a "java/lang/String" "coder" "B" (.int (0 : Int32))) (g_a : n0 ≤ a) (E_b : Exa Z h0 b "java/lang/StringBuilder") (F_v : Fld Z h0 b "java/lang/AbstractStringBuilder" "value" "[B" (.ref t)) (F_c : Fld Z h0 b "java/lang/AbstractStringBuilder" "coder" "B" (.int (0 : Int32))) (F_n : Fld Z h0 b "java/lang/AbstractStringBuilder" "count" "I" (.int (Int32.ofNat cs.length))) (V_t : Arv Z h0 t kb .byte (34 : Int32) (own_bv cs) (.int (0 : Int32))) (S0 : PS0 Z (.int z)) (hz : ¬ z = 0) (hlt : (Int32.ofNat cs.length) < (34 : Int32)) (hne : ¬ (Int32.ofNat cs.length) = (34 : Int32)) (hcap : cs.length ≤ 26) :
    Ctr l Z (⟨"java/lang/String", "<init>", "(Ljava/lang/AbstractStringBuilder;Ljava/lang/Void;)V"⟩ : MethodName) jdk_42_method_150_code 5 ((Option.none : Option Jvm.ClassFile.FieldType)) ws (⟨3, 1, 26, 49⟩ : Room) #[(.ref a), (.ref b), .null] h0 (fun v h L => v = none ∧ Fr n0 L ∧ Keep h0 h [a] ∧ Str Z h a cs) := by
  refine Ctr.go (plainFor_of_name pn_29) fun p e s m below meth c s₁ Bd hx hby hml hZ hown hnm X0 e0 => ?_
  have N0 := Fr.nil n0
  have K0 := Keep.refl h0 [a]
  refine gs (S' := s₁.setTop (mkF m 0 #[rv (a), rv (b), .val .null, uu, uu] [])) (fun tg kg => castTop (ef_287 m a b) kg) ?_
  refine gs (fun _ k => o_aloadN X0 hx hby d21_0 rfl rfl k) ?_
  obtain ⟨T1, X1, e1, st1⟩ := initO X0 hx hZ hown (ow hw 21 rfl) (ow hw 22 rfl) (ow hw 23 rfl) e0 (g := (mkF m 1 #[rv (a), rv (b), .val .null, uu, uu] [(.ref a)])) rfl (by rw [hml]; rfl) rfl (hb hby d21_1) (by decide) (W := 0) (own_w0 rfl) (by decide)
  refine gs (S' := T1.setTop (mkF m 4 #[rv (a), rv (b), .val .null, uu, uu] [])) st1 ?_
  refine gs (fun _ k => o_aloadN X1 hx hby d21_4 rfl rfl k) ?_
  refine cV (rest := []) X1 hx hZ hown (ow hw 170 rfl) (ow hw 171 rfl) (nfs hZ (ow hw 173 rfl)) (ow hw 173 rfl) (ow hw 172 rfl) (ow hw 77 rfl) (ow hw 174 rfl) (rm_gvS l Z a0 hw [] b t kb cs h0 n0 Z0 O0 E_b F_v F_c F_n V_t) hby d21_5 e1 pd_292 0 (by rw [hml]; rfl) E_b rfl rfl rfl rfl (by decide) (by decide) fun _ T2 Lc2 X2 hQ2 => ?_
  obtain ⟨rfl, N2q, e2q⟩ := hQ2
  have N2 := Fr.app N0 N2q
  refine gs (fun _ k => o_astoreN X2 hx hby d21_8 rfl rfl (o_aloadN X2 hx hby d21_9 rfl rfl k)) ?_
  refine cV (rest := []) X2 hx hZ hown (ow hw 175 rfl) (ow hw 176 rfl) (own_nf (a0 := #[]) (mvT hZ (ow hw 110 rfl)) rfl) (ow hw 178 rfl) (ow hw 179 rfl) (ow hw 69 rfl) (ow hw 180 rfl) (rm_slS l Z a0 hw [] b t kb cs h0 n0 Z0 O0 E_b F_v F_c F_n V_t) hby d21_10 e2q pd_90 0 (by rw [hml]; rfl) E_b rfl rfl rfl rfl (by decide) (by decide) fun _ T3 Lc3 X3 hQ3 => ?_
  obtain ⟨rfl, N3q, e3q⟩ := hQ3
  have N3 := Fr.app N2 N3q
  refine gs (fun _ k => o_istore X3 hx hby d21_13 rfl (o_aloadN X3 hx hby d21_15 rfl rfl k)) ?_
  refine cV (rest := []) X3 hx hZ hown (ow hw 183 rfl) (ow hw 184 rfl) (nfs hZ (ow hw 186 rfl)) (ow hw 186 rfl) (ow hw 185 rfl) (ow hw 77 rfl) (ow hw 187 rfl) (rm_ilS l Z a0 hw [] b t kb cs z h0 n0 Z0 O0 E_b F_v F_c F_n V_t S0 hz) hby d21_16 e3q pd_299 0 (by rw [hml]; rfl) E_b rfl rfl rfl rfl (by decide) (by decide) fun _ T4 Lc4 X4 hQ4 => ?_
  obtain ⟨rfl, N4q, e4q⟩ := hQ4
  have N4 := Fr.app N3 N4q
  refine gs (fun _ k => o_ifNo X4 hx hby d21_19 ((if0 _ _).trans (feq (by decide : ¬ ((1 : Int32) = (0 : Int32)))).1) (o_aloadN X4 hx hby d21_22 rfl rfl (o_iconst (v := (0 : Int32)) X4 hx hby d21_23 k))) ?_
  obtain ⟨T5, h5, X5, e5, W5, st5⟩ := putFN X4 hx hZ hown (ow hw 36 rfl) Via.refl e4q F_ca E_a (Or.inr ⟨(ow hw 37 rfl), rfl, hnm⟩) (ow hw 8 rfl) (ty := .byte) (v' := (.int (0 : Int32))) (by decide) rfl rfl (g := (mkF m 24 #[rv (a), rv (b), .val .null, rv (t), iv ((Int32.ofNat cs.length))] [(.int (0 : Int32)), (.ref a)])) rfl rfl (hb hby d21_24)
  have N5 := Fr.snoc X5 N4 g_a
  have Fw5 := F_ca.same W5
  have Z6 := nt Z0 (Keep.of_wr W5).1
  have O6 := O0.wr W5 g_a
  have K6 := K0.wr W5 (Or.inl (List.mem_of_getElem? (i := 0) rfl))
  refine gs (S' := T5.setTop (mkF m 27 #[rv (a), rv (b), .val .null, rv (t), iv ((Int32.ofNat cs.length))] [])) st5 ?_
  refine gs (fun _ k => o_aloadN X5 hx hby d21_27 rfl rfl (o_aloadN X5 hx hby d21_28 rfl rfl (o_iconst (v := (0 : Int32)) X5 hx hby d21_29 (o_iload X5 hx hby d21_30 rfl k)))) ?_
  have f7 := (V_t.other W5 (Ne.symm (Exa.neArv E_a V_t (ow hw 8 rfl))))
  refine cS (rest := [(.ref a)]) X5 hx hZ hown (ow hw 188 rfl) (ow hw 189 rfl) (ow hw 152 rfl) (ow hw 190 rfl) (rm_crS l Z a0 hw [] t kb cs h5 n0 Z6 O6 f7 hlt hne hcap) hby d21_32 e5 pd_285 1 (by rw [hml]; rfl) rfl rfl rfl rfl (by decide) (by decide) fun _ T8 Lc8 X8 hQ8 => ?_
  obtain ⟨t8, kb8, rfl, N8q, K8q, g8t, V8q⟩ := hQ8
  have N8 := Fr.app N5 N8q
  have g_t8 : n0 ≤ t8 := nt Z6 g8t
  have sz_t8 : h0.size ≤ t8 := nt K6.1 g8t
  have Z9 := nt Z6 K8q.1
  have O9 := O6.keep K8q all0
  have K9 := K6.trans K8q all0
  have f10 := ((F_va.other W5 (Or.inr (slot_ne (Or.inr (ow hw 39 rfl)) (Or.inr (ow hw 37 rfl)) (by decide) (t := (.array .byte)) (t' := .byte) (by decide) (by decide)))).keep K8q nin0)
  have f11 := ((E_a.wr W5).keep K8q)
  obtain ⟨T12, h12, X12, e12, W12, st12⟩ := putF X8 hx hZ hown (host := "") (Or.inl (ow hw 38 rfl)) Via.refl rfl f10 f11 (Or.inr ⟨(ow hw 39 rfl), rfl, hnm⟩) (ow hw 8 rfl) (ty := (.array .byte)) (by decide) rfl rfl (g := (mkF m 35 #[rv (a), rv (b), .val .null, rv (t), iv ((Int32.ofNat cs.length))] [(.ref t8), (.ref a)])) rfl rfl (hb hby d21_35)
  have N12 := Fr.snoc X12 N8 g_a
  have Fw12 := f10.same W12
  have Z13 := nt Z9 (Keep.of_wr W12).1
  have O13 := O9.wr W12 g_a
  have K13 := K9.wr W12 (Or.inl (List.mem_of_getElem? (i := 0) rfl))
  refine gs (S' := T12.setTop (mkF m 38 #[rv (a), rv (b), .val .null, rv (t), iv ((Int32.ofNat cs.length))] [])) st12 ?_
  refine gs (fun _ k => o_goto (pc' := 97) X12 hx hby d21_38 k) ?_
  have f14 := (f11.wr W12)
  have f15 := ((Fw5.keep K8q nin0).other W12 (Or.inr (slot_ne (Or.inr (ow hw 37 rfl)) (Or.inr (ow hw 39 rfl)) (by decide) (t := .byte) (t' := (.array .byte)) (by decide) (by decide))))
  have f16 := (V8q.other W12 (Ne.symm (nw (nu (nu E_a.lt (Keep.of_wr W5).1) g8t))))
  refine gout (v := none) X12 Bd.notSynchronized (fun _ => rfl) (by decide) (by decide) ?_ (fun fs hr => X12.returnOut hx Bd.returns (hb hby d21_97) hr)
  rw [e12]
  exact ⟨rfl, N12, K13, _, _, f14, f15, Fw12, f16⟩
theorem ef_312 (m : MethodId) (x0 : Addr) (x1 : Addr) : entryFrame m #[(.ref x0), (.ref x1)] 2 = mkF m 0 #[.val (.ref x0), .val (.ref x1)] [] := by first | (simp [entryFrame, mkF, argsToLocals, Value.category]; done) | rfl
theorem d22_0 : decode jdk_42_method_53_code 0 = .ok (.aload_n 0, 1) := by decide +kernel
theorem d22_1 : decode jdk_42_method_53_code 1 = .ok (.aload_n 1, 1) := by decide +kernel
theorem d22_2 : decode jdk_42_method_53_code 2 = .ok (.aconst_null, 1) := by decide +kernel
theorem d22_3 : decode jdk_42_method_53_code 3 = .ok (.invokespecial 489, 3) := by decide +kernel
theorem pd_317 : parseMethodDescriptor "(Ljava/lang/AbstractStringBuilder;Ljava/lang/Void;)V" = some ⟨[(.object "java/lang/AbstractStringBuilder"), (.object "java/lang/Void")], none⟩ := by decide +kernel
theorem d22_6 : decode jdk_42_method_53_code 6 = .ok (.return_, 1) := by decide +kernel
set_option maxRecDepth 65536 in
set_option maxHeartbeats 40000000 in
theorem rm_isS (l : Launch) (Z : State) (a0 : Array Value) (hw : HW Z a0) (ws : List Jvm.Cond) (a : Addr) (b : Addr) (t : Addr) (kb : ClassId) (cs : List Int32) (z : Int32) (h0 : Heap) (n0 : Nat) (Z0 : n0 ≤ h0.size) (O0 : Old Z n0 h0) (E_a : Exa Z h0 a "java/lang/String") (F_va : Fld Z h0 a "java/lang/String" "value" "[B" .null) (F_ca : Fld Z h0 a "java/lang/String" "coder" "B" (.int (0 : Int32))) (g_a : n0 ≤ a) (E_b : Exa Z h0 b "java/lang/StringBuilder") (F_v : Fld Z h0 b "java/lang/AbstractStringBuilder" "value" "[B" (.ref t)) (F_c : Fld Z h0 b "java/lang/AbstractStringBuilder" "coder" "B" (.int (0 : Int32))) (F_n : Fld Z h0 b "java/lang/AbstractStringBuilder" "count" "I" (.int (Int32.ofNat cs.length))) (V_t : Arv Z h0 t kb .byte (34 : Int32) (own_bv cs) (.int (0 : Int32))) (S0 : PS0 Z (.int z)) (hz : ¬ z = 0) (hlt : (Int32.ofNat cs.length) < (34 : Int32)) (hne : ¬ (Int32.ofNat cs.length) = (34 : Int32)) (hcap : cs.length ≤ 26) :
    Ctr l Z (⟨"java/lang/String", "<init>", "(Ljava/lang/StringBuilder;)V"⟩ : MethodName) jdk_42_method_53_code 2 ((Option.none : Option Jvm.ClassFile.FieldType)) ws (⟨4, 1, 26, 65⟩ : Room) #[(.ref a), (.ref b)] h0 (fun v h L => v = none ∧ Fr n0 L ∧ Keep h0 h [a] ∧ Str Z h a cs) := by
  refine Ctr.go (plainFor_of_name pn_29) fun p e s m below meth c s₁ Bd hx hby hml hZ hown hnm X0 e0 => ?_
  have N0 := Fr.nil n0
  have K0 := Keep.refl h0 [a]
  refine gs (S' := s₁.setTop (mkF m 0 #[rv (a), rv (b)] [])) (fun tg kg => castTop (ef_312 m a b) kg) ?_
  refine gs (fun _ k => o_aloadN X0 hx hby d22_0 rfl rfl (o_aloadN X0 hx hby d22_1 rfl rfl (o_aconstNull X0 hx hby d22_2 k))) ?_
  refine cI (rest := []) X0 hx hZ hown rfl (ow hw 167 rfl) (ow hw 168 rfl) (ow hw 9 rfl) (ow hw 169 rfl) (rm_iaS l Z a0 hw [] a b t kb cs z h0 n0 Z0 O0 E_a F_va F_ca g_a E_b F_v F_c F_n V_t S0 hz hlt hne hcap) hby d22_3 e0 pd_317 0 (by rw [hml]; rfl) rfl rfl rfl rfl (by decide) (by decide) fun _ T1 Lc1 X1 hQ1 => ?_
  obtain ⟨rfl, N1q, K1q, T1q⟩ := hQ1
  have N1 := Fr.app N0 N1q
  have Z2 := nt Z0 K1q.1
  have O2 := O0.keep K1q (allS g_a all0)
  have K2 := K0.trans K1q (allS (Or.inl (List.mem_of_getElem? (i := 0) rfl)) all0)
  refine gout (v := none) X1 Bd.notSynchronized (fun _ => rfl) (by decide) (by decide) ?_ (fun fs hr => X1.returnOut hx Bd.returns (hb hby d22_6) hr)
  exact ⟨rfl, N1, K2, T1q⟩
theorem ef_319 (m : MethodId) (x0 : Addr) : entryFrame m #[(.ref x0)] 1 = mkF m 0 #[.val (.ref x0)] [] := by first | (simp [entryFrame, mkF, argsToLocals, Value.category]; done) | rfl
theorem d23_0 : decode jdk_67_method_42_code 0 = .ok (.new 18, 3) := by decide +kernel
theorem d23_3 : decode jdk_67_method_42_code 3 = .ok (.dup, 1) := by decide +kernel
theorem d23_4 : decode jdk_67_method_42_code 4 = .ok (.aload_n 0, 1) := by decide +kernel
theorem d23_5 : decode jdk_67_method_42_code 5 = .ok (.invokespecial 137, 3) := by decide +kernel
theorem pd_324 : parseMethodDescriptor "(Ljava/lang/StringBuilder;)V" = some ⟨[(.object "java/lang/StringBuilder")], none⟩ := by decide +kernel
theorem d23_8 : decode jdk_67_method_42_code 8 = .ok (.areturn, 1) := by decide +kernel
set_option maxRecDepth 65536 in
set_option maxHeartbeats 40000000 in
theorem rm_tsS (l : Launch) (Z : State) (a0 : Array Value) (hw : HW Z a0) (ws : List Jvm.Cond) (b : Addr) (t : Addr) (kb : ClassId) (cs : List Int32) (z : Int32) (h0 : Heap) (n0 : Nat) (Z0 : n0 ≤ h0.size) (O0 : Old Z n0 h0) (E_b : Exa Z h0 b "java/lang/StringBuilder") (F_v : Fld Z h0 b "java/lang/AbstractStringBuilder" "value" "[B" (.ref t)) (F_c : Fld Z h0 b "java/lang/AbstractStringBuilder" "coder" "B" (.int (0 : Int32))) (F_n : Fld Z h0 b "java/lang/AbstractStringBuilder" "count" "I" (.int (Int32.ofNat cs.length))) (V_t : Arv Z h0 t kb .byte (34 : Int32) (own_bv cs) (.int (0 : Int32))) (S0 : PS0 Z (.int z)) (hz : ¬ z = 0) (hlt : (Int32.ofNat cs.length) < (34 : Int32)) (hne : ¬ (Int32.ofNat cs.length) = (34 : Int32)) (hcap : cs.length ≤ 26) :
    Ctr l Z (⟨"java/lang/StringBuilder", "toString", "()Ljava/lang/String;"⟩ : MethodName) jdk_67_method_42_code 1 ((Option.some (Jvm.ClassFile.FieldType.object "java/lang/String"))) ws (⟨5, 2, 30, 79⟩ : Room) #[(.ref b)] h0 (fun v h L => ∃ a : Addr, v = some (.ref a) ∧ Fr n0 L ∧ Keep h0 h [] ∧ Str Z h a cs) := by
  refine Ctr.go (plainFor_of_name pn_21) fun p e s m below meth c s₁ Bd hx hby hml hZ hown hnm X0 e0 => ?_
  have N0 := Fr.nil n0
  have K0 := Keep.refl h0 []
  refine gs (S' := s₁.setTop (mkF m 0 #[rv (b)] [])) (fun tg kg => castTop (ef_319 m b) kg) ?_
  obtain ⟨T1, h1, X1, e1, E1, A1, D1, -, st1⟩ := newO X0 hx hZ hown (ow hw 163 rfl) (ow hw 8 rfl) (ow hw 9 rfl) e0 (g := (mkF m 0 #[rv (b)] [])) rfl (hb hby d23_0) (by decide) (by decide)
  obtain ⟨b1, q1⟩ : ∃ z, z = h0.size := ⟨_, rfl⟩
  rw [← q1] at A1 D1 st1
  have g_b1 : n0 ≤ b1 := nt Z0 (Nat.le_of_eq q1.symm)
  have sz_b1 : h0.size ≤ b1 := nt K0.1 (Nat.le_of_eq q1.symm)
  have Z2 := nt Z0 E1.1
  have O2 := O0.ext E1
  have K2 := K0.ext E1
  have F_coder_b1 : Fld Z h1 b1 "java/lang/String" "coder" "B" (.int (0 : Int32)) := D1 (Or.inr (ow hw 37 rfl)) (ty := .byte) (by decide)
  have F_value_b1 : Fld Z h1 b1 "java/lang/String" "value" "[B" .null := D1 (Or.inr (ow hw 39 rfl)) (ty := (.array .byte)) (by decide)
  refine gs (S' := T1.setTop (mkF m 3 #[rv (b)] [(.ref b1)])) st1 ?_
  refine gs (fun _ k => o_dup X1 hx hby d23_3 rfl (o_aloadN X1 hx hby d23_4 rfl rfl k)) ?_
  have f3 := (E_b.ext E1)
  have f4 := (F_v.ext E1)
  have f5 := (F_c.ext E1)
  have f6 := (F_n.ext E1)
  have f7 := (V_t.ext E1)
  refine cI (rest := [(.ref b1)]) X1 hx hZ hown rfl (ow hw 164 rfl) (ow hw 165 rfl) (ow hw 9 rfl) (ow hw 166 rfl) (rm_isS l Z a0 hw [] b1 b t kb cs z h1 n0 Z2 O2 A1 F_value_b1 F_coder_b1 g_b1 f3 f4 f5 f6 f7 S0 hz hlt hne hcap) hby d23_5 e1 pd_324 1 (by rw [hml]; rfl) rfl rfl rfl rfl (by decide) (by decide) fun _ T8 Lc8 X8 hQ8 => ?_
  obtain ⟨rfl, N8q, K8q, T8q⟩ := hQ8
  have N8 := Fr.app N0 N8q
  have Z9 := nt Z2 K8q.1
  have O9 := O2.keep K8q (allS g_b1 all0)
  have K9 := K2.trans K8q (allS (Or.inr sz_b1) all0)
  refine gout (v := some (.ref b1)) X8 Bd.notSynchronized (fun h => by rw [Bd.returns] at h; cases h) (by decide) (by decide) ?_ (fun fs hr => retOut X8 hx Bd.returns rfl (Or.inr (Or.inr (Or.inr (Or.inr ⟨rfl, rfl, rfl⟩)))) (hb hby d23_8) hr)
  exact ⟨_, rfl, N8, K9, T8q⟩
def own_F1 : List Int32 := [97, 112, 112, 108, 105, 99, 97, 116, 105, 111, 110]
def own_L1 : List Int32 := [97, 112, 112, 108, 105, 99, 97, 116, 105, 111, 110, 120]
def own_S1 : List Int32 := [97, 112, 112, 108, 105, 99, 97, 116, 105, 111]
def own_F0 : List Int32 := [118, 110, 100, 46, 97, 112, 105, 43, 106, 115, 111, 110]
def own_L0 : List Int32 := [118, 110, 100, 46, 97, 112, 105, 43, 106, 115, 111, 110, 120]
def own_S0 : List Int32 := [118, 110, 100, 46, 97, 112, 105, 43, 106, 115, 111]
def own_ix (p n : Int32) : Nat := ((p &&& (2147483647 : Int32)) % n).toNatClampNeg
def own_ms (F L S : List Int32) (nF nS : Int32) (k : Nat) (m p c : Int32) : List Int32 := if m = (0 : Int32) then F else if m = (1 : Int32) then F.set (own_ix p nF) c else if m = (2 : Int32) then L.set k c else S.set (own_ix p nS) c
def own_mt (F : List Int32) (nF : Int32) (m p c : Int32) : Int32 := if m = (0 : Int32) then 1 else if m = (1 : Int32) then (if F.getD (own_ix p nF) 0 = c then 1 else 0) else 0
def own_c0 (i : Int32) : Int32 := (i &&& (255 : Int32)).toUInt32.toUInt16.toUInt32.toInt32
def own_dr (i : Int32) : Int32 := if own_c0 i < (65 : Int32) then own_c0 i else if (90 : Int32) < own_c0 i then own_c0 i else (own_c0 i + (32 : Int32)).toUInt32.toUInt16.toUInt32.toInt32
theorem own_drb (i : Int32) : ¬ own_dr i < 0 ∧ ¬ (255 : Int32) < own_dr i := by
  have h := own_ci i
  have h0 : ¬ own_c0 i < 0 ∧ ¬ (255 : Int32) < own_c0 i := h
  unfold own_dr
  by_cases q1 : own_c0 i < (65 : Int32)
  · rw [if_pos q1]; exact h0
  · rw [if_neg q1]
    by_cases q2 : (90 : Int32) < own_c0 i
    · rw [if_pos q2]; exact h0
    · rw [if_neg q2]
      have a := c_i2c (own_c0 i + (32 : Int32))
      have e1 : (255 : Int32).toInt = 255 := by decide
      have e2 : (90 : Int32).toInt = 90 := by decide
      have e3 : (65 : Int32).toInt = 65 := by decide
      have e4 : (32 : Int32).toInt = 32 := by decide
      have e5 : (0 : Int32).toInt = 0 := by decide
      have s := c_iadd (own_c0 i) (32 : Int32)
      have r := rng32 (own_c0 i + (32 : Int32))
      simp only [Int32.lt_iff_toInt_lt] at q1 q2 h0 ⊢
      omega
theorem own_drn (i : Int32) : nar .char (own_dr i) = own_dr i := by
  have h := own_drb i
  have a := c_i2c (own_dr i)
  have e : (255 : Int32).toInt = 255 := by decide
  have z : (0 : Int32).toInt = 0 := by decide
  show (own_dr i).toUInt32.toUInt16.toUInt32.toInt32 = own_dr i
  simp only [Int32.lt_iff_toInt_lt] at h
  rw [← Int32.toInt_inj]
  omega
theorem own_ixr (p n : Int32) (hn : 0 < n.toInt) : (¬ (p &&& (2147483647 : Int32)) % n < 0 ∧ (p &&& (2147483647 : Int32)) % n < n) ∧ own_ix p n < n.toNatClampNeg := by
  have a := c_and p 2147483647 (by decide)
  have q := (c_iremV (p &&& (2147483647 : Int32)) n).1 a.1 hn
  have z : (0 : Int32).toInt = 0 := by decide
  simp only [Int32.lt_iff_toInt_lt, own_ix, Int32.toNatClampNeg]
  omega
theorem own_setb {F : List Int32} {i : Nat} {x : Int32} (h : ∀ c ∈ F, ¬ c < 0 ∧ ¬ (255 : Int32) < c) (hx : ¬ x < 0 ∧ ¬ (255 : Int32) < x) : ∀ c ∈ F.set i x, ¬ c < 0 ∧ ¬ (255 : Int32) < c := fun c hc => by
  rcases List.mem_or_eq_of_mem_set hc with q | q
  · exact h c q
  · rw [q]; exact hx
theorem own_getm (F : List Int32) (i : Nat) : (F.map Value.int).getD i (.int 0) = .int (F.getD i 0) := by
  simp only [List.getD_eq_getElem?_getD, List.getElem?_map]
  cases F[i]? <;> rfl
theorem own_msb {F L S : List Int32} {nF nS : Int32} {k : Nat} {m p c : Int32} (hF : ∀ c ∈ F, ¬ c < 0 ∧ ¬ (255 : Int32) < c) (hL : ∀ c ∈ L, ¬ c < 0 ∧ ¬ (255 : Int32) < c) (hS : ∀ c ∈ S, ¬ c < 0 ∧ ¬ (255 : Int32) < c) (hc : ¬ c < 0 ∧ ¬ (255 : Int32) < c) : ∀ x ∈ own_ms F L S nF nS k m p c, ¬ x < 0 ∧ ¬ (255 : Int32) < x := by
  unfold own_ms
  split
  · exact hF
  · split
    · exact own_setb hF hc
    · split
      · exact own_setb hL hc
      · exact own_setb hS hc
theorem own_msl {F L S : List Int32} {nF nS : Int32} {k : Nat} {m p c : Int32} (n : Nat) (h1 : F.length = n + 1) (h2 : L.length = n + 2) (h3 : S.length = n) : n ≤ (own_ms F L S nF nS k m p c).length ∧ (own_ms F L S nF nS k m p c).length ≤ n + 2 := by
  unfold own_ms
  split
  · omega
  · split
    · rw [List.length_set]; omega
    · split
      · rw [List.length_set]; omega
      · rw [List.length_set]; omega
def own_lit : List Int32 := [97, 112, 112, 108, 105, 99, 97, 116, 105, 111, 110, 47, 118, 110, 100, 46, 97, 112, 105, 43, 106, 115, 111, 110]
def own_jr (cs ds : List Int32) : Int32 := if (((([] : List Int32) ++ cs) ++ ([47] : List Int32)) ++ ds) = own_lit then 1 else 0
theorem own_mseq {F L S : List Int32} {nF nS : Int32} {k : Nat} {m p c : Int32} (n : Nat) (h1 : F.length = n + 1) (h2 : L.length = n + 2) (h3 : S.length = n) (hi : own_ix p nF < n + 1) : own_ms F L S nF nS k m p c = F ↔ ¬ own_mt F nF m p c = 0 := by
  unfold own_ms own_mt
  by_cases m0 : m = (0 : Int32)
  · simp [m0]
  · by_cases m1 : m = (1 : Int32)
    · rw [if_neg m0, if_pos m1, if_neg m0, if_pos m1]
      have hl : own_ix p nF < F.length := by omega
      by_cases e : F.getD (own_ix p nF) 0 = c
      · rw [if_pos e]
        constructor
        · intro _; decide
        · intro _
          rw [← e]
          simp [List.getD_eq_getElem?_getD, hl]
      · rw [if_neg e]
        constructor
        · intro q
          exfalso; apply e
          have q' := congrArg (fun l => l.getD (own_ix p nF) 0) q
          simp only [List.getD_eq_getElem?_getD, List.getElem?_set_self hl] at q'
          simp only [List.getD_eq_getElem?_getD]
          exact q'.symm
        · intro q; exact absurd rfl q
    · rw [if_neg m0, if_neg m1, if_neg m0, if_neg m1]
      constructor
      · intro q
        exfalso
        have q' := congrArg List.length q
        split at q' <;> rw [List.length_set] at q' <;> omega
      · intro q; exact absurd rfl q
theorem own_cat {cs ds : List Int32} (h1 : 10 ≤ cs.length) (h2 : cs.length ≤ 12) (h3 : 11 ≤ ds.length) (h4 : ds.length ≤ 13) : (((([] : List Int32) ++ cs) ++ ([47] : List Int32)) ++ ds) = own_lit ↔ cs = own_F1 ∧ ds = own_F0 := by
  constructor
  · intro q
    rw [List.nil_append] at q
    have ql := congrArg List.length q
    simp only [List.length_append, List.length_cons, List.length_nil] at ql
    have ll : own_lit.length = 24 := rfl
    have e47 : (cs ++ [47] ++ ds)[cs.length]? = some 47 := by simp
    rw [q] at e47
    have hc : cs.length = 11 := by
      have : cs.length = 10 ∨ cs.length = 11 ∨ cs.length = 12 := by omega
      rcases this with r | r | r
      · rw [r] at e47; exact absurd e47 (by decide)
      · exact r
      · rw [r] at e47; exact absurd e47 (by decide)
    have q2 : (cs ++ [47]) ++ ds = (own_F1 ++ [47]) ++ own_F0 := q
    have i1 := List.append_inj q2 (by rw [List.length_append, List.length_append, hc]; rfl)
    exact ⟨(List.append_inj i1.1 (by rw [hc]; rfl)).1, i1.2⟩
  · rintro ⟨rfl, rfl⟩; rfl
theorem own_final (m p c m' p' c' : Int32) : own_jr (own_ms own_F1 own_L1 own_S1 11 10 11 m p c) (own_ms own_F0 own_L0 own_S0 12 11 12 m' p' c') = if own_mt own_F1 11 m p c = 0 then 0 else if own_mt own_F0 12 m' p' c' = 0 then 0 else 1 := by
  have l1 := own_msl (F := own_F1) (L := own_L1) (S := own_S1) (nF := 11) (nS := 10) (k := 11) (m := m) (p := p) (c := c) 10 rfl rfl rfl
  have l0 := own_msl (F := own_F0) (L := own_L0) (S := own_S0) (nF := 12) (nS := 11) (k := 12) (m := m') (p := p') (c := c') 11 rfl rfl rfl
  have q1 := own_mseq (F := own_F1) (L := own_L1) (S := own_S1) (nF := 11) (nS := 10) (k := 11) (m := m) (p := p) (c := c) 10 rfl rfl rfl (own_ixr p 11 (by decide)).2
  have q0 := own_mseq (F := own_F0) (L := own_L0) (S := own_S0) (nF := 12) (nS := 11) (k := 12) (m := m') (p := p') (c := c') 11 rfl rfl rfl (own_ixr p' 12 (by decide)).2
  have qc := own_cat l1.1 l1.2 l0.1 l0.2
  rw [q1, q0] at qc
  unfold own_jr
  by_cases a : own_mt own_F1 11 m p c = 0
  · rw [if_pos a, if_neg (fun h => (qc.mp h).1 a)]
  · rw [if_neg a]
    by_cases b : own_mt own_F0 12 m' p' c' = 0
    · rw [if_pos b, if_neg (fun h => (qc.mp h).2 b)]
    · rw [if_neg b, if_pos (qc.mpr ⟨a, b⟩)]
theorem own_room1 {cs : List Int32} (h : cs.length ≤ 12) : (¬ (0 : Int32) < (Int32.ofNat ([] : List Int32).length + Int32.ofNat cs.length) - (16 : Int32)) ∧ ([] : List Int32).length + cs.length ≤ 16 := by
  rw [own_lenapp]
  have e : (Int32.ofNat (([] : List Int32) ++ cs).length).toInt = cs.length := by rw [List.nil_append, Int32.toInt_ofNat_small (by omega)]
  have s := c_isub (Int32.ofNat (([] : List Int32) ++ cs).length) (16 : Int32)
  have r := rng32 (Int32.ofNat (([] : List Int32) ++ cs).length - (16 : Int32))
  have k : (16 : Int32).toInt = 16 := by decide
  have z : (0 : Int32).toInt = 0 := by decide
  simp only [Int32.lt_iff_toInt_lt, List.length_nil]
  omega
theorem own_room2 {cs : List Int32} (h : cs.length ≤ 12) : (¬ (0 : Int32) < (Int32.ofNat (([] : List Int32) ++ cs).length + Int32.ofNat ([47] : List Int32).length) - (16 : Int32)) ∧ (([] : List Int32) ++ cs).length + ([47] : List Int32).length ≤ 16 := by
  rw [own_lenapp]
  have l : ((([] : List Int32) ++ cs) ++ ([47] : List Int32)).length = cs.length + 1 := by simp
  have e : (Int32.ofNat ((([] : List Int32) ++ cs) ++ ([47] : List Int32)).length).toInt = cs.length + 1 := by rw [l, Int32.toInt_ofNat_small (by omega)]; rfl
  have s := c_isub (Int32.ofNat ((([] : List Int32) ++ cs) ++ ([47] : List Int32)).length) (16 : Int32)
  have r := rng32 (Int32.ofNat ((([] : List Int32) ++ cs) ++ ([47] : List Int32)).length - (16 : Int32))
  have k : (16 : Int32).toInt = 16 := by decide
  have z : (0 : Int32).toInt = 0 := by decide
  rw [List.length_append] at l
  simp only [Int32.lt_iff_toInt_lt]
  omega
theorem own_grow3 {as ds : List Int32} (h1 : 11 ≤ as.length) (h2 : as.length ≤ 13) (h3 : 11 ≤ ds.length) (h4 : ds.length ≤ 13) : ((0 : Int32) < (Int32.ofNat as.length + Int32.ofNat ds.length) - (16 : Int32)) ∧ (((Int32.ofNat as.length + Int32.ofNat ds.length) <<< ((0 : Int32) &&& 31)) - (16 : Int32) < (18 : Int32)) ∧ as.length ≤ 16 ∧ as.length + ds.length ≤ 34 := by
  rw [own_shl0, own_lenapp]
  have l : (as ++ ds).length = as.length + ds.length := by simp
  have e : (Int32.ofNat (as ++ ds).length).toInt = as.length + ds.length := by rw [l, Int32.toInt_ofNat_small (by omega)]; rfl
  have s := c_isub (Int32.ofNat (as ++ ds).length) (16 : Int32)
  have r := rng32 (Int32.ofNat (as ++ ds).length - (16 : Int32))
  have k : (16 : Int32).toInt = 16 := by decide
  have k2 : (18 : Int32).toInt = 18 := by decide
  have z : (0 : Int32).toInt = 0 := by decide
  simp only [Int32.lt_iff_toInt_lt]
  omega
theorem own_ts {as : List Int32} (h : as.length ≤ 26) : (Int32.ofNat as.length < (34 : Int32)) ∧ (¬ Int32.ofNat as.length = (34 : Int32)) ∧ as.length ≤ 26 := by
  have e : (Int32.ofNat as.length).toInt = as.length := by rw [Int32.toInt_ofNat_small (by omega)]
  have k : (34 : Int32).toInt = 34 := by decide
  simp only [Int32.lt_iff_toInt_lt, ← Int32.toInt_inj]
  omega
theorem own_len3 {cs ds : List Int32} : ((([] : List Int32) ++ cs) ++ ([47] : List Int32)).length = cs.length + 1 ∧ (((([] : List Int32) ++ cs) ++ ([47] : List Int32)) ++ ds).length = cs.length + 1 + ds.length := by constructor <;> simp <;> omega
theorem own_cat_b {cs ds : List Int32} (h1 : ∀ c ∈ cs, ¬ c < 0 ∧ ¬ (255 : Int32) < c) (h2 : ∀ c ∈ ds, ¬ c < 0 ∧ ¬ (255 : Int32) < c) : ∀ c ∈ (((([] : List Int32) ++ cs) ++ ([47] : List Int32)) ++ ds), ¬ c < 0 ∧ ¬ (255 : Int32) < c := fun c hc => by
  simp only [List.nil_append, List.mem_append, List.mem_singleton] at hc
  rcases hc with (q | q) | q
  · exact h1 c q
  · rw [q]; decide
  · exact h2 c q
theorem own_nc_43 : nar .char (43 : Int32) = (43 : Int32) := by decide +kernel
theorem own_nc_46 : nar .char (46 : Int32) = (46 : Int32) := by decide +kernel
theorem own_nc_97 : nar .char (97 : Int32) = (97 : Int32) := by decide +kernel
theorem own_nc_99 : nar .char (99 : Int32) = (99 : Int32) := by decide +kernel
theorem own_nc_100 : nar .char (100 : Int32) = (100 : Int32) := by decide +kernel
theorem own_nc_105 : nar .char (105 : Int32) = (105 : Int32) := by decide +kernel
theorem own_nc_106 : nar .char (106 : Int32) = (106 : Int32) := by decide +kernel
theorem own_nc_108 : nar .char (108 : Int32) = (108 : Int32) := by decide +kernel
theorem own_nc_110 : nar .char (110 : Int32) = (110 : Int32) := by decide +kernel
theorem own_nc_111 : nar .char (111 : Int32) = (111 : Int32) := by decide +kernel
theorem own_nc_112 : nar .char (112 : Int32) = (112 : Int32) := by decide +kernel
theorem own_nc_115 : nar .char (115 : Int32) = (115 : Int32) := by decide +kernel
theorem own_nc_116 : nar .char (116 : Int32) = (116 : Int32) := by decide +kernel
theorem own_nc_118 : nar .char (118 : Int32) = (118 : Int32) := by decide +kernel
theorem own_nc_120 : nar .char (120 : Int32) = (120 : Int32) := by decide +kernel
theorem own_F1b : ∀ c ∈ own_F1, ¬ c < 0 ∧ ¬ (255 : Int32) < c := by unfold own_F1; decide
theorem own_L1b : ∀ c ∈ own_L1, ¬ c < 0 ∧ ¬ (255 : Int32) < c := by unfold own_L1; decide
theorem own_S1b : ∀ c ∈ own_S1, ¬ c < 0 ∧ ¬ (255 : Int32) < c := by unfold own_S1; decide
theorem own_F0b : ∀ c ∈ own_F0, ¬ c < 0 ∧ ¬ (255 : Int32) < c := by unfold own_F0; decide
theorem own_L0b : ∀ c ∈ own_L0, ¬ c < 0 ∧ ¬ (255 : Int32) < c := by unfold own_L0; decide
theorem own_S0b : ∀ c ∈ own_S0, ¬ c < 0 ∧ ¬ (255 : Int32) < c := by unfold own_S0; decide
theorem ef_326 (m : MethodId) (x0 : Int32) : entryFrame m #[(.int x0)] 2 = mkF m 0 #[.val (.int x0), .unset] [] := by first | (simp [entryFrame, mkF, argsToLocals, Value.category]; done) | rfl
theorem d24_0 : decode method_3_code 0 = .ok (.iload_n 0, 1) := by decide +kernel
theorem d24_1 : decode method_3_code 1 = .ok (.sipush 255, 3) := by decide +kernel
theorem d24_4 : decode method_3_code 4 = .ok (.iand, 1) := by decide +kernel
theorem d24_5 : decode method_3_code 5 = .ok (.i2c, 1) := by decide +kernel
theorem d24_6 : decode method_3_code 6 = .ok (.istore_n 1, 1) := by decide +kernel
theorem d24_7 : decode method_3_code 7 = .ok (.iload_n 1, 1) := by decide +kernel
theorem d24_8 : decode method_3_code 8 = .ok (.bipush 65, 2) := by decide +kernel
theorem d24_10 : decode method_3_code 10 = .ok (.if_icmp .lt 15, 3) := by decide +kernel
theorem d24_25 : decode method_3_code 25 = .ok (.iload_n 1, 1) := by decide +kernel
theorem d24_26 : decode method_3_code 26 = .ok (.ireturn, 1) := by decide +kernel
theorem d24_13 : decode method_3_code 13 = .ok (.iload_n 1, 1) := by decide +kernel
theorem d24_14 : decode method_3_code 14 = .ok (.bipush 90, 2) := by decide +kernel
theorem d24_16 : decode method_3_code 16 = .ok (.if_icmp .gt 9, 3) := by decide +kernel
theorem d24_19 : decode method_3_code 19 = .ok (.iload_n 1, 1) := by decide +kernel
theorem d24_20 : decode method_3_code 20 = .ok (.bipush 32, 2) := by decide +kernel
theorem d24_22 : decode method_3_code 22 = .ok (.iadd, 1) := by decide +kernel
theorem d24_23 : decode method_3_code 23 = .ok (.i2c, 1) := by decide +kernel
theorem d24_24 : decode method_3_code 24 = .ok (.istore_n 1, 1) := by decide +kernel
theorem pn_345 : plainName "com/example/strict_resources/strictresources/core/MediaTypeIsJsonApiPinLaw" = true := by first | (simp [plainName, overriddenIn]; done) | decide +kernel
set_option maxRecDepth 65536 in
set_option maxHeartbeats 40000000 in
theorem rm_dr (l : Launch) (Z : State) (a0 : Array Value) (hw : HW Z a0) (ws : List Jvm.Cond) (i : Int32) (h0 : Heap) (n0 : Nat) (Z0 : n0 ≤ h0.size) (O0 : Old Z n0 h0)  :
    Ctr l Z (⟨"com/example/strict_resources/strictresources/core/MediaTypeIsJsonApiPinLaw", "draw", "(I)C"⟩ : MethodName) method_3_code 2 ((Option.some Jvm.ClassFile.FieldType.char)) ws (⟨0, 0, 0, 0⟩ : Room) #[(.int i)] h0 (fun v h L => v = some (.int (own_dr i)) ∧ Fr n0 L ∧ h = h0) := by
  refine Ctr.go (plainFor_of_name pn_345) fun p e s m below meth c s₁ Bd hx hby hml hZ hown hnm X0 e0 => ?_
  have N0 := Fr.nil n0
  have K0 := Keep.refl h0 []
  refine gs (S' := s₁.setTop (mkF m 0 #[iv (i), uu] [])) (fun tg kg => castTop (ef_326 m i) kg) ?_
  refine gs (fun _ k => o_iloadN X0 hx hby d24_0 rfl (XS.sipush X0.here hx rfl (hb hby d24_1) (o_iand X0 hx hby d24_4 (o_i2c X0 hx hby d24_5 (o_istoreN X0 hx hby d24_6 rfl (o_iloadN X0 hx hby d24_7 rfl (o_bipush (v := (65 : Int32)) X0 hx hby d24_8 k))))))) ?_
  by_cases hc1 : ((i &&& (255 : Int32)).toUInt32.toUInt16.toUInt32.toInt32) < (65 : Int32)
  · refine gs (fun _ k => o_icmpYes (pc' := 25) X0 hx hby d24_10 (tlt hc1).1 (o_iloadN X0 hx hby d24_25 rfl k)) ?_
    refine gout (v := some (.int (nar .char ((i &&& (255 : Int32)).toUInt32.toUInt16.toUInt32.toInt32)))) X0 Bd.notSynchronized (fun h => by rw [Bd.returns] at h; cases h) (by decide) (by decide) ?_ (fun fs hr => retN X0 hx (t := .char) Bd.returns (by simp) (hb hby d24_26) hr)
    rw [e0]
    exact ⟨by unfold own_dr own_c0; rw [if_pos hc1]; exact congrArg (fun q => some (Value.int q)) (own_narc _), N0, rfl⟩
  · refine gs (fun _ k => o_icmpNo X0 hx hby d24_10 (flt hc1).1 (o_iloadN X0 hx hby d24_13 rfl (o_bipush (v := (90 : Int32)) X0 hx hby d24_14 k))) ?_
    by_cases hc2 : (90 : Int32) < ((i &&& (255 : Int32)).toUInt32.toUInt16.toUInt32.toInt32)
    · refine gs (fun _ k => o_icmpYes (pc' := 25) X0 hx hby d24_16 (tlt hc2).2.2.1 (o_iloadN X0 hx hby d24_25 rfl k)) ?_
      refine gout (v := some (.int (nar .char ((i &&& (255 : Int32)).toUInt32.toUInt16.toUInt32.toInt32)))) X0 Bd.notSynchronized (fun h => by rw [Bd.returns] at h; cases h) (by decide) (by decide) ?_ (fun fs hr => retN X0 hx (t := .char) Bd.returns (by simp) (hb hby d24_26) hr)
      rw [e0]
      exact ⟨by unfold own_dr own_c0; rw [if_neg hc1, if_pos hc2]; exact congrArg (fun q => some (Value.int q)) (own_narc _), N0, rfl⟩
    · refine gs (fun _ k => o_icmpNo X0 hx hby d24_16 (flt hc2).2.2.1 (o_iloadN X0 hx hby d24_19 rfl (o_bipush (v := (32 : Int32)) X0 hx hby d24_20 (o_iadd X0 hx hby d24_22 (o_i2c X0 hx hby d24_23 (o_istoreN X0 hx hby d24_24 rfl (o_iloadN X0 hx hby d24_25 rfl k))))))) ?_
      refine gout (v := some (.int (nar .char ((((i &&& (255 : Int32)).toUInt32.toUInt16.toUInt32.toInt32) + (32 : Int32)).toUInt32.toUInt16.toUInt32.toInt32)))) X0 Bd.notSynchronized (fun h => by rw [Bd.returns] at h; cases h) (by decide) (by decide) ?_ (fun fs hr => retN X0 hx (t := .char) Bd.returns (by simp) (hb hby d24_26) hr)
      rw [e0]
      exact ⟨by unfold own_dr own_c0; rw [if_neg hc1, if_neg hc2]; exact congrArg (fun q => some (Value.int q)) (own_narc _), N0, rfl⟩
theorem ef_346 (m : MethodId) (x0 : Int32) : entryFrame m #[(.int x0)] 1 = mkF m 0 #[.val (.int x0)] [] := by first | (simp [entryFrame, mkF, argsToLocals, Value.category]; done) | rfl
theorem d25_0 : decode method_4_code 0 = .ok (.iload_n 0, 1) := by decide +kernel
theorem d25_1 : decode method_4_code 1 = .ok (.ifCond .eq 68, 3) := by decide +kernel
theorem d25_4 : decode method_4_code 4 = .ok (.bipush 11, 2) := by decide +kernel
theorem d25_6 : decode method_4_code 6 = .ok (.newarray .char, 2) := by decide +kernel
theorem d25_8 : decode method_4_code 8 = .ok (.dup, 1) := by decide +kernel
theorem d25_9 : decode method_4_code 9 = .ok (.iconst 0, 1) := by decide +kernel
theorem d25_10 : decode method_4_code 10 = .ok (.bipush 97, 2) := by decide +kernel
theorem d25_12 : decode method_4_code 12 = .ok (.castore, 1) := by decide +kernel
theorem d25_13 : decode method_4_code 13 = .ok (.dup, 1) := by decide +kernel
theorem d25_14 : decode method_4_code 14 = .ok (.iconst 1, 1) := by decide +kernel
theorem d25_15 : decode method_4_code 15 = .ok (.bipush 112, 2) := by decide +kernel
theorem d25_17 : decode method_4_code 17 = .ok (.castore, 1) := by decide +kernel
theorem d25_18 : decode method_4_code 18 = .ok (.dup, 1) := by decide +kernel
theorem d25_19 : decode method_4_code 19 = .ok (.iconst 2, 1) := by decide +kernel
theorem d25_20 : decode method_4_code 20 = .ok (.bipush 112, 2) := by decide +kernel
theorem d25_22 : decode method_4_code 22 = .ok (.castore, 1) := by decide +kernel
theorem d25_23 : decode method_4_code 23 = .ok (.dup, 1) := by decide +kernel
theorem d25_24 : decode method_4_code 24 = .ok (.iconst 3, 1) := by decide +kernel
theorem d25_25 : decode method_4_code 25 = .ok (.bipush 108, 2) := by decide +kernel
theorem d25_27 : decode method_4_code 27 = .ok (.castore, 1) := by decide +kernel
theorem d25_28 : decode method_4_code 28 = .ok (.dup, 1) := by decide +kernel
theorem d25_29 : decode method_4_code 29 = .ok (.iconst 4, 1) := by decide +kernel
theorem d25_30 : decode method_4_code 30 = .ok (.bipush 105, 2) := by decide +kernel
theorem d25_32 : decode method_4_code 32 = .ok (.castore, 1) := by decide +kernel
theorem d25_33 : decode method_4_code 33 = .ok (.dup, 1) := by decide +kernel
theorem d25_34 : decode method_4_code 34 = .ok (.iconst 5, 1) := by decide +kernel
theorem d25_35 : decode method_4_code 35 = .ok (.bipush 99, 2) := by decide +kernel
theorem d25_37 : decode method_4_code 37 = .ok (.castore, 1) := by decide +kernel
theorem d25_38 : decode method_4_code 38 = .ok (.dup, 1) := by decide +kernel
theorem d25_39 : decode method_4_code 39 = .ok (.bipush 6, 2) := by decide +kernel
theorem d25_41 : decode method_4_code 41 = .ok (.bipush 97, 2) := by decide +kernel
theorem d25_43 : decode method_4_code 43 = .ok (.castore, 1) := by decide +kernel
theorem d25_44 : decode method_4_code 44 = .ok (.dup, 1) := by decide +kernel
theorem d25_45 : decode method_4_code 45 = .ok (.bipush 7, 2) := by decide +kernel
theorem d25_47 : decode method_4_code 47 = .ok (.bipush 116, 2) := by decide +kernel
theorem d25_49 : decode method_4_code 49 = .ok (.castore, 1) := by decide +kernel
theorem d25_50 : decode method_4_code 50 = .ok (.dup, 1) := by decide +kernel
theorem d25_51 : decode method_4_code 51 = .ok (.bipush 8, 2) := by decide +kernel
theorem d25_53 : decode method_4_code 53 = .ok (.bipush 105, 2) := by decide +kernel
theorem d25_55 : decode method_4_code 55 = .ok (.castore, 1) := by decide +kernel
theorem d25_56 : decode method_4_code 56 = .ok (.dup, 1) := by decide +kernel
theorem d25_57 : decode method_4_code 57 = .ok (.bipush 9, 2) := by decide +kernel
theorem d25_59 : decode method_4_code 59 = .ok (.bipush 111, 2) := by decide +kernel
theorem d25_61 : decode method_4_code 61 = .ok (.castore, 1) := by decide +kernel
theorem d25_62 : decode method_4_code 62 = .ok (.dup, 1) := by decide +kernel
theorem d25_63 : decode method_4_code 63 = .ok (.bipush 10, 2) := by decide +kernel
theorem d25_65 : decode method_4_code 65 = .ok (.bipush 110, 2) := by decide +kernel
theorem d25_67 : decode method_4_code 67 = .ok (.castore, 1) := by decide +kernel
theorem d25_68 : decode method_4_code 68 = .ok (.areturn, 1) := by decide +kernel
set_option maxRecDepth 65536 in
set_option maxHeartbeats 40000000 in
theorem rm_full1 (l : Launch) (Z : State) (a0 : Array Value) (hw : HW Z a0) (ws : List Jvm.Cond)  (h0 : Heap) (n0 : Nat) (Z0 : n0 ≤ h0.size) (O0 : Old Z n0 h0)  :
    Ctr l Z my10 method_4_code 1 ((Option.some (Jvm.ClassFile.FieldType.array Jvm.ClassFile.FieldType.char))) ws (⟨0, 1, 11, 0⟩ : Room) #[(.int (1 : Int32))] h0 (fun v h L => ∃ (b : Addr) (kb : ClassId), v = some (.ref b) ∧ Fr n0 L ∧ Keep h0 h [] ∧ h0.size ≤ b ∧ Arv Z h b kb .char (11 : Int32) (own_F1.map Value.int) (.int (0 : Int32))) := by
  refine Ctr.go (plainFor_of_name pn_345) fun p e s m below meth c s₁ Bd hx hby hml hZ hown hnm X0 e0 => ?_
  have N0 := Fr.nil n0
  have K0 := Keep.refl h0 []
  refine gs (S' := s₁.setTop (mkF m 0 #[iv ((1 : Int32))] [])) (fun tg kg => castTop (ef_346 m (1 : Int32)) kg) ?_
  refine gs (fun _ k => o_iloadN X0 hx hby d25_0 rfl (o_ifNo X0 hx hby d25_1 ((if0 _ _).trans (feq (by decide : ¬ ((1 : Int32) = (0 : Int32)))).1) (o_bipush (v := (11 : Int32)) X0 hx hby d25_4 k))) ?_
  obtain ⟨T1, h1, k1, X1, e1, E1, A1, st1⟩ := newP X0 hx hZ (ow hw 13 rfl) e0 (g := (mkF m 6 #[iv ((1 : Int32))] [(.int (11 : Int32))])) rfl (hb hby d25_6) rfl (by decide) (cap := 11) (by decide) (by decide) (by decide) (by decide)
  obtain ⟨b1, q1⟩ : ∃ z, z = h0.size := ⟨_, rfl⟩
  rw [← q1] at A1 st1
  have g_b1 : n0 ≤ b1 := nt Z0 (Nat.le_of_eq q1.symm)
  have sz_b1 : h0.size ≤ b1 := nt K0.1 (Nat.le_of_eq q1.symm)
  have Z2 := nt Z0 E1.1
  have O2 := O0.ext E1
  have K2 := K0.ext E1
  have V1 : Arv Z h1 b1 k1 .char (11 : Int32) [(.int (0 : Int32)), (.int (0 : Int32)), (.int (0 : Int32)), (.int (0 : Int32)), (.int (0 : Int32)), (.int (0 : Int32)), (.int (0 : Int32)), (.int (0 : Int32)), (.int (0 : Int32)), (.int (0 : Int32)), (.int (0 : Int32))] (.int (0 : Int32)) := (Arv.new A1 (by decide)).pad (pad_rep [] (.int (0 : Int32)) 11)
  refine gs (S' := T1.setTop (mkF m 8 #[iv ((1 : Int32))] [(.ref b1)])) st1 ?_
  refine gs (fun _ k => o_dup X1 hx hby d25_8 rfl (o_iconst (v := (0 : Int32)) X1 hx hby d25_9 (o_bipush (v := (97 : Int32)) X1 hx hby d25_10 k))) ?_
  obtain ⟨cl3, A3, a3q, a3S, a3N, a3H, a3G⟩ := id V1
  obtain ⟨T3, h3, X3, e3, W3, st3⟩ := stC X1 hx hZ e1 A3 (j := (0 : Int32)) (inb_of a3S ⟨by decide, by decide⟩) (g := (mkF m 12 #[iv ((1 : Int32))] [(.int (97 : Int32)), (.int (0 : Int32)), (.ref b1), (.ref b1)])) rfl rfl (hb hby d25_12)
  have V3 : Arv Z h3 b1 k1 .char (11 : Int32) [(.int (nar .char (97 : Int32))), (.int (0 : Int32)), (.int (0 : Int32)), (.int (0 : Int32)), (.int (0 : Int32)), (.int (0 : Int32)), (.int (0 : Int32)), (.int (0 : Int32)), (.int (0 : Int32)), (.int (0 : Int32)), (.int (0 : Int32))] (.int (0 : Int32)) := Arv.set A3 a3q a3S a3N a3H a3G (fits_nar_char _) W3 0 rfl (nb rfl)
  have N3 := Fr.snoc X3 N0 g_b1
  have Z4 := nt Z2 (Keep.of_wr W3).1
  have O4 := O2.wr W3 g_b1
  have K4 := K2.wr W3 (Or.inr sz_b1)
  refine gs (S' := T3.setTop (mkF m 13 #[iv ((1 : Int32))] [(.ref b1)])) st3 ?_
  refine gs (fun _ k => o_dup X3 hx hby d25_13 rfl (o_iconst (v := (1 : Int32)) X3 hx hby d25_14 (o_bipush (v := (112 : Int32)) X3 hx hby d25_15 k))) ?_
  obtain ⟨cl5, A5, a5q, a5S, a5N, a5H, a5G⟩ := id V3
  obtain ⟨T5, h5, X5, e5, W5, st5⟩ := stC X3 hx hZ e3 A5 (j := (1 : Int32)) (inb_of a5S ⟨by decide, by decide⟩) (g := (mkF m 17 #[iv ((1 : Int32))] [(.int (112 : Int32)), (.int (1 : Int32)), (.ref b1), (.ref b1)])) rfl rfl (hb hby d25_17)
  have V5 : Arv Z h5 b1 k1 .char (11 : Int32) [(.int (nar .char (97 : Int32))), (.int (nar .char (112 : Int32))), (.int (0 : Int32)), (.int (0 : Int32)), (.int (0 : Int32)), (.int (0 : Int32)), (.int (0 : Int32)), (.int (0 : Int32)), (.int (0 : Int32)), (.int (0 : Int32)), (.int (0 : Int32))] (.int (0 : Int32)) := Arv.set A5 a5q a5S a5N a5H a5G (fits_nar_char _) W5 1 rfl (nb rfl)
  have N5 := Fr.snoc X5 N3 g_b1
  have Z6 := nt Z4 (Keep.of_wr W5).1
  have O6 := O4.wr W5 g_b1
  have K6 := K4.wr W5 (Or.inr sz_b1)
  refine gs (S' := T5.setTop (mkF m 18 #[iv ((1 : Int32))] [(.ref b1)])) st5 ?_
  refine gs (fun _ k => o_dup X5 hx hby d25_18 rfl (o_iconst (v := (2 : Int32)) X5 hx hby d25_19 (o_bipush (v := (112 : Int32)) X5 hx hby d25_20 k))) ?_
  obtain ⟨cl7, A7, a7q, a7S, a7N, a7H, a7G⟩ := id V5
  obtain ⟨T7, h7, X7, e7, W7, st7⟩ := stC X5 hx hZ e5 A7 (j := (2 : Int32)) (inb_of a7S ⟨by decide, by decide⟩) (g := (mkF m 22 #[iv ((1 : Int32))] [(.int (112 : Int32)), (.int (2 : Int32)), (.ref b1), (.ref b1)])) rfl rfl (hb hby d25_22)
  have V7 : Arv Z h7 b1 k1 .char (11 : Int32) [(.int (nar .char (97 : Int32))), (.int (nar .char (112 : Int32))), (.int (nar .char (112 : Int32))), (.int (0 : Int32)), (.int (0 : Int32)), (.int (0 : Int32)), (.int (0 : Int32)), (.int (0 : Int32)), (.int (0 : Int32)), (.int (0 : Int32)), (.int (0 : Int32))] (.int (0 : Int32)) := Arv.set A7 a7q a7S a7N a7H a7G (fits_nar_char _) W7 2 rfl (nb rfl)
  have N7 := Fr.snoc X7 N5 g_b1
  have Z8 := nt Z6 (Keep.of_wr W7).1
  have O8 := O6.wr W7 g_b1
  have K8 := K6.wr W7 (Or.inr sz_b1)
  refine gs (S' := T7.setTop (mkF m 23 #[iv ((1 : Int32))] [(.ref b1)])) st7 ?_
  refine gs (fun _ k => o_dup X7 hx hby d25_23 rfl (o_iconst (v := (3 : Int32)) X7 hx hby d25_24 (o_bipush (v := (108 : Int32)) X7 hx hby d25_25 k))) ?_
  obtain ⟨cl9, A9, a9q, a9S, a9N, a9H, a9G⟩ := id V7
  obtain ⟨T9, h9, X9, e9, W9, st9⟩ := stC X7 hx hZ e7 A9 (j := (3 : Int32)) (inb_of a9S ⟨by decide, by decide⟩) (g := (mkF m 27 #[iv ((1 : Int32))] [(.int (108 : Int32)), (.int (3 : Int32)), (.ref b1), (.ref b1)])) rfl rfl (hb hby d25_27)
  have V9 : Arv Z h9 b1 k1 .char (11 : Int32) [(.int (nar .char (97 : Int32))), (.int (nar .char (112 : Int32))), (.int (nar .char (112 : Int32))), (.int (nar .char (108 : Int32))), (.int (0 : Int32)), (.int (0 : Int32)), (.int (0 : Int32)), (.int (0 : Int32)), (.int (0 : Int32)), (.int (0 : Int32)), (.int (0 : Int32))] (.int (0 : Int32)) := Arv.set A9 a9q a9S a9N a9H a9G (fits_nar_char _) W9 3 rfl (nb rfl)
  have N9 := Fr.snoc X9 N7 g_b1
  have Z10 := nt Z8 (Keep.of_wr W9).1
  have O10 := O8.wr W9 g_b1
  have K10 := K8.wr W9 (Or.inr sz_b1)
  refine gs (S' := T9.setTop (mkF m 28 #[iv ((1 : Int32))] [(.ref b1)])) st9 ?_
  refine gs (fun _ k => o_dup X9 hx hby d25_28 rfl (o_iconst (v := (4 : Int32)) X9 hx hby d25_29 (o_bipush (v := (105 : Int32)) X9 hx hby d25_30 k))) ?_
  obtain ⟨cl11, A11, a11q, a11S, a11N, a11H, a11G⟩ := id V9
  obtain ⟨T11, h11, X11, e11, W11, st11⟩ := stC X9 hx hZ e9 A11 (j := (4 : Int32)) (inb_of a11S ⟨by decide, by decide⟩) (g := (mkF m 32 #[iv ((1 : Int32))] [(.int (105 : Int32)), (.int (4 : Int32)), (.ref b1), (.ref b1)])) rfl rfl (hb hby d25_32)
  have V11 : Arv Z h11 b1 k1 .char (11 : Int32) [(.int (nar .char (97 : Int32))), (.int (nar .char (112 : Int32))), (.int (nar .char (112 : Int32))), (.int (nar .char (108 : Int32))), (.int (nar .char (105 : Int32))), (.int (0 : Int32)), (.int (0 : Int32)), (.int (0 : Int32)), (.int (0 : Int32)), (.int (0 : Int32)), (.int (0 : Int32))] (.int (0 : Int32)) := Arv.set A11 a11q a11S a11N a11H a11G (fits_nar_char _) W11 4 rfl (nb rfl)
  have N11 := Fr.snoc X11 N9 g_b1
  have Z12 := nt Z10 (Keep.of_wr W11).1
  have O12 := O10.wr W11 g_b1
  have K12 := K10.wr W11 (Or.inr sz_b1)
  refine gs (S' := T11.setTop (mkF m 33 #[iv ((1 : Int32))] [(.ref b1)])) st11 ?_
  refine gs (fun _ k => o_dup X11 hx hby d25_33 rfl (o_iconst (v := (5 : Int32)) X11 hx hby d25_34 (o_bipush (v := (99 : Int32)) X11 hx hby d25_35 k))) ?_
  obtain ⟨cl13, A13, a13q, a13S, a13N, a13H, a13G⟩ := id V11
  obtain ⟨T13, h13, X13, e13, W13, st13⟩ := stC X11 hx hZ e11 A13 (j := (5 : Int32)) (inb_of a13S ⟨by decide, by decide⟩) (g := (mkF m 37 #[iv ((1 : Int32))] [(.int (99 : Int32)), (.int (5 : Int32)), (.ref b1), (.ref b1)])) rfl rfl (hb hby d25_37)
  have V13 : Arv Z h13 b1 k1 .char (11 : Int32) [(.int (nar .char (97 : Int32))), (.int (nar .char (112 : Int32))), (.int (nar .char (112 : Int32))), (.int (nar .char (108 : Int32))), (.int (nar .char (105 : Int32))), (.int (nar .char (99 : Int32))), (.int (0 : Int32)), (.int (0 : Int32)), (.int (0 : Int32)), (.int (0 : Int32)), (.int (0 : Int32))] (.int (0 : Int32)) := Arv.set A13 a13q a13S a13N a13H a13G (fits_nar_char _) W13 5 rfl (nb rfl)
  have N13 := Fr.snoc X13 N11 g_b1
  have Z14 := nt Z12 (Keep.of_wr W13).1
  have O14 := O12.wr W13 g_b1
  have K14 := K12.wr W13 (Or.inr sz_b1)
  refine gs (S' := T13.setTop (mkF m 38 #[iv ((1 : Int32))] [(.ref b1)])) st13 ?_
  refine gs (fun _ k => o_dup X13 hx hby d25_38 rfl (o_bipush (v := (6 : Int32)) X13 hx hby d25_39 (o_bipush (v := (97 : Int32)) X13 hx hby d25_41 k))) ?_
  obtain ⟨cl15, A15, a15q, a15S, a15N, a15H, a15G⟩ := id V13
  obtain ⟨T15, h15, X15, e15, W15, st15⟩ := stC X13 hx hZ e13 A15 (j := (6 : Int32)) (inb_of a15S ⟨by decide, by decide⟩) (g := (mkF m 43 #[iv ((1 : Int32))] [(.int (97 : Int32)), (.int (6 : Int32)), (.ref b1), (.ref b1)])) rfl rfl (hb hby d25_43)
  have V15 : Arv Z h15 b1 k1 .char (11 : Int32) [(.int (nar .char (97 : Int32))), (.int (nar .char (112 : Int32))), (.int (nar .char (112 : Int32))), (.int (nar .char (108 : Int32))), (.int (nar .char (105 : Int32))), (.int (nar .char (99 : Int32))), (.int (nar .char (97 : Int32))), (.int (0 : Int32)), (.int (0 : Int32)), (.int (0 : Int32)), (.int (0 : Int32))] (.int (0 : Int32)) := Arv.set A15 a15q a15S a15N a15H a15G (fits_nar_char _) W15 6 rfl (nb rfl)
  have N15 := Fr.snoc X15 N13 g_b1
  have Z16 := nt Z14 (Keep.of_wr W15).1
  have O16 := O14.wr W15 g_b1
  have K16 := K14.wr W15 (Or.inr sz_b1)
  refine gs (S' := T15.setTop (mkF m 44 #[iv ((1 : Int32))] [(.ref b1)])) st15 ?_
  refine gs (fun _ k => o_dup X15 hx hby d25_44 rfl (o_bipush (v := (7 : Int32)) X15 hx hby d25_45 (o_bipush (v := (116 : Int32)) X15 hx hby d25_47 k))) ?_
  obtain ⟨cl17, A17, a17q, a17S, a17N, a17H, a17G⟩ := id V15
  obtain ⟨T17, h17, X17, e17, W17, st17⟩ := stC X15 hx hZ e15 A17 (j := (7 : Int32)) (inb_of a17S ⟨by decide, by decide⟩) (g := (mkF m 49 #[iv ((1 : Int32))] [(.int (116 : Int32)), (.int (7 : Int32)), (.ref b1), (.ref b1)])) rfl rfl (hb hby d25_49)
  have V17 : Arv Z h17 b1 k1 .char (11 : Int32) [(.int (nar .char (97 : Int32))), (.int (nar .char (112 : Int32))), (.int (nar .char (112 : Int32))), (.int (nar .char (108 : Int32))), (.int (nar .char (105 : Int32))), (.int (nar .char (99 : Int32))), (.int (nar .char (97 : Int32))), (.int (nar .char (116 : Int32))), (.int (0 : Int32)), (.int (0 : Int32)), (.int (0 : Int32))] (.int (0 : Int32)) := Arv.set A17 a17q a17S a17N a17H a17G (fits_nar_char _) W17 7 rfl (nb rfl)
  have N17 := Fr.snoc X17 N15 g_b1
  have Z18 := nt Z16 (Keep.of_wr W17).1
  have O18 := O16.wr W17 g_b1
  have K18 := K16.wr W17 (Or.inr sz_b1)
  refine gs (S' := T17.setTop (mkF m 50 #[iv ((1 : Int32))] [(.ref b1)])) st17 ?_
  refine gs (fun _ k => o_dup X17 hx hby d25_50 rfl (o_bipush (v := (8 : Int32)) X17 hx hby d25_51 (o_bipush (v := (105 : Int32)) X17 hx hby d25_53 k))) ?_
  obtain ⟨cl19, A19, a19q, a19S, a19N, a19H, a19G⟩ := id V17
  obtain ⟨T19, h19, X19, e19, W19, st19⟩ := stC X17 hx hZ e17 A19 (j := (8 : Int32)) (inb_of a19S ⟨by decide, by decide⟩) (g := (mkF m 55 #[iv ((1 : Int32))] [(.int (105 : Int32)), (.int (8 : Int32)), (.ref b1), (.ref b1)])) rfl rfl (hb hby d25_55)
  have V19 : Arv Z h19 b1 k1 .char (11 : Int32) [(.int (nar .char (97 : Int32))), (.int (nar .char (112 : Int32))), (.int (nar .char (112 : Int32))), (.int (nar .char (108 : Int32))), (.int (nar .char (105 : Int32))), (.int (nar .char (99 : Int32))), (.int (nar .char (97 : Int32))), (.int (nar .char (116 : Int32))), (.int (nar .char (105 : Int32))), (.int (0 : Int32)), (.int (0 : Int32))] (.int (0 : Int32)) := Arv.set A19 a19q a19S a19N a19H a19G (fits_nar_char _) W19 8 rfl (nb rfl)
  have N19 := Fr.snoc X19 N17 g_b1
  have Z20 := nt Z18 (Keep.of_wr W19).1
  have O20 := O18.wr W19 g_b1
  have K20 := K18.wr W19 (Or.inr sz_b1)
  refine gs (S' := T19.setTop (mkF m 56 #[iv ((1 : Int32))] [(.ref b1)])) st19 ?_
  refine gs (fun _ k => o_dup X19 hx hby d25_56 rfl (o_bipush (v := (9 : Int32)) X19 hx hby d25_57 (o_bipush (v := (111 : Int32)) X19 hx hby d25_59 k))) ?_
  obtain ⟨cl21, A21, a21q, a21S, a21N, a21H, a21G⟩ := id V19
  obtain ⟨T21, h21, X21, e21, W21, st21⟩ := stC X19 hx hZ e19 A21 (j := (9 : Int32)) (inb_of a21S ⟨by decide, by decide⟩) (g := (mkF m 61 #[iv ((1 : Int32))] [(.int (111 : Int32)), (.int (9 : Int32)), (.ref b1), (.ref b1)])) rfl rfl (hb hby d25_61)
  have V21 : Arv Z h21 b1 k1 .char (11 : Int32) [(.int (nar .char (97 : Int32))), (.int (nar .char (112 : Int32))), (.int (nar .char (112 : Int32))), (.int (nar .char (108 : Int32))), (.int (nar .char (105 : Int32))), (.int (nar .char (99 : Int32))), (.int (nar .char (97 : Int32))), (.int (nar .char (116 : Int32))), (.int (nar .char (105 : Int32))), (.int (nar .char (111 : Int32))), (.int (0 : Int32))] (.int (0 : Int32)) := Arv.set A21 a21q a21S a21N a21H a21G (fits_nar_char _) W21 9 rfl (nb rfl)
  have N21 := Fr.snoc X21 N19 g_b1
  have Z22 := nt Z20 (Keep.of_wr W21).1
  have O22 := O20.wr W21 g_b1
  have K22 := K20.wr W21 (Or.inr sz_b1)
  refine gs (S' := T21.setTop (mkF m 62 #[iv ((1 : Int32))] [(.ref b1)])) st21 ?_
  refine gs (fun _ k => o_dup X21 hx hby d25_62 rfl (o_bipush (v := (10 : Int32)) X21 hx hby d25_63 (o_bipush (v := (110 : Int32)) X21 hx hby d25_65 k))) ?_
  obtain ⟨cl23, A23, a23q, a23S, a23N, a23H, a23G⟩ := id V21
  obtain ⟨T23, h23, X23, e23, W23, st23⟩ := stC X21 hx hZ e21 A23 (j := (10 : Int32)) (inb_of a23S ⟨by decide, by decide⟩) (g := (mkF m 67 #[iv ((1 : Int32))] [(.int (110 : Int32)), (.int (10 : Int32)), (.ref b1), (.ref b1)])) rfl rfl (hb hby d25_67)
  have V23 : Arv Z h23 b1 k1 .char (11 : Int32) [(.int (nar .char (97 : Int32))), (.int (nar .char (112 : Int32))), (.int (nar .char (112 : Int32))), (.int (nar .char (108 : Int32))), (.int (nar .char (105 : Int32))), (.int (nar .char (99 : Int32))), (.int (nar .char (97 : Int32))), (.int (nar .char (116 : Int32))), (.int (nar .char (105 : Int32))), (.int (nar .char (111 : Int32))), (.int (nar .char (110 : Int32)))] (.int (0 : Int32)) := Arv.set A23 a23q a23S a23N a23H a23G (fits_nar_char _) W23 10 rfl (nb rfl)
  have N23 := Fr.snoc X23 N21 g_b1
  have Z24 := nt Z22 (Keep.of_wr W23).1
  have O24 := O22.wr W23 g_b1
  have K24 := K22.wr W23 (Or.inr sz_b1)
  refine gs (S' := T23.setTop (mkF m 68 #[iv ((1 : Int32))] [(.ref b1)])) st23 ?_
  have Vn := V23
  simp only [own_nc_97, own_nc_99, own_nc_105, own_nc_108, own_nc_110, own_nc_111, own_nc_112, own_nc_116] at Vn
  refine gout (v := some (.ref b1)) X23 Bd.notSynchronized (fun h => by rw [Bd.returns] at h; cases h) (by decide) (by decide) ?_ (fun fs hr => retOut X23 hx Bd.returns rfl (Or.inr (Or.inr (Or.inr (Or.inr ⟨rfl, rfl, rfl⟩)))) (hb hby d25_68) hr)
  rw [e23]
  exact ⟨_, _, rfl, N23, K24, sz_b1, Vn⟩
theorem ef_396 (m : MethodId) (x0 : Int32) : entryFrame m #[(.int x0)] 1 = mkF m 0 #[.val (.int x0)] [] := by first | (simp [entryFrame, mkF, argsToLocals, Value.category]; done) | rfl
theorem d25_69 : decode method_4_code 69 = .ok (.bipush 12, 2) := by decide +kernel
theorem d25_71 : decode method_4_code 71 = .ok (.newarray .char, 2) := by decide +kernel
theorem d25_73 : decode method_4_code 73 = .ok (.dup, 1) := by decide +kernel
theorem d25_74 : decode method_4_code 74 = .ok (.iconst 0, 1) := by decide +kernel
theorem d25_75 : decode method_4_code 75 = .ok (.bipush 118, 2) := by decide +kernel
theorem d25_77 : decode method_4_code 77 = .ok (.castore, 1) := by decide +kernel
theorem d25_78 : decode method_4_code 78 = .ok (.dup, 1) := by decide +kernel
theorem d25_79 : decode method_4_code 79 = .ok (.iconst 1, 1) := by decide +kernel
theorem d25_80 : decode method_4_code 80 = .ok (.bipush 110, 2) := by decide +kernel
theorem d25_82 : decode method_4_code 82 = .ok (.castore, 1) := by decide +kernel
theorem d25_83 : decode method_4_code 83 = .ok (.dup, 1) := by decide +kernel
theorem d25_84 : decode method_4_code 84 = .ok (.iconst 2, 1) := by decide +kernel
theorem d25_85 : decode method_4_code 85 = .ok (.bipush 100, 2) := by decide +kernel
theorem d25_87 : decode method_4_code 87 = .ok (.castore, 1) := by decide +kernel
theorem d25_88 : decode method_4_code 88 = .ok (.dup, 1) := by decide +kernel
theorem d25_89 : decode method_4_code 89 = .ok (.iconst 3, 1) := by decide +kernel
theorem d25_90 : decode method_4_code 90 = .ok (.bipush 46, 2) := by decide +kernel
theorem d25_92 : decode method_4_code 92 = .ok (.castore, 1) := by decide +kernel
theorem d25_93 : decode method_4_code 93 = .ok (.dup, 1) := by decide +kernel
theorem d25_94 : decode method_4_code 94 = .ok (.iconst 4, 1) := by decide +kernel
theorem d25_95 : decode method_4_code 95 = .ok (.bipush 97, 2) := by decide +kernel
theorem d25_97 : decode method_4_code 97 = .ok (.castore, 1) := by decide +kernel
theorem d25_98 : decode method_4_code 98 = .ok (.dup, 1) := by decide +kernel
theorem d25_99 : decode method_4_code 99 = .ok (.iconst 5, 1) := by decide +kernel
theorem d25_100 : decode method_4_code 100 = .ok (.bipush 112, 2) := by decide +kernel
theorem d25_102 : decode method_4_code 102 = .ok (.castore, 1) := by decide +kernel
theorem d25_103 : decode method_4_code 103 = .ok (.dup, 1) := by decide +kernel
theorem d25_104 : decode method_4_code 104 = .ok (.bipush 6, 2) := by decide +kernel
theorem d25_106 : decode method_4_code 106 = .ok (.bipush 105, 2) := by decide +kernel
theorem d25_108 : decode method_4_code 108 = .ok (.castore, 1) := by decide +kernel
theorem d25_109 : decode method_4_code 109 = .ok (.dup, 1) := by decide +kernel
theorem d25_110 : decode method_4_code 110 = .ok (.bipush 7, 2) := by decide +kernel
theorem d25_112 : decode method_4_code 112 = .ok (.bipush 43, 2) := by decide +kernel
theorem d25_114 : decode method_4_code 114 = .ok (.castore, 1) := by decide +kernel
theorem d25_115 : decode method_4_code 115 = .ok (.dup, 1) := by decide +kernel
theorem d25_116 : decode method_4_code 116 = .ok (.bipush 8, 2) := by decide +kernel
theorem d25_118 : decode method_4_code 118 = .ok (.bipush 106, 2) := by decide +kernel
theorem d25_120 : decode method_4_code 120 = .ok (.castore, 1) := by decide +kernel
theorem d25_121 : decode method_4_code 121 = .ok (.dup, 1) := by decide +kernel
theorem d25_122 : decode method_4_code 122 = .ok (.bipush 9, 2) := by decide +kernel
theorem d25_124 : decode method_4_code 124 = .ok (.bipush 115, 2) := by decide +kernel
theorem d25_126 : decode method_4_code 126 = .ok (.castore, 1) := by decide +kernel
theorem d25_127 : decode method_4_code 127 = .ok (.dup, 1) := by decide +kernel
theorem d25_128 : decode method_4_code 128 = .ok (.bipush 10, 2) := by decide +kernel
theorem d25_130 : decode method_4_code 130 = .ok (.bipush 111, 2) := by decide +kernel
theorem d25_132 : decode method_4_code 132 = .ok (.castore, 1) := by decide +kernel
theorem d25_133 : decode method_4_code 133 = .ok (.dup, 1) := by decide +kernel
theorem d25_134 : decode method_4_code 134 = .ok (.bipush 11, 2) := by decide +kernel
theorem d25_136 : decode method_4_code 136 = .ok (.bipush 110, 2) := by decide +kernel
theorem d25_138 : decode method_4_code 138 = .ok (.castore, 1) := by decide +kernel
theorem d25_139 : decode method_4_code 139 = .ok (.areturn, 1) := by decide +kernel
set_option maxRecDepth 65536 in
set_option maxHeartbeats 40000000 in
theorem rm_full0 (l : Launch) (Z : State) (a0 : Array Value) (hw : HW Z a0) (ws : List Jvm.Cond)  (h0 : Heap) (n0 : Nat) (Z0 : n0 ≤ h0.size) (O0 : Old Z n0 h0)  :
    Ctr l Z my10 method_4_code 1 ((Option.some (Jvm.ClassFile.FieldType.array Jvm.ClassFile.FieldType.char))) ws (⟨0, 1, 12, 0⟩ : Room) #[(.int (0 : Int32))] h0 (fun v h L => ∃ (b : Addr) (kb : ClassId), v = some (.ref b) ∧ Fr n0 L ∧ Keep h0 h [] ∧ h0.size ≤ b ∧ Arv Z h b kb .char (12 : Int32) (own_F0.map Value.int) (.int (0 : Int32))) := by
  refine Ctr.go (plainFor_of_name pn_345) fun p e s m below meth c s₁ Bd hx hby hml hZ hown hnm X0 e0 => ?_
  have N0 := Fr.nil n0
  have K0 := Keep.refl h0 []
  refine gs (S' := s₁.setTop (mkF m 0 #[iv ((0 : Int32))] [])) (fun tg kg => castTop (ef_396 m (0 : Int32)) kg) ?_
  refine gs (fun _ k => o_iloadN X0 hx hby d25_0 rfl (o_ifYes (pc' := 69) X0 hx hby d25_1 ((if0 _ _).trans (teq (by decide : (0 : Int32) = (0 : Int32))).1) (o_bipush (v := (12 : Int32)) X0 hx hby d25_69 k))) ?_
  obtain ⟨T1, h1, k1, X1, e1, E1, A1, st1⟩ := newP X0 hx hZ (ow hw 13 rfl) e0 (g := (mkF m 71 #[iv ((0 : Int32))] [(.int (12 : Int32))])) rfl (hb hby d25_71) rfl (by decide) (cap := 12) (by decide) (by decide) (by decide) (by decide)
  obtain ⟨b1, q1⟩ : ∃ z, z = h0.size := ⟨_, rfl⟩
  rw [← q1] at A1 st1
  have g_b1 : n0 ≤ b1 := nt Z0 (Nat.le_of_eq q1.symm)
  have sz_b1 : h0.size ≤ b1 := nt K0.1 (Nat.le_of_eq q1.symm)
  have Z2 := nt Z0 E1.1
  have O2 := O0.ext E1
  have K2 := K0.ext E1
  have V1 : Arv Z h1 b1 k1 .char (12 : Int32) [(.int (0 : Int32)), (.int (0 : Int32)), (.int (0 : Int32)), (.int (0 : Int32)), (.int (0 : Int32)), (.int (0 : Int32)), (.int (0 : Int32)), (.int (0 : Int32)), (.int (0 : Int32)), (.int (0 : Int32)), (.int (0 : Int32)), (.int (0 : Int32))] (.int (0 : Int32)) := (Arv.new A1 (by decide)).pad (pad_rep [] (.int (0 : Int32)) 12)
  refine gs (S' := T1.setTop (mkF m 73 #[iv ((0 : Int32))] [(.ref b1)])) st1 ?_
  refine gs (fun _ k => o_dup X1 hx hby d25_73 rfl (o_iconst (v := (0 : Int32)) X1 hx hby d25_74 (o_bipush (v := (118 : Int32)) X1 hx hby d25_75 k))) ?_
  obtain ⟨cl3, A3, a3q, a3S, a3N, a3H, a3G⟩ := id V1
  obtain ⟨T3, h3, X3, e3, W3, st3⟩ := stC X1 hx hZ e1 A3 (j := (0 : Int32)) (inb_of a3S ⟨by decide, by decide⟩) (g := (mkF m 77 #[iv ((0 : Int32))] [(.int (118 : Int32)), (.int (0 : Int32)), (.ref b1), (.ref b1)])) rfl rfl (hb hby d25_77)
  have V3 : Arv Z h3 b1 k1 .char (12 : Int32) [(.int (nar .char (118 : Int32))), (.int (0 : Int32)), (.int (0 : Int32)), (.int (0 : Int32)), (.int (0 : Int32)), (.int (0 : Int32)), (.int (0 : Int32)), (.int (0 : Int32)), (.int (0 : Int32)), (.int (0 : Int32)), (.int (0 : Int32)), (.int (0 : Int32))] (.int (0 : Int32)) := Arv.set A3 a3q a3S a3N a3H a3G (fits_nar_char _) W3 0 rfl (nb rfl)
  have N3 := Fr.snoc X3 N0 g_b1
  have Z4 := nt Z2 (Keep.of_wr W3).1
  have O4 := O2.wr W3 g_b1
  have K4 := K2.wr W3 (Or.inr sz_b1)
  refine gs (S' := T3.setTop (mkF m 78 #[iv ((0 : Int32))] [(.ref b1)])) st3 ?_
  refine gs (fun _ k => o_dup X3 hx hby d25_78 rfl (o_iconst (v := (1 : Int32)) X3 hx hby d25_79 (o_bipush (v := (110 : Int32)) X3 hx hby d25_80 k))) ?_
  obtain ⟨cl5, A5, a5q, a5S, a5N, a5H, a5G⟩ := id V3
  obtain ⟨T5, h5, X5, e5, W5, st5⟩ := stC X3 hx hZ e3 A5 (j := (1 : Int32)) (inb_of a5S ⟨by decide, by decide⟩) (g := (mkF m 82 #[iv ((0 : Int32))] [(.int (110 : Int32)), (.int (1 : Int32)), (.ref b1), (.ref b1)])) rfl rfl (hb hby d25_82)
  have V5 : Arv Z h5 b1 k1 .char (12 : Int32) [(.int (nar .char (118 : Int32))), (.int (nar .char (110 : Int32))), (.int (0 : Int32)), (.int (0 : Int32)), (.int (0 : Int32)), (.int (0 : Int32)), (.int (0 : Int32)), (.int (0 : Int32)), (.int (0 : Int32)), (.int (0 : Int32)), (.int (0 : Int32)), (.int (0 : Int32))] (.int (0 : Int32)) := Arv.set A5 a5q a5S a5N a5H a5G (fits_nar_char _) W5 1 rfl (nb rfl)
  have N5 := Fr.snoc X5 N3 g_b1
  have Z6 := nt Z4 (Keep.of_wr W5).1
  have O6 := O4.wr W5 g_b1
  have K6 := K4.wr W5 (Or.inr sz_b1)
  refine gs (S' := T5.setTop (mkF m 83 #[iv ((0 : Int32))] [(.ref b1)])) st5 ?_
  refine gs (fun _ k => o_dup X5 hx hby d25_83 rfl (o_iconst (v := (2 : Int32)) X5 hx hby d25_84 (o_bipush (v := (100 : Int32)) X5 hx hby d25_85 k))) ?_
  obtain ⟨cl7, A7, a7q, a7S, a7N, a7H, a7G⟩ := id V5
  obtain ⟨T7, h7, X7, e7, W7, st7⟩ := stC X5 hx hZ e5 A7 (j := (2 : Int32)) (inb_of a7S ⟨by decide, by decide⟩) (g := (mkF m 87 #[iv ((0 : Int32))] [(.int (100 : Int32)), (.int (2 : Int32)), (.ref b1), (.ref b1)])) rfl rfl (hb hby d25_87)
  have V7 : Arv Z h7 b1 k1 .char (12 : Int32) [(.int (nar .char (118 : Int32))), (.int (nar .char (110 : Int32))), (.int (nar .char (100 : Int32))), (.int (0 : Int32)), (.int (0 : Int32)), (.int (0 : Int32)), (.int (0 : Int32)), (.int (0 : Int32)), (.int (0 : Int32)), (.int (0 : Int32)), (.int (0 : Int32)), (.int (0 : Int32))] (.int (0 : Int32)) := Arv.set A7 a7q a7S a7N a7H a7G (fits_nar_char _) W7 2 rfl (nb rfl)
  have N7 := Fr.snoc X7 N5 g_b1
  have Z8 := nt Z6 (Keep.of_wr W7).1
  have O8 := O6.wr W7 g_b1
  have K8 := K6.wr W7 (Or.inr sz_b1)
  refine gs (S' := T7.setTop (mkF m 88 #[iv ((0 : Int32))] [(.ref b1)])) st7 ?_
  refine gs (fun _ k => o_dup X7 hx hby d25_88 rfl (o_iconst (v := (3 : Int32)) X7 hx hby d25_89 (o_bipush (v := (46 : Int32)) X7 hx hby d25_90 k))) ?_
  obtain ⟨cl9, A9, a9q, a9S, a9N, a9H, a9G⟩ := id V7
  obtain ⟨T9, h9, X9, e9, W9, st9⟩ := stC X7 hx hZ e7 A9 (j := (3 : Int32)) (inb_of a9S ⟨by decide, by decide⟩) (g := (mkF m 92 #[iv ((0 : Int32))] [(.int (46 : Int32)), (.int (3 : Int32)), (.ref b1), (.ref b1)])) rfl rfl (hb hby d25_92)
  have V9 : Arv Z h9 b1 k1 .char (12 : Int32) [(.int (nar .char (118 : Int32))), (.int (nar .char (110 : Int32))), (.int (nar .char (100 : Int32))), (.int (nar .char (46 : Int32))), (.int (0 : Int32)), (.int (0 : Int32)), (.int (0 : Int32)), (.int (0 : Int32)), (.int (0 : Int32)), (.int (0 : Int32)), (.int (0 : Int32)), (.int (0 : Int32))] (.int (0 : Int32)) := Arv.set A9 a9q a9S a9N a9H a9G (fits_nar_char _) W9 3 rfl (nb rfl)
  have N9 := Fr.snoc X9 N7 g_b1
  have Z10 := nt Z8 (Keep.of_wr W9).1
  have O10 := O8.wr W9 g_b1
  have K10 := K8.wr W9 (Or.inr sz_b1)
  refine gs (S' := T9.setTop (mkF m 93 #[iv ((0 : Int32))] [(.ref b1)])) st9 ?_
  refine gs (fun _ k => o_dup X9 hx hby d25_93 rfl (o_iconst (v := (4 : Int32)) X9 hx hby d25_94 (o_bipush (v := (97 : Int32)) X9 hx hby d25_95 k))) ?_
  obtain ⟨cl11, A11, a11q, a11S, a11N, a11H, a11G⟩ := id V9
  obtain ⟨T11, h11, X11, e11, W11, st11⟩ := stC X9 hx hZ e9 A11 (j := (4 : Int32)) (inb_of a11S ⟨by decide, by decide⟩) (g := (mkF m 97 #[iv ((0 : Int32))] [(.int (97 : Int32)), (.int (4 : Int32)), (.ref b1), (.ref b1)])) rfl rfl (hb hby d25_97)
  have V11 : Arv Z h11 b1 k1 .char (12 : Int32) [(.int (nar .char (118 : Int32))), (.int (nar .char (110 : Int32))), (.int (nar .char (100 : Int32))), (.int (nar .char (46 : Int32))), (.int (nar .char (97 : Int32))), (.int (0 : Int32)), (.int (0 : Int32)), (.int (0 : Int32)), (.int (0 : Int32)), (.int (0 : Int32)), (.int (0 : Int32)), (.int (0 : Int32))] (.int (0 : Int32)) := Arv.set A11 a11q a11S a11N a11H a11G (fits_nar_char _) W11 4 rfl (nb rfl)
  have N11 := Fr.snoc X11 N9 g_b1
  have Z12 := nt Z10 (Keep.of_wr W11).1
  have O12 := O10.wr W11 g_b1
  have K12 := K10.wr W11 (Or.inr sz_b1)
  refine gs (S' := T11.setTop (mkF m 98 #[iv ((0 : Int32))] [(.ref b1)])) st11 ?_
  refine gs (fun _ k => o_dup X11 hx hby d25_98 rfl (o_iconst (v := (5 : Int32)) X11 hx hby d25_99 (o_bipush (v := (112 : Int32)) X11 hx hby d25_100 k))) ?_
  obtain ⟨cl13, A13, a13q, a13S, a13N, a13H, a13G⟩ := id V11
  obtain ⟨T13, h13, X13, e13, W13, st13⟩ := stC X11 hx hZ e11 A13 (j := (5 : Int32)) (inb_of a13S ⟨by decide, by decide⟩) (g := (mkF m 102 #[iv ((0 : Int32))] [(.int (112 : Int32)), (.int (5 : Int32)), (.ref b1), (.ref b1)])) rfl rfl (hb hby d25_102)
  have V13 : Arv Z h13 b1 k1 .char (12 : Int32) [(.int (nar .char (118 : Int32))), (.int (nar .char (110 : Int32))), (.int (nar .char (100 : Int32))), (.int (nar .char (46 : Int32))), (.int (nar .char (97 : Int32))), (.int (nar .char (112 : Int32))), (.int (0 : Int32)), (.int (0 : Int32)), (.int (0 : Int32)), (.int (0 : Int32)), (.int (0 : Int32)), (.int (0 : Int32))] (.int (0 : Int32)) := Arv.set A13 a13q a13S a13N a13H a13G (fits_nar_char _) W13 5 rfl (nb rfl)
  have N13 := Fr.snoc X13 N11 g_b1
  have Z14 := nt Z12 (Keep.of_wr W13).1
  have O14 := O12.wr W13 g_b1
  have K14 := K12.wr W13 (Or.inr sz_b1)
  refine gs (S' := T13.setTop (mkF m 103 #[iv ((0 : Int32))] [(.ref b1)])) st13 ?_
  refine gs (fun _ k => o_dup X13 hx hby d25_103 rfl (o_bipush (v := (6 : Int32)) X13 hx hby d25_104 (o_bipush (v := (105 : Int32)) X13 hx hby d25_106 k))) ?_
  obtain ⟨cl15, A15, a15q, a15S, a15N, a15H, a15G⟩ := id V13
  obtain ⟨T15, h15, X15, e15, W15, st15⟩ := stC X13 hx hZ e13 A15 (j := (6 : Int32)) (inb_of a15S ⟨by decide, by decide⟩) (g := (mkF m 108 #[iv ((0 : Int32))] [(.int (105 : Int32)), (.int (6 : Int32)), (.ref b1), (.ref b1)])) rfl rfl (hb hby d25_108)
  have V15 : Arv Z h15 b1 k1 .char (12 : Int32) [(.int (nar .char (118 : Int32))), (.int (nar .char (110 : Int32))), (.int (nar .char (100 : Int32))), (.int (nar .char (46 : Int32))), (.int (nar .char (97 : Int32))), (.int (nar .char (112 : Int32))), (.int (nar .char (105 : Int32))), (.int (0 : Int32)), (.int (0 : Int32)), (.int (0 : Int32)), (.int (0 : Int32)), (.int (0 : Int32))] (.int (0 : Int32)) := Arv.set A15 a15q a15S a15N a15H a15G (fits_nar_char _) W15 6 rfl (nb rfl)
  have N15 := Fr.snoc X15 N13 g_b1
  have Z16 := nt Z14 (Keep.of_wr W15).1
  have O16 := O14.wr W15 g_b1
  have K16 := K14.wr W15 (Or.inr sz_b1)
  refine gs (S' := T15.setTop (mkF m 109 #[iv ((0 : Int32))] [(.ref b1)])) st15 ?_
  refine gs (fun _ k => o_dup X15 hx hby d25_109 rfl (o_bipush (v := (7 : Int32)) X15 hx hby d25_110 (o_bipush (v := (43 : Int32)) X15 hx hby d25_112 k))) ?_
  obtain ⟨cl17, A17, a17q, a17S, a17N, a17H, a17G⟩ := id V15
  obtain ⟨T17, h17, X17, e17, W17, st17⟩ := stC X15 hx hZ e15 A17 (j := (7 : Int32)) (inb_of a17S ⟨by decide, by decide⟩) (g := (mkF m 114 #[iv ((0 : Int32))] [(.int (43 : Int32)), (.int (7 : Int32)), (.ref b1), (.ref b1)])) rfl rfl (hb hby d25_114)
  have V17 : Arv Z h17 b1 k1 .char (12 : Int32) [(.int (nar .char (118 : Int32))), (.int (nar .char (110 : Int32))), (.int (nar .char (100 : Int32))), (.int (nar .char (46 : Int32))), (.int (nar .char (97 : Int32))), (.int (nar .char (112 : Int32))), (.int (nar .char (105 : Int32))), (.int (nar .char (43 : Int32))), (.int (0 : Int32)), (.int (0 : Int32)), (.int (0 : Int32)), (.int (0 : Int32))] (.int (0 : Int32)) := Arv.set A17 a17q a17S a17N a17H a17G (fits_nar_char _) W17 7 rfl (nb rfl)
  have N17 := Fr.snoc X17 N15 g_b1
  have Z18 := nt Z16 (Keep.of_wr W17).1
  have O18 := O16.wr W17 g_b1
  have K18 := K16.wr W17 (Or.inr sz_b1)
  refine gs (S' := T17.setTop (mkF m 115 #[iv ((0 : Int32))] [(.ref b1)])) st17 ?_
  refine gs (fun _ k => o_dup X17 hx hby d25_115 rfl (o_bipush (v := (8 : Int32)) X17 hx hby d25_116 (o_bipush (v := (106 : Int32)) X17 hx hby d25_118 k))) ?_
  obtain ⟨cl19, A19, a19q, a19S, a19N, a19H, a19G⟩ := id V17
  obtain ⟨T19, h19, X19, e19, W19, st19⟩ := stC X17 hx hZ e17 A19 (j := (8 : Int32)) (inb_of a19S ⟨by decide, by decide⟩) (g := (mkF m 120 #[iv ((0 : Int32))] [(.int (106 : Int32)), (.int (8 : Int32)), (.ref b1), (.ref b1)])) rfl rfl (hb hby d25_120)
  have V19 : Arv Z h19 b1 k1 .char (12 : Int32) [(.int (nar .char (118 : Int32))), (.int (nar .char (110 : Int32))), (.int (nar .char (100 : Int32))), (.int (nar .char (46 : Int32))), (.int (nar .char (97 : Int32))), (.int (nar .char (112 : Int32))), (.int (nar .char (105 : Int32))), (.int (nar .char (43 : Int32))), (.int (nar .char (106 : Int32))), (.int (0 : Int32)), (.int (0 : Int32)), (.int (0 : Int32))] (.int (0 : Int32)) := Arv.set A19 a19q a19S a19N a19H a19G (fits_nar_char _) W19 8 rfl (nb rfl)
  have N19 := Fr.snoc X19 N17 g_b1
  have Z20 := nt Z18 (Keep.of_wr W19).1
  have O20 := O18.wr W19 g_b1
  have K20 := K18.wr W19 (Or.inr sz_b1)
  refine gs (S' := T19.setTop (mkF m 121 #[iv ((0 : Int32))] [(.ref b1)])) st19 ?_
  refine gs (fun _ k => o_dup X19 hx hby d25_121 rfl (o_bipush (v := (9 : Int32)) X19 hx hby d25_122 (o_bipush (v := (115 : Int32)) X19 hx hby d25_124 k))) ?_
  obtain ⟨cl21, A21, a21q, a21S, a21N, a21H, a21G⟩ := id V19
  obtain ⟨T21, h21, X21, e21, W21, st21⟩ := stC X19 hx hZ e19 A21 (j := (9 : Int32)) (inb_of a21S ⟨by decide, by decide⟩) (g := (mkF m 126 #[iv ((0 : Int32))] [(.int (115 : Int32)), (.int (9 : Int32)), (.ref b1), (.ref b1)])) rfl rfl (hb hby d25_126)
  have V21 : Arv Z h21 b1 k1 .char (12 : Int32) [(.int (nar .char (118 : Int32))), (.int (nar .char (110 : Int32))), (.int (nar .char (100 : Int32))), (.int (nar .char (46 : Int32))), (.int (nar .char (97 : Int32))), (.int (nar .char (112 : Int32))), (.int (nar .char (105 : Int32))), (.int (nar .char (43 : Int32))), (.int (nar .char (106 : Int32))), (.int (nar .char (115 : Int32))), (.int (0 : Int32)), (.int (0 : Int32))] (.int (0 : Int32)) := Arv.set A21 a21q a21S a21N a21H a21G (fits_nar_char _) W21 9 rfl (nb rfl)
  have N21 := Fr.snoc X21 N19 g_b1
  have Z22 := nt Z20 (Keep.of_wr W21).1
  have O22 := O20.wr W21 g_b1
  have K22 := K20.wr W21 (Or.inr sz_b1)
  refine gs (S' := T21.setTop (mkF m 127 #[iv ((0 : Int32))] [(.ref b1)])) st21 ?_
  refine gs (fun _ k => o_dup X21 hx hby d25_127 rfl (o_bipush (v := (10 : Int32)) X21 hx hby d25_128 (o_bipush (v := (111 : Int32)) X21 hx hby d25_130 k))) ?_
  obtain ⟨cl23, A23, a23q, a23S, a23N, a23H, a23G⟩ := id V21
  obtain ⟨T23, h23, X23, e23, W23, st23⟩ := stC X21 hx hZ e21 A23 (j := (10 : Int32)) (inb_of a23S ⟨by decide, by decide⟩) (g := (mkF m 132 #[iv ((0 : Int32))] [(.int (111 : Int32)), (.int (10 : Int32)), (.ref b1), (.ref b1)])) rfl rfl (hb hby d25_132)
  have V23 : Arv Z h23 b1 k1 .char (12 : Int32) [(.int (nar .char (118 : Int32))), (.int (nar .char (110 : Int32))), (.int (nar .char (100 : Int32))), (.int (nar .char (46 : Int32))), (.int (nar .char (97 : Int32))), (.int (nar .char (112 : Int32))), (.int (nar .char (105 : Int32))), (.int (nar .char (43 : Int32))), (.int (nar .char (106 : Int32))), (.int (nar .char (115 : Int32))), (.int (nar .char (111 : Int32))), (.int (0 : Int32))] (.int (0 : Int32)) := Arv.set A23 a23q a23S a23N a23H a23G (fits_nar_char _) W23 10 rfl (nb rfl)
  have N23 := Fr.snoc X23 N21 g_b1
  have Z24 := nt Z22 (Keep.of_wr W23).1
  have O24 := O22.wr W23 g_b1
  have K24 := K22.wr W23 (Or.inr sz_b1)
  refine gs (S' := T23.setTop (mkF m 133 #[iv ((0 : Int32))] [(.ref b1)])) st23 ?_
  refine gs (fun _ k => o_dup X23 hx hby d25_133 rfl (o_bipush (v := (11 : Int32)) X23 hx hby d25_134 (o_bipush (v := (110 : Int32)) X23 hx hby d25_136 k))) ?_
  obtain ⟨cl25, A25, a25q, a25S, a25N, a25H, a25G⟩ := id V23
  obtain ⟨T25, h25, X25, e25, W25, st25⟩ := stC X23 hx hZ e23 A25 (j := (11 : Int32)) (inb_of a25S ⟨by decide, by decide⟩) (g := (mkF m 138 #[iv ((0 : Int32))] [(.int (110 : Int32)), (.int (11 : Int32)), (.ref b1), (.ref b1)])) rfl rfl (hb hby d25_138)
  have V25 : Arv Z h25 b1 k1 .char (12 : Int32) [(.int (nar .char (118 : Int32))), (.int (nar .char (110 : Int32))), (.int (nar .char (100 : Int32))), (.int (nar .char (46 : Int32))), (.int (nar .char (97 : Int32))), (.int (nar .char (112 : Int32))), (.int (nar .char (105 : Int32))), (.int (nar .char (43 : Int32))), (.int (nar .char (106 : Int32))), (.int (nar .char (115 : Int32))), (.int (nar .char (111 : Int32))), (.int (nar .char (110 : Int32)))] (.int (0 : Int32)) := Arv.set A25 a25q a25S a25N a25H a25G (fits_nar_char _) W25 11 rfl (nb rfl)
  have N25 := Fr.snoc X25 N23 g_b1
  have Z26 := nt Z24 (Keep.of_wr W25).1
  have O26 := O24.wr W25 g_b1
  have K26 := K24.wr W25 (Or.inr sz_b1)
  refine gs (S' := T25.setTop (mkF m 139 #[iv ((0 : Int32))] [(.ref b1)])) st25 ?_
  have Vn := V25
  simp only [own_nc_43, own_nc_46, own_nc_97, own_nc_100, own_nc_105, own_nc_106, own_nc_110, own_nc_111, own_nc_112, own_nc_115, own_nc_118] at Vn
  refine gout (v := some (.ref b1)) X25 Bd.notSynchronized (fun h => by rw [Bd.returns] at h; cases h) (by decide) (by decide) ?_ (fun fs hr => retOut X25 hx Bd.returns rfl (Or.inr (Or.inr (Or.inr (Or.inr ⟨rfl, rfl, rfl⟩)))) (hb hby d25_139) hr)
  rw [e25]
  exact ⟨_, _, rfl, N25, K26, sz_b1, Vn⟩
theorem ef_448 (m : MethodId) (x0 : Int32) : entryFrame m #[(.int x0)] 1 = mkF m 0 #[.val (.int x0)] [] := by first | (simp [entryFrame, mkF, argsToLocals, Value.category]; done) | rfl
theorem d26_0 : decode method_5_code 0 = .ok (.iload_n 0, 1) := by decide +kernel
theorem d26_1 : decode method_5_code 1 = .ok (.ifCond .eq 74, 3) := by decide +kernel
theorem d26_4 : decode method_5_code 4 = .ok (.bipush 12, 2) := by decide +kernel
theorem d26_6 : decode method_5_code 6 = .ok (.newarray .char, 2) := by decide +kernel
theorem d26_8 : decode method_5_code 8 = .ok (.dup, 1) := by decide +kernel
theorem d26_9 : decode method_5_code 9 = .ok (.iconst 0, 1) := by decide +kernel
theorem d26_10 : decode method_5_code 10 = .ok (.bipush 97, 2) := by decide +kernel
theorem d26_12 : decode method_5_code 12 = .ok (.castore, 1) := by decide +kernel
theorem d26_13 : decode method_5_code 13 = .ok (.dup, 1) := by decide +kernel
theorem d26_14 : decode method_5_code 14 = .ok (.iconst 1, 1) := by decide +kernel
theorem d26_15 : decode method_5_code 15 = .ok (.bipush 112, 2) := by decide +kernel
theorem d26_17 : decode method_5_code 17 = .ok (.castore, 1) := by decide +kernel
theorem d26_18 : decode method_5_code 18 = .ok (.dup, 1) := by decide +kernel
theorem d26_19 : decode method_5_code 19 = .ok (.iconst 2, 1) := by decide +kernel
theorem d26_20 : decode method_5_code 20 = .ok (.bipush 112, 2) := by decide +kernel
theorem d26_22 : decode method_5_code 22 = .ok (.castore, 1) := by decide +kernel
theorem d26_23 : decode method_5_code 23 = .ok (.dup, 1) := by decide +kernel
theorem d26_24 : decode method_5_code 24 = .ok (.iconst 3, 1) := by decide +kernel
theorem d26_25 : decode method_5_code 25 = .ok (.bipush 108, 2) := by decide +kernel
theorem d26_27 : decode method_5_code 27 = .ok (.castore, 1) := by decide +kernel
theorem d26_28 : decode method_5_code 28 = .ok (.dup, 1) := by decide +kernel
theorem d26_29 : decode method_5_code 29 = .ok (.iconst 4, 1) := by decide +kernel
theorem d26_30 : decode method_5_code 30 = .ok (.bipush 105, 2) := by decide +kernel
theorem d26_32 : decode method_5_code 32 = .ok (.castore, 1) := by decide +kernel
theorem d26_33 : decode method_5_code 33 = .ok (.dup, 1) := by decide +kernel
theorem d26_34 : decode method_5_code 34 = .ok (.iconst 5, 1) := by decide +kernel
theorem d26_35 : decode method_5_code 35 = .ok (.bipush 99, 2) := by decide +kernel
theorem d26_37 : decode method_5_code 37 = .ok (.castore, 1) := by decide +kernel
theorem d26_38 : decode method_5_code 38 = .ok (.dup, 1) := by decide +kernel
theorem d26_39 : decode method_5_code 39 = .ok (.bipush 6, 2) := by decide +kernel
theorem d26_41 : decode method_5_code 41 = .ok (.bipush 97, 2) := by decide +kernel
theorem d26_43 : decode method_5_code 43 = .ok (.castore, 1) := by decide +kernel
theorem d26_44 : decode method_5_code 44 = .ok (.dup, 1) := by decide +kernel
theorem d26_45 : decode method_5_code 45 = .ok (.bipush 7, 2) := by decide +kernel
theorem d26_47 : decode method_5_code 47 = .ok (.bipush 116, 2) := by decide +kernel
theorem d26_49 : decode method_5_code 49 = .ok (.castore, 1) := by decide +kernel
theorem d26_50 : decode method_5_code 50 = .ok (.dup, 1) := by decide +kernel
theorem d26_51 : decode method_5_code 51 = .ok (.bipush 8, 2) := by decide +kernel
theorem d26_53 : decode method_5_code 53 = .ok (.bipush 105, 2) := by decide +kernel
theorem d26_55 : decode method_5_code 55 = .ok (.castore, 1) := by decide +kernel
theorem d26_56 : decode method_5_code 56 = .ok (.dup, 1) := by decide +kernel
theorem d26_57 : decode method_5_code 57 = .ok (.bipush 9, 2) := by decide +kernel
theorem d26_59 : decode method_5_code 59 = .ok (.bipush 111, 2) := by decide +kernel
theorem d26_61 : decode method_5_code 61 = .ok (.castore, 1) := by decide +kernel
theorem d26_62 : decode method_5_code 62 = .ok (.dup, 1) := by decide +kernel
theorem d26_63 : decode method_5_code 63 = .ok (.bipush 10, 2) := by decide +kernel
theorem d26_65 : decode method_5_code 65 = .ok (.bipush 110, 2) := by decide +kernel
theorem d26_67 : decode method_5_code 67 = .ok (.castore, 1) := by decide +kernel
theorem d26_68 : decode method_5_code 68 = .ok (.dup, 1) := by decide +kernel
theorem d26_69 : decode method_5_code 69 = .ok (.bipush 11, 2) := by decide +kernel
theorem d26_71 : decode method_5_code 71 = .ok (.bipush 120, 2) := by decide +kernel
theorem d26_73 : decode method_5_code 73 = .ok (.castore, 1) := by decide +kernel
theorem d26_74 : decode method_5_code 74 = .ok (.areturn, 1) := by decide +kernel
set_option maxRecDepth 65536 in
set_option maxHeartbeats 40000000 in
theorem rm_longer1 (l : Launch) (Z : State) (a0 : Array Value) (hw : HW Z a0) (ws : List Jvm.Cond)  (h0 : Heap) (n0 : Nat) (Z0 : n0 ≤ h0.size) (O0 : Old Z n0 h0)  :
    Ctr l Z my11 method_5_code 1 ((Option.some (Jvm.ClassFile.FieldType.array Jvm.ClassFile.FieldType.char))) ws (⟨0, 1, 12, 0⟩ : Room) #[(.int (1 : Int32))] h0 (fun v h L => ∃ (b : Addr) (kb : ClassId), v = some (.ref b) ∧ Fr n0 L ∧ Keep h0 h [] ∧ h0.size ≤ b ∧ Arv Z h b kb .char (12 : Int32) (own_L1.map Value.int) (.int (0 : Int32))) := by
  refine Ctr.go (plainFor_of_name pn_345) fun p e s m below meth c s₁ Bd hx hby hml hZ hown hnm X0 e0 => ?_
  have N0 := Fr.nil n0
  have K0 := Keep.refl h0 []
  refine gs (S' := s₁.setTop (mkF m 0 #[iv ((1 : Int32))] [])) (fun tg kg => castTop (ef_448 m (1 : Int32)) kg) ?_
  refine gs (fun _ k => o_iloadN X0 hx hby d26_0 rfl (o_ifNo X0 hx hby d26_1 ((if0 _ _).trans (feq (by decide : ¬ ((1 : Int32) = (0 : Int32)))).1) (o_bipush (v := (12 : Int32)) X0 hx hby d26_4 k))) ?_
  obtain ⟨T1, h1, k1, X1, e1, E1, A1, st1⟩ := newP X0 hx hZ (ow hw 13 rfl) e0 (g := (mkF m 6 #[iv ((1 : Int32))] [(.int (12 : Int32))])) rfl (hb hby d26_6) rfl (by decide) (cap := 12) (by decide) (by decide) (by decide) (by decide)
  obtain ⟨b1, q1⟩ : ∃ z, z = h0.size := ⟨_, rfl⟩
  rw [← q1] at A1 st1
  have g_b1 : n0 ≤ b1 := nt Z0 (Nat.le_of_eq q1.symm)
  have sz_b1 : h0.size ≤ b1 := nt K0.1 (Nat.le_of_eq q1.symm)
  have Z2 := nt Z0 E1.1
  have O2 := O0.ext E1
  have K2 := K0.ext E1
  have V1 : Arv Z h1 b1 k1 .char (12 : Int32) [(.int (0 : Int32)), (.int (0 : Int32)), (.int (0 : Int32)), (.int (0 : Int32)), (.int (0 : Int32)), (.int (0 : Int32)), (.int (0 : Int32)), (.int (0 : Int32)), (.int (0 : Int32)), (.int (0 : Int32)), (.int (0 : Int32)), (.int (0 : Int32))] (.int (0 : Int32)) := (Arv.new A1 (by decide)).pad (pad_rep [] (.int (0 : Int32)) 12)
  refine gs (S' := T1.setTop (mkF m 8 #[iv ((1 : Int32))] [(.ref b1)])) st1 ?_
  refine gs (fun _ k => o_dup X1 hx hby d26_8 rfl (o_iconst (v := (0 : Int32)) X1 hx hby d26_9 (o_bipush (v := (97 : Int32)) X1 hx hby d26_10 k))) ?_
  obtain ⟨cl3, A3, a3q, a3S, a3N, a3H, a3G⟩ := id V1
  obtain ⟨T3, h3, X3, e3, W3, st3⟩ := stC X1 hx hZ e1 A3 (j := (0 : Int32)) (inb_of a3S ⟨by decide, by decide⟩) (g := (mkF m 12 #[iv ((1 : Int32))] [(.int (97 : Int32)), (.int (0 : Int32)), (.ref b1), (.ref b1)])) rfl rfl (hb hby d26_12)
  have V3 : Arv Z h3 b1 k1 .char (12 : Int32) [(.int (nar .char (97 : Int32))), (.int (0 : Int32)), (.int (0 : Int32)), (.int (0 : Int32)), (.int (0 : Int32)), (.int (0 : Int32)), (.int (0 : Int32)), (.int (0 : Int32)), (.int (0 : Int32)), (.int (0 : Int32)), (.int (0 : Int32)), (.int (0 : Int32))] (.int (0 : Int32)) := Arv.set A3 a3q a3S a3N a3H a3G (fits_nar_char _) W3 0 rfl (nb rfl)
  have N3 := Fr.snoc X3 N0 g_b1
  have Z4 := nt Z2 (Keep.of_wr W3).1
  have O4 := O2.wr W3 g_b1
  have K4 := K2.wr W3 (Or.inr sz_b1)
  refine gs (S' := T3.setTop (mkF m 13 #[iv ((1 : Int32))] [(.ref b1)])) st3 ?_
  refine gs (fun _ k => o_dup X3 hx hby d26_13 rfl (o_iconst (v := (1 : Int32)) X3 hx hby d26_14 (o_bipush (v := (112 : Int32)) X3 hx hby d26_15 k))) ?_
  obtain ⟨cl5, A5, a5q, a5S, a5N, a5H, a5G⟩ := id V3
  obtain ⟨T5, h5, X5, e5, W5, st5⟩ := stC X3 hx hZ e3 A5 (j := (1 : Int32)) (inb_of a5S ⟨by decide, by decide⟩) (g := (mkF m 17 #[iv ((1 : Int32))] [(.int (112 : Int32)), (.int (1 : Int32)), (.ref b1), (.ref b1)])) rfl rfl (hb hby d26_17)
  have V5 : Arv Z h5 b1 k1 .char (12 : Int32) [(.int (nar .char (97 : Int32))), (.int (nar .char (112 : Int32))), (.int (0 : Int32)), (.int (0 : Int32)), (.int (0 : Int32)), (.int (0 : Int32)), (.int (0 : Int32)), (.int (0 : Int32)), (.int (0 : Int32)), (.int (0 : Int32)), (.int (0 : Int32)), (.int (0 : Int32))] (.int (0 : Int32)) := Arv.set A5 a5q a5S a5N a5H a5G (fits_nar_char _) W5 1 rfl (nb rfl)
  have N5 := Fr.snoc X5 N3 g_b1
  have Z6 := nt Z4 (Keep.of_wr W5).1
  have O6 := O4.wr W5 g_b1
  have K6 := K4.wr W5 (Or.inr sz_b1)
  refine gs (S' := T5.setTop (mkF m 18 #[iv ((1 : Int32))] [(.ref b1)])) st5 ?_
  refine gs (fun _ k => o_dup X5 hx hby d26_18 rfl (o_iconst (v := (2 : Int32)) X5 hx hby d26_19 (o_bipush (v := (112 : Int32)) X5 hx hby d26_20 k))) ?_
  obtain ⟨cl7, A7, a7q, a7S, a7N, a7H, a7G⟩ := id V5
  obtain ⟨T7, h7, X7, e7, W7, st7⟩ := stC X5 hx hZ e5 A7 (j := (2 : Int32)) (inb_of a7S ⟨by decide, by decide⟩) (g := (mkF m 22 #[iv ((1 : Int32))] [(.int (112 : Int32)), (.int (2 : Int32)), (.ref b1), (.ref b1)])) rfl rfl (hb hby d26_22)
  have V7 : Arv Z h7 b1 k1 .char (12 : Int32) [(.int (nar .char (97 : Int32))), (.int (nar .char (112 : Int32))), (.int (nar .char (112 : Int32))), (.int (0 : Int32)), (.int (0 : Int32)), (.int (0 : Int32)), (.int (0 : Int32)), (.int (0 : Int32)), (.int (0 : Int32)), (.int (0 : Int32)), (.int (0 : Int32)), (.int (0 : Int32))] (.int (0 : Int32)) := Arv.set A7 a7q a7S a7N a7H a7G (fits_nar_char _) W7 2 rfl (nb rfl)
  have N7 := Fr.snoc X7 N5 g_b1
  have Z8 := nt Z6 (Keep.of_wr W7).1
  have O8 := O6.wr W7 g_b1
  have K8 := K6.wr W7 (Or.inr sz_b1)
  refine gs (S' := T7.setTop (mkF m 23 #[iv ((1 : Int32))] [(.ref b1)])) st7 ?_
  refine gs (fun _ k => o_dup X7 hx hby d26_23 rfl (o_iconst (v := (3 : Int32)) X7 hx hby d26_24 (o_bipush (v := (108 : Int32)) X7 hx hby d26_25 k))) ?_
  obtain ⟨cl9, A9, a9q, a9S, a9N, a9H, a9G⟩ := id V7
  obtain ⟨T9, h9, X9, e9, W9, st9⟩ := stC X7 hx hZ e7 A9 (j := (3 : Int32)) (inb_of a9S ⟨by decide, by decide⟩) (g := (mkF m 27 #[iv ((1 : Int32))] [(.int (108 : Int32)), (.int (3 : Int32)), (.ref b1), (.ref b1)])) rfl rfl (hb hby d26_27)
  have V9 : Arv Z h9 b1 k1 .char (12 : Int32) [(.int (nar .char (97 : Int32))), (.int (nar .char (112 : Int32))), (.int (nar .char (112 : Int32))), (.int (nar .char (108 : Int32))), (.int (0 : Int32)), (.int (0 : Int32)), (.int (0 : Int32)), (.int (0 : Int32)), (.int (0 : Int32)), (.int (0 : Int32)), (.int (0 : Int32)), (.int (0 : Int32))] (.int (0 : Int32)) := Arv.set A9 a9q a9S a9N a9H a9G (fits_nar_char _) W9 3 rfl (nb rfl)
  have N9 := Fr.snoc X9 N7 g_b1
  have Z10 := nt Z8 (Keep.of_wr W9).1
  have O10 := O8.wr W9 g_b1
  have K10 := K8.wr W9 (Or.inr sz_b1)
  refine gs (S' := T9.setTop (mkF m 28 #[iv ((1 : Int32))] [(.ref b1)])) st9 ?_
  refine gs (fun _ k => o_dup X9 hx hby d26_28 rfl (o_iconst (v := (4 : Int32)) X9 hx hby d26_29 (o_bipush (v := (105 : Int32)) X9 hx hby d26_30 k))) ?_
  obtain ⟨cl11, A11, a11q, a11S, a11N, a11H, a11G⟩ := id V9
  obtain ⟨T11, h11, X11, e11, W11, st11⟩ := stC X9 hx hZ e9 A11 (j := (4 : Int32)) (inb_of a11S ⟨by decide, by decide⟩) (g := (mkF m 32 #[iv ((1 : Int32))] [(.int (105 : Int32)), (.int (4 : Int32)), (.ref b1), (.ref b1)])) rfl rfl (hb hby d26_32)
  have V11 : Arv Z h11 b1 k1 .char (12 : Int32) [(.int (nar .char (97 : Int32))), (.int (nar .char (112 : Int32))), (.int (nar .char (112 : Int32))), (.int (nar .char (108 : Int32))), (.int (nar .char (105 : Int32))), (.int (0 : Int32)), (.int (0 : Int32)), (.int (0 : Int32)), (.int (0 : Int32)), (.int (0 : Int32)), (.int (0 : Int32)), (.int (0 : Int32))] (.int (0 : Int32)) := Arv.set A11 a11q a11S a11N a11H a11G (fits_nar_char _) W11 4 rfl (nb rfl)
  have N11 := Fr.snoc X11 N9 g_b1
  have Z12 := nt Z10 (Keep.of_wr W11).1
  have O12 := O10.wr W11 g_b1
  have K12 := K10.wr W11 (Or.inr sz_b1)
  refine gs (S' := T11.setTop (mkF m 33 #[iv ((1 : Int32))] [(.ref b1)])) st11 ?_
  refine gs (fun _ k => o_dup X11 hx hby d26_33 rfl (o_iconst (v := (5 : Int32)) X11 hx hby d26_34 (o_bipush (v := (99 : Int32)) X11 hx hby d26_35 k))) ?_
  obtain ⟨cl13, A13, a13q, a13S, a13N, a13H, a13G⟩ := id V11
  obtain ⟨T13, h13, X13, e13, W13, st13⟩ := stC X11 hx hZ e11 A13 (j := (5 : Int32)) (inb_of a13S ⟨by decide, by decide⟩) (g := (mkF m 37 #[iv ((1 : Int32))] [(.int (99 : Int32)), (.int (5 : Int32)), (.ref b1), (.ref b1)])) rfl rfl (hb hby d26_37)
  have V13 : Arv Z h13 b1 k1 .char (12 : Int32) [(.int (nar .char (97 : Int32))), (.int (nar .char (112 : Int32))), (.int (nar .char (112 : Int32))), (.int (nar .char (108 : Int32))), (.int (nar .char (105 : Int32))), (.int (nar .char (99 : Int32))), (.int (0 : Int32)), (.int (0 : Int32)), (.int (0 : Int32)), (.int (0 : Int32)), (.int (0 : Int32)), (.int (0 : Int32))] (.int (0 : Int32)) := Arv.set A13 a13q a13S a13N a13H a13G (fits_nar_char _) W13 5 rfl (nb rfl)
  have N13 := Fr.snoc X13 N11 g_b1
  have Z14 := nt Z12 (Keep.of_wr W13).1
  have O14 := O12.wr W13 g_b1
  have K14 := K12.wr W13 (Or.inr sz_b1)
  refine gs (S' := T13.setTop (mkF m 38 #[iv ((1 : Int32))] [(.ref b1)])) st13 ?_
  refine gs (fun _ k => o_dup X13 hx hby d26_38 rfl (o_bipush (v := (6 : Int32)) X13 hx hby d26_39 (o_bipush (v := (97 : Int32)) X13 hx hby d26_41 k))) ?_
  obtain ⟨cl15, A15, a15q, a15S, a15N, a15H, a15G⟩ := id V13
  obtain ⟨T15, h15, X15, e15, W15, st15⟩ := stC X13 hx hZ e13 A15 (j := (6 : Int32)) (inb_of a15S ⟨by decide, by decide⟩) (g := (mkF m 43 #[iv ((1 : Int32))] [(.int (97 : Int32)), (.int (6 : Int32)), (.ref b1), (.ref b1)])) rfl rfl (hb hby d26_43)
  have V15 : Arv Z h15 b1 k1 .char (12 : Int32) [(.int (nar .char (97 : Int32))), (.int (nar .char (112 : Int32))), (.int (nar .char (112 : Int32))), (.int (nar .char (108 : Int32))), (.int (nar .char (105 : Int32))), (.int (nar .char (99 : Int32))), (.int (nar .char (97 : Int32))), (.int (0 : Int32)), (.int (0 : Int32)), (.int (0 : Int32)), (.int (0 : Int32)), (.int (0 : Int32))] (.int (0 : Int32)) := Arv.set A15 a15q a15S a15N a15H a15G (fits_nar_char _) W15 6 rfl (nb rfl)
  have N15 := Fr.snoc X15 N13 g_b1
  have Z16 := nt Z14 (Keep.of_wr W15).1
  have O16 := O14.wr W15 g_b1
  have K16 := K14.wr W15 (Or.inr sz_b1)
  refine gs (S' := T15.setTop (mkF m 44 #[iv ((1 : Int32))] [(.ref b1)])) st15 ?_
  refine gs (fun _ k => o_dup X15 hx hby d26_44 rfl (o_bipush (v := (7 : Int32)) X15 hx hby d26_45 (o_bipush (v := (116 : Int32)) X15 hx hby d26_47 k))) ?_
  obtain ⟨cl17, A17, a17q, a17S, a17N, a17H, a17G⟩ := id V15
  obtain ⟨T17, h17, X17, e17, W17, st17⟩ := stC X15 hx hZ e15 A17 (j := (7 : Int32)) (inb_of a17S ⟨by decide, by decide⟩) (g := (mkF m 49 #[iv ((1 : Int32))] [(.int (116 : Int32)), (.int (7 : Int32)), (.ref b1), (.ref b1)])) rfl rfl (hb hby d26_49)
  have V17 : Arv Z h17 b1 k1 .char (12 : Int32) [(.int (nar .char (97 : Int32))), (.int (nar .char (112 : Int32))), (.int (nar .char (112 : Int32))), (.int (nar .char (108 : Int32))), (.int (nar .char (105 : Int32))), (.int (nar .char (99 : Int32))), (.int (nar .char (97 : Int32))), (.int (nar .char (116 : Int32))), (.int (0 : Int32)), (.int (0 : Int32)), (.int (0 : Int32)), (.int (0 : Int32))] (.int (0 : Int32)) := Arv.set A17 a17q a17S a17N a17H a17G (fits_nar_char _) W17 7 rfl (nb rfl)
  have N17 := Fr.snoc X17 N15 g_b1
  have Z18 := nt Z16 (Keep.of_wr W17).1
  have O18 := O16.wr W17 g_b1
  have K18 := K16.wr W17 (Or.inr sz_b1)
  refine gs (S' := T17.setTop (mkF m 50 #[iv ((1 : Int32))] [(.ref b1)])) st17 ?_
  refine gs (fun _ k => o_dup X17 hx hby d26_50 rfl (o_bipush (v := (8 : Int32)) X17 hx hby d26_51 (o_bipush (v := (105 : Int32)) X17 hx hby d26_53 k))) ?_
  obtain ⟨cl19, A19, a19q, a19S, a19N, a19H, a19G⟩ := id V17
  obtain ⟨T19, h19, X19, e19, W19, st19⟩ := stC X17 hx hZ e17 A19 (j := (8 : Int32)) (inb_of a19S ⟨by decide, by decide⟩) (g := (mkF m 55 #[iv ((1 : Int32))] [(.int (105 : Int32)), (.int (8 : Int32)), (.ref b1), (.ref b1)])) rfl rfl (hb hby d26_55)
  have V19 : Arv Z h19 b1 k1 .char (12 : Int32) [(.int (nar .char (97 : Int32))), (.int (nar .char (112 : Int32))), (.int (nar .char (112 : Int32))), (.int (nar .char (108 : Int32))), (.int (nar .char (105 : Int32))), (.int (nar .char (99 : Int32))), (.int (nar .char (97 : Int32))), (.int (nar .char (116 : Int32))), (.int (nar .char (105 : Int32))), (.int (0 : Int32)), (.int (0 : Int32)), (.int (0 : Int32))] (.int (0 : Int32)) := Arv.set A19 a19q a19S a19N a19H a19G (fits_nar_char _) W19 8 rfl (nb rfl)
  have N19 := Fr.snoc X19 N17 g_b1
  have Z20 := nt Z18 (Keep.of_wr W19).1
  have O20 := O18.wr W19 g_b1
  have K20 := K18.wr W19 (Or.inr sz_b1)
  refine gs (S' := T19.setTop (mkF m 56 #[iv ((1 : Int32))] [(.ref b1)])) st19 ?_
  refine gs (fun _ k => o_dup X19 hx hby d26_56 rfl (o_bipush (v := (9 : Int32)) X19 hx hby d26_57 (o_bipush (v := (111 : Int32)) X19 hx hby d26_59 k))) ?_
  obtain ⟨cl21, A21, a21q, a21S, a21N, a21H, a21G⟩ := id V19
  obtain ⟨T21, h21, X21, e21, W21, st21⟩ := stC X19 hx hZ e19 A21 (j := (9 : Int32)) (inb_of a21S ⟨by decide, by decide⟩) (g := (mkF m 61 #[iv ((1 : Int32))] [(.int (111 : Int32)), (.int (9 : Int32)), (.ref b1), (.ref b1)])) rfl rfl (hb hby d26_61)
  have V21 : Arv Z h21 b1 k1 .char (12 : Int32) [(.int (nar .char (97 : Int32))), (.int (nar .char (112 : Int32))), (.int (nar .char (112 : Int32))), (.int (nar .char (108 : Int32))), (.int (nar .char (105 : Int32))), (.int (nar .char (99 : Int32))), (.int (nar .char (97 : Int32))), (.int (nar .char (116 : Int32))), (.int (nar .char (105 : Int32))), (.int (nar .char (111 : Int32))), (.int (0 : Int32)), (.int (0 : Int32))] (.int (0 : Int32)) := Arv.set A21 a21q a21S a21N a21H a21G (fits_nar_char _) W21 9 rfl (nb rfl)
  have N21 := Fr.snoc X21 N19 g_b1
  have Z22 := nt Z20 (Keep.of_wr W21).1
  have O22 := O20.wr W21 g_b1
  have K22 := K20.wr W21 (Or.inr sz_b1)
  refine gs (S' := T21.setTop (mkF m 62 #[iv ((1 : Int32))] [(.ref b1)])) st21 ?_
  refine gs (fun _ k => o_dup X21 hx hby d26_62 rfl (o_bipush (v := (10 : Int32)) X21 hx hby d26_63 (o_bipush (v := (110 : Int32)) X21 hx hby d26_65 k))) ?_
  obtain ⟨cl23, A23, a23q, a23S, a23N, a23H, a23G⟩ := id V21
  obtain ⟨T23, h23, X23, e23, W23, st23⟩ := stC X21 hx hZ e21 A23 (j := (10 : Int32)) (inb_of a23S ⟨by decide, by decide⟩) (g := (mkF m 67 #[iv ((1 : Int32))] [(.int (110 : Int32)), (.int (10 : Int32)), (.ref b1), (.ref b1)])) rfl rfl (hb hby d26_67)
  have V23 : Arv Z h23 b1 k1 .char (12 : Int32) [(.int (nar .char (97 : Int32))), (.int (nar .char (112 : Int32))), (.int (nar .char (112 : Int32))), (.int (nar .char (108 : Int32))), (.int (nar .char (105 : Int32))), (.int (nar .char (99 : Int32))), (.int (nar .char (97 : Int32))), (.int (nar .char (116 : Int32))), (.int (nar .char (105 : Int32))), (.int (nar .char (111 : Int32))), (.int (nar .char (110 : Int32))), (.int (0 : Int32))] (.int (0 : Int32)) := Arv.set A23 a23q a23S a23N a23H a23G (fits_nar_char _) W23 10 rfl (nb rfl)
  have N23 := Fr.snoc X23 N21 g_b1
  have Z24 := nt Z22 (Keep.of_wr W23).1
  have O24 := O22.wr W23 g_b1
  have K24 := K22.wr W23 (Or.inr sz_b1)
  refine gs (S' := T23.setTop (mkF m 68 #[iv ((1 : Int32))] [(.ref b1)])) st23 ?_
  refine gs (fun _ k => o_dup X23 hx hby d26_68 rfl (o_bipush (v := (11 : Int32)) X23 hx hby d26_69 (o_bipush (v := (120 : Int32)) X23 hx hby d26_71 k))) ?_
  obtain ⟨cl25, A25, a25q, a25S, a25N, a25H, a25G⟩ := id V23
  obtain ⟨T25, h25, X25, e25, W25, st25⟩ := stC X23 hx hZ e23 A25 (j := (11 : Int32)) (inb_of a25S ⟨by decide, by decide⟩) (g := (mkF m 73 #[iv ((1 : Int32))] [(.int (120 : Int32)), (.int (11 : Int32)), (.ref b1), (.ref b1)])) rfl rfl (hb hby d26_73)
  have V25 : Arv Z h25 b1 k1 .char (12 : Int32) [(.int (nar .char (97 : Int32))), (.int (nar .char (112 : Int32))), (.int (nar .char (112 : Int32))), (.int (nar .char (108 : Int32))), (.int (nar .char (105 : Int32))), (.int (nar .char (99 : Int32))), (.int (nar .char (97 : Int32))), (.int (nar .char (116 : Int32))), (.int (nar .char (105 : Int32))), (.int (nar .char (111 : Int32))), (.int (nar .char (110 : Int32))), (.int (nar .char (120 : Int32)))] (.int (0 : Int32)) := Arv.set A25 a25q a25S a25N a25H a25G (fits_nar_char _) W25 11 rfl (nb rfl)
  have N25 := Fr.snoc X25 N23 g_b1
  have Z26 := nt Z24 (Keep.of_wr W25).1
  have O26 := O24.wr W25 g_b1
  have K26 := K24.wr W25 (Or.inr sz_b1)
  refine gs (S' := T25.setTop (mkF m 74 #[iv ((1 : Int32))] [(.ref b1)])) st25 ?_
  have Vn := V25
  simp only [own_nc_97, own_nc_99, own_nc_105, own_nc_108, own_nc_110, own_nc_111, own_nc_112, own_nc_116, own_nc_120] at Vn
  refine gout (v := some (.ref b1)) X25 Bd.notSynchronized (fun h => by rw [Bd.returns] at h; cases h) (by decide) (by decide) ?_ (fun fs hr => retOut X25 hx Bd.returns rfl (Or.inr (Or.inr (Or.inr (Or.inr ⟨rfl, rfl, rfl⟩)))) (hb hby d26_74) hr)
  rw [e25]
  exact ⟨_, _, rfl, N25, K26, sz_b1, Vn⟩
theorem ef_502 (m : MethodId) (x0 : Int32) : entryFrame m #[(.int x0)] 1 = mkF m 0 #[.val (.int x0)] [] := by first | (simp [entryFrame, mkF, argsToLocals, Value.category]; done) | rfl
theorem d26_75 : decode method_5_code 75 = .ok (.bipush 13, 2) := by decide +kernel
theorem d26_77 : decode method_5_code 77 = .ok (.newarray .char, 2) := by decide +kernel
theorem d26_79 : decode method_5_code 79 = .ok (.dup, 1) := by decide +kernel
theorem d26_80 : decode method_5_code 80 = .ok (.iconst 0, 1) := by decide +kernel
theorem d26_81 : decode method_5_code 81 = .ok (.bipush 118, 2) := by decide +kernel
theorem d26_83 : decode method_5_code 83 = .ok (.castore, 1) := by decide +kernel
theorem d26_84 : decode method_5_code 84 = .ok (.dup, 1) := by decide +kernel
theorem d26_85 : decode method_5_code 85 = .ok (.iconst 1, 1) := by decide +kernel
theorem d26_86 : decode method_5_code 86 = .ok (.bipush 110, 2) := by decide +kernel
theorem d26_88 : decode method_5_code 88 = .ok (.castore, 1) := by decide +kernel
theorem d26_89 : decode method_5_code 89 = .ok (.dup, 1) := by decide +kernel
theorem d26_90 : decode method_5_code 90 = .ok (.iconst 2, 1) := by decide +kernel
theorem d26_91 : decode method_5_code 91 = .ok (.bipush 100, 2) := by decide +kernel
theorem d26_93 : decode method_5_code 93 = .ok (.castore, 1) := by decide +kernel
theorem d26_94 : decode method_5_code 94 = .ok (.dup, 1) := by decide +kernel
theorem d26_95 : decode method_5_code 95 = .ok (.iconst 3, 1) := by decide +kernel
theorem d26_96 : decode method_5_code 96 = .ok (.bipush 46, 2) := by decide +kernel
theorem d26_98 : decode method_5_code 98 = .ok (.castore, 1) := by decide +kernel
theorem d26_99 : decode method_5_code 99 = .ok (.dup, 1) := by decide +kernel
theorem d26_100 : decode method_5_code 100 = .ok (.iconst 4, 1) := by decide +kernel
theorem d26_101 : decode method_5_code 101 = .ok (.bipush 97, 2) := by decide +kernel
theorem d26_103 : decode method_5_code 103 = .ok (.castore, 1) := by decide +kernel
theorem d26_104 : decode method_5_code 104 = .ok (.dup, 1) := by decide +kernel
theorem d26_105 : decode method_5_code 105 = .ok (.iconst 5, 1) := by decide +kernel
theorem d26_106 : decode method_5_code 106 = .ok (.bipush 112, 2) := by decide +kernel
theorem d26_108 : decode method_5_code 108 = .ok (.castore, 1) := by decide +kernel
theorem d26_109 : decode method_5_code 109 = .ok (.dup, 1) := by decide +kernel
theorem d26_110 : decode method_5_code 110 = .ok (.bipush 6, 2) := by decide +kernel
theorem d26_112 : decode method_5_code 112 = .ok (.bipush 105, 2) := by decide +kernel
theorem d26_114 : decode method_5_code 114 = .ok (.castore, 1) := by decide +kernel
theorem d26_115 : decode method_5_code 115 = .ok (.dup, 1) := by decide +kernel
theorem d26_116 : decode method_5_code 116 = .ok (.bipush 7, 2) := by decide +kernel
theorem d26_118 : decode method_5_code 118 = .ok (.bipush 43, 2) := by decide +kernel
theorem d26_120 : decode method_5_code 120 = .ok (.castore, 1) := by decide +kernel
theorem d26_121 : decode method_5_code 121 = .ok (.dup, 1) := by decide +kernel
theorem d26_122 : decode method_5_code 122 = .ok (.bipush 8, 2) := by decide +kernel
theorem d26_124 : decode method_5_code 124 = .ok (.bipush 106, 2) := by decide +kernel
theorem d26_126 : decode method_5_code 126 = .ok (.castore, 1) := by decide +kernel
theorem d26_127 : decode method_5_code 127 = .ok (.dup, 1) := by decide +kernel
theorem d26_128 : decode method_5_code 128 = .ok (.bipush 9, 2) := by decide +kernel
theorem d26_130 : decode method_5_code 130 = .ok (.bipush 115, 2) := by decide +kernel
theorem d26_132 : decode method_5_code 132 = .ok (.castore, 1) := by decide +kernel
theorem d26_133 : decode method_5_code 133 = .ok (.dup, 1) := by decide +kernel
theorem d26_134 : decode method_5_code 134 = .ok (.bipush 10, 2) := by decide +kernel
theorem d26_136 : decode method_5_code 136 = .ok (.bipush 111, 2) := by decide +kernel
theorem d26_138 : decode method_5_code 138 = .ok (.castore, 1) := by decide +kernel
theorem d26_139 : decode method_5_code 139 = .ok (.dup, 1) := by decide +kernel
theorem d26_140 : decode method_5_code 140 = .ok (.bipush 11, 2) := by decide +kernel
theorem d26_142 : decode method_5_code 142 = .ok (.bipush 110, 2) := by decide +kernel
theorem d26_144 : decode method_5_code 144 = .ok (.castore, 1) := by decide +kernel
theorem d26_145 : decode method_5_code 145 = .ok (.dup, 1) := by decide +kernel
theorem d26_146 : decode method_5_code 146 = .ok (.bipush 12, 2) := by decide +kernel
theorem d26_148 : decode method_5_code 148 = .ok (.bipush 120, 2) := by decide +kernel
theorem d26_150 : decode method_5_code 150 = .ok (.castore, 1) := by decide +kernel
theorem d26_151 : decode method_5_code 151 = .ok (.areturn, 1) := by decide +kernel
set_option maxRecDepth 65536 in
set_option maxHeartbeats 40000000 in
theorem rm_longer0 (l : Launch) (Z : State) (a0 : Array Value) (hw : HW Z a0) (ws : List Jvm.Cond)  (h0 : Heap) (n0 : Nat) (Z0 : n0 ≤ h0.size) (O0 : Old Z n0 h0)  :
    Ctr l Z my11 method_5_code 1 ((Option.some (Jvm.ClassFile.FieldType.array Jvm.ClassFile.FieldType.char))) ws (⟨0, 1, 13, 0⟩ : Room) #[(.int (0 : Int32))] h0 (fun v h L => ∃ (b : Addr) (kb : ClassId), v = some (.ref b) ∧ Fr n0 L ∧ Keep h0 h [] ∧ h0.size ≤ b ∧ Arv Z h b kb .char (13 : Int32) (own_L0.map Value.int) (.int (0 : Int32))) := by
  refine Ctr.go (plainFor_of_name pn_345) fun p e s m below meth c s₁ Bd hx hby hml hZ hown hnm X0 e0 => ?_
  have N0 := Fr.nil n0
  have K0 := Keep.refl h0 []
  refine gs (S' := s₁.setTop (mkF m 0 #[iv ((0 : Int32))] [])) (fun tg kg => castTop (ef_502 m (0 : Int32)) kg) ?_
  refine gs (fun _ k => o_iloadN X0 hx hby d26_0 rfl (o_ifYes (pc' := 75) X0 hx hby d26_1 ((if0 _ _).trans (teq (by decide : (0 : Int32) = (0 : Int32))).1) (o_bipush (v := (13 : Int32)) X0 hx hby d26_75 k))) ?_
  obtain ⟨T1, h1, k1, X1, e1, E1, A1, st1⟩ := newP X0 hx hZ (ow hw 13 rfl) e0 (g := (mkF m 77 #[iv ((0 : Int32))] [(.int (13 : Int32))])) rfl (hb hby d26_77) rfl (by decide) (cap := 13) (by decide) (by decide) (by decide) (by decide)
  obtain ⟨b1, q1⟩ : ∃ z, z = h0.size := ⟨_, rfl⟩
  rw [← q1] at A1 st1
  have g_b1 : n0 ≤ b1 := nt Z0 (Nat.le_of_eq q1.symm)
  have sz_b1 : h0.size ≤ b1 := nt K0.1 (Nat.le_of_eq q1.symm)
  have Z2 := nt Z0 E1.1
  have O2 := O0.ext E1
  have K2 := K0.ext E1
  have V1 : Arv Z h1 b1 k1 .char (13 : Int32) [(.int (0 : Int32)), (.int (0 : Int32)), (.int (0 : Int32)), (.int (0 : Int32)), (.int (0 : Int32)), (.int (0 : Int32)), (.int (0 : Int32)), (.int (0 : Int32)), (.int (0 : Int32)), (.int (0 : Int32)), (.int (0 : Int32)), (.int (0 : Int32)), (.int (0 : Int32))] (.int (0 : Int32)) := (Arv.new A1 (by decide)).pad (pad_rep [] (.int (0 : Int32)) 13)
  refine gs (S' := T1.setTop (mkF m 79 #[iv ((0 : Int32))] [(.ref b1)])) st1 ?_
  refine gs (fun _ k => o_dup X1 hx hby d26_79 rfl (o_iconst (v := (0 : Int32)) X1 hx hby d26_80 (o_bipush (v := (118 : Int32)) X1 hx hby d26_81 k))) ?_
  obtain ⟨cl3, A3, a3q, a3S, a3N, a3H, a3G⟩ := id V1
  obtain ⟨T3, h3, X3, e3, W3, st3⟩ := stC X1 hx hZ e1 A3 (j := (0 : Int32)) (inb_of a3S ⟨by decide, by decide⟩) (g := (mkF m 83 #[iv ((0 : Int32))] [(.int (118 : Int32)), (.int (0 : Int32)), (.ref b1), (.ref b1)])) rfl rfl (hb hby d26_83)
  have V3 : Arv Z h3 b1 k1 .char (13 : Int32) [(.int (nar .char (118 : Int32))), (.int (0 : Int32)), (.int (0 : Int32)), (.int (0 : Int32)), (.int (0 : Int32)), (.int (0 : Int32)), (.int (0 : Int32)), (.int (0 : Int32)), (.int (0 : Int32)), (.int (0 : Int32)), (.int (0 : Int32)), (.int (0 : Int32)), (.int (0 : Int32))] (.int (0 : Int32)) := Arv.set A3 a3q a3S a3N a3H a3G (fits_nar_char _) W3 0 rfl (nb rfl)
  have N3 := Fr.snoc X3 N0 g_b1
  have Z4 := nt Z2 (Keep.of_wr W3).1
  have O4 := O2.wr W3 g_b1
  have K4 := K2.wr W3 (Or.inr sz_b1)
  refine gs (S' := T3.setTop (mkF m 84 #[iv ((0 : Int32))] [(.ref b1)])) st3 ?_
  refine gs (fun _ k => o_dup X3 hx hby d26_84 rfl (o_iconst (v := (1 : Int32)) X3 hx hby d26_85 (o_bipush (v := (110 : Int32)) X3 hx hby d26_86 k))) ?_
  obtain ⟨cl5, A5, a5q, a5S, a5N, a5H, a5G⟩ := id V3
  obtain ⟨T5, h5, X5, e5, W5, st5⟩ := stC X3 hx hZ e3 A5 (j := (1 : Int32)) (inb_of a5S ⟨by decide, by decide⟩) (g := (mkF m 88 #[iv ((0 : Int32))] [(.int (110 : Int32)), (.int (1 : Int32)), (.ref b1), (.ref b1)])) rfl rfl (hb hby d26_88)
  have V5 : Arv Z h5 b1 k1 .char (13 : Int32) [(.int (nar .char (118 : Int32))), (.int (nar .char (110 : Int32))), (.int (0 : Int32)), (.int (0 : Int32)), (.int (0 : Int32)), (.int (0 : Int32)), (.int (0 : Int32)), (.int (0 : Int32)), (.int (0 : Int32)), (.int (0 : Int32)), (.int (0 : Int32)), (.int (0 : Int32)), (.int (0 : Int32))] (.int (0 : Int32)) := Arv.set A5 a5q a5S a5N a5H a5G (fits_nar_char _) W5 1 rfl (nb rfl)
  have N5 := Fr.snoc X5 N3 g_b1
  have Z6 := nt Z4 (Keep.of_wr W5).1
  have O6 := O4.wr W5 g_b1
  have K6 := K4.wr W5 (Or.inr sz_b1)
  refine gs (S' := T5.setTop (mkF m 89 #[iv ((0 : Int32))] [(.ref b1)])) st5 ?_
  refine gs (fun _ k => o_dup X5 hx hby d26_89 rfl (o_iconst (v := (2 : Int32)) X5 hx hby d26_90 (o_bipush (v := (100 : Int32)) X5 hx hby d26_91 k))) ?_
  obtain ⟨cl7, A7, a7q, a7S, a7N, a7H, a7G⟩ := id V5
  obtain ⟨T7, h7, X7, e7, W7, st7⟩ := stC X5 hx hZ e5 A7 (j := (2 : Int32)) (inb_of a7S ⟨by decide, by decide⟩) (g := (mkF m 93 #[iv ((0 : Int32))] [(.int (100 : Int32)), (.int (2 : Int32)), (.ref b1), (.ref b1)])) rfl rfl (hb hby d26_93)
  have V7 : Arv Z h7 b1 k1 .char (13 : Int32) [(.int (nar .char (118 : Int32))), (.int (nar .char (110 : Int32))), (.int (nar .char (100 : Int32))), (.int (0 : Int32)), (.int (0 : Int32)), (.int (0 : Int32)), (.int (0 : Int32)), (.int (0 : Int32)), (.int (0 : Int32)), (.int (0 : Int32)), (.int (0 : Int32)), (.int (0 : Int32)), (.int (0 : Int32))] (.int (0 : Int32)) := Arv.set A7 a7q a7S a7N a7H a7G (fits_nar_char _) W7 2 rfl (nb rfl)
  have N7 := Fr.snoc X7 N5 g_b1
  have Z8 := nt Z6 (Keep.of_wr W7).1
  have O8 := O6.wr W7 g_b1
  have K8 := K6.wr W7 (Or.inr sz_b1)
  refine gs (S' := T7.setTop (mkF m 94 #[iv ((0 : Int32))] [(.ref b1)])) st7 ?_
  refine gs (fun _ k => o_dup X7 hx hby d26_94 rfl (o_iconst (v := (3 : Int32)) X7 hx hby d26_95 (o_bipush (v := (46 : Int32)) X7 hx hby d26_96 k))) ?_
  obtain ⟨cl9, A9, a9q, a9S, a9N, a9H, a9G⟩ := id V7
  obtain ⟨T9, h9, X9, e9, W9, st9⟩ := stC X7 hx hZ e7 A9 (j := (3 : Int32)) (inb_of a9S ⟨by decide, by decide⟩) (g := (mkF m 98 #[iv ((0 : Int32))] [(.int (46 : Int32)), (.int (3 : Int32)), (.ref b1), (.ref b1)])) rfl rfl (hb hby d26_98)
  have V9 : Arv Z h9 b1 k1 .char (13 : Int32) [(.int (nar .char (118 : Int32))), (.int (nar .char (110 : Int32))), (.int (nar .char (100 : Int32))), (.int (nar .char (46 : Int32))), (.int (0 : Int32)), (.int (0 : Int32)), (.int (0 : Int32)), (.int (0 : Int32)), (.int (0 : Int32)), (.int (0 : Int32)), (.int (0 : Int32)), (.int (0 : Int32)), (.int (0 : Int32))] (.int (0 : Int32)) := Arv.set A9 a9q a9S a9N a9H a9G (fits_nar_char _) W9 3 rfl (nb rfl)
  have N9 := Fr.snoc X9 N7 g_b1
  have Z10 := nt Z8 (Keep.of_wr W9).1
  have O10 := O8.wr W9 g_b1
  have K10 := K8.wr W9 (Or.inr sz_b1)
  refine gs (S' := T9.setTop (mkF m 99 #[iv ((0 : Int32))] [(.ref b1)])) st9 ?_
  refine gs (fun _ k => o_dup X9 hx hby d26_99 rfl (o_iconst (v := (4 : Int32)) X9 hx hby d26_100 (o_bipush (v := (97 : Int32)) X9 hx hby d26_101 k))) ?_
  obtain ⟨cl11, A11, a11q, a11S, a11N, a11H, a11G⟩ := id V9
  obtain ⟨T11, h11, X11, e11, W11, st11⟩ := stC X9 hx hZ e9 A11 (j := (4 : Int32)) (inb_of a11S ⟨by decide, by decide⟩) (g := (mkF m 103 #[iv ((0 : Int32))] [(.int (97 : Int32)), (.int (4 : Int32)), (.ref b1), (.ref b1)])) rfl rfl (hb hby d26_103)
  have V11 : Arv Z h11 b1 k1 .char (13 : Int32) [(.int (nar .char (118 : Int32))), (.int (nar .char (110 : Int32))), (.int (nar .char (100 : Int32))), (.int (nar .char (46 : Int32))), (.int (nar .char (97 : Int32))), (.int (0 : Int32)), (.int (0 : Int32)), (.int (0 : Int32)), (.int (0 : Int32)), (.int (0 : Int32)), (.int (0 : Int32)), (.int (0 : Int32)), (.int (0 : Int32))] (.int (0 : Int32)) := Arv.set A11 a11q a11S a11N a11H a11G (fits_nar_char _) W11 4 rfl (nb rfl)
  have N11 := Fr.snoc X11 N9 g_b1
  have Z12 := nt Z10 (Keep.of_wr W11).1
  have O12 := O10.wr W11 g_b1
  have K12 := K10.wr W11 (Or.inr sz_b1)
  refine gs (S' := T11.setTop (mkF m 104 #[iv ((0 : Int32))] [(.ref b1)])) st11 ?_
  refine gs (fun _ k => o_dup X11 hx hby d26_104 rfl (o_iconst (v := (5 : Int32)) X11 hx hby d26_105 (o_bipush (v := (112 : Int32)) X11 hx hby d26_106 k))) ?_
  obtain ⟨cl13, A13, a13q, a13S, a13N, a13H, a13G⟩ := id V11
  obtain ⟨T13, h13, X13, e13, W13, st13⟩ := stC X11 hx hZ e11 A13 (j := (5 : Int32)) (inb_of a13S ⟨by decide, by decide⟩) (g := (mkF m 108 #[iv ((0 : Int32))] [(.int (112 : Int32)), (.int (5 : Int32)), (.ref b1), (.ref b1)])) rfl rfl (hb hby d26_108)
  have V13 : Arv Z h13 b1 k1 .char (13 : Int32) [(.int (nar .char (118 : Int32))), (.int (nar .char (110 : Int32))), (.int (nar .char (100 : Int32))), (.int (nar .char (46 : Int32))), (.int (nar .char (97 : Int32))), (.int (nar .char (112 : Int32))), (.int (0 : Int32)), (.int (0 : Int32)), (.int (0 : Int32)), (.int (0 : Int32)), (.int (0 : Int32)), (.int (0 : Int32)), (.int (0 : Int32))] (.int (0 : Int32)) := Arv.set A13 a13q a13S a13N a13H a13G (fits_nar_char _) W13 5 rfl (nb rfl)
  have N13 := Fr.snoc X13 N11 g_b1
  have Z14 := nt Z12 (Keep.of_wr W13).1
  have O14 := O12.wr W13 g_b1
  have K14 := K12.wr W13 (Or.inr sz_b1)
  refine gs (S' := T13.setTop (mkF m 109 #[iv ((0 : Int32))] [(.ref b1)])) st13 ?_
  refine gs (fun _ k => o_dup X13 hx hby d26_109 rfl (o_bipush (v := (6 : Int32)) X13 hx hby d26_110 (o_bipush (v := (105 : Int32)) X13 hx hby d26_112 k))) ?_
  obtain ⟨cl15, A15, a15q, a15S, a15N, a15H, a15G⟩ := id V13
  obtain ⟨T15, h15, X15, e15, W15, st15⟩ := stC X13 hx hZ e13 A15 (j := (6 : Int32)) (inb_of a15S ⟨by decide, by decide⟩) (g := (mkF m 114 #[iv ((0 : Int32))] [(.int (105 : Int32)), (.int (6 : Int32)), (.ref b1), (.ref b1)])) rfl rfl (hb hby d26_114)
  have V15 : Arv Z h15 b1 k1 .char (13 : Int32) [(.int (nar .char (118 : Int32))), (.int (nar .char (110 : Int32))), (.int (nar .char (100 : Int32))), (.int (nar .char (46 : Int32))), (.int (nar .char (97 : Int32))), (.int (nar .char (112 : Int32))), (.int (nar .char (105 : Int32))), (.int (0 : Int32)), (.int (0 : Int32)), (.int (0 : Int32)), (.int (0 : Int32)), (.int (0 : Int32)), (.int (0 : Int32))] (.int (0 : Int32)) := Arv.set A15 a15q a15S a15N a15H a15G (fits_nar_char _) W15 6 rfl (nb rfl)
  have N15 := Fr.snoc X15 N13 g_b1
  have Z16 := nt Z14 (Keep.of_wr W15).1
  have O16 := O14.wr W15 g_b1
  have K16 := K14.wr W15 (Or.inr sz_b1)
  refine gs (S' := T15.setTop (mkF m 115 #[iv ((0 : Int32))] [(.ref b1)])) st15 ?_
  refine gs (fun _ k => o_dup X15 hx hby d26_115 rfl (o_bipush (v := (7 : Int32)) X15 hx hby d26_116 (o_bipush (v := (43 : Int32)) X15 hx hby d26_118 k))) ?_
  obtain ⟨cl17, A17, a17q, a17S, a17N, a17H, a17G⟩ := id V15
  obtain ⟨T17, h17, X17, e17, W17, st17⟩ := stC X15 hx hZ e15 A17 (j := (7 : Int32)) (inb_of a17S ⟨by decide, by decide⟩) (g := (mkF m 120 #[iv ((0 : Int32))] [(.int (43 : Int32)), (.int (7 : Int32)), (.ref b1), (.ref b1)])) rfl rfl (hb hby d26_120)
  have V17 : Arv Z h17 b1 k1 .char (13 : Int32) [(.int (nar .char (118 : Int32))), (.int (nar .char (110 : Int32))), (.int (nar .char (100 : Int32))), (.int (nar .char (46 : Int32))), (.int (nar .char (97 : Int32))), (.int (nar .char (112 : Int32))), (.int (nar .char (105 : Int32))), (.int (nar .char (43 : Int32))), (.int (0 : Int32)), (.int (0 : Int32)), (.int (0 : Int32)), (.int (0 : Int32)), (.int (0 : Int32))] (.int (0 : Int32)) := Arv.set A17 a17q a17S a17N a17H a17G (fits_nar_char _) W17 7 rfl (nb rfl)
  have N17 := Fr.snoc X17 N15 g_b1
  have Z18 := nt Z16 (Keep.of_wr W17).1
  have O18 := O16.wr W17 g_b1
  have K18 := K16.wr W17 (Or.inr sz_b1)
  refine gs (S' := T17.setTop (mkF m 121 #[iv ((0 : Int32))] [(.ref b1)])) st17 ?_
  refine gs (fun _ k => o_dup X17 hx hby d26_121 rfl (o_bipush (v := (8 : Int32)) X17 hx hby d26_122 (o_bipush (v := (106 : Int32)) X17 hx hby d26_124 k))) ?_
  obtain ⟨cl19, A19, a19q, a19S, a19N, a19H, a19G⟩ := id V17
  obtain ⟨T19, h19, X19, e19, W19, st19⟩ := stC X17 hx hZ e17 A19 (j := (8 : Int32)) (inb_of a19S ⟨by decide, by decide⟩) (g := (mkF m 126 #[iv ((0 : Int32))] [(.int (106 : Int32)), (.int (8 : Int32)), (.ref b1), (.ref b1)])) rfl rfl (hb hby d26_126)
  have V19 : Arv Z h19 b1 k1 .char (13 : Int32) [(.int (nar .char (118 : Int32))), (.int (nar .char (110 : Int32))), (.int (nar .char (100 : Int32))), (.int (nar .char (46 : Int32))), (.int (nar .char (97 : Int32))), (.int (nar .char (112 : Int32))), (.int (nar .char (105 : Int32))), (.int (nar .char (43 : Int32))), (.int (nar .char (106 : Int32))), (.int (0 : Int32)), (.int (0 : Int32)), (.int (0 : Int32)), (.int (0 : Int32))] (.int (0 : Int32)) := Arv.set A19 a19q a19S a19N a19H a19G (fits_nar_char _) W19 8 rfl (nb rfl)
  have N19 := Fr.snoc X19 N17 g_b1
  have Z20 := nt Z18 (Keep.of_wr W19).1
  have O20 := O18.wr W19 g_b1
  have K20 := K18.wr W19 (Or.inr sz_b1)
  refine gs (S' := T19.setTop (mkF m 127 #[iv ((0 : Int32))] [(.ref b1)])) st19 ?_
  refine gs (fun _ k => o_dup X19 hx hby d26_127 rfl (o_bipush (v := (9 : Int32)) X19 hx hby d26_128 (o_bipush (v := (115 : Int32)) X19 hx hby d26_130 k))) ?_
  obtain ⟨cl21, A21, a21q, a21S, a21N, a21H, a21G⟩ := id V19
  obtain ⟨T21, h21, X21, e21, W21, st21⟩ := stC X19 hx hZ e19 A21 (j := (9 : Int32)) (inb_of a21S ⟨by decide, by decide⟩) (g := (mkF m 132 #[iv ((0 : Int32))] [(.int (115 : Int32)), (.int (9 : Int32)), (.ref b1), (.ref b1)])) rfl rfl (hb hby d26_132)
  have V21 : Arv Z h21 b1 k1 .char (13 : Int32) [(.int (nar .char (118 : Int32))), (.int (nar .char (110 : Int32))), (.int (nar .char (100 : Int32))), (.int (nar .char (46 : Int32))), (.int (nar .char (97 : Int32))), (.int (nar .char (112 : Int32))), (.int (nar .char (105 : Int32))), (.int (nar .char (43 : Int32))), (.int (nar .char (106 : Int32))), (.int (nar .char (115 : Int32))), (.int (0 : Int32)), (.int (0 : Int32)), (.int (0 : Int32))] (.int (0 : Int32)) := Arv.set A21 a21q a21S a21N a21H a21G (fits_nar_char _) W21 9 rfl (nb rfl)
  have N21 := Fr.snoc X21 N19 g_b1
  have Z22 := nt Z20 (Keep.of_wr W21).1
  have O22 := O20.wr W21 g_b1
  have K22 := K20.wr W21 (Or.inr sz_b1)
  refine gs (S' := T21.setTop (mkF m 133 #[iv ((0 : Int32))] [(.ref b1)])) st21 ?_
  refine gs (fun _ k => o_dup X21 hx hby d26_133 rfl (o_bipush (v := (10 : Int32)) X21 hx hby d26_134 (o_bipush (v := (111 : Int32)) X21 hx hby d26_136 k))) ?_
  obtain ⟨cl23, A23, a23q, a23S, a23N, a23H, a23G⟩ := id V21
  obtain ⟨T23, h23, X23, e23, W23, st23⟩ := stC X21 hx hZ e21 A23 (j := (10 : Int32)) (inb_of a23S ⟨by decide, by decide⟩) (g := (mkF m 138 #[iv ((0 : Int32))] [(.int (111 : Int32)), (.int (10 : Int32)), (.ref b1), (.ref b1)])) rfl rfl (hb hby d26_138)
  have V23 : Arv Z h23 b1 k1 .char (13 : Int32) [(.int (nar .char (118 : Int32))), (.int (nar .char (110 : Int32))), (.int (nar .char (100 : Int32))), (.int (nar .char (46 : Int32))), (.int (nar .char (97 : Int32))), (.int (nar .char (112 : Int32))), (.int (nar .char (105 : Int32))), (.int (nar .char (43 : Int32))), (.int (nar .char (106 : Int32))), (.int (nar .char (115 : Int32))), (.int (nar .char (111 : Int32))), (.int (0 : Int32)), (.int (0 : Int32))] (.int (0 : Int32)) := Arv.set A23 a23q a23S a23N a23H a23G (fits_nar_char _) W23 10 rfl (nb rfl)
  have N23 := Fr.snoc X23 N21 g_b1
  have Z24 := nt Z22 (Keep.of_wr W23).1
  have O24 := O22.wr W23 g_b1
  have K24 := K22.wr W23 (Or.inr sz_b1)
  refine gs (S' := T23.setTop (mkF m 139 #[iv ((0 : Int32))] [(.ref b1)])) st23 ?_
  refine gs (fun _ k => o_dup X23 hx hby d26_139 rfl (o_bipush (v := (11 : Int32)) X23 hx hby d26_140 (o_bipush (v := (110 : Int32)) X23 hx hby d26_142 k))) ?_
  obtain ⟨cl25, A25, a25q, a25S, a25N, a25H, a25G⟩ := id V23
  obtain ⟨T25, h25, X25, e25, W25, st25⟩ := stC X23 hx hZ e23 A25 (j := (11 : Int32)) (inb_of a25S ⟨by decide, by decide⟩) (g := (mkF m 144 #[iv ((0 : Int32))] [(.int (110 : Int32)), (.int (11 : Int32)), (.ref b1), (.ref b1)])) rfl rfl (hb hby d26_144)
  have V25 : Arv Z h25 b1 k1 .char (13 : Int32) [(.int (nar .char (118 : Int32))), (.int (nar .char (110 : Int32))), (.int (nar .char (100 : Int32))), (.int (nar .char (46 : Int32))), (.int (nar .char (97 : Int32))), (.int (nar .char (112 : Int32))), (.int (nar .char (105 : Int32))), (.int (nar .char (43 : Int32))), (.int (nar .char (106 : Int32))), (.int (nar .char (115 : Int32))), (.int (nar .char (111 : Int32))), (.int (nar .char (110 : Int32))), (.int (0 : Int32))] (.int (0 : Int32)) := Arv.set A25 a25q a25S a25N a25H a25G (fits_nar_char _) W25 11 rfl (nb rfl)
  have N25 := Fr.snoc X25 N23 g_b1
  have Z26 := nt Z24 (Keep.of_wr W25).1
  have O26 := O24.wr W25 g_b1
  have K26 := K24.wr W25 (Or.inr sz_b1)
  refine gs (S' := T25.setTop (mkF m 145 #[iv ((0 : Int32))] [(.ref b1)])) st25 ?_
  refine gs (fun _ k => o_dup X25 hx hby d26_145 rfl (o_bipush (v := (12 : Int32)) X25 hx hby d26_146 (o_bipush (v := (120 : Int32)) X25 hx hby d26_148 k))) ?_
  obtain ⟨cl27, A27, a27q, a27S, a27N, a27H, a27G⟩ := id V25
  obtain ⟨T27, h27, X27, e27, W27, st27⟩ := stC X25 hx hZ e25 A27 (j := (12 : Int32)) (inb_of a27S ⟨by decide, by decide⟩) (g := (mkF m 150 #[iv ((0 : Int32))] [(.int (120 : Int32)), (.int (12 : Int32)), (.ref b1), (.ref b1)])) rfl rfl (hb hby d26_150)
  have V27 : Arv Z h27 b1 k1 .char (13 : Int32) [(.int (nar .char (118 : Int32))), (.int (nar .char (110 : Int32))), (.int (nar .char (100 : Int32))), (.int (nar .char (46 : Int32))), (.int (nar .char (97 : Int32))), (.int (nar .char (112 : Int32))), (.int (nar .char (105 : Int32))), (.int (nar .char (43 : Int32))), (.int (nar .char (106 : Int32))), (.int (nar .char (115 : Int32))), (.int (nar .char (111 : Int32))), (.int (nar .char (110 : Int32))), (.int (nar .char (120 : Int32)))] (.int (0 : Int32)) := Arv.set A27 a27q a27S a27N a27H a27G (fits_nar_char _) W27 12 rfl (nb rfl)
  have N27 := Fr.snoc X27 N25 g_b1
  have Z28 := nt Z26 (Keep.of_wr W27).1
  have O28 := O26.wr W27 g_b1
  have K28 := K26.wr W27 (Or.inr sz_b1)
  refine gs (S' := T27.setTop (mkF m 151 #[iv ((0 : Int32))] [(.ref b1)])) st27 ?_
  have Vn := V27
  simp only [own_nc_43, own_nc_46, own_nc_97, own_nc_100, own_nc_105, own_nc_106, own_nc_110, own_nc_111, own_nc_112, own_nc_115, own_nc_118, own_nc_120] at Vn
  refine gout (v := some (.ref b1)) X27 Bd.notSynchronized (fun h => by rw [Bd.returns] at h; cases h) (by decide) (by decide) ?_ (fun fs hr => retOut X27 hx Bd.returns rfl (Or.inr (Or.inr (Or.inr (Or.inr ⟨rfl, rfl, rfl⟩)))) (hb hby d26_151) hr)
  rw [e27]
  exact ⟨_, _, rfl, N27, K28, sz_b1, Vn⟩
theorem ef_558 (m : MethodId) (x0 : Int32) : entryFrame m #[(.int x0)] 1 = mkF m 0 #[.val (.int x0)] [] := by first | (simp [entryFrame, mkF, argsToLocals, Value.category]; done) | rfl
theorem d27_0 : decode method_6_code 0 = .ok (.iload_n 0, 1) := by decide +kernel
theorem d27_1 : decode method_6_code 1 = .ok (.ifCond .eq 62, 3) := by decide +kernel
theorem d27_4 : decode method_6_code 4 = .ok (.bipush 10, 2) := by decide +kernel
theorem d27_6 : decode method_6_code 6 = .ok (.newarray .char, 2) := by decide +kernel
theorem d27_8 : decode method_6_code 8 = .ok (.dup, 1) := by decide +kernel
theorem d27_9 : decode method_6_code 9 = .ok (.iconst 0, 1) := by decide +kernel
theorem d27_10 : decode method_6_code 10 = .ok (.bipush 97, 2) := by decide +kernel
theorem d27_12 : decode method_6_code 12 = .ok (.castore, 1) := by decide +kernel
theorem d27_13 : decode method_6_code 13 = .ok (.dup, 1) := by decide +kernel
theorem d27_14 : decode method_6_code 14 = .ok (.iconst 1, 1) := by decide +kernel
theorem d27_15 : decode method_6_code 15 = .ok (.bipush 112, 2) := by decide +kernel
theorem d27_17 : decode method_6_code 17 = .ok (.castore, 1) := by decide +kernel
theorem d27_18 : decode method_6_code 18 = .ok (.dup, 1) := by decide +kernel
theorem d27_19 : decode method_6_code 19 = .ok (.iconst 2, 1) := by decide +kernel
theorem d27_20 : decode method_6_code 20 = .ok (.bipush 112, 2) := by decide +kernel
theorem d27_22 : decode method_6_code 22 = .ok (.castore, 1) := by decide +kernel
theorem d27_23 : decode method_6_code 23 = .ok (.dup, 1) := by decide +kernel
theorem d27_24 : decode method_6_code 24 = .ok (.iconst 3, 1) := by decide +kernel
theorem d27_25 : decode method_6_code 25 = .ok (.bipush 108, 2) := by decide +kernel
theorem d27_27 : decode method_6_code 27 = .ok (.castore, 1) := by decide +kernel
theorem d27_28 : decode method_6_code 28 = .ok (.dup, 1) := by decide +kernel
theorem d27_29 : decode method_6_code 29 = .ok (.iconst 4, 1) := by decide +kernel
theorem d27_30 : decode method_6_code 30 = .ok (.bipush 105, 2) := by decide +kernel
theorem d27_32 : decode method_6_code 32 = .ok (.castore, 1) := by decide +kernel
theorem d27_33 : decode method_6_code 33 = .ok (.dup, 1) := by decide +kernel
theorem d27_34 : decode method_6_code 34 = .ok (.iconst 5, 1) := by decide +kernel
theorem d27_35 : decode method_6_code 35 = .ok (.bipush 99, 2) := by decide +kernel
theorem d27_37 : decode method_6_code 37 = .ok (.castore, 1) := by decide +kernel
theorem d27_38 : decode method_6_code 38 = .ok (.dup, 1) := by decide +kernel
theorem d27_39 : decode method_6_code 39 = .ok (.bipush 6, 2) := by decide +kernel
theorem d27_41 : decode method_6_code 41 = .ok (.bipush 97, 2) := by decide +kernel
theorem d27_43 : decode method_6_code 43 = .ok (.castore, 1) := by decide +kernel
theorem d27_44 : decode method_6_code 44 = .ok (.dup, 1) := by decide +kernel
theorem d27_45 : decode method_6_code 45 = .ok (.bipush 7, 2) := by decide +kernel
theorem d27_47 : decode method_6_code 47 = .ok (.bipush 116, 2) := by decide +kernel
theorem d27_49 : decode method_6_code 49 = .ok (.castore, 1) := by decide +kernel
theorem d27_50 : decode method_6_code 50 = .ok (.dup, 1) := by decide +kernel
theorem d27_51 : decode method_6_code 51 = .ok (.bipush 8, 2) := by decide +kernel
theorem d27_53 : decode method_6_code 53 = .ok (.bipush 105, 2) := by decide +kernel
theorem d27_55 : decode method_6_code 55 = .ok (.castore, 1) := by decide +kernel
theorem d27_56 : decode method_6_code 56 = .ok (.dup, 1) := by decide +kernel
theorem d27_57 : decode method_6_code 57 = .ok (.bipush 9, 2) := by decide +kernel
theorem d27_59 : decode method_6_code 59 = .ok (.bipush 111, 2) := by decide +kernel
theorem d27_61 : decode method_6_code 61 = .ok (.castore, 1) := by decide +kernel
theorem d27_62 : decode method_6_code 62 = .ok (.areturn, 1) := by decide +kernel
set_option maxRecDepth 65536 in
set_option maxHeartbeats 40000000 in
theorem rm_shorter1 (l : Launch) (Z : State) (a0 : Array Value) (hw : HW Z a0) (ws : List Jvm.Cond)  (h0 : Heap) (n0 : Nat) (Z0 : n0 ≤ h0.size) (O0 : Old Z n0 h0)  :
    Ctr l Z my12 method_6_code 1 ((Option.some (Jvm.ClassFile.FieldType.array Jvm.ClassFile.FieldType.char))) ws (⟨0, 1, 10, 0⟩ : Room) #[(.int (1 : Int32))] h0 (fun v h L => ∃ (b : Addr) (kb : ClassId), v = some (.ref b) ∧ Fr n0 L ∧ Keep h0 h [] ∧ h0.size ≤ b ∧ Arv Z h b kb .char (10 : Int32) (own_S1.map Value.int) (.int (0 : Int32))) := by
  refine Ctr.go (plainFor_of_name pn_345) fun p e s m below meth c s₁ Bd hx hby hml hZ hown hnm X0 e0 => ?_
  have N0 := Fr.nil n0
  have K0 := Keep.refl h0 []
  refine gs (S' := s₁.setTop (mkF m 0 #[iv ((1 : Int32))] [])) (fun tg kg => castTop (ef_558 m (1 : Int32)) kg) ?_
  refine gs (fun _ k => o_iloadN X0 hx hby d27_0 rfl (o_ifNo X0 hx hby d27_1 ((if0 _ _).trans (feq (by decide : ¬ ((1 : Int32) = (0 : Int32)))).1) (o_bipush (v := (10 : Int32)) X0 hx hby d27_4 k))) ?_
  obtain ⟨T1, h1, k1, X1, e1, E1, A1, st1⟩ := newP X0 hx hZ (ow hw 13 rfl) e0 (g := (mkF m 6 #[iv ((1 : Int32))] [(.int (10 : Int32))])) rfl (hb hby d27_6) rfl (by decide) (cap := 10) (by decide) (by decide) (by decide) (by decide)
  obtain ⟨b1, q1⟩ : ∃ z, z = h0.size := ⟨_, rfl⟩
  rw [← q1] at A1 st1
  have g_b1 : n0 ≤ b1 := nt Z0 (Nat.le_of_eq q1.symm)
  have sz_b1 : h0.size ≤ b1 := nt K0.1 (Nat.le_of_eq q1.symm)
  have Z2 := nt Z0 E1.1
  have O2 := O0.ext E1
  have K2 := K0.ext E1
  have V1 : Arv Z h1 b1 k1 .char (10 : Int32) [(.int (0 : Int32)), (.int (0 : Int32)), (.int (0 : Int32)), (.int (0 : Int32)), (.int (0 : Int32)), (.int (0 : Int32)), (.int (0 : Int32)), (.int (0 : Int32)), (.int (0 : Int32)), (.int (0 : Int32))] (.int (0 : Int32)) := (Arv.new A1 (by decide)).pad (pad_rep [] (.int (0 : Int32)) 10)
  refine gs (S' := T1.setTop (mkF m 8 #[iv ((1 : Int32))] [(.ref b1)])) st1 ?_
  refine gs (fun _ k => o_dup X1 hx hby d27_8 rfl (o_iconst (v := (0 : Int32)) X1 hx hby d27_9 (o_bipush (v := (97 : Int32)) X1 hx hby d27_10 k))) ?_
  obtain ⟨cl3, A3, a3q, a3S, a3N, a3H, a3G⟩ := id V1
  obtain ⟨T3, h3, X3, e3, W3, st3⟩ := stC X1 hx hZ e1 A3 (j := (0 : Int32)) (inb_of a3S ⟨by decide, by decide⟩) (g := (mkF m 12 #[iv ((1 : Int32))] [(.int (97 : Int32)), (.int (0 : Int32)), (.ref b1), (.ref b1)])) rfl rfl (hb hby d27_12)
  have V3 : Arv Z h3 b1 k1 .char (10 : Int32) [(.int (nar .char (97 : Int32))), (.int (0 : Int32)), (.int (0 : Int32)), (.int (0 : Int32)), (.int (0 : Int32)), (.int (0 : Int32)), (.int (0 : Int32)), (.int (0 : Int32)), (.int (0 : Int32)), (.int (0 : Int32))] (.int (0 : Int32)) := Arv.set A3 a3q a3S a3N a3H a3G (fits_nar_char _) W3 0 rfl (nb rfl)
  have N3 := Fr.snoc X3 N0 g_b1
  have Z4 := nt Z2 (Keep.of_wr W3).1
  have O4 := O2.wr W3 g_b1
  have K4 := K2.wr W3 (Or.inr sz_b1)
  refine gs (S' := T3.setTop (mkF m 13 #[iv ((1 : Int32))] [(.ref b1)])) st3 ?_
  refine gs (fun _ k => o_dup X3 hx hby d27_13 rfl (o_iconst (v := (1 : Int32)) X3 hx hby d27_14 (o_bipush (v := (112 : Int32)) X3 hx hby d27_15 k))) ?_
  obtain ⟨cl5, A5, a5q, a5S, a5N, a5H, a5G⟩ := id V3
  obtain ⟨T5, h5, X5, e5, W5, st5⟩ := stC X3 hx hZ e3 A5 (j := (1 : Int32)) (inb_of a5S ⟨by decide, by decide⟩) (g := (mkF m 17 #[iv ((1 : Int32))] [(.int (112 : Int32)), (.int (1 : Int32)), (.ref b1), (.ref b1)])) rfl rfl (hb hby d27_17)
  have V5 : Arv Z h5 b1 k1 .char (10 : Int32) [(.int (nar .char (97 : Int32))), (.int (nar .char (112 : Int32))), (.int (0 : Int32)), (.int (0 : Int32)), (.int (0 : Int32)), (.int (0 : Int32)), (.int (0 : Int32)), (.int (0 : Int32)), (.int (0 : Int32)), (.int (0 : Int32))] (.int (0 : Int32)) := Arv.set A5 a5q a5S a5N a5H a5G (fits_nar_char _) W5 1 rfl (nb rfl)
  have N5 := Fr.snoc X5 N3 g_b1
  have Z6 := nt Z4 (Keep.of_wr W5).1
  have O6 := O4.wr W5 g_b1
  have K6 := K4.wr W5 (Or.inr sz_b1)
  refine gs (S' := T5.setTop (mkF m 18 #[iv ((1 : Int32))] [(.ref b1)])) st5 ?_
  refine gs (fun _ k => o_dup X5 hx hby d27_18 rfl (o_iconst (v := (2 : Int32)) X5 hx hby d27_19 (o_bipush (v := (112 : Int32)) X5 hx hby d27_20 k))) ?_
  obtain ⟨cl7, A7, a7q, a7S, a7N, a7H, a7G⟩ := id V5
  obtain ⟨T7, h7, X7, e7, W7, st7⟩ := stC X5 hx hZ e5 A7 (j := (2 : Int32)) (inb_of a7S ⟨by decide, by decide⟩) (g := (mkF m 22 #[iv ((1 : Int32))] [(.int (112 : Int32)), (.int (2 : Int32)), (.ref b1), (.ref b1)])) rfl rfl (hb hby d27_22)
  have V7 : Arv Z h7 b1 k1 .char (10 : Int32) [(.int (nar .char (97 : Int32))), (.int (nar .char (112 : Int32))), (.int (nar .char (112 : Int32))), (.int (0 : Int32)), (.int (0 : Int32)), (.int (0 : Int32)), (.int (0 : Int32)), (.int (0 : Int32)), (.int (0 : Int32)), (.int (0 : Int32))] (.int (0 : Int32)) := Arv.set A7 a7q a7S a7N a7H a7G (fits_nar_char _) W7 2 rfl (nb rfl)
  have N7 := Fr.snoc X7 N5 g_b1
  have Z8 := nt Z6 (Keep.of_wr W7).1
  have O8 := O6.wr W7 g_b1
  have K8 := K6.wr W7 (Or.inr sz_b1)
  refine gs (S' := T7.setTop (mkF m 23 #[iv ((1 : Int32))] [(.ref b1)])) st7 ?_
  refine gs (fun _ k => o_dup X7 hx hby d27_23 rfl (o_iconst (v := (3 : Int32)) X7 hx hby d27_24 (o_bipush (v := (108 : Int32)) X7 hx hby d27_25 k))) ?_
  obtain ⟨cl9, A9, a9q, a9S, a9N, a9H, a9G⟩ := id V7
  obtain ⟨T9, h9, X9, e9, W9, st9⟩ := stC X7 hx hZ e7 A9 (j := (3 : Int32)) (inb_of a9S ⟨by decide, by decide⟩) (g := (mkF m 27 #[iv ((1 : Int32))] [(.int (108 : Int32)), (.int (3 : Int32)), (.ref b1), (.ref b1)])) rfl rfl (hb hby d27_27)
  have V9 : Arv Z h9 b1 k1 .char (10 : Int32) [(.int (nar .char (97 : Int32))), (.int (nar .char (112 : Int32))), (.int (nar .char (112 : Int32))), (.int (nar .char (108 : Int32))), (.int (0 : Int32)), (.int (0 : Int32)), (.int (0 : Int32)), (.int (0 : Int32)), (.int (0 : Int32)), (.int (0 : Int32))] (.int (0 : Int32)) := Arv.set A9 a9q a9S a9N a9H a9G (fits_nar_char _) W9 3 rfl (nb rfl)
  have N9 := Fr.snoc X9 N7 g_b1
  have Z10 := nt Z8 (Keep.of_wr W9).1
  have O10 := O8.wr W9 g_b1
  have K10 := K8.wr W9 (Or.inr sz_b1)
  refine gs (S' := T9.setTop (mkF m 28 #[iv ((1 : Int32))] [(.ref b1)])) st9 ?_
  refine gs (fun _ k => o_dup X9 hx hby d27_28 rfl (o_iconst (v := (4 : Int32)) X9 hx hby d27_29 (o_bipush (v := (105 : Int32)) X9 hx hby d27_30 k))) ?_
  obtain ⟨cl11, A11, a11q, a11S, a11N, a11H, a11G⟩ := id V9
  obtain ⟨T11, h11, X11, e11, W11, st11⟩ := stC X9 hx hZ e9 A11 (j := (4 : Int32)) (inb_of a11S ⟨by decide, by decide⟩) (g := (mkF m 32 #[iv ((1 : Int32))] [(.int (105 : Int32)), (.int (4 : Int32)), (.ref b1), (.ref b1)])) rfl rfl (hb hby d27_32)
  have V11 : Arv Z h11 b1 k1 .char (10 : Int32) [(.int (nar .char (97 : Int32))), (.int (nar .char (112 : Int32))), (.int (nar .char (112 : Int32))), (.int (nar .char (108 : Int32))), (.int (nar .char (105 : Int32))), (.int (0 : Int32)), (.int (0 : Int32)), (.int (0 : Int32)), (.int (0 : Int32)), (.int (0 : Int32))] (.int (0 : Int32)) := Arv.set A11 a11q a11S a11N a11H a11G (fits_nar_char _) W11 4 rfl (nb rfl)
  have N11 := Fr.snoc X11 N9 g_b1
  have Z12 := nt Z10 (Keep.of_wr W11).1
  have O12 := O10.wr W11 g_b1
  have K12 := K10.wr W11 (Or.inr sz_b1)
  refine gs (S' := T11.setTop (mkF m 33 #[iv ((1 : Int32))] [(.ref b1)])) st11 ?_
  refine gs (fun _ k => o_dup X11 hx hby d27_33 rfl (o_iconst (v := (5 : Int32)) X11 hx hby d27_34 (o_bipush (v := (99 : Int32)) X11 hx hby d27_35 k))) ?_
  obtain ⟨cl13, A13, a13q, a13S, a13N, a13H, a13G⟩ := id V11
  obtain ⟨T13, h13, X13, e13, W13, st13⟩ := stC X11 hx hZ e11 A13 (j := (5 : Int32)) (inb_of a13S ⟨by decide, by decide⟩) (g := (mkF m 37 #[iv ((1 : Int32))] [(.int (99 : Int32)), (.int (5 : Int32)), (.ref b1), (.ref b1)])) rfl rfl (hb hby d27_37)
  have V13 : Arv Z h13 b1 k1 .char (10 : Int32) [(.int (nar .char (97 : Int32))), (.int (nar .char (112 : Int32))), (.int (nar .char (112 : Int32))), (.int (nar .char (108 : Int32))), (.int (nar .char (105 : Int32))), (.int (nar .char (99 : Int32))), (.int (0 : Int32)), (.int (0 : Int32)), (.int (0 : Int32)), (.int (0 : Int32))] (.int (0 : Int32)) := Arv.set A13 a13q a13S a13N a13H a13G (fits_nar_char _) W13 5 rfl (nb rfl)
  have N13 := Fr.snoc X13 N11 g_b1
  have Z14 := nt Z12 (Keep.of_wr W13).1
  have O14 := O12.wr W13 g_b1
  have K14 := K12.wr W13 (Or.inr sz_b1)
  refine gs (S' := T13.setTop (mkF m 38 #[iv ((1 : Int32))] [(.ref b1)])) st13 ?_
  refine gs (fun _ k => o_dup X13 hx hby d27_38 rfl (o_bipush (v := (6 : Int32)) X13 hx hby d27_39 (o_bipush (v := (97 : Int32)) X13 hx hby d27_41 k))) ?_
  obtain ⟨cl15, A15, a15q, a15S, a15N, a15H, a15G⟩ := id V13
  obtain ⟨T15, h15, X15, e15, W15, st15⟩ := stC X13 hx hZ e13 A15 (j := (6 : Int32)) (inb_of a15S ⟨by decide, by decide⟩) (g := (mkF m 43 #[iv ((1 : Int32))] [(.int (97 : Int32)), (.int (6 : Int32)), (.ref b1), (.ref b1)])) rfl rfl (hb hby d27_43)
  have V15 : Arv Z h15 b1 k1 .char (10 : Int32) [(.int (nar .char (97 : Int32))), (.int (nar .char (112 : Int32))), (.int (nar .char (112 : Int32))), (.int (nar .char (108 : Int32))), (.int (nar .char (105 : Int32))), (.int (nar .char (99 : Int32))), (.int (nar .char (97 : Int32))), (.int (0 : Int32)), (.int (0 : Int32)), (.int (0 : Int32))] (.int (0 : Int32)) := Arv.set A15 a15q a15S a15N a15H a15G (fits_nar_char _) W15 6 rfl (nb rfl)
  have N15 := Fr.snoc X15 N13 g_b1
  have Z16 := nt Z14 (Keep.of_wr W15).1
  have O16 := O14.wr W15 g_b1
  have K16 := K14.wr W15 (Or.inr sz_b1)
  refine gs (S' := T15.setTop (mkF m 44 #[iv ((1 : Int32))] [(.ref b1)])) st15 ?_
  refine gs (fun _ k => o_dup X15 hx hby d27_44 rfl (o_bipush (v := (7 : Int32)) X15 hx hby d27_45 (o_bipush (v := (116 : Int32)) X15 hx hby d27_47 k))) ?_
  obtain ⟨cl17, A17, a17q, a17S, a17N, a17H, a17G⟩ := id V15
  obtain ⟨T17, h17, X17, e17, W17, st17⟩ := stC X15 hx hZ e15 A17 (j := (7 : Int32)) (inb_of a17S ⟨by decide, by decide⟩) (g := (mkF m 49 #[iv ((1 : Int32))] [(.int (116 : Int32)), (.int (7 : Int32)), (.ref b1), (.ref b1)])) rfl rfl (hb hby d27_49)
  have V17 : Arv Z h17 b1 k1 .char (10 : Int32) [(.int (nar .char (97 : Int32))), (.int (nar .char (112 : Int32))), (.int (nar .char (112 : Int32))), (.int (nar .char (108 : Int32))), (.int (nar .char (105 : Int32))), (.int (nar .char (99 : Int32))), (.int (nar .char (97 : Int32))), (.int (nar .char (116 : Int32))), (.int (0 : Int32)), (.int (0 : Int32))] (.int (0 : Int32)) := Arv.set A17 a17q a17S a17N a17H a17G (fits_nar_char _) W17 7 rfl (nb rfl)
  have N17 := Fr.snoc X17 N15 g_b1
  have Z18 := nt Z16 (Keep.of_wr W17).1
  have O18 := O16.wr W17 g_b1
  have K18 := K16.wr W17 (Or.inr sz_b1)
  refine gs (S' := T17.setTop (mkF m 50 #[iv ((1 : Int32))] [(.ref b1)])) st17 ?_
  refine gs (fun _ k => o_dup X17 hx hby d27_50 rfl (o_bipush (v := (8 : Int32)) X17 hx hby d27_51 (o_bipush (v := (105 : Int32)) X17 hx hby d27_53 k))) ?_
  obtain ⟨cl19, A19, a19q, a19S, a19N, a19H, a19G⟩ := id V17
  obtain ⟨T19, h19, X19, e19, W19, st19⟩ := stC X17 hx hZ e17 A19 (j := (8 : Int32)) (inb_of a19S ⟨by decide, by decide⟩) (g := (mkF m 55 #[iv ((1 : Int32))] [(.int (105 : Int32)), (.int (8 : Int32)), (.ref b1), (.ref b1)])) rfl rfl (hb hby d27_55)
  have V19 : Arv Z h19 b1 k1 .char (10 : Int32) [(.int (nar .char (97 : Int32))), (.int (nar .char (112 : Int32))), (.int (nar .char (112 : Int32))), (.int (nar .char (108 : Int32))), (.int (nar .char (105 : Int32))), (.int (nar .char (99 : Int32))), (.int (nar .char (97 : Int32))), (.int (nar .char (116 : Int32))), (.int (nar .char (105 : Int32))), (.int (0 : Int32))] (.int (0 : Int32)) := Arv.set A19 a19q a19S a19N a19H a19G (fits_nar_char _) W19 8 rfl (nb rfl)
  have N19 := Fr.snoc X19 N17 g_b1
  have Z20 := nt Z18 (Keep.of_wr W19).1
  have O20 := O18.wr W19 g_b1
  have K20 := K18.wr W19 (Or.inr sz_b1)
  refine gs (S' := T19.setTop (mkF m 56 #[iv ((1 : Int32))] [(.ref b1)])) st19 ?_
  refine gs (fun _ k => o_dup X19 hx hby d27_56 rfl (o_bipush (v := (9 : Int32)) X19 hx hby d27_57 (o_bipush (v := (111 : Int32)) X19 hx hby d27_59 k))) ?_
  obtain ⟨cl21, A21, a21q, a21S, a21N, a21H, a21G⟩ := id V19
  obtain ⟨T21, h21, X21, e21, W21, st21⟩ := stC X19 hx hZ e19 A21 (j := (9 : Int32)) (inb_of a21S ⟨by decide, by decide⟩) (g := (mkF m 61 #[iv ((1 : Int32))] [(.int (111 : Int32)), (.int (9 : Int32)), (.ref b1), (.ref b1)])) rfl rfl (hb hby d27_61)
  have V21 : Arv Z h21 b1 k1 .char (10 : Int32) [(.int (nar .char (97 : Int32))), (.int (nar .char (112 : Int32))), (.int (nar .char (112 : Int32))), (.int (nar .char (108 : Int32))), (.int (nar .char (105 : Int32))), (.int (nar .char (99 : Int32))), (.int (nar .char (97 : Int32))), (.int (nar .char (116 : Int32))), (.int (nar .char (105 : Int32))), (.int (nar .char (111 : Int32)))] (.int (0 : Int32)) := Arv.set A21 a21q a21S a21N a21H a21G (fits_nar_char _) W21 9 rfl (nb rfl)
  have N21 := Fr.snoc X21 N19 g_b1
  have Z22 := nt Z20 (Keep.of_wr W21).1
  have O22 := O20.wr W21 g_b1
  have K22 := K20.wr W21 (Or.inr sz_b1)
  refine gs (S' := T21.setTop (mkF m 62 #[iv ((1 : Int32))] [(.ref b1)])) st21 ?_
  have Vn := V21
  simp only [own_nc_97, own_nc_99, own_nc_105, own_nc_108, own_nc_111, own_nc_112, own_nc_116] at Vn
  refine gout (v := some (.ref b1)) X21 Bd.notSynchronized (fun h => by rw [Bd.returns] at h; cases h) (by decide) (by decide) ?_ (fun fs hr => retOut X21 hx Bd.returns rfl (Or.inr (Or.inr (Or.inr (Or.inr ⟨rfl, rfl, rfl⟩)))) (hb hby d27_62) hr)
  rw [e21]
  exact ⟨_, _, rfl, N21, K22, sz_b1, Vn⟩
theorem ef_604 (m : MethodId) (x0 : Int32) : entryFrame m #[(.int x0)] 1 = mkF m 0 #[.val (.int x0)] [] := by first | (simp [entryFrame, mkF, argsToLocals, Value.category]; done) | rfl
theorem d27_63 : decode method_6_code 63 = .ok (.bipush 11, 2) := by decide +kernel
theorem d27_65 : decode method_6_code 65 = .ok (.newarray .char, 2) := by decide +kernel
theorem d27_67 : decode method_6_code 67 = .ok (.dup, 1) := by decide +kernel
theorem d27_68 : decode method_6_code 68 = .ok (.iconst 0, 1) := by decide +kernel
theorem d27_69 : decode method_6_code 69 = .ok (.bipush 118, 2) := by decide +kernel
theorem d27_71 : decode method_6_code 71 = .ok (.castore, 1) := by decide +kernel
theorem d27_72 : decode method_6_code 72 = .ok (.dup, 1) := by decide +kernel
theorem d27_73 : decode method_6_code 73 = .ok (.iconst 1, 1) := by decide +kernel
theorem d27_74 : decode method_6_code 74 = .ok (.bipush 110, 2) := by decide +kernel
theorem d27_76 : decode method_6_code 76 = .ok (.castore, 1) := by decide +kernel
theorem d27_77 : decode method_6_code 77 = .ok (.dup, 1) := by decide +kernel
theorem d27_78 : decode method_6_code 78 = .ok (.iconst 2, 1) := by decide +kernel
theorem d27_79 : decode method_6_code 79 = .ok (.bipush 100, 2) := by decide +kernel
theorem d27_81 : decode method_6_code 81 = .ok (.castore, 1) := by decide +kernel
theorem d27_82 : decode method_6_code 82 = .ok (.dup, 1) := by decide +kernel
theorem d27_83 : decode method_6_code 83 = .ok (.iconst 3, 1) := by decide +kernel
theorem d27_84 : decode method_6_code 84 = .ok (.bipush 46, 2) := by decide +kernel
theorem d27_86 : decode method_6_code 86 = .ok (.castore, 1) := by decide +kernel
theorem d27_87 : decode method_6_code 87 = .ok (.dup, 1) := by decide +kernel
theorem d27_88 : decode method_6_code 88 = .ok (.iconst 4, 1) := by decide +kernel
theorem d27_89 : decode method_6_code 89 = .ok (.bipush 97, 2) := by decide +kernel
theorem d27_91 : decode method_6_code 91 = .ok (.castore, 1) := by decide +kernel
theorem d27_92 : decode method_6_code 92 = .ok (.dup, 1) := by decide +kernel
theorem d27_93 : decode method_6_code 93 = .ok (.iconst 5, 1) := by decide +kernel
theorem d27_94 : decode method_6_code 94 = .ok (.bipush 112, 2) := by decide +kernel
theorem d27_96 : decode method_6_code 96 = .ok (.castore, 1) := by decide +kernel
theorem d27_97 : decode method_6_code 97 = .ok (.dup, 1) := by decide +kernel
theorem d27_98 : decode method_6_code 98 = .ok (.bipush 6, 2) := by decide +kernel
theorem d27_100 : decode method_6_code 100 = .ok (.bipush 105, 2) := by decide +kernel
theorem d27_102 : decode method_6_code 102 = .ok (.castore, 1) := by decide +kernel
theorem d27_103 : decode method_6_code 103 = .ok (.dup, 1) := by decide +kernel
theorem d27_104 : decode method_6_code 104 = .ok (.bipush 7, 2) := by decide +kernel
theorem d27_106 : decode method_6_code 106 = .ok (.bipush 43, 2) := by decide +kernel
theorem d27_108 : decode method_6_code 108 = .ok (.castore, 1) := by decide +kernel
theorem d27_109 : decode method_6_code 109 = .ok (.dup, 1) := by decide +kernel
theorem d27_110 : decode method_6_code 110 = .ok (.bipush 8, 2) := by decide +kernel
theorem d27_112 : decode method_6_code 112 = .ok (.bipush 106, 2) := by decide +kernel
theorem d27_114 : decode method_6_code 114 = .ok (.castore, 1) := by decide +kernel
theorem d27_115 : decode method_6_code 115 = .ok (.dup, 1) := by decide +kernel
theorem d27_116 : decode method_6_code 116 = .ok (.bipush 9, 2) := by decide +kernel
theorem d27_118 : decode method_6_code 118 = .ok (.bipush 115, 2) := by decide +kernel
theorem d27_120 : decode method_6_code 120 = .ok (.castore, 1) := by decide +kernel
theorem d27_121 : decode method_6_code 121 = .ok (.dup, 1) := by decide +kernel
theorem d27_122 : decode method_6_code 122 = .ok (.bipush 10, 2) := by decide +kernel
theorem d27_124 : decode method_6_code 124 = .ok (.bipush 111, 2) := by decide +kernel
theorem d27_126 : decode method_6_code 126 = .ok (.castore, 1) := by decide +kernel
theorem d27_127 : decode method_6_code 127 = .ok (.areturn, 1) := by decide +kernel
set_option maxRecDepth 65536 in
set_option maxHeartbeats 40000000 in
theorem rm_shorter0 (l : Launch) (Z : State) (a0 : Array Value) (hw : HW Z a0) (ws : List Jvm.Cond)  (h0 : Heap) (n0 : Nat) (Z0 : n0 ≤ h0.size) (O0 : Old Z n0 h0)  :
    Ctr l Z my12 method_6_code 1 ((Option.some (Jvm.ClassFile.FieldType.array Jvm.ClassFile.FieldType.char))) ws (⟨0, 1, 11, 0⟩ : Room) #[(.int (0 : Int32))] h0 (fun v h L => ∃ (b : Addr) (kb : ClassId), v = some (.ref b) ∧ Fr n0 L ∧ Keep h0 h [] ∧ h0.size ≤ b ∧ Arv Z h b kb .char (11 : Int32) (own_S0.map Value.int) (.int (0 : Int32))) := by
  refine Ctr.go (plainFor_of_name pn_345) fun p e s m below meth c s₁ Bd hx hby hml hZ hown hnm X0 e0 => ?_
  have N0 := Fr.nil n0
  have K0 := Keep.refl h0 []
  refine gs (S' := s₁.setTop (mkF m 0 #[iv ((0 : Int32))] [])) (fun tg kg => castTop (ef_604 m (0 : Int32)) kg) ?_
  refine gs (fun _ k => o_iloadN X0 hx hby d27_0 rfl (o_ifYes (pc' := 63) X0 hx hby d27_1 ((if0 _ _).trans (teq (by decide : (0 : Int32) = (0 : Int32))).1) (o_bipush (v := (11 : Int32)) X0 hx hby d27_63 k))) ?_
  obtain ⟨T1, h1, k1, X1, e1, E1, A1, st1⟩ := newP X0 hx hZ (ow hw 13 rfl) e0 (g := (mkF m 65 #[iv ((0 : Int32))] [(.int (11 : Int32))])) rfl (hb hby d27_65) rfl (by decide) (cap := 11) (by decide) (by decide) (by decide) (by decide)
  obtain ⟨b1, q1⟩ : ∃ z, z = h0.size := ⟨_, rfl⟩
  rw [← q1] at A1 st1
  have g_b1 : n0 ≤ b1 := nt Z0 (Nat.le_of_eq q1.symm)
  have sz_b1 : h0.size ≤ b1 := nt K0.1 (Nat.le_of_eq q1.symm)
  have Z2 := nt Z0 E1.1
  have O2 := O0.ext E1
  have K2 := K0.ext E1
  have V1 : Arv Z h1 b1 k1 .char (11 : Int32) [(.int (0 : Int32)), (.int (0 : Int32)), (.int (0 : Int32)), (.int (0 : Int32)), (.int (0 : Int32)), (.int (0 : Int32)), (.int (0 : Int32)), (.int (0 : Int32)), (.int (0 : Int32)), (.int (0 : Int32)), (.int (0 : Int32))] (.int (0 : Int32)) := (Arv.new A1 (by decide)).pad (pad_rep [] (.int (0 : Int32)) 11)
  refine gs (S' := T1.setTop (mkF m 67 #[iv ((0 : Int32))] [(.ref b1)])) st1 ?_
  refine gs (fun _ k => o_dup X1 hx hby d27_67 rfl (o_iconst (v := (0 : Int32)) X1 hx hby d27_68 (o_bipush (v := (118 : Int32)) X1 hx hby d27_69 k))) ?_
  obtain ⟨cl3, A3, a3q, a3S, a3N, a3H, a3G⟩ := id V1
  obtain ⟨T3, h3, X3, e3, W3, st3⟩ := stC X1 hx hZ e1 A3 (j := (0 : Int32)) (inb_of a3S ⟨by decide, by decide⟩) (g := (mkF m 71 #[iv ((0 : Int32))] [(.int (118 : Int32)), (.int (0 : Int32)), (.ref b1), (.ref b1)])) rfl rfl (hb hby d27_71)
  have V3 : Arv Z h3 b1 k1 .char (11 : Int32) [(.int (nar .char (118 : Int32))), (.int (0 : Int32)), (.int (0 : Int32)), (.int (0 : Int32)), (.int (0 : Int32)), (.int (0 : Int32)), (.int (0 : Int32)), (.int (0 : Int32)), (.int (0 : Int32)), (.int (0 : Int32)), (.int (0 : Int32))] (.int (0 : Int32)) := Arv.set A3 a3q a3S a3N a3H a3G (fits_nar_char _) W3 0 rfl (nb rfl)
  have N3 := Fr.snoc X3 N0 g_b1
  have Z4 := nt Z2 (Keep.of_wr W3).1
  have O4 := O2.wr W3 g_b1
  have K4 := K2.wr W3 (Or.inr sz_b1)
  refine gs (S' := T3.setTop (mkF m 72 #[iv ((0 : Int32))] [(.ref b1)])) st3 ?_
  refine gs (fun _ k => o_dup X3 hx hby d27_72 rfl (o_iconst (v := (1 : Int32)) X3 hx hby d27_73 (o_bipush (v := (110 : Int32)) X3 hx hby d27_74 k))) ?_
  obtain ⟨cl5, A5, a5q, a5S, a5N, a5H, a5G⟩ := id V3
  obtain ⟨T5, h5, X5, e5, W5, st5⟩ := stC X3 hx hZ e3 A5 (j := (1 : Int32)) (inb_of a5S ⟨by decide, by decide⟩) (g := (mkF m 76 #[iv ((0 : Int32))] [(.int (110 : Int32)), (.int (1 : Int32)), (.ref b1), (.ref b1)])) rfl rfl (hb hby d27_76)
  have V5 : Arv Z h5 b1 k1 .char (11 : Int32) [(.int (nar .char (118 : Int32))), (.int (nar .char (110 : Int32))), (.int (0 : Int32)), (.int (0 : Int32)), (.int (0 : Int32)), (.int (0 : Int32)), (.int (0 : Int32)), (.int (0 : Int32)), (.int (0 : Int32)), (.int (0 : Int32)), (.int (0 : Int32))] (.int (0 : Int32)) := Arv.set A5 a5q a5S a5N a5H a5G (fits_nar_char _) W5 1 rfl (nb rfl)
  have N5 := Fr.snoc X5 N3 g_b1
  have Z6 := nt Z4 (Keep.of_wr W5).1
  have O6 := O4.wr W5 g_b1
  have K6 := K4.wr W5 (Or.inr sz_b1)
  refine gs (S' := T5.setTop (mkF m 77 #[iv ((0 : Int32))] [(.ref b1)])) st5 ?_
  refine gs (fun _ k => o_dup X5 hx hby d27_77 rfl (o_iconst (v := (2 : Int32)) X5 hx hby d27_78 (o_bipush (v := (100 : Int32)) X5 hx hby d27_79 k))) ?_
  obtain ⟨cl7, A7, a7q, a7S, a7N, a7H, a7G⟩ := id V5
  obtain ⟨T7, h7, X7, e7, W7, st7⟩ := stC X5 hx hZ e5 A7 (j := (2 : Int32)) (inb_of a7S ⟨by decide, by decide⟩) (g := (mkF m 81 #[iv ((0 : Int32))] [(.int (100 : Int32)), (.int (2 : Int32)), (.ref b1), (.ref b1)])) rfl rfl (hb hby d27_81)
  have V7 : Arv Z h7 b1 k1 .char (11 : Int32) [(.int (nar .char (118 : Int32))), (.int (nar .char (110 : Int32))), (.int (nar .char (100 : Int32))), (.int (0 : Int32)), (.int (0 : Int32)), (.int (0 : Int32)), (.int (0 : Int32)), (.int (0 : Int32)), (.int (0 : Int32)), (.int (0 : Int32)), (.int (0 : Int32))] (.int (0 : Int32)) := Arv.set A7 a7q a7S a7N a7H a7G (fits_nar_char _) W7 2 rfl (nb rfl)
  have N7 := Fr.snoc X7 N5 g_b1
  have Z8 := nt Z6 (Keep.of_wr W7).1
  have O8 := O6.wr W7 g_b1
  have K8 := K6.wr W7 (Or.inr sz_b1)
  refine gs (S' := T7.setTop (mkF m 82 #[iv ((0 : Int32))] [(.ref b1)])) st7 ?_
  refine gs (fun _ k => o_dup X7 hx hby d27_82 rfl (o_iconst (v := (3 : Int32)) X7 hx hby d27_83 (o_bipush (v := (46 : Int32)) X7 hx hby d27_84 k))) ?_
  obtain ⟨cl9, A9, a9q, a9S, a9N, a9H, a9G⟩ := id V7
  obtain ⟨T9, h9, X9, e9, W9, st9⟩ := stC X7 hx hZ e7 A9 (j := (3 : Int32)) (inb_of a9S ⟨by decide, by decide⟩) (g := (mkF m 86 #[iv ((0 : Int32))] [(.int (46 : Int32)), (.int (3 : Int32)), (.ref b1), (.ref b1)])) rfl rfl (hb hby d27_86)
  have V9 : Arv Z h9 b1 k1 .char (11 : Int32) [(.int (nar .char (118 : Int32))), (.int (nar .char (110 : Int32))), (.int (nar .char (100 : Int32))), (.int (nar .char (46 : Int32))), (.int (0 : Int32)), (.int (0 : Int32)), (.int (0 : Int32)), (.int (0 : Int32)), (.int (0 : Int32)), (.int (0 : Int32)), (.int (0 : Int32))] (.int (0 : Int32)) := Arv.set A9 a9q a9S a9N a9H a9G (fits_nar_char _) W9 3 rfl (nb rfl)
  have N9 := Fr.snoc X9 N7 g_b1
  have Z10 := nt Z8 (Keep.of_wr W9).1
  have O10 := O8.wr W9 g_b1
  have K10 := K8.wr W9 (Or.inr sz_b1)
  refine gs (S' := T9.setTop (mkF m 87 #[iv ((0 : Int32))] [(.ref b1)])) st9 ?_
  refine gs (fun _ k => o_dup X9 hx hby d27_87 rfl (o_iconst (v := (4 : Int32)) X9 hx hby d27_88 (o_bipush (v := (97 : Int32)) X9 hx hby d27_89 k))) ?_
  obtain ⟨cl11, A11, a11q, a11S, a11N, a11H, a11G⟩ := id V9
  obtain ⟨T11, h11, X11, e11, W11, st11⟩ := stC X9 hx hZ e9 A11 (j := (4 : Int32)) (inb_of a11S ⟨by decide, by decide⟩) (g := (mkF m 91 #[iv ((0 : Int32))] [(.int (97 : Int32)), (.int (4 : Int32)), (.ref b1), (.ref b1)])) rfl rfl (hb hby d27_91)
  have V11 : Arv Z h11 b1 k1 .char (11 : Int32) [(.int (nar .char (118 : Int32))), (.int (nar .char (110 : Int32))), (.int (nar .char (100 : Int32))), (.int (nar .char (46 : Int32))), (.int (nar .char (97 : Int32))), (.int (0 : Int32)), (.int (0 : Int32)), (.int (0 : Int32)), (.int (0 : Int32)), (.int (0 : Int32)), (.int (0 : Int32))] (.int (0 : Int32)) := Arv.set A11 a11q a11S a11N a11H a11G (fits_nar_char _) W11 4 rfl (nb rfl)
  have N11 := Fr.snoc X11 N9 g_b1
  have Z12 := nt Z10 (Keep.of_wr W11).1
  have O12 := O10.wr W11 g_b1
  have K12 := K10.wr W11 (Or.inr sz_b1)
  refine gs (S' := T11.setTop (mkF m 92 #[iv ((0 : Int32))] [(.ref b1)])) st11 ?_
  refine gs (fun _ k => o_dup X11 hx hby d27_92 rfl (o_iconst (v := (5 : Int32)) X11 hx hby d27_93 (o_bipush (v := (112 : Int32)) X11 hx hby d27_94 k))) ?_
  obtain ⟨cl13, A13, a13q, a13S, a13N, a13H, a13G⟩ := id V11
  obtain ⟨T13, h13, X13, e13, W13, st13⟩ := stC X11 hx hZ e11 A13 (j := (5 : Int32)) (inb_of a13S ⟨by decide, by decide⟩) (g := (mkF m 96 #[iv ((0 : Int32))] [(.int (112 : Int32)), (.int (5 : Int32)), (.ref b1), (.ref b1)])) rfl rfl (hb hby d27_96)
  have V13 : Arv Z h13 b1 k1 .char (11 : Int32) [(.int (nar .char (118 : Int32))), (.int (nar .char (110 : Int32))), (.int (nar .char (100 : Int32))), (.int (nar .char (46 : Int32))), (.int (nar .char (97 : Int32))), (.int (nar .char (112 : Int32))), (.int (0 : Int32)), (.int (0 : Int32)), (.int (0 : Int32)), (.int (0 : Int32)), (.int (0 : Int32))] (.int (0 : Int32)) := Arv.set A13 a13q a13S a13N a13H a13G (fits_nar_char _) W13 5 rfl (nb rfl)
  have N13 := Fr.snoc X13 N11 g_b1
  have Z14 := nt Z12 (Keep.of_wr W13).1
  have O14 := O12.wr W13 g_b1
  have K14 := K12.wr W13 (Or.inr sz_b1)
  refine gs (S' := T13.setTop (mkF m 97 #[iv ((0 : Int32))] [(.ref b1)])) st13 ?_
  refine gs (fun _ k => o_dup X13 hx hby d27_97 rfl (o_bipush (v := (6 : Int32)) X13 hx hby d27_98 (o_bipush (v := (105 : Int32)) X13 hx hby d27_100 k))) ?_
  obtain ⟨cl15, A15, a15q, a15S, a15N, a15H, a15G⟩ := id V13
  obtain ⟨T15, h15, X15, e15, W15, st15⟩ := stC X13 hx hZ e13 A15 (j := (6 : Int32)) (inb_of a15S ⟨by decide, by decide⟩) (g := (mkF m 102 #[iv ((0 : Int32))] [(.int (105 : Int32)), (.int (6 : Int32)), (.ref b1), (.ref b1)])) rfl rfl (hb hby d27_102)
  have V15 : Arv Z h15 b1 k1 .char (11 : Int32) [(.int (nar .char (118 : Int32))), (.int (nar .char (110 : Int32))), (.int (nar .char (100 : Int32))), (.int (nar .char (46 : Int32))), (.int (nar .char (97 : Int32))), (.int (nar .char (112 : Int32))), (.int (nar .char (105 : Int32))), (.int (0 : Int32)), (.int (0 : Int32)), (.int (0 : Int32)), (.int (0 : Int32))] (.int (0 : Int32)) := Arv.set A15 a15q a15S a15N a15H a15G (fits_nar_char _) W15 6 rfl (nb rfl)
  have N15 := Fr.snoc X15 N13 g_b1
  have Z16 := nt Z14 (Keep.of_wr W15).1
  have O16 := O14.wr W15 g_b1
  have K16 := K14.wr W15 (Or.inr sz_b1)
  refine gs (S' := T15.setTop (mkF m 103 #[iv ((0 : Int32))] [(.ref b1)])) st15 ?_
  refine gs (fun _ k => o_dup X15 hx hby d27_103 rfl (o_bipush (v := (7 : Int32)) X15 hx hby d27_104 (o_bipush (v := (43 : Int32)) X15 hx hby d27_106 k))) ?_
  obtain ⟨cl17, A17, a17q, a17S, a17N, a17H, a17G⟩ := id V15
  obtain ⟨T17, h17, X17, e17, W17, st17⟩ := stC X15 hx hZ e15 A17 (j := (7 : Int32)) (inb_of a17S ⟨by decide, by decide⟩) (g := (mkF m 108 #[iv ((0 : Int32))] [(.int (43 : Int32)), (.int (7 : Int32)), (.ref b1), (.ref b1)])) rfl rfl (hb hby d27_108)
  have V17 : Arv Z h17 b1 k1 .char (11 : Int32) [(.int (nar .char (118 : Int32))), (.int (nar .char (110 : Int32))), (.int (nar .char (100 : Int32))), (.int (nar .char (46 : Int32))), (.int (nar .char (97 : Int32))), (.int (nar .char (112 : Int32))), (.int (nar .char (105 : Int32))), (.int (nar .char (43 : Int32))), (.int (0 : Int32)), (.int (0 : Int32)), (.int (0 : Int32))] (.int (0 : Int32)) := Arv.set A17 a17q a17S a17N a17H a17G (fits_nar_char _) W17 7 rfl (nb rfl)
  have N17 := Fr.snoc X17 N15 g_b1
  have Z18 := nt Z16 (Keep.of_wr W17).1
  have O18 := O16.wr W17 g_b1
  have K18 := K16.wr W17 (Or.inr sz_b1)
  refine gs (S' := T17.setTop (mkF m 109 #[iv ((0 : Int32))] [(.ref b1)])) st17 ?_
  refine gs (fun _ k => o_dup X17 hx hby d27_109 rfl (o_bipush (v := (8 : Int32)) X17 hx hby d27_110 (o_bipush (v := (106 : Int32)) X17 hx hby d27_112 k))) ?_
  obtain ⟨cl19, A19, a19q, a19S, a19N, a19H, a19G⟩ := id V17
  obtain ⟨T19, h19, X19, e19, W19, st19⟩ := stC X17 hx hZ e17 A19 (j := (8 : Int32)) (inb_of a19S ⟨by decide, by decide⟩) (g := (mkF m 114 #[iv ((0 : Int32))] [(.int (106 : Int32)), (.int (8 : Int32)), (.ref b1), (.ref b1)])) rfl rfl (hb hby d27_114)
  have V19 : Arv Z h19 b1 k1 .char (11 : Int32) [(.int (nar .char (118 : Int32))), (.int (nar .char (110 : Int32))), (.int (nar .char (100 : Int32))), (.int (nar .char (46 : Int32))), (.int (nar .char (97 : Int32))), (.int (nar .char (112 : Int32))), (.int (nar .char (105 : Int32))), (.int (nar .char (43 : Int32))), (.int (nar .char (106 : Int32))), (.int (0 : Int32)), (.int (0 : Int32))] (.int (0 : Int32)) := Arv.set A19 a19q a19S a19N a19H a19G (fits_nar_char _) W19 8 rfl (nb rfl)
  have N19 := Fr.snoc X19 N17 g_b1
  have Z20 := nt Z18 (Keep.of_wr W19).1
  have O20 := O18.wr W19 g_b1
  have K20 := K18.wr W19 (Or.inr sz_b1)
  refine gs (S' := T19.setTop (mkF m 115 #[iv ((0 : Int32))] [(.ref b1)])) st19 ?_
  refine gs (fun _ k => o_dup X19 hx hby d27_115 rfl (o_bipush (v := (9 : Int32)) X19 hx hby d27_116 (o_bipush (v := (115 : Int32)) X19 hx hby d27_118 k))) ?_
  obtain ⟨cl21, A21, a21q, a21S, a21N, a21H, a21G⟩ := id V19
  obtain ⟨T21, h21, X21, e21, W21, st21⟩ := stC X19 hx hZ e19 A21 (j := (9 : Int32)) (inb_of a21S ⟨by decide, by decide⟩) (g := (mkF m 120 #[iv ((0 : Int32))] [(.int (115 : Int32)), (.int (9 : Int32)), (.ref b1), (.ref b1)])) rfl rfl (hb hby d27_120)
  have V21 : Arv Z h21 b1 k1 .char (11 : Int32) [(.int (nar .char (118 : Int32))), (.int (nar .char (110 : Int32))), (.int (nar .char (100 : Int32))), (.int (nar .char (46 : Int32))), (.int (nar .char (97 : Int32))), (.int (nar .char (112 : Int32))), (.int (nar .char (105 : Int32))), (.int (nar .char (43 : Int32))), (.int (nar .char (106 : Int32))), (.int (nar .char (115 : Int32))), (.int (0 : Int32))] (.int (0 : Int32)) := Arv.set A21 a21q a21S a21N a21H a21G (fits_nar_char _) W21 9 rfl (nb rfl)
  have N21 := Fr.snoc X21 N19 g_b1
  have Z22 := nt Z20 (Keep.of_wr W21).1
  have O22 := O20.wr W21 g_b1
  have K22 := K20.wr W21 (Or.inr sz_b1)
  refine gs (S' := T21.setTop (mkF m 121 #[iv ((0 : Int32))] [(.ref b1)])) st21 ?_
  refine gs (fun _ k => o_dup X21 hx hby d27_121 rfl (o_bipush (v := (10 : Int32)) X21 hx hby d27_122 (o_bipush (v := (111 : Int32)) X21 hx hby d27_124 k))) ?_
  obtain ⟨cl23, A23, a23q, a23S, a23N, a23H, a23G⟩ := id V21
  obtain ⟨T23, h23, X23, e23, W23, st23⟩ := stC X21 hx hZ e21 A23 (j := (10 : Int32)) (inb_of a23S ⟨by decide, by decide⟩) (g := (mkF m 126 #[iv ((0 : Int32))] [(.int (111 : Int32)), (.int (10 : Int32)), (.ref b1), (.ref b1)])) rfl rfl (hb hby d27_126)
  have V23 : Arv Z h23 b1 k1 .char (11 : Int32) [(.int (nar .char (118 : Int32))), (.int (nar .char (110 : Int32))), (.int (nar .char (100 : Int32))), (.int (nar .char (46 : Int32))), (.int (nar .char (97 : Int32))), (.int (nar .char (112 : Int32))), (.int (nar .char (105 : Int32))), (.int (nar .char (43 : Int32))), (.int (nar .char (106 : Int32))), (.int (nar .char (115 : Int32))), (.int (nar .char (111 : Int32)))] (.int (0 : Int32)) := Arv.set A23 a23q a23S a23N a23H a23G (fits_nar_char _) W23 10 rfl (nb rfl)
  have N23 := Fr.snoc X23 N21 g_b1
  have Z24 := nt Z22 (Keep.of_wr W23).1
  have O24 := O22.wr W23 g_b1
  have K24 := K22.wr W23 (Or.inr sz_b1)
  refine gs (S' := T23.setTop (mkF m 127 #[iv ((0 : Int32))] [(.ref b1)])) st23 ?_
  have Vn := V23
  simp only [own_nc_43, own_nc_46, own_nc_97, own_nc_100, own_nc_105, own_nc_106, own_nc_110, own_nc_111, own_nc_112, own_nc_115, own_nc_118] at Vn
  refine gout (v := some (.ref b1)) X23 Bd.notSynchronized (fun h => by rw [Bd.returns] at h; cases h) (by decide) (by decide) ?_ (fun fs hr => retOut X23 hx Bd.returns rfl (Or.inr (Or.inr (Or.inr (Or.inr ⟨rfl, rfl, rfl⟩)))) (hb hby d27_127) hr)
  rw [e23]
  exact ⟨_, _, rfl, N23, K24, sz_b1, Vn⟩
theorem ef_652 (m : MethodId) (x0 : Int32) (x1 : Int32) (x2 : Int32) (x3 : Int32) : entryFrame m #[(.int x0), (.int x1), (.int x2), (.int x3)] 7 = mkF m 0 #[.val (.int x0), .val (.int x1), .val (.int x2), .val (.int x3), .unset, .unset, .unset] [] := by first | (simp [entryFrame, mkF, argsToLocals, Value.category]; done) | rfl
theorem d28_0 : decode method_7_code 0 = .ok (.iload_n 1, 1) := by decide +kernel
theorem d28_1 : decode method_7_code 1 = .ok (.iconst 3, 1) := by decide +kernel
theorem d28_2 : decode method_7_code 2 = .ok (.iand, 1) := by decide +kernel
theorem d28_3 : decode method_7_code 3 = .ok (.istore 4, 2) := by decide +kernel
theorem d28_5 : decode method_7_code 5 = .ok (.iload_n 3, 1) := by decide +kernel
theorem d28_6 : decode method_7_code 6 = .ok (.invokestatic 26, 3) := by decide +kernel
theorem pd_659 : parseMethodDescriptor "(I)C" = some ⟨[.int], some .char⟩ := by decide +kernel
theorem d28_9 : decode method_7_code 9 = .ok (.istore 5, 2) := by decide +kernel
theorem d28_11 : decode method_7_code 11 = .ok (.iload 4, 2) := by decide +kernel
theorem d28_13 : decode method_7_code 13 = .ok (.ifCond .ne 15, 3) := by decide +kernel
theorem d28_16 : decode method_7_code 16 = .ok (.new 30, 3) := by decide +kernel
theorem d28_19 : decode method_7_code 19 = .ok (.dup, 1) := by decide +kernel
theorem d28_20 : decode method_7_code 20 = .ok (.iload_n 0, 1) := by decide +kernel
theorem d28_21 : decode method_7_code 21 = .ok (.invokestatic 32, 3) := by decide +kernel
theorem pd_667 : parseMethodDescriptor "(Z)[C" = some ⟨[.boolean], some (.array .char)⟩ := by decide +kernel
theorem d28_24 : decode method_7_code 24 = .ok (.invokespecial 36, 3) := by decide +kernel
theorem pd_669 : parseMethodDescriptor "([C)V" = some ⟨[(.array .char)], none⟩ := by decide +kernel
theorem d28_27 : decode method_7_code 27 = .ok (.areturn, 1) := by decide +kernel
theorem d28_28 : decode method_7_code 28 = .ok (.iload 4, 2) := by decide +kernel
theorem d28_30 : decode method_7_code 30 = .ok (.iconst 1, 1) := by decide +kernel
theorem d28_31 : decode method_7_code 31 = .ok (.if_icmp .ne 32, 3) := by decide +kernel
theorem d28_34 : decode method_7_code 34 = .ok (.iload_n 0, 1) := by decide +kernel
theorem d28_35 : decode method_7_code 35 = .ok (.invokestatic 32, 3) := by decide +kernel
theorem d28_38 : decode method_7_code 38 = .ok (.astore 6, 2) := by decide +kernel
theorem d28_40 : decode method_7_code 40 = .ok (.aload 6, 2) := by decide +kernel
theorem d28_42 : decode method_7_code 42 = .ok (.iload_n 2, 1) := by decide +kernel
theorem d28_43 : decode method_7_code 43 = .ok (.ldc 39, 2) := by decide +kernel
theorem d28_45 : decode method_7_code 45 = .ok (.iand, 1) := by decide +kernel
theorem d28_46 : decode method_7_code 46 = .ok (.aload 6, 2) := by decide +kernel
theorem d28_48 : decode method_7_code 48 = .ok (.arraylength, 1) := by decide +kernel
theorem d28_49 : decode method_7_code 49 = .ok (.irem, 1) := by decide +kernel
theorem d28_50 : decode method_7_code 50 = .ok (.iload 5, 2) := by decide +kernel
theorem d28_52 : decode method_7_code 52 = .ok (.castore, 1) := by decide +kernel
theorem d28_53 : decode method_7_code 53 = .ok (.new 30, 3) := by decide +kernel
theorem d28_56 : decode method_7_code 56 = .ok (.dup, 1) := by decide +kernel
theorem d28_57 : decode method_7_code 57 = .ok (.aload 6, 2) := by decide +kernel
theorem d28_59 : decode method_7_code 59 = .ok (.invokespecial 36, 3) := by decide +kernel
theorem d28_62 : decode method_7_code 62 = .ok (.areturn, 1) := by decide +kernel
theorem d28_63 : decode method_7_code 63 = .ok (.iload 4, 2) := by decide +kernel
theorem d28_65 : decode method_7_code 65 = .ok (.iconst 2, 1) := by decide +kernel
theorem d28_66 : decode method_7_code 66 = .ok (.if_icmp .ne 29, 3) := by decide +kernel
theorem d28_69 : decode method_7_code 69 = .ok (.iload_n 0, 1) := by decide +kernel
theorem d28_70 : decode method_7_code 70 = .ok (.invokestatic 40, 3) := by decide +kernel
theorem d28_73 : decode method_7_code 73 = .ok (.astore 6, 2) := by decide +kernel
theorem d28_75 : decode method_7_code 75 = .ok (.aload 6, 2) := by decide +kernel
theorem d28_77 : decode method_7_code 77 = .ok (.aload 6, 2) := by decide +kernel
theorem d28_79 : decode method_7_code 79 = .ok (.arraylength, 1) := by decide +kernel
theorem d28_80 : decode method_7_code 80 = .ok (.iconst 1, 1) := by decide +kernel
theorem d28_81 : decode method_7_code 81 = .ok (.isub, 1) := by decide +kernel
theorem d28_82 : decode method_7_code 82 = .ok (.iload 5, 2) := by decide +kernel
theorem d28_84 : decode method_7_code 84 = .ok (.castore, 1) := by decide +kernel
theorem d28_85 : decode method_7_code 85 = .ok (.new 30, 3) := by decide +kernel
theorem d28_88 : decode method_7_code 88 = .ok (.dup, 1) := by decide +kernel
theorem d28_89 : decode method_7_code 89 = .ok (.aload 6, 2) := by decide +kernel
theorem d28_91 : decode method_7_code 91 = .ok (.invokespecial 36, 3) := by decide +kernel
theorem d28_94 : decode method_7_code 94 = .ok (.areturn, 1) := by decide +kernel
theorem d28_95 : decode method_7_code 95 = .ok (.iload_n 0, 1) := by decide +kernel
theorem d28_96 : decode method_7_code 96 = .ok (.invokestatic 43, 3) := by decide +kernel
theorem d28_99 : decode method_7_code 99 = .ok (.astore 6, 2) := by decide +kernel
theorem d28_101 : decode method_7_code 101 = .ok (.aload 6, 2) := by decide +kernel
theorem d28_103 : decode method_7_code 103 = .ok (.iload_n 2, 1) := by decide +kernel
theorem d28_104 : decode method_7_code 104 = .ok (.ldc 39, 2) := by decide +kernel
theorem d28_106 : decode method_7_code 106 = .ok (.iand, 1) := by decide +kernel
theorem d28_107 : decode method_7_code 107 = .ok (.aload 6, 2) := by decide +kernel
theorem d28_109 : decode method_7_code 109 = .ok (.arraylength, 1) := by decide +kernel
theorem d28_110 : decode method_7_code 110 = .ok (.irem, 1) := by decide +kernel
theorem d28_111 : decode method_7_code 111 = .ok (.iload 5, 2) := by decide +kernel
theorem d28_113 : decode method_7_code 113 = .ok (.castore, 1) := by decide +kernel
theorem d28_114 : decode method_7_code 114 = .ok (.new 30, 3) := by decide +kernel
theorem d28_117 : decode method_7_code 117 = .ok (.dup, 1) := by decide +kernel
theorem d28_118 : decode method_7_code 118 = .ok (.aload 6, 2) := by decide +kernel
theorem d28_120 : decode method_7_code 120 = .ok (.invokespecial 36, 3) := by decide +kernel
theorem d28_123 : decode method_7_code 123 = .ok (.areturn, 1) := by decide +kernel
set_option maxRecDepth 65536 in
set_option maxHeartbeats 40000000 in
theorem rm_make1 (l : Launch) (Z : State) (a0 : Array Value) (hw : HW Z a0) (ws : List Jvm.Cond) (md : Int32) (ps : Int32) (ch : Int32) (z : Int32) (h0 : Heap) (n0 : Nat) (Z0 : n0 ≤ h0.size) (O0 : Old Z n0 h0) (S0 : PS0 Z (.int z)) (hz : ¬ z = 0) :
    Ctr l Z my13 method_7_code 7 ((Option.some (Jvm.ClassFile.FieldType.object "java/lang/String"))) ws (⟨4, 3, 28, 66⟩ : Room) #[(.int (1 : Int32)), (.int md), (.int ps), (.int ch)] h0 (fun v h L => ∃ a : Addr, v = some (.ref a) ∧ Fr n0 L ∧ Keep h0 h [] ∧ Str Z h a (own_ms own_F1 own_L1 own_S1 (11 : Int32) (10 : Int32) 11 (md &&& (3 : Int32)) ps (own_dr ch))) := by
  refine Ctr.go (plainFor_of_name pn_345) fun p e s m below meth c s₁ Bd hx hby hml hZ hown hnm X0 e0 => ?_
  have N0 := Fr.nil n0
  have K0 := Keep.refl h0 []
  refine gs (S' := s₁.setTop (mkF m 0 #[iv ((1 : Int32)), iv (md), iv (ps), iv (ch), uu, uu, uu] [])) (fun tg kg => castTop (ef_652 m (1 : Int32) md ps ch) kg) ?_
  have hws : ∀ d ∈ StrChars.Road.words, d.before a0 Z = true := fun d hd => hw d ((by decide +kernel : ∀ d ∈ StrChars.Road.words, d ∈ tables_1) d hd)
  refine gs (fun _ k => o_iloadN X0 hx hby d28_0 rfl (o_iconst (v := (3 : Int32)) X0 hx hby d28_1 (o_iand X0 hx hby d28_2 (o_istore X0 hx hby d28_3 rfl (o_iloadN X0 hx hby d28_5 rfl k))))) ?_
  refine cS (rest := []) X0 hx hZ hown (ow hw 4 rfl) (ow hw 5 rfl) (ow hw 2 rfl) (ow hw 6 rfl) (rm_dr l Z a0 hw [] ch h0 n0 Z0 O0 ) hby d28_6 e0 pd_659 0 (by rw [hml]; rfl) rfl rfl rfl rfl (by decide) (by decide) fun _ T1 Lc1 X1 hQ1 => ?_
  obtain ⟨rfl, N1q, e1q⟩ := hQ1
  have N1 := Fr.app N0 N1q
  refine gs (fun _ k => o_istore X1 hx hby d28_9 rfl (o_iload X1 hx hby d28_11 rfl k)) ?_
  by_cases hc2 : (md &&& (3 : Int32)) = (0 : Int32)
  · refine gs (fun _ k => o_ifNo X1 hx hby d28_13 ((if0 _ _).trans (teq hc2).2) k) ?_
    obtain ⟨T3, h3, X3, e3, E3, A3, D3, -, st3⟩ := newO X1 hx hZ hown (ow hw 7 rfl) (ow hw 8 rfl) (ow hw 9 rfl) e1q (g := (mkF m 16 #[iv ((1 : Int32)), iv (md), iv (ps), iv (ch), iv ((md &&& (3 : Int32))), iv ((own_dr ch)), uu] [])) rfl (hb hby d28_16) (by decide) (by decide)
    obtain ⟨b3, q3⟩ : ∃ z, z = h0.size := ⟨_, rfl⟩
    rw [← q3] at A3 D3 st3
    have g_b3 : n0 ≤ b3 := nt Z0 (Nat.le_of_eq q3.symm)
    have sz_b3 : h0.size ≤ b3 := nt K0.1 (Nat.le_of_eq q3.symm)
    have Z4 := nt Z0 E3.1
    have O4 := O0.ext E3
    have K4 := K0.ext E3
    have F_coder_b3 : Fld Z h3 b3 "java/lang/String" "coder" "B" (.int (0 : Int32)) := D3 (Or.inr (ow hw 37 rfl)) (ty := .byte) (by decide)
    have F_value_b3 : Fld Z h3 b3 "java/lang/String" "value" "[B" .null := D3 (Or.inr (ow hw 39 rfl)) (ty := (.array .byte)) (by decide)
    refine gs (S' := T3.setTop (mkF m 19 #[iv ((1 : Int32)), iv (md), iv (ps), iv (ch), iv ((md &&& (3 : Int32))), iv ((own_dr ch)), uu] [(.ref b3)])) st3 ?_
    refine gs (fun _ k => o_dup X3 hx hby d28_19 rfl (o_iloadN X3 hx hby d28_20 rfl k)) ?_
    refine cS (rest := [(.ref b3), (.ref b3)]) X3 hx hZ hown (ow hw 10 rfl) (ow hw 11 rfl) (ow hw 2 rfl) (ow hw 12 rfl) (rm_full1 l Z a0 hw []  h3 n0 Z4 O4 ) hby d28_21 e3 pd_667 2 (by rw [hml]; rfl) rfl rfl rfl rfl (by decide) (by decide) fun _ T5 Lc5 X5 hQ5 => ?_
    obtain ⟨b5, kb5, rfl, N5q, K5q, g5t, V5q⟩ := hQ5
    have N5 := Fr.app N1 N5q
    have g_b5 : n0 ≤ b5 := nt Z4 g5t
    have sz_b5 : h0.size ≤ b5 := nt K4.1 g5t
    have Z6 := nt Z4 K5q.1
    have O6 := O4.keep K5q all0
    have K6 := K4.trans K5q all0
    have f7 := (A3.keep K5q)
    have f8 := (F_value_b3.keep K5q nin0)
    have f9 := (F_coder_b3.keep K5q nin0)
    obtain ⟨_, _, ⟨T10, L10, k10, n10⟩, -, X10, ⟨Lc10, hQ10, l10, y10, z10⟩, st10⟩ := X5.specialBack hx (y := my0) rfl hown (mvT hZ (ow hw 14 rfl)) (mvT hZ (ow hw 15 rfl)) (mvT hZ (ow hw 16 rfl)) (by decide) (StrChars.Road.backV (W := 1) hZ hws (kI := 4) (ow hw 8 rfl) (cs := own_F1) (bs := own_F1.map (fun c => c.toInt8.toInt32)) (n := 11) g_b3 Z6 f7 f8 f9 V5q (S0.ext O6.2) hz rfl rfl (by decide) (by decide) own_F1b rfl (by decide) (by decide)) (g := (mkF m 24 #[iv ((1 : Int32)), iv (md), iv (ps), iv (ch), iv ((md &&& (3 : Int32))), iv ((own_dr ch)), uu] [(.ref b5), (.ref b3), (.ref b3)])) rfl (by rw [hml]; rfl) (Steps.refl _) (a := b3) (argsL := [(.ref b5)]) (rest := [(.ref b3)]) (lenOf pd_669 rfl) rfl (own_w0 rfl) (hb hby d28_24) (fun _ _ => ⟨rfl, rfl, (by decide : 2 + 1 ≤ _), (by decide : 15 + 11 ≤ _)⟩)
    dsimp only [Pt.U, Pt.locs, Pt.cells, Pt.slots] at X10 l10 y10 z10 st10 hQ10
    subst l10 y10 z10
    obtain ⟨rfl, N10q, K10q, g10e, g10c, t10, kb10, -, g10t, -, g10v, g10a⟩ := hQ10
    have N10 := Fr.app N5 N10q
    have g_t10 : n0 ≤ t10 := nt Z6 g10t
    have sz_t10 : h0.size ≤ t10 := nt K6.1 g10t
    have Z11 := nt Z6 K10q.1
    have O11 := O6.keep K10q (allS g_b3 all0)
    have K11 := K6.trans K10q (allS (Or.inr sz_b3) all0)
    refine gs (S' := T10.setTop (mkF m 27 #[iv ((1 : Int32)), iv (md), iv (ps), iv (ch), iv ((md &&& (3 : Int32))), iv ((own_dr ch)), uu] [(.ref b3)])) (fun _ k => st10.trans k) ?_
    have Tm : Str Z T10.heap b3 own_F1 := ⟨_, _, g10e, g10c, g10v, cast (congrArg (fun q_ => Arv Z T10.heap t10 kb10 .byte q_ ((own_F1.map (fun c => c.toInt8.toInt32)).map Value.int) (.int 0)) (show (11 : Int32) = Int32.ofNat own_F1.length from rfl)) g10a⟩
    refine gout (v := some (.ref b3)) X10 Bd.notSynchronized (fun h => by rw [Bd.returns] at h; cases h) (by decide) (by decide) ?_ (fun fs hr => retOut X10 hx Bd.returns rfl (Or.inr (Or.inr (Or.inr (Or.inr ⟨rfl, rfl, rfl⟩)))) (hb hby d28_27) hr)
    exact ⟨_, rfl, N10, K11, by unfold own_ms; rw [if_pos hc2]; exact Tm⟩
  · refine gs (fun _ k => o_ifYes (pc' := 28) X1 hx hby d28_13 ((if0 _ _).trans (feq hc2).2) (o_iload X1 hx hby d28_28 rfl (o_iconst (v := (1 : Int32)) X1 hx hby d28_30 k))) ?_
    by_cases hc12 : (md &&& (3 : Int32)) = (1 : Int32)
    · refine gs (fun _ k => o_icmpNo X1 hx hby d28_31 (teq hc12).2 (o_iloadN X1 hx hby d28_34 rfl k)) ?_
      refine cS (rest := []) X1 hx hZ hown (ow hw 10 rfl) (ow hw 11 rfl) (ow hw 2 rfl) (ow hw 12 rfl) (rm_full1 l Z a0 hw []  h0 n0 Z0 O0 ) hby d28_35 e1q pd_667 0 (by rw [hml]; rfl) rfl rfl rfl rfl (by decide) (by decide) fun _ T13 Lc13 X13 hQ13 => ?_
      obtain ⟨b13, kb13, rfl, N13q, K13q, g13t, V13q⟩ := hQ13
      have N13 := Fr.app N1 N13q
      have g_b13 : n0 ≤ b13 := nt Z0 g13t
      have sz_b13 : h0.size ≤ b13 := nt K0.1 g13t
      have Z14 := nt Z0 K13q.1
      have O14 := O0.keep K13q all0
      have K14 := K0.trans K13q all0
      refine gs (fun _ k => o_astore X13 hx hby d28_38 rfl rfl (o_aload X13 hx hby d28_40 rfl rfl (o_iloadN X13 hx hby d28_42 rfl (X13.ldcInt hx hown (mvT hZ (ow hw 40 rfl)) (g := (mkF m 43 #[iv ((1 : Int32)), iv (md), iv (ps), iv (ch), iv ((md &&& (3 : Int32))), iv ((own_dr ch)), rv (b13)] [(.int ps), (.ref b13)])) rfl (hb hby d28_43) _ (o_iand X13 hx hby d28_45 (o_aload X13 hx hby d28_46 rfl rfl k)))))) ?_
      obtain ⟨cl15, A15, a15q, a15S, a15N, a15H, a15G⟩ := id V13q
      refine gs (S' := T13.setTop (mkF m 49 #[iv ((1 : Int32)), iv (md), iv (ps), iv (ch), iv ((md &&& (3 : Int32))), iv ((own_dr ch)), rv (b13)] [(.int (11 : Int32)), (.int (ps &&& (2147483647 : Int32))), (.ref b13)])) (fun _ k => by refine X13.arraylength hx A15.1 (State.isArrayOf_alike hZ.alike A15.2.1) (g := (mkF m 48 #[iv ((1 : Int32)), iv (md), iv (ps), iv (ch), iv ((md &&& (3 : Int32))), iv ((own_dr ch)), rv (b13)] [(.ref b13), (.int (ps &&& (2147483647 : Int32))), (.ref b13)])) rfl rfl (hb hby d28_48) _ ?_; rw [len_of a15S a15N]; exact k) ?_
      refine gs (fun _ k => Jvm.RoadKit.iremM X13 hx (g := (mkF m 49 #[iv ((1 : Int32)), iv (md), iv (ps), iv (ch), iv ((md &&& (3 : Int32))), iv ((own_dr ch)), rv (b13)] [(.int (11 : Int32)), (.int (ps &&& (2147483647 : Int32))), (.ref b13)])) rfl (hb hby d28_49) rfl (by decide) (o_iload X13 hx hby d28_50 rfl k)) ?_
      obtain ⟨cl16, A16, a16q, a16S, a16N, a16H, a16G⟩ := id V13q
      obtain ⟨T16, h16, X16, e16, W16, st16⟩ := stC X13 hx hZ rfl A16 (j := ((ps &&& (2147483647 : Int32)) % (11 : Int32))) (inb_of a16S (own_ixr ps (11 : Int32) (by decide)).1) (g := (mkF m 52 #[iv ((1 : Int32)), iv (md), iv (ps), iv (ch), iv ((md &&& (3 : Int32))), iv ((own_dr ch)), rv (b13)] [(.int (own_dr ch)), (.int ((ps &&& (2147483647 : Int32)) % (11 : Int32))), (.ref b13)])) rfl rfl (hb hby d28_52)
      have q16 := Arv.set A16 a16q a16S a16N a16H a16G (fits_nar_char _) W16 (own_ix ps (11 : Int32)) rfl (show own_ix ps (11 : Int32) < 11 from (own_ixr ps (11 : Int32) (by decide)).2)
      rw [own_drn, ← List.map_set] at q16
      have V16 : Arv Z h16 b13 kb13 .char (11 : Int32) ((own_F1.set (own_ix ps (11 : Int32)) (own_dr ch)).map Value.int) (.int (0 : Int32)) := q16
      have N16 := Fr.snoc X16 N13 g_b13
      have Z17 := nt Z14 (Keep.of_wr W16).1
      have O17 := O14.wr W16 g_b13
      have K17 := K14.wr W16 (Or.inr sz_b13)
      refine gs (S' := T16.setTop (mkF m 53 #[iv ((1 : Int32)), iv (md), iv (ps), iv (ch), iv ((md &&& (3 : Int32))), iv ((own_dr ch)), rv (b13)] [])) st16 ?_
      obtain ⟨T18, h18, X18, e18, E18, A18, D18, -, st18⟩ := newO X16 hx hZ hown (ow hw 7 rfl) (ow hw 8 rfl) (ow hw 9 rfl) e16 (g := (mkF m 53 #[iv ((1 : Int32)), iv (md), iv (ps), iv (ch), iv ((md &&& (3 : Int32))), iv ((own_dr ch)), rv (b13)] [])) rfl (hb hby d28_53) (by decide) (by decide)
      obtain ⟨b18, q18⟩ : ∃ z, z = h16.size := ⟨_, rfl⟩
      rw [← q18] at A18 D18 st18
      have g_b18 : n0 ≤ b18 := nt Z17 (Nat.le_of_eq q18.symm)
      have sz_b18 : h0.size ≤ b18 := nt K17.1 (Nat.le_of_eq q18.symm)
      have Z19 := nt Z17 E18.1
      have O19 := O17.ext E18
      have K19 := K17.ext E18
      have F_coder_b18 : Fld Z h18 b18 "java/lang/String" "coder" "B" (.int (0 : Int32)) := D18 (Or.inr (ow hw 37 rfl)) (ty := .byte) (by decide)
      have F_value_b18 : Fld Z h18 b18 "java/lang/String" "value" "[B" .null := D18 (Or.inr (ow hw 39 rfl)) (ty := (.array .byte)) (by decide)
      refine gs (S' := T18.setTop (mkF m 56 #[iv ((1 : Int32)), iv (md), iv (ps), iv (ch), iv ((md &&& (3 : Int32))), iv ((own_dr ch)), rv (b13)] [(.ref b18)])) st18 ?_
      refine gs (fun _ k => o_dup X18 hx hby d28_56 rfl (o_aload X18 hx hby d28_57 rfl rfl k)) ?_
      have f20 := (V16.ext E18)
      obtain ⟨_, _, ⟨T21, L21, k21, n21⟩, -, X21, ⟨Lc21, hQ21, l21, y21, z21⟩, st21⟩ := X18.specialBack hx (y := my0) rfl hown (mvT hZ (ow hw 14 rfl)) (mvT hZ (ow hw 15 rfl)) (mvT hZ (ow hw 16 rfl)) (by decide) (StrChars.Road.backV (W := 1) hZ hws (kI := 4) (ow hw 8 rfl) (cs := (own_F1.set (own_ix ps (11 : Int32)) (own_dr ch))) (bs := (own_F1.set (own_ix ps (11 : Int32)) (own_dr ch)).map (fun c => c.toInt8.toInt32)) (n := 11) g_b18 Z19 A18 F_value_b18 F_coder_b18 f20 (S0.ext O19.2) hz (by rw [List.length_set]; rfl) rfl (by decide) (by decide) (own_setb own_F1b (own_drb ch)) rfl (by decide) (by decide)) (g := (mkF m 59 #[iv ((1 : Int32)), iv (md), iv (ps), iv (ch), iv ((md &&& (3 : Int32))), iv ((own_dr ch)), rv (b13)] [(.ref b13), (.ref b18), (.ref b18)])) rfl (by rw [hml]; rfl) (Steps.refl _) (a := b18) (argsL := [(.ref b13)]) (rest := [(.ref b18)]) (lenOf pd_669 rfl) rfl (own_w0 rfl) (hb hby d28_59) (fun _ _ => ⟨rfl, e18, (by decide : 2 + 1 ≤ _), (by decide : 15 + 11 ≤ _)⟩)
      dsimp only [Pt.U, Pt.locs, Pt.cells, Pt.slots] at X21 l21 y21 z21 st21 hQ21
      subst l21 y21 z21
      obtain ⟨rfl, N21q, K21q, g21e, g21c, t21, kb21, -, g21t, -, g21v, g21a⟩ := hQ21
      have N21 := Fr.app N16 N21q
      have g_t21 : n0 ≤ t21 := nt Z19 g21t
      have sz_t21 : h0.size ≤ t21 := nt K19.1 g21t
      have Z22 := nt Z19 K21q.1
      have O22 := O19.keep K21q (allS g_b18 all0)
      have K22 := K19.trans K21q (allS (Or.inr sz_b18) all0)
      refine gs (S' := T21.setTop (mkF m 62 #[iv ((1 : Int32)), iv (md), iv (ps), iv (ch), iv ((md &&& (3 : Int32))), iv ((own_dr ch)), rv (b13)] [(.ref b18)])) (fun _ k => st21.trans k) ?_
      have Tm : Str Z T21.heap b18 (own_F1.set (own_ix ps (11 : Int32)) (own_dr ch)) := ⟨_, _, g21e, g21c, g21v, cast (congrArg (fun q_ => Arv Z T21.heap t21 kb21 .byte q_ (((own_F1.set (own_ix ps (11 : Int32)) (own_dr ch)).map (fun c => c.toInt8.toInt32)).map Value.int) (.int 0)) (show (11 : Int32) = Int32.ofNat (own_F1.set (own_ix ps (11 : Int32)) (own_dr ch)).length from (by rw [List.length_set]; rfl))) g21a⟩
      refine gout (v := some (.ref b18)) X21 Bd.notSynchronized (fun h => by rw [Bd.returns] at h; cases h) (by decide) (by decide) ?_ (fun fs hr => retOut X21 hx Bd.returns rfl (Or.inr (Or.inr (Or.inr (Or.inr ⟨rfl, rfl, rfl⟩)))) (hb hby d28_62) hr)
      exact ⟨_, rfl, N21, K22, by unfold own_ms; rw [if_neg hc2, if_pos hc12]; exact Tm⟩
    · refine gs (fun _ k => o_icmpYes (pc' := 63) X1 hx hby d28_31 (feq hc12).2 (o_iload X1 hx hby d28_63 rfl (o_iconst (v := (2 : Int32)) X1 hx hby d28_65 k))) ?_
      by_cases hc23 : (md &&& (3 : Int32)) = (2 : Int32)
      · refine gs (fun _ k => o_icmpNo X1 hx hby d28_66 (teq hc23).2 (o_iloadN X1 hx hby d28_69 rfl k)) ?_
        refine cS (rest := []) X1 hx hZ hown (ow hw 211 rfl) (ow hw 212 rfl) (ow hw 2 rfl) (ow hw 213 rfl) (rm_longer1 l Z a0 hw []  h0 n0 Z0 O0 ) hby d28_70 e1q pd_667 0 (by rw [hml]; rfl) rfl rfl rfl rfl (by decide) (by decide) fun _ T24 Lc24 X24 hQ24 => ?_
        obtain ⟨b24, kb24, rfl, N24q, K24q, g24t, V24q⟩ := hQ24
        have N24 := Fr.app N1 N24q
        have g_b24 : n0 ≤ b24 := nt Z0 g24t
        have sz_b24 : h0.size ≤ b24 := nt K0.1 g24t
        have Z25 := nt Z0 K24q.1
        have O25 := O0.keep K24q all0
        have K25 := K0.trans K24q all0
        refine gs (fun _ k => o_astore X24 hx hby d28_73 rfl rfl (o_aload X24 hx hby d28_75 rfl rfl (o_aload X24 hx hby d28_77 rfl rfl k))) ?_
        obtain ⟨cl26, A26, a26q, a26S, a26N, a26H, a26G⟩ := id V24q
        refine gs (S' := T24.setTop (mkF m 80 #[iv ((1 : Int32)), iv (md), iv (ps), iv (ch), iv ((md &&& (3 : Int32))), iv ((own_dr ch)), rv (b24)] [(.int (12 : Int32)), (.ref b24)])) (fun _ k => by refine X24.arraylength hx A26.1 (State.isArrayOf_alike hZ.alike A26.2.1) (g := (mkF m 79 #[iv ((1 : Int32)), iv (md), iv (ps), iv (ch), iv ((md &&& (3 : Int32))), iv ((own_dr ch)), rv (b24)] [(.ref b24), (.ref b24)])) rfl rfl (hb hby d28_79) _ ?_; rw [len_of a26S a26N]; exact k) ?_
        refine gs (fun _ k => o_iconst (v := (1 : Int32)) X24 hx hby d28_80 (o_isub X24 hx hby d28_81 (o_iload X24 hx hby d28_82 rfl k))) ?_
        obtain ⟨cl27, A27, a27q, a27S, a27N, a27H, a27G⟩ := id V24q
        obtain ⟨T27, h27, X27, e27, W27, st27⟩ := stC X24 hx hZ rfl A27 (j := (11 : Int32)) (inb_of a27S ⟨by decide, by decide⟩) (g := (mkF m 84 #[iv ((1 : Int32)), iv (md), iv (ps), iv (ch), iv ((md &&& (3 : Int32))), iv ((own_dr ch)), rv (b24)] [(.int (own_dr ch)), (.int (11 : Int32)), (.ref b24)])) rfl rfl (hb hby d28_84)
        have q27 := Arv.set A27 a27q a27S a27N a27H a27G (fits_nar_char _) W27 11 rfl (nb rfl)
        rw [own_drn, ← List.map_set] at q27
        have V27 : Arv Z h27 b24 kb24 .char (12 : Int32) ((own_L1.set 11 (own_dr ch)).map Value.int) (.int (0 : Int32)) := q27
        have N27 := Fr.snoc X27 N24 g_b24
        have Z28 := nt Z25 (Keep.of_wr W27).1
        have O28 := O25.wr W27 g_b24
        have K28 := K25.wr W27 (Or.inr sz_b24)
        refine gs (S' := T27.setTop (mkF m 85 #[iv ((1 : Int32)), iv (md), iv (ps), iv (ch), iv ((md &&& (3 : Int32))), iv ((own_dr ch)), rv (b24)] [])) st27 ?_
        obtain ⟨T29, h29, X29, e29, E29, A29, D29, -, st29⟩ := newO X27 hx hZ hown (ow hw 7 rfl) (ow hw 8 rfl) (ow hw 9 rfl) e27 (g := (mkF m 85 #[iv ((1 : Int32)), iv (md), iv (ps), iv (ch), iv ((md &&& (3 : Int32))), iv ((own_dr ch)), rv (b24)] [])) rfl (hb hby d28_85) (by decide) (by decide)
        obtain ⟨b29, q29⟩ : ∃ z, z = h27.size := ⟨_, rfl⟩
        rw [← q29] at A29 D29 st29
        have g_b29 : n0 ≤ b29 := nt Z28 (Nat.le_of_eq q29.symm)
        have sz_b29 : h0.size ≤ b29 := nt K28.1 (Nat.le_of_eq q29.symm)
        have Z30 := nt Z28 E29.1
        have O30 := O28.ext E29
        have K30 := K28.ext E29
        have F_coder_b29 : Fld Z h29 b29 "java/lang/String" "coder" "B" (.int (0 : Int32)) := D29 (Or.inr (ow hw 37 rfl)) (ty := .byte) (by decide)
        have F_value_b29 : Fld Z h29 b29 "java/lang/String" "value" "[B" .null := D29 (Or.inr (ow hw 39 rfl)) (ty := (.array .byte)) (by decide)
        refine gs (S' := T29.setTop (mkF m 88 #[iv ((1 : Int32)), iv (md), iv (ps), iv (ch), iv ((md &&& (3 : Int32))), iv ((own_dr ch)), rv (b24)] [(.ref b29)])) st29 ?_
        refine gs (fun _ k => o_dup X29 hx hby d28_88 rfl (o_aload X29 hx hby d28_89 rfl rfl k)) ?_
        have f31 := (V27.ext E29)
        obtain ⟨_, _, ⟨T32, L32, k32, n32⟩, -, X32, ⟨Lc32, hQ32, l32, y32, z32⟩, st32⟩ := X29.specialBack hx (y := my0) rfl hown (mvT hZ (ow hw 14 rfl)) (mvT hZ (ow hw 15 rfl)) (mvT hZ (ow hw 16 rfl)) (by decide) (StrChars.Road.backV (W := 1) hZ hws (kI := 4) (ow hw 8 rfl) (cs := (own_L1.set 11 (own_dr ch))) (bs := (own_L1.set 11 (own_dr ch)).map (fun c => c.toInt8.toInt32)) (n := 12) g_b29 Z30 A29 F_value_b29 F_coder_b29 f31 (S0.ext O30.2) hz (by rw [List.length_set]; rfl) rfl (by decide) (by decide) (own_setb own_L1b (own_drb ch)) rfl (by decide) (by decide)) (g := (mkF m 91 #[iv ((1 : Int32)), iv (md), iv (ps), iv (ch), iv ((md &&& (3 : Int32))), iv ((own_dr ch)), rv (b24)] [(.ref b24), (.ref b29), (.ref b29)])) rfl (by rw [hml]; rfl) (Steps.refl _) (a := b29) (argsL := [(.ref b24)]) (rest := [(.ref b29)]) (lenOf pd_669 rfl) rfl (own_w0 rfl) (hb hby d28_91) (fun _ _ => ⟨rfl, e29, (by decide : 2 + 1 ≤ _), (by decide : 16 + 12 ≤ _)⟩)
        dsimp only [Pt.U, Pt.locs, Pt.cells, Pt.slots] at X32 l32 y32 z32 st32 hQ32
        subst l32 y32 z32
        obtain ⟨rfl, N32q, K32q, g32e, g32c, t32, kb32, -, g32t, -, g32v, g32a⟩ := hQ32
        have N32 := Fr.app N27 N32q
        have g_t32 : n0 ≤ t32 := nt Z30 g32t
        have sz_t32 : h0.size ≤ t32 := nt K30.1 g32t
        have Z33 := nt Z30 K32q.1
        have O33 := O30.keep K32q (allS g_b29 all0)
        have K33 := K30.trans K32q (allS (Or.inr sz_b29) all0)
        refine gs (S' := T32.setTop (mkF m 94 #[iv ((1 : Int32)), iv (md), iv (ps), iv (ch), iv ((md &&& (3 : Int32))), iv ((own_dr ch)), rv (b24)] [(.ref b29)])) (fun _ k => st32.trans k) ?_
        have Tm : Str Z T32.heap b29 (own_L1.set 11 (own_dr ch)) := ⟨_, _, g32e, g32c, g32v, cast (congrArg (fun q_ => Arv Z T32.heap t32 kb32 .byte q_ (((own_L1.set 11 (own_dr ch)).map (fun c => c.toInt8.toInt32)).map Value.int) (.int 0)) (show (12 : Int32) = Int32.ofNat (own_L1.set 11 (own_dr ch)).length from (by rw [List.length_set]; rfl))) g32a⟩
        refine gout (v := some (.ref b29)) X32 Bd.notSynchronized (fun h => by rw [Bd.returns] at h; cases h) (by decide) (by decide) ?_ (fun fs hr => retOut X32 hx Bd.returns rfl (Or.inr (Or.inr (Or.inr (Or.inr ⟨rfl, rfl, rfl⟩)))) (hb hby d28_94) hr)
        exact ⟨_, rfl, N32, K33, by unfold own_ms; rw [if_neg hc2, if_neg hc12, if_pos hc23]; exact Tm⟩
      · refine gs (fun _ k => o_icmpYes (pc' := 95) X1 hx hby d28_66 (feq hc23).2 (o_iloadN X1 hx hby d28_95 rfl k)) ?_
        refine cS (rest := []) X1 hx hZ hown (ow hw 208 rfl) (ow hw 209 rfl) (ow hw 2 rfl) (ow hw 210 rfl) (rm_shorter1 l Z a0 hw []  h0 n0 Z0 O0 ) hby d28_96 e1q pd_667 0 (by rw [hml]; rfl) rfl rfl rfl rfl (by decide) (by decide) fun _ T34 Lc34 X34 hQ34 => ?_
        obtain ⟨b34, kb34, rfl, N34q, K34q, g34t, V34q⟩ := hQ34
        have N34 := Fr.app N1 N34q
        have g_b34 : n0 ≤ b34 := nt Z0 g34t
        have sz_b34 : h0.size ≤ b34 := nt K0.1 g34t
        have Z35 := nt Z0 K34q.1
        have O35 := O0.keep K34q all0
        have K35 := K0.trans K34q all0
        refine gs (fun _ k => o_astore X34 hx hby d28_99 rfl rfl (o_aload X34 hx hby d28_101 rfl rfl (o_iloadN X34 hx hby d28_103 rfl (X34.ldcInt hx hown (mvT hZ (ow hw 40 rfl)) (g := (mkF m 104 #[iv ((1 : Int32)), iv (md), iv (ps), iv (ch), iv ((md &&& (3 : Int32))), iv ((own_dr ch)), rv (b34)] [(.int ps), (.ref b34)])) rfl (hb hby d28_104) _ (o_iand X34 hx hby d28_106 (o_aload X34 hx hby d28_107 rfl rfl k)))))) ?_
        obtain ⟨cl36, A36, a36q, a36S, a36N, a36H, a36G⟩ := id V34q
        refine gs (S' := T34.setTop (mkF m 110 #[iv ((1 : Int32)), iv (md), iv (ps), iv (ch), iv ((md &&& (3 : Int32))), iv ((own_dr ch)), rv (b34)] [(.int (10 : Int32)), (.int (ps &&& (2147483647 : Int32))), (.ref b34)])) (fun _ k => by refine X34.arraylength hx A36.1 (State.isArrayOf_alike hZ.alike A36.2.1) (g := (mkF m 109 #[iv ((1 : Int32)), iv (md), iv (ps), iv (ch), iv ((md &&& (3 : Int32))), iv ((own_dr ch)), rv (b34)] [(.ref b34), (.int (ps &&& (2147483647 : Int32))), (.ref b34)])) rfl rfl (hb hby d28_109) _ ?_; rw [len_of a36S a36N]; exact k) ?_
        refine gs (fun _ k => Jvm.RoadKit.iremM X34 hx (g := (mkF m 110 #[iv ((1 : Int32)), iv (md), iv (ps), iv (ch), iv ((md &&& (3 : Int32))), iv ((own_dr ch)), rv (b34)] [(.int (10 : Int32)), (.int (ps &&& (2147483647 : Int32))), (.ref b34)])) rfl (hb hby d28_110) rfl (by decide) (o_iload X34 hx hby d28_111 rfl k)) ?_
        obtain ⟨cl37, A37, a37q, a37S, a37N, a37H, a37G⟩ := id V34q
        obtain ⟨T37, h37, X37, e37, W37, st37⟩ := stC X34 hx hZ rfl A37 (j := ((ps &&& (2147483647 : Int32)) % (10 : Int32))) (inb_of a37S (own_ixr ps (10 : Int32) (by decide)).1) (g := (mkF m 113 #[iv ((1 : Int32)), iv (md), iv (ps), iv (ch), iv ((md &&& (3 : Int32))), iv ((own_dr ch)), rv (b34)] [(.int (own_dr ch)), (.int ((ps &&& (2147483647 : Int32)) % (10 : Int32))), (.ref b34)])) rfl rfl (hb hby d28_113)
        have q37 := Arv.set A37 a37q a37S a37N a37H a37G (fits_nar_char _) W37 (own_ix ps (10 : Int32)) rfl (show own_ix ps (10 : Int32) < 10 from (own_ixr ps (10 : Int32) (by decide)).2)
        rw [own_drn, ← List.map_set] at q37
        have V37 : Arv Z h37 b34 kb34 .char (10 : Int32) ((own_S1.set (own_ix ps (10 : Int32)) (own_dr ch)).map Value.int) (.int (0 : Int32)) := q37
        have N37 := Fr.snoc X37 N34 g_b34
        have Z38 := nt Z35 (Keep.of_wr W37).1
        have O38 := O35.wr W37 g_b34
        have K38 := K35.wr W37 (Or.inr sz_b34)
        refine gs (S' := T37.setTop (mkF m 114 #[iv ((1 : Int32)), iv (md), iv (ps), iv (ch), iv ((md &&& (3 : Int32))), iv ((own_dr ch)), rv (b34)] [])) st37 ?_
        obtain ⟨T39, h39, X39, e39, E39, A39, D39, -, st39⟩ := newO X37 hx hZ hown (ow hw 7 rfl) (ow hw 8 rfl) (ow hw 9 rfl) e37 (g := (mkF m 114 #[iv ((1 : Int32)), iv (md), iv (ps), iv (ch), iv ((md &&& (3 : Int32))), iv ((own_dr ch)), rv (b34)] [])) rfl (hb hby d28_114) (by decide) (by decide)
        obtain ⟨b39, q39⟩ : ∃ z, z = h37.size := ⟨_, rfl⟩
        rw [← q39] at A39 D39 st39
        have g_b39 : n0 ≤ b39 := nt Z38 (Nat.le_of_eq q39.symm)
        have sz_b39 : h0.size ≤ b39 := nt K38.1 (Nat.le_of_eq q39.symm)
        have Z40 := nt Z38 E39.1
        have O40 := O38.ext E39
        have K40 := K38.ext E39
        have F_coder_b39 : Fld Z h39 b39 "java/lang/String" "coder" "B" (.int (0 : Int32)) := D39 (Or.inr (ow hw 37 rfl)) (ty := .byte) (by decide)
        have F_value_b39 : Fld Z h39 b39 "java/lang/String" "value" "[B" .null := D39 (Or.inr (ow hw 39 rfl)) (ty := (.array .byte)) (by decide)
        refine gs (S' := T39.setTop (mkF m 117 #[iv ((1 : Int32)), iv (md), iv (ps), iv (ch), iv ((md &&& (3 : Int32))), iv ((own_dr ch)), rv (b34)] [(.ref b39)])) st39 ?_
        refine gs (fun _ k => o_dup X39 hx hby d28_117 rfl (o_aload X39 hx hby d28_118 rfl rfl k)) ?_
        have f41 := (V37.ext E39)
        obtain ⟨_, _, ⟨T42, L42, k42, n42⟩, -, X42, ⟨Lc42, hQ42, l42, y42, z42⟩, st42⟩ := X39.specialBack hx (y := my0) rfl hown (mvT hZ (ow hw 14 rfl)) (mvT hZ (ow hw 15 rfl)) (mvT hZ (ow hw 16 rfl)) (by decide) (StrChars.Road.backV (W := 1) hZ hws (kI := 4) (ow hw 8 rfl) (cs := (own_S1.set (own_ix ps (10 : Int32)) (own_dr ch))) (bs := (own_S1.set (own_ix ps (10 : Int32)) (own_dr ch)).map (fun c => c.toInt8.toInt32)) (n := 10) g_b39 Z40 A39 F_value_b39 F_coder_b39 f41 (S0.ext O40.2) hz (by rw [List.length_set]; rfl) rfl (by decide) (by decide) (own_setb own_S1b (own_drb ch)) rfl (by decide) (by decide)) (g := (mkF m 120 #[iv ((1 : Int32)), iv (md), iv (ps), iv (ch), iv ((md &&& (3 : Int32))), iv ((own_dr ch)), rv (b34)] [(.ref b34), (.ref b39), (.ref b39)])) rfl (by rw [hml]; rfl) (Steps.refl _) (a := b39) (argsL := [(.ref b34)]) (rest := [(.ref b39)]) (lenOf pd_669 rfl) rfl (own_w0 rfl) (hb hby d28_120) (fun _ _ => ⟨rfl, e39, (by decide : 2 + 1 ≤ _), (by decide : 14 + 10 ≤ _)⟩)
        dsimp only [Pt.U, Pt.locs, Pt.cells, Pt.slots] at X42 l42 y42 z42 st42 hQ42
        subst l42 y42 z42
        obtain ⟨rfl, N42q, K42q, g42e, g42c, t42, kb42, -, g42t, -, g42v, g42a⟩ := hQ42
        have N42 := Fr.app N37 N42q
        have g_t42 : n0 ≤ t42 := nt Z40 g42t
        have sz_t42 : h0.size ≤ t42 := nt K40.1 g42t
        have Z43 := nt Z40 K42q.1
        have O43 := O40.keep K42q (allS g_b39 all0)
        have K43 := K40.trans K42q (allS (Or.inr sz_b39) all0)
        refine gs (S' := T42.setTop (mkF m 123 #[iv ((1 : Int32)), iv (md), iv (ps), iv (ch), iv ((md &&& (3 : Int32))), iv ((own_dr ch)), rv (b34)] [(.ref b39)])) (fun _ k => st42.trans k) ?_
        have Tm : Str Z T42.heap b39 (own_S1.set (own_ix ps (10 : Int32)) (own_dr ch)) := ⟨_, _, g42e, g42c, g42v, cast (congrArg (fun q_ => Arv Z T42.heap t42 kb42 .byte q_ (((own_S1.set (own_ix ps (10 : Int32)) (own_dr ch)).map (fun c => c.toInt8.toInt32)).map Value.int) (.int 0)) (show (10 : Int32) = Int32.ofNat (own_S1.set (own_ix ps (10 : Int32)) (own_dr ch)).length from (by rw [List.length_set]; rfl))) g42a⟩
        refine gout (v := some (.ref b39)) X42 Bd.notSynchronized (fun h => by rw [Bd.returns] at h; cases h) (by decide) (by decide) ?_ (fun fs hr => retOut X42 hx Bd.returns rfl (Or.inr (Or.inr (Or.inr (Or.inr ⟨rfl, rfl, rfl⟩)))) (hb hby d28_123) hr)
        exact ⟨_, rfl, N42, K43, by unfold own_ms; rw [if_neg hc2, if_neg hc12, if_neg hc23]; exact Tm⟩
theorem ef_726 (m : MethodId) (x0 : Int32) (x1 : Int32) (x2 : Int32) (x3 : Int32) : entryFrame m #[(.int x0), (.int x1), (.int x2), (.int x3)] 6 = mkF m 0 #[.val (.int x0), .val (.int x1), .val (.int x2), .val (.int x3), .unset, .unset] [] := by first | (simp [entryFrame, mkF, argsToLocals, Value.category]; done) | rfl
theorem d29_0 : decode method_8_code 0 = .ok (.iload_n 1, 1) := by decide +kernel
theorem d29_1 : decode method_8_code 1 = .ok (.iconst 3, 1) := by decide +kernel
theorem d29_2 : decode method_8_code 2 = .ok (.iand, 1) := by decide +kernel
theorem d29_3 : decode method_8_code 3 = .ok (.istore 4, 2) := by decide +kernel
theorem d29_5 : decode method_8_code 5 = .ok (.iload 4, 2) := by decide +kernel
theorem d29_7 : decode method_8_code 7 = .ok (.ifCond .ne 5, 3) := by decide +kernel
theorem d29_10 : decode method_8_code 10 = .ok (.iconst 1, 1) := by decide +kernel
theorem d29_11 : decode method_8_code 11 = .ok (.ireturn, 1) := by decide +kernel
theorem d29_12 : decode method_8_code 12 = .ok (.iload 4, 2) := by decide +kernel
theorem d29_14 : decode method_8_code 14 = .ok (.iconst 1, 1) := by decide +kernel
theorem d29_15 : decode method_8_code 15 = .ok (.if_icmp .ne 33, 3) := by decide +kernel
theorem d29_18 : decode method_8_code 18 = .ok (.iload_n 0, 1) := by decide +kernel
theorem d29_19 : decode method_8_code 19 = .ok (.invokestatic 32, 3) := by decide +kernel
theorem d29_22 : decode method_8_code 22 = .ok (.astore 5, 2) := by decide +kernel
theorem d29_24 : decode method_8_code 24 = .ok (.aload 5, 2) := by decide +kernel
theorem d29_26 : decode method_8_code 26 = .ok (.iload_n 2, 1) := by decide +kernel
theorem d29_27 : decode method_8_code 27 = .ok (.ldc 39, 2) := by decide +kernel
theorem d29_29 : decode method_8_code 29 = .ok (.iand, 1) := by decide +kernel
theorem d29_30 : decode method_8_code 30 = .ok (.aload 5, 2) := by decide +kernel
theorem d29_32 : decode method_8_code 32 = .ok (.arraylength, 1) := by decide +kernel
theorem d29_33 : decode method_8_code 33 = .ok (.irem, 1) := by decide +kernel
theorem d29_34 : decode method_8_code 34 = .ok (.caload, 1) := by decide +kernel
theorem d29_35 : decode method_8_code 35 = .ok (.iload_n 3, 1) := by decide +kernel
theorem d29_36 : decode method_8_code 36 = .ok (.invokestatic 26, 3) := by decide +kernel
theorem d29_39 : decode method_8_code 39 = .ok (.if_icmp .ne 7, 3) := by decide +kernel
theorem d29_42 : decode method_8_code 42 = .ok (.iconst 1, 1) := by decide +kernel
theorem d29_43 : decode method_8_code 43 = .ok (.goto 4, 3) := by decide +kernel
theorem d29_47 : decode method_8_code 47 = .ok (.ireturn, 1) := by decide +kernel
theorem d29_46 : decode method_8_code 46 = .ok (.iconst 0, 1) := by decide +kernel
theorem d29_48 : decode method_8_code 48 = .ok (.iconst 0, 1) := by decide +kernel
theorem d29_49 : decode method_8_code 49 = .ok (.ireturn, 1) := by decide +kernel
set_option maxRecDepth 65536 in
set_option maxHeartbeats 40000000 in
theorem rm_mat1 (l : Launch) (Z : State) (a0 : Array Value) (hw : HW Z a0) (ws : List Jvm.Cond) (md : Int32) (ps : Int32) (ch : Int32) (h0 : Heap) (n0 : Nat) (Z0 : n0 ≤ h0.size) (O0 : Old Z n0 h0)  :
    Ctr l Z my14 method_8_code 6 ((Option.some Jvm.ClassFile.FieldType.boolean)) ws (⟨1, 1, 11, 14⟩ : Room) #[(.int (1 : Int32)), (.int md), (.int ps), (.int ch)] h0 (fun v h L => v = some (.int (own_mt own_F1 (11 : Int32) (md &&& (3 : Int32)) ps (own_dr ch))) ∧ Fr n0 L ∧ Keep h0 h []) := by
  refine Ctr.go (plainFor_of_name pn_345) fun p e s m below meth c s₁ Bd hx hby hml hZ hown hnm X0 e0 => ?_
  have N0 := Fr.nil n0
  have K0 := Keep.refl h0 []
  refine gs (S' := s₁.setTop (mkF m 0 #[iv ((1 : Int32)), iv (md), iv (ps), iv (ch), uu, uu] [])) (fun tg kg => castTop (ef_726 m (1 : Int32) md ps ch) kg) ?_
  refine gs (fun _ k => o_iloadN X0 hx hby d29_0 rfl (o_iconst (v := (3 : Int32)) X0 hx hby d29_1 (o_iand X0 hx hby d29_2 (o_istore X0 hx hby d29_3 rfl (o_iload X0 hx hby d29_5 rfl k))))) ?_
  by_cases hc1 : (md &&& (3 : Int32)) = (0 : Int32)
  · refine gs (fun _ k => o_ifNo X0 hx hby d29_7 ((if0 _ _).trans (teq hc1).2) (o_iconst (v := (1 : Int32)) X0 hx hby d29_10 k)) ?_
    refine gout (v := some (.int (1 : Int32))) X0 Bd.notSynchronized (fun h => by rw [Bd.returns] at h; cases h) (by decide) (by decide) ?_ (fun fs hr => retN X0 hx (t := .boolean) Bd.returns (by simp) (hb hby d29_11) hr)
    rw [e0]
    exact ⟨by unfold own_mt; rw [if_pos hc1], N0, K0⟩
  · refine gs (fun _ k => o_ifYes (pc' := 12) X0 hx hby d29_7 ((if0 _ _).trans (feq hc1).2) (o_iload X0 hx hby d29_12 rfl (o_iconst (v := (1 : Int32)) X0 hx hby d29_14 k))) ?_
    by_cases hc2 : (md &&& (3 : Int32)) = (1 : Int32)
    · refine gs (fun _ k => o_icmpNo X0 hx hby d29_15 (teq hc2).2 (o_iloadN X0 hx hby d29_18 rfl k)) ?_
      refine cS (rest := []) X0 hx hZ hown (ow hw 10 rfl) (ow hw 11 rfl) (ow hw 2 rfl) (ow hw 12 rfl) (rm_full1 l Z a0 hw []  h0 n0 Z0 O0 ) hby d29_19 e0 pd_667 0 (by rw [hml]; rfl) rfl rfl rfl rfl (by decide) (by decide) fun _ T3 Lc3 X3 hQ3 => ?_
      obtain ⟨b3, kb3, rfl, N3q, K3q, g3t, V3q⟩ := hQ3
      have N3 := Fr.app N0 N3q
      have g_b3 : n0 ≤ b3 := nt Z0 g3t
      have sz_b3 : h0.size ≤ b3 := nt K0.1 g3t
      have Z4 := nt Z0 K3q.1
      have O4 := O0.keep K3q all0
      have K4 := K0.trans K3q all0
      refine gs (fun _ k => o_astore X3 hx hby d29_22 rfl rfl (o_aload X3 hx hby d29_24 rfl rfl (o_iloadN X3 hx hby d29_26 rfl (X3.ldcInt hx hown (mvT hZ (ow hw 40 rfl)) (g := (mkF m 27 #[iv ((1 : Int32)), iv (md), iv (ps), iv (ch), iv ((md &&& (3 : Int32))), rv (b3)] [(.int ps), (.ref b3)])) rfl (hb hby d29_27) _ (o_iand X3 hx hby d29_29 (o_aload X3 hx hby d29_30 rfl rfl k)))))) ?_
      obtain ⟨cl5, A5, a5q, a5S, a5N, a5H, a5G⟩ := id V3q
      refine gs (S' := T3.setTop (mkF m 33 #[iv ((1 : Int32)), iv (md), iv (ps), iv (ch), iv ((md &&& (3 : Int32))), rv (b3)] [(.int (11 : Int32)), (.int (ps &&& (2147483647 : Int32))), (.ref b3)])) (fun _ k => by refine X3.arraylength hx A5.1 (State.isArrayOf_alike hZ.alike A5.2.1) (g := (mkF m 32 #[iv ((1 : Int32)), iv (md), iv (ps), iv (ch), iv ((md &&& (3 : Int32))), rv (b3)] [(.ref b3), (.int (ps &&& (2147483647 : Int32))), (.ref b3)])) rfl rfl (hb hby d29_32) _ ?_; rw [len_of a5S a5N]; exact k) ?_
      refine gs (fun _ k => Jvm.RoadKit.iremM X3 hx (g := (mkF m 33 #[iv ((1 : Int32)), iv (md), iv (ps), iv (ch), iv ((md &&& (3 : Int32))), rv (b3)] [(.int (11 : Int32)), (.int (ps &&& (2147483647 : Int32))), (.ref b3)])) rfl (hb hby d29_33) rfl (by decide) k) ?_
      obtain ⟨cl6, A6, a6q, a6S, a6N, a6H, a6G⟩ := id V3q
      have hi6 := inb_of a6S (j := ((ps &&& (2147483647 : Int32)) % (11 : Int32))) (own_ixr ps (11 : Int32) (by decide)).1
      refine gs (fun _ k => X3.caload hx (j := ((ps &&& (2147483647 : Int32)) % (11 : Int32))) (v := (.int (own_F1.getD (own_ix ps (11 : Int32)) 0))) A6.1 (State.isArrayOf_alike hZ.alike A6.2.1) A6.2.2 hi6 (Has.at a6H hi6 (own_getm own_F1 (own_ix ps (11 : Int32)))) (g := (mkF m 34 #[iv ((1 : Int32)), iv (md), iv (ps), iv (ch), iv ((md &&& (3 : Int32))), rv (b3)] [(.int ((ps &&& (2147483647 : Int32)) % (11 : Int32))), (.ref b3)])) rfl rfl (hb hby d29_34) _ (o_iloadN X3 hx hby d29_35 rfl k)) ?_
      refine cS (rest := [(.int (own_F1.getD (own_ix ps (11 : Int32)) 0))]) X3 hx hZ hown (ow hw 4 rfl) (ow hw 5 rfl) (ow hw 2 rfl) (ow hw 6 rfl) (rm_dr l Z a0 hw [] ch T3.heap n0 Z4 O4 ) hby d29_36 rfl pd_659 1 (by rw [hml]; rfl) rfl rfl rfl rfl (by decide) (by decide) fun _ T7 Lc7 X7 hQ7 => ?_
      obtain ⟨rfl, N7q, e7q⟩ := hQ7
      have N7 := Fr.app N3 N7q
      by_cases hc8 : (own_F1.getD (own_ix ps (11 : Int32)) 0) = (own_dr ch)
      · refine gs (fun _ k => o_icmpNo X7 hx hby d29_39 (teq hc8).2 (o_iconst (v := (1 : Int32)) X7 hx hby d29_42 (o_goto (pc' := 47) X7 hx hby d29_43 k))) ?_
        refine gout (v := some (.int (1 : Int32))) X7 Bd.notSynchronized (fun h => by rw [Bd.returns] at h; cases h) (by decide) (by decide) ?_ (fun fs hr => retN X7 hx (t := .boolean) Bd.returns (by simp) (hb hby d29_47) hr)
        rw [e7q]
        exact ⟨by unfold own_mt; rw [if_neg hc1, if_pos hc2, if_pos hc8], N7, K4⟩
      · refine gs (fun _ k => o_icmpYes (pc' := 46) X7 hx hby d29_39 (feq hc8).2 (o_iconst (v := (0 : Int32)) X7 hx hby d29_46 k)) ?_
        refine gout (v := some (.int (0 : Int32))) X7 Bd.notSynchronized (fun h => by rw [Bd.returns] at h; cases h) (by decide) (by decide) ?_ (fun fs hr => retN X7 hx (t := .boolean) Bd.returns (by simp) (hb hby d29_47) hr)
        rw [e7q]
        exact ⟨by unfold own_mt; rw [if_neg hc1, if_pos hc2, if_neg hc8], N7, K4⟩
    · refine gs (fun _ k => o_icmpYes (pc' := 48) X0 hx hby d29_15 (feq hc2).2 (o_iconst (v := (0 : Int32)) X0 hx hby d29_48 k)) ?_
      refine gout (v := some (.int (0 : Int32))) X0 Bd.notSynchronized (fun h => by rw [Bd.returns] at h; cases h) (by decide) (by decide) ?_ (fun fs hr => retN X0 hx (t := .boolean) Bd.returns (by simp) (hb hby d29_49) hr)
      rw [e0]
      exact ⟨by unfold own_mt; rw [if_neg hc1, if_neg hc2], N0, K0⟩
theorem ef_758 (m : MethodId) (x0 : Int32) (x1 : Int32) (x2 : Int32) (x3 : Int32) : entryFrame m #[(.int x0), (.int x1), (.int x2), (.int x3)] 7 = mkF m 0 #[.val (.int x0), .val (.int x1), .val (.int x2), .val (.int x3), .unset, .unset, .unset] [] := by first | (simp [entryFrame, mkF, argsToLocals, Value.category]; done) | rfl
set_option maxRecDepth 65536 in
set_option maxHeartbeats 40000000 in
theorem rm_make0 (l : Launch) (Z : State) (a0 : Array Value) (hw : HW Z a0) (ws : List Jvm.Cond) (md : Int32) (ps : Int32) (ch : Int32) (z : Int32) (h0 : Heap) (n0 : Nat) (Z0 : n0 ≤ h0.size) (O0 : Old Z n0 h0) (S0 : PS0 Z (.int z)) (hz : ¬ z = 0) :
    Ctr l Z my13 method_7_code 7 ((Option.some (Jvm.ClassFile.FieldType.object "java/lang/String"))) ws (⟨4, 3, 30, 66⟩ : Room) #[(.int (0 : Int32)), (.int md), (.int ps), (.int ch)] h0 (fun v h L => ∃ a : Addr, v = some (.ref a) ∧ Fr n0 L ∧ Keep h0 h [] ∧ Str Z h a (own_ms own_F0 own_L0 own_S0 (12 : Int32) (11 : Int32) 12 (md &&& (3 : Int32)) ps (own_dr ch))) := by
  refine Ctr.go (plainFor_of_name pn_345) fun p e s m below meth c s₁ Bd hx hby hml hZ hown hnm X0 e0 => ?_
  have N0 := Fr.nil n0
  have K0 := Keep.refl h0 []
  refine gs (S' := s₁.setTop (mkF m 0 #[iv ((0 : Int32)), iv (md), iv (ps), iv (ch), uu, uu, uu] [])) (fun tg kg => castTop (ef_758 m (0 : Int32) md ps ch) kg) ?_
  have hws : ∀ d ∈ StrChars.Road.words, d.before a0 Z = true := fun d hd => hw d ((by decide +kernel : ∀ d ∈ StrChars.Road.words, d ∈ tables_1) d hd)
  refine gs (fun _ k => o_iloadN X0 hx hby d28_0 rfl (o_iconst (v := (3 : Int32)) X0 hx hby d28_1 (o_iand X0 hx hby d28_2 (o_istore X0 hx hby d28_3 rfl (o_iloadN X0 hx hby d28_5 rfl k))))) ?_
  refine cS (rest := []) X0 hx hZ hown (ow hw 4 rfl) (ow hw 5 rfl) (ow hw 2 rfl) (ow hw 6 rfl) (rm_dr l Z a0 hw [] ch h0 n0 Z0 O0 ) hby d28_6 e0 pd_659 0 (by rw [hml]; rfl) rfl rfl rfl rfl (by decide) (by decide) fun _ T1 Lc1 X1 hQ1 => ?_
  obtain ⟨rfl, N1q, e1q⟩ := hQ1
  have N1 := Fr.app N0 N1q
  refine gs (fun _ k => o_istore X1 hx hby d28_9 rfl (o_iload X1 hx hby d28_11 rfl k)) ?_
  by_cases hc2 : (md &&& (3 : Int32)) = (0 : Int32)
  · refine gs (fun _ k => o_ifNo X1 hx hby d28_13 ((if0 _ _).trans (teq hc2).2) k) ?_
    obtain ⟨T3, h3, X3, e3, E3, A3, D3, -, st3⟩ := newO X1 hx hZ hown (ow hw 7 rfl) (ow hw 8 rfl) (ow hw 9 rfl) e1q (g := (mkF m 16 #[iv ((0 : Int32)), iv (md), iv (ps), iv (ch), iv ((md &&& (3 : Int32))), iv ((own_dr ch)), uu] [])) rfl (hb hby d28_16) (by decide) (by decide)
    obtain ⟨b3, q3⟩ : ∃ z, z = h0.size := ⟨_, rfl⟩
    rw [← q3] at A3 D3 st3
    have g_b3 : n0 ≤ b3 := nt Z0 (Nat.le_of_eq q3.symm)
    have sz_b3 : h0.size ≤ b3 := nt K0.1 (Nat.le_of_eq q3.symm)
    have Z4 := nt Z0 E3.1
    have O4 := O0.ext E3
    have K4 := K0.ext E3
    have F_coder_b3 : Fld Z h3 b3 "java/lang/String" "coder" "B" (.int (0 : Int32)) := D3 (Or.inr (ow hw 37 rfl)) (ty := .byte) (by decide)
    have F_value_b3 : Fld Z h3 b3 "java/lang/String" "value" "[B" .null := D3 (Or.inr (ow hw 39 rfl)) (ty := (.array .byte)) (by decide)
    refine gs (S' := T3.setTop (mkF m 19 #[iv ((0 : Int32)), iv (md), iv (ps), iv (ch), iv ((md &&& (3 : Int32))), iv ((own_dr ch)), uu] [(.ref b3)])) st3 ?_
    refine gs (fun _ k => o_dup X3 hx hby d28_19 rfl (o_iloadN X3 hx hby d28_20 rfl k)) ?_
    refine cS (rest := [(.ref b3), (.ref b3)]) X3 hx hZ hown (ow hw 10 rfl) (ow hw 11 rfl) (ow hw 2 rfl) (ow hw 12 rfl) (rm_full0 l Z a0 hw []  h3 n0 Z4 O4 ) hby d28_21 e3 pd_667 2 (by rw [hml]; rfl) rfl rfl rfl rfl (by decide) (by decide) fun _ T5 Lc5 X5 hQ5 => ?_
    obtain ⟨b5, kb5, rfl, N5q, K5q, g5t, V5q⟩ := hQ5
    have N5 := Fr.app N1 N5q
    have g_b5 : n0 ≤ b5 := nt Z4 g5t
    have sz_b5 : h0.size ≤ b5 := nt K4.1 g5t
    have Z6 := nt Z4 K5q.1
    have O6 := O4.keep K5q all0
    have K6 := K4.trans K5q all0
    have f7 := (A3.keep K5q)
    have f8 := (F_value_b3.keep K5q nin0)
    have f9 := (F_coder_b3.keep K5q nin0)
    obtain ⟨_, _, ⟨T10, L10, k10, n10⟩, -, X10, ⟨Lc10, hQ10, l10, y10, z10⟩, st10⟩ := X5.specialBack hx (y := my0) rfl hown (mvT hZ (ow hw 14 rfl)) (mvT hZ (ow hw 15 rfl)) (mvT hZ (ow hw 16 rfl)) (by decide) (StrChars.Road.backV (W := 1) hZ hws (kI := 4) (ow hw 8 rfl) (cs := own_F0) (bs := own_F0.map (fun c => c.toInt8.toInt32)) (n := 12) g_b3 Z6 f7 f8 f9 V5q (S0.ext O6.2) hz rfl rfl (by decide) (by decide) own_F0b rfl (by decide) (by decide)) (g := (mkF m 24 #[iv ((0 : Int32)), iv (md), iv (ps), iv (ch), iv ((md &&& (3 : Int32))), iv ((own_dr ch)), uu] [(.ref b5), (.ref b3), (.ref b3)])) rfl (by rw [hml]; rfl) (Steps.refl _) (a := b3) (argsL := [(.ref b5)]) (rest := [(.ref b3)]) (lenOf pd_669 rfl) rfl (own_w0 rfl) (hb hby d28_24) (fun _ _ => ⟨rfl, rfl, (by decide : 2 + 1 ≤ _), (by decide : 16 + 12 ≤ _)⟩)
    dsimp only [Pt.U, Pt.locs, Pt.cells, Pt.slots] at X10 l10 y10 z10 st10 hQ10
    subst l10 y10 z10
    obtain ⟨rfl, N10q, K10q, g10e, g10c, t10, kb10, -, g10t, -, g10v, g10a⟩ := hQ10
    have N10 := Fr.app N5 N10q
    have g_t10 : n0 ≤ t10 := nt Z6 g10t
    have sz_t10 : h0.size ≤ t10 := nt K6.1 g10t
    have Z11 := nt Z6 K10q.1
    have O11 := O6.keep K10q (allS g_b3 all0)
    have K11 := K6.trans K10q (allS (Or.inr sz_b3) all0)
    refine gs (S' := T10.setTop (mkF m 27 #[iv ((0 : Int32)), iv (md), iv (ps), iv (ch), iv ((md &&& (3 : Int32))), iv ((own_dr ch)), uu] [(.ref b3)])) (fun _ k => st10.trans k) ?_
    have Tm : Str Z T10.heap b3 own_F0 := ⟨_, _, g10e, g10c, g10v, cast (congrArg (fun q_ => Arv Z T10.heap t10 kb10 .byte q_ ((own_F0.map (fun c => c.toInt8.toInt32)).map Value.int) (.int 0)) (show (12 : Int32) = Int32.ofNat own_F0.length from rfl)) g10a⟩
    refine gout (v := some (.ref b3)) X10 Bd.notSynchronized (fun h => by rw [Bd.returns] at h; cases h) (by decide) (by decide) ?_ (fun fs hr => retOut X10 hx Bd.returns rfl (Or.inr (Or.inr (Or.inr (Or.inr ⟨rfl, rfl, rfl⟩)))) (hb hby d28_27) hr)
    exact ⟨_, rfl, N10, K11, by unfold own_ms; rw [if_pos hc2]; exact Tm⟩
  · refine gs (fun _ k => o_ifYes (pc' := 28) X1 hx hby d28_13 ((if0 _ _).trans (feq hc2).2) (o_iload X1 hx hby d28_28 rfl (o_iconst (v := (1 : Int32)) X1 hx hby d28_30 k))) ?_
    by_cases hc12 : (md &&& (3 : Int32)) = (1 : Int32)
    · refine gs (fun _ k => o_icmpNo X1 hx hby d28_31 (teq hc12).2 (o_iloadN X1 hx hby d28_34 rfl k)) ?_
      refine cS (rest := []) X1 hx hZ hown (ow hw 10 rfl) (ow hw 11 rfl) (ow hw 2 rfl) (ow hw 12 rfl) (rm_full0 l Z a0 hw []  h0 n0 Z0 O0 ) hby d28_35 e1q pd_667 0 (by rw [hml]; rfl) rfl rfl rfl rfl (by decide) (by decide) fun _ T13 Lc13 X13 hQ13 => ?_
      obtain ⟨b13, kb13, rfl, N13q, K13q, g13t, V13q⟩ := hQ13
      have N13 := Fr.app N1 N13q
      have g_b13 : n0 ≤ b13 := nt Z0 g13t
      have sz_b13 : h0.size ≤ b13 := nt K0.1 g13t
      have Z14 := nt Z0 K13q.1
      have O14 := O0.keep K13q all0
      have K14 := K0.trans K13q all0
      refine gs (fun _ k => o_astore X13 hx hby d28_38 rfl rfl (o_aload X13 hx hby d28_40 rfl rfl (o_iloadN X13 hx hby d28_42 rfl (X13.ldcInt hx hown (mvT hZ (ow hw 40 rfl)) (g := (mkF m 43 #[iv ((0 : Int32)), iv (md), iv (ps), iv (ch), iv ((md &&& (3 : Int32))), iv ((own_dr ch)), rv (b13)] [(.int ps), (.ref b13)])) rfl (hb hby d28_43) _ (o_iand X13 hx hby d28_45 (o_aload X13 hx hby d28_46 rfl rfl k)))))) ?_
      obtain ⟨cl15, A15, a15q, a15S, a15N, a15H, a15G⟩ := id V13q
      refine gs (S' := T13.setTop (mkF m 49 #[iv ((0 : Int32)), iv (md), iv (ps), iv (ch), iv ((md &&& (3 : Int32))), iv ((own_dr ch)), rv (b13)] [(.int (12 : Int32)), (.int (ps &&& (2147483647 : Int32))), (.ref b13)])) (fun _ k => by refine X13.arraylength hx A15.1 (State.isArrayOf_alike hZ.alike A15.2.1) (g := (mkF m 48 #[iv ((0 : Int32)), iv (md), iv (ps), iv (ch), iv ((md &&& (3 : Int32))), iv ((own_dr ch)), rv (b13)] [(.ref b13), (.int (ps &&& (2147483647 : Int32))), (.ref b13)])) rfl rfl (hb hby d28_48) _ ?_; rw [len_of a15S a15N]; exact k) ?_
      refine gs (fun _ k => Jvm.RoadKit.iremM X13 hx (g := (mkF m 49 #[iv ((0 : Int32)), iv (md), iv (ps), iv (ch), iv ((md &&& (3 : Int32))), iv ((own_dr ch)), rv (b13)] [(.int (12 : Int32)), (.int (ps &&& (2147483647 : Int32))), (.ref b13)])) rfl (hb hby d28_49) rfl (by decide) (o_iload X13 hx hby d28_50 rfl k)) ?_
      obtain ⟨cl16, A16, a16q, a16S, a16N, a16H, a16G⟩ := id V13q
      obtain ⟨T16, h16, X16, e16, W16, st16⟩ := stC X13 hx hZ rfl A16 (j := ((ps &&& (2147483647 : Int32)) % (12 : Int32))) (inb_of a16S (own_ixr ps (12 : Int32) (by decide)).1) (g := (mkF m 52 #[iv ((0 : Int32)), iv (md), iv (ps), iv (ch), iv ((md &&& (3 : Int32))), iv ((own_dr ch)), rv (b13)] [(.int (own_dr ch)), (.int ((ps &&& (2147483647 : Int32)) % (12 : Int32))), (.ref b13)])) rfl rfl (hb hby d28_52)
      have q16 := Arv.set A16 a16q a16S a16N a16H a16G (fits_nar_char _) W16 (own_ix ps (12 : Int32)) rfl (show own_ix ps (12 : Int32) < 12 from (own_ixr ps (12 : Int32) (by decide)).2)
      rw [own_drn, ← List.map_set] at q16
      have V16 : Arv Z h16 b13 kb13 .char (12 : Int32) ((own_F0.set (own_ix ps (12 : Int32)) (own_dr ch)).map Value.int) (.int (0 : Int32)) := q16
      have N16 := Fr.snoc X16 N13 g_b13
      have Z17 := nt Z14 (Keep.of_wr W16).1
      have O17 := O14.wr W16 g_b13
      have K17 := K14.wr W16 (Or.inr sz_b13)
      refine gs (S' := T16.setTop (mkF m 53 #[iv ((0 : Int32)), iv (md), iv (ps), iv (ch), iv ((md &&& (3 : Int32))), iv ((own_dr ch)), rv (b13)] [])) st16 ?_
      obtain ⟨T18, h18, X18, e18, E18, A18, D18, -, st18⟩ := newO X16 hx hZ hown (ow hw 7 rfl) (ow hw 8 rfl) (ow hw 9 rfl) e16 (g := (mkF m 53 #[iv ((0 : Int32)), iv (md), iv (ps), iv (ch), iv ((md &&& (3 : Int32))), iv ((own_dr ch)), rv (b13)] [])) rfl (hb hby d28_53) (by decide) (by decide)
      obtain ⟨b18, q18⟩ : ∃ z, z = h16.size := ⟨_, rfl⟩
      rw [← q18] at A18 D18 st18
      have g_b18 : n0 ≤ b18 := nt Z17 (Nat.le_of_eq q18.symm)
      have sz_b18 : h0.size ≤ b18 := nt K17.1 (Nat.le_of_eq q18.symm)
      have Z19 := nt Z17 E18.1
      have O19 := O17.ext E18
      have K19 := K17.ext E18
      have F_coder_b18 : Fld Z h18 b18 "java/lang/String" "coder" "B" (.int (0 : Int32)) := D18 (Or.inr (ow hw 37 rfl)) (ty := .byte) (by decide)
      have F_value_b18 : Fld Z h18 b18 "java/lang/String" "value" "[B" .null := D18 (Or.inr (ow hw 39 rfl)) (ty := (.array .byte)) (by decide)
      refine gs (S' := T18.setTop (mkF m 56 #[iv ((0 : Int32)), iv (md), iv (ps), iv (ch), iv ((md &&& (3 : Int32))), iv ((own_dr ch)), rv (b13)] [(.ref b18)])) st18 ?_
      refine gs (fun _ k => o_dup X18 hx hby d28_56 rfl (o_aload X18 hx hby d28_57 rfl rfl k)) ?_
      have f20 := (V16.ext E18)
      obtain ⟨_, _, ⟨T21, L21, k21, n21⟩, -, X21, ⟨Lc21, hQ21, l21, y21, z21⟩, st21⟩ := X18.specialBack hx (y := my0) rfl hown (mvT hZ (ow hw 14 rfl)) (mvT hZ (ow hw 15 rfl)) (mvT hZ (ow hw 16 rfl)) (by decide) (StrChars.Road.backV (W := 1) hZ hws (kI := 4) (ow hw 8 rfl) (cs := (own_F0.set (own_ix ps (12 : Int32)) (own_dr ch))) (bs := (own_F0.set (own_ix ps (12 : Int32)) (own_dr ch)).map (fun c => c.toInt8.toInt32)) (n := 12) g_b18 Z19 A18 F_value_b18 F_coder_b18 f20 (S0.ext O19.2) hz (by rw [List.length_set]; rfl) rfl (by decide) (by decide) (own_setb own_F0b (own_drb ch)) rfl (by decide) (by decide)) (g := (mkF m 59 #[iv ((0 : Int32)), iv (md), iv (ps), iv (ch), iv ((md &&& (3 : Int32))), iv ((own_dr ch)), rv (b13)] [(.ref b13), (.ref b18), (.ref b18)])) rfl (by rw [hml]; rfl) (Steps.refl _) (a := b18) (argsL := [(.ref b13)]) (rest := [(.ref b18)]) (lenOf pd_669 rfl) rfl (own_w0 rfl) (hb hby d28_59) (fun _ _ => ⟨rfl, e18, (by decide : 2 + 1 ≤ _), (by decide : 16 + 12 ≤ _)⟩)
      dsimp only [Pt.U, Pt.locs, Pt.cells, Pt.slots] at X21 l21 y21 z21 st21 hQ21
      subst l21 y21 z21
      obtain ⟨rfl, N21q, K21q, g21e, g21c, t21, kb21, -, g21t, -, g21v, g21a⟩ := hQ21
      have N21 := Fr.app N16 N21q
      have g_t21 : n0 ≤ t21 := nt Z19 g21t
      have sz_t21 : h0.size ≤ t21 := nt K19.1 g21t
      have Z22 := nt Z19 K21q.1
      have O22 := O19.keep K21q (allS g_b18 all0)
      have K22 := K19.trans K21q (allS (Or.inr sz_b18) all0)
      refine gs (S' := T21.setTop (mkF m 62 #[iv ((0 : Int32)), iv (md), iv (ps), iv (ch), iv ((md &&& (3 : Int32))), iv ((own_dr ch)), rv (b13)] [(.ref b18)])) (fun _ k => st21.trans k) ?_
      have Tm : Str Z T21.heap b18 (own_F0.set (own_ix ps (12 : Int32)) (own_dr ch)) := ⟨_, _, g21e, g21c, g21v, cast (congrArg (fun q_ => Arv Z T21.heap t21 kb21 .byte q_ (((own_F0.set (own_ix ps (12 : Int32)) (own_dr ch)).map (fun c => c.toInt8.toInt32)).map Value.int) (.int 0)) (show (12 : Int32) = Int32.ofNat (own_F0.set (own_ix ps (12 : Int32)) (own_dr ch)).length from (by rw [List.length_set]; rfl))) g21a⟩
      refine gout (v := some (.ref b18)) X21 Bd.notSynchronized (fun h => by rw [Bd.returns] at h; cases h) (by decide) (by decide) ?_ (fun fs hr => retOut X21 hx Bd.returns rfl (Or.inr (Or.inr (Or.inr (Or.inr ⟨rfl, rfl, rfl⟩)))) (hb hby d28_62) hr)
      exact ⟨_, rfl, N21, K22, by unfold own_ms; rw [if_neg hc2, if_pos hc12]; exact Tm⟩
    · refine gs (fun _ k => o_icmpYes (pc' := 63) X1 hx hby d28_31 (feq hc12).2 (o_iload X1 hx hby d28_63 rfl (o_iconst (v := (2 : Int32)) X1 hx hby d28_65 k))) ?_
      by_cases hc23 : (md &&& (3 : Int32)) = (2 : Int32)
      · refine gs (fun _ k => o_icmpNo X1 hx hby d28_66 (teq hc23).2 (o_iloadN X1 hx hby d28_69 rfl k)) ?_
        refine cS (rest := []) X1 hx hZ hown (ow hw 211 rfl) (ow hw 212 rfl) (ow hw 2 rfl) (ow hw 213 rfl) (rm_longer0 l Z a0 hw []  h0 n0 Z0 O0 ) hby d28_70 e1q pd_667 0 (by rw [hml]; rfl) rfl rfl rfl rfl (by decide) (by decide) fun _ T24 Lc24 X24 hQ24 => ?_
        obtain ⟨b24, kb24, rfl, N24q, K24q, g24t, V24q⟩ := hQ24
        have N24 := Fr.app N1 N24q
        have g_b24 : n0 ≤ b24 := nt Z0 g24t
        have sz_b24 : h0.size ≤ b24 := nt K0.1 g24t
        have Z25 := nt Z0 K24q.1
        have O25 := O0.keep K24q all0
        have K25 := K0.trans K24q all0
        refine gs (fun _ k => o_astore X24 hx hby d28_73 rfl rfl (o_aload X24 hx hby d28_75 rfl rfl (o_aload X24 hx hby d28_77 rfl rfl k))) ?_
        obtain ⟨cl26, A26, a26q, a26S, a26N, a26H, a26G⟩ := id V24q
        refine gs (S' := T24.setTop (mkF m 80 #[iv ((0 : Int32)), iv (md), iv (ps), iv (ch), iv ((md &&& (3 : Int32))), iv ((own_dr ch)), rv (b24)] [(.int (13 : Int32)), (.ref b24)])) (fun _ k => by refine X24.arraylength hx A26.1 (State.isArrayOf_alike hZ.alike A26.2.1) (g := (mkF m 79 #[iv ((0 : Int32)), iv (md), iv (ps), iv (ch), iv ((md &&& (3 : Int32))), iv ((own_dr ch)), rv (b24)] [(.ref b24), (.ref b24)])) rfl rfl (hb hby d28_79) _ ?_; rw [len_of a26S a26N]; exact k) ?_
        refine gs (fun _ k => o_iconst (v := (1 : Int32)) X24 hx hby d28_80 (o_isub X24 hx hby d28_81 (o_iload X24 hx hby d28_82 rfl k))) ?_
        obtain ⟨cl27, A27, a27q, a27S, a27N, a27H, a27G⟩ := id V24q
        obtain ⟨T27, h27, X27, e27, W27, st27⟩ := stC X24 hx hZ rfl A27 (j := (12 : Int32)) (inb_of a27S ⟨by decide, by decide⟩) (g := (mkF m 84 #[iv ((0 : Int32)), iv (md), iv (ps), iv (ch), iv ((md &&& (3 : Int32))), iv ((own_dr ch)), rv (b24)] [(.int (own_dr ch)), (.int (12 : Int32)), (.ref b24)])) rfl rfl (hb hby d28_84)
        have q27 := Arv.set A27 a27q a27S a27N a27H a27G (fits_nar_char _) W27 12 rfl (nb rfl)
        rw [own_drn, ← List.map_set] at q27
        have V27 : Arv Z h27 b24 kb24 .char (13 : Int32) ((own_L0.set 12 (own_dr ch)).map Value.int) (.int (0 : Int32)) := q27
        have N27 := Fr.snoc X27 N24 g_b24
        have Z28 := nt Z25 (Keep.of_wr W27).1
        have O28 := O25.wr W27 g_b24
        have K28 := K25.wr W27 (Or.inr sz_b24)
        refine gs (S' := T27.setTop (mkF m 85 #[iv ((0 : Int32)), iv (md), iv (ps), iv (ch), iv ((md &&& (3 : Int32))), iv ((own_dr ch)), rv (b24)] [])) st27 ?_
        obtain ⟨T29, h29, X29, e29, E29, A29, D29, -, st29⟩ := newO X27 hx hZ hown (ow hw 7 rfl) (ow hw 8 rfl) (ow hw 9 rfl) e27 (g := (mkF m 85 #[iv ((0 : Int32)), iv (md), iv (ps), iv (ch), iv ((md &&& (3 : Int32))), iv ((own_dr ch)), rv (b24)] [])) rfl (hb hby d28_85) (by decide) (by decide)
        obtain ⟨b29, q29⟩ : ∃ z, z = h27.size := ⟨_, rfl⟩
        rw [← q29] at A29 D29 st29
        have g_b29 : n0 ≤ b29 := nt Z28 (Nat.le_of_eq q29.symm)
        have sz_b29 : h0.size ≤ b29 := nt K28.1 (Nat.le_of_eq q29.symm)
        have Z30 := nt Z28 E29.1
        have O30 := O28.ext E29
        have K30 := K28.ext E29
        have F_coder_b29 : Fld Z h29 b29 "java/lang/String" "coder" "B" (.int (0 : Int32)) := D29 (Or.inr (ow hw 37 rfl)) (ty := .byte) (by decide)
        have F_value_b29 : Fld Z h29 b29 "java/lang/String" "value" "[B" .null := D29 (Or.inr (ow hw 39 rfl)) (ty := (.array .byte)) (by decide)
        refine gs (S' := T29.setTop (mkF m 88 #[iv ((0 : Int32)), iv (md), iv (ps), iv (ch), iv ((md &&& (3 : Int32))), iv ((own_dr ch)), rv (b24)] [(.ref b29)])) st29 ?_
        refine gs (fun _ k => o_dup X29 hx hby d28_88 rfl (o_aload X29 hx hby d28_89 rfl rfl k)) ?_
        have f31 := (V27.ext E29)
        obtain ⟨_, _, ⟨T32, L32, k32, n32⟩, -, X32, ⟨Lc32, hQ32, l32, y32, z32⟩, st32⟩ := X29.specialBack hx (y := my0) rfl hown (mvT hZ (ow hw 14 rfl)) (mvT hZ (ow hw 15 rfl)) (mvT hZ (ow hw 16 rfl)) (by decide) (StrChars.Road.backV (W := 1) hZ hws (kI := 4) (ow hw 8 rfl) (cs := (own_L0.set 12 (own_dr ch))) (bs := (own_L0.set 12 (own_dr ch)).map (fun c => c.toInt8.toInt32)) (n := 13) g_b29 Z30 A29 F_value_b29 F_coder_b29 f31 (S0.ext O30.2) hz (by rw [List.length_set]; rfl) rfl (by decide) (by decide) (own_setb own_L0b (own_drb ch)) rfl (by decide) (by decide)) (g := (mkF m 91 #[iv ((0 : Int32)), iv (md), iv (ps), iv (ch), iv ((md &&& (3 : Int32))), iv ((own_dr ch)), rv (b24)] [(.ref b24), (.ref b29), (.ref b29)])) rfl (by rw [hml]; rfl) (Steps.refl _) (a := b29) (argsL := [(.ref b24)]) (rest := [(.ref b29)]) (lenOf pd_669 rfl) rfl (own_w0 rfl) (hb hby d28_91) (fun _ _ => ⟨rfl, e29, (by decide : 2 + 1 ≤ _), (by decide : 17 + 13 ≤ _)⟩)
        dsimp only [Pt.U, Pt.locs, Pt.cells, Pt.slots] at X32 l32 y32 z32 st32 hQ32
        subst l32 y32 z32
        obtain ⟨rfl, N32q, K32q, g32e, g32c, t32, kb32, -, g32t, -, g32v, g32a⟩ := hQ32
        have N32 := Fr.app N27 N32q
        have g_t32 : n0 ≤ t32 := nt Z30 g32t
        have sz_t32 : h0.size ≤ t32 := nt K30.1 g32t
        have Z33 := nt Z30 K32q.1
        have O33 := O30.keep K32q (allS g_b29 all0)
        have K33 := K30.trans K32q (allS (Or.inr sz_b29) all0)
        refine gs (S' := T32.setTop (mkF m 94 #[iv ((0 : Int32)), iv (md), iv (ps), iv (ch), iv ((md &&& (3 : Int32))), iv ((own_dr ch)), rv (b24)] [(.ref b29)])) (fun _ k => st32.trans k) ?_
        have Tm : Str Z T32.heap b29 (own_L0.set 12 (own_dr ch)) := ⟨_, _, g32e, g32c, g32v, cast (congrArg (fun q_ => Arv Z T32.heap t32 kb32 .byte q_ (((own_L0.set 12 (own_dr ch)).map (fun c => c.toInt8.toInt32)).map Value.int) (.int 0)) (show (13 : Int32) = Int32.ofNat (own_L0.set 12 (own_dr ch)).length from (by rw [List.length_set]; rfl))) g32a⟩
        refine gout (v := some (.ref b29)) X32 Bd.notSynchronized (fun h => by rw [Bd.returns] at h; cases h) (by decide) (by decide) ?_ (fun fs hr => retOut X32 hx Bd.returns rfl (Or.inr (Or.inr (Or.inr (Or.inr ⟨rfl, rfl, rfl⟩)))) (hb hby d28_94) hr)
        exact ⟨_, rfl, N32, K33, by unfold own_ms; rw [if_neg hc2, if_neg hc12, if_pos hc23]; exact Tm⟩
      · refine gs (fun _ k => o_icmpYes (pc' := 95) X1 hx hby d28_66 (feq hc23).2 (o_iloadN X1 hx hby d28_95 rfl k)) ?_
        refine cS (rest := []) X1 hx hZ hown (ow hw 208 rfl) (ow hw 209 rfl) (ow hw 2 rfl) (ow hw 210 rfl) (rm_shorter0 l Z a0 hw []  h0 n0 Z0 O0 ) hby d28_96 e1q pd_667 0 (by rw [hml]; rfl) rfl rfl rfl rfl (by decide) (by decide) fun _ T34 Lc34 X34 hQ34 => ?_
        obtain ⟨b34, kb34, rfl, N34q, K34q, g34t, V34q⟩ := hQ34
        have N34 := Fr.app N1 N34q
        have g_b34 : n0 ≤ b34 := nt Z0 g34t
        have sz_b34 : h0.size ≤ b34 := nt K0.1 g34t
        have Z35 := nt Z0 K34q.1
        have O35 := O0.keep K34q all0
        have K35 := K0.trans K34q all0
        refine gs (fun _ k => o_astore X34 hx hby d28_99 rfl rfl (o_aload X34 hx hby d28_101 rfl rfl (o_iloadN X34 hx hby d28_103 rfl (X34.ldcInt hx hown (mvT hZ (ow hw 40 rfl)) (g := (mkF m 104 #[iv ((0 : Int32)), iv (md), iv (ps), iv (ch), iv ((md &&& (3 : Int32))), iv ((own_dr ch)), rv (b34)] [(.int ps), (.ref b34)])) rfl (hb hby d28_104) _ (o_iand X34 hx hby d28_106 (o_aload X34 hx hby d28_107 rfl rfl k)))))) ?_
        obtain ⟨cl36, A36, a36q, a36S, a36N, a36H, a36G⟩ := id V34q
        refine gs (S' := T34.setTop (mkF m 110 #[iv ((0 : Int32)), iv (md), iv (ps), iv (ch), iv ((md &&& (3 : Int32))), iv ((own_dr ch)), rv (b34)] [(.int (11 : Int32)), (.int (ps &&& (2147483647 : Int32))), (.ref b34)])) (fun _ k => by refine X34.arraylength hx A36.1 (State.isArrayOf_alike hZ.alike A36.2.1) (g := (mkF m 109 #[iv ((0 : Int32)), iv (md), iv (ps), iv (ch), iv ((md &&& (3 : Int32))), iv ((own_dr ch)), rv (b34)] [(.ref b34), (.int (ps &&& (2147483647 : Int32))), (.ref b34)])) rfl rfl (hb hby d28_109) _ ?_; rw [len_of a36S a36N]; exact k) ?_
        refine gs (fun _ k => Jvm.RoadKit.iremM X34 hx (g := (mkF m 110 #[iv ((0 : Int32)), iv (md), iv (ps), iv (ch), iv ((md &&& (3 : Int32))), iv ((own_dr ch)), rv (b34)] [(.int (11 : Int32)), (.int (ps &&& (2147483647 : Int32))), (.ref b34)])) rfl (hb hby d28_110) rfl (by decide) (o_iload X34 hx hby d28_111 rfl k)) ?_
        obtain ⟨cl37, A37, a37q, a37S, a37N, a37H, a37G⟩ := id V34q
        obtain ⟨T37, h37, X37, e37, W37, st37⟩ := stC X34 hx hZ rfl A37 (j := ((ps &&& (2147483647 : Int32)) % (11 : Int32))) (inb_of a37S (own_ixr ps (11 : Int32) (by decide)).1) (g := (mkF m 113 #[iv ((0 : Int32)), iv (md), iv (ps), iv (ch), iv ((md &&& (3 : Int32))), iv ((own_dr ch)), rv (b34)] [(.int (own_dr ch)), (.int ((ps &&& (2147483647 : Int32)) % (11 : Int32))), (.ref b34)])) rfl rfl (hb hby d28_113)
        have q37 := Arv.set A37 a37q a37S a37N a37H a37G (fits_nar_char _) W37 (own_ix ps (11 : Int32)) rfl (show own_ix ps (11 : Int32) < 11 from (own_ixr ps (11 : Int32) (by decide)).2)
        rw [own_drn, ← List.map_set] at q37
        have V37 : Arv Z h37 b34 kb34 .char (11 : Int32) ((own_S0.set (own_ix ps (11 : Int32)) (own_dr ch)).map Value.int) (.int (0 : Int32)) := q37
        have N37 := Fr.snoc X37 N34 g_b34
        have Z38 := nt Z35 (Keep.of_wr W37).1
        have O38 := O35.wr W37 g_b34
        have K38 := K35.wr W37 (Or.inr sz_b34)
        refine gs (S' := T37.setTop (mkF m 114 #[iv ((0 : Int32)), iv (md), iv (ps), iv (ch), iv ((md &&& (3 : Int32))), iv ((own_dr ch)), rv (b34)] [])) st37 ?_
        obtain ⟨T39, h39, X39, e39, E39, A39, D39, -, st39⟩ := newO X37 hx hZ hown (ow hw 7 rfl) (ow hw 8 rfl) (ow hw 9 rfl) e37 (g := (mkF m 114 #[iv ((0 : Int32)), iv (md), iv (ps), iv (ch), iv ((md &&& (3 : Int32))), iv ((own_dr ch)), rv (b34)] [])) rfl (hb hby d28_114) (by decide) (by decide)
        obtain ⟨b39, q39⟩ : ∃ z, z = h37.size := ⟨_, rfl⟩
        rw [← q39] at A39 D39 st39
        have g_b39 : n0 ≤ b39 := nt Z38 (Nat.le_of_eq q39.symm)
        have sz_b39 : h0.size ≤ b39 := nt K38.1 (Nat.le_of_eq q39.symm)
        have Z40 := nt Z38 E39.1
        have O40 := O38.ext E39
        have K40 := K38.ext E39
        have F_coder_b39 : Fld Z h39 b39 "java/lang/String" "coder" "B" (.int (0 : Int32)) := D39 (Or.inr (ow hw 37 rfl)) (ty := .byte) (by decide)
        have F_value_b39 : Fld Z h39 b39 "java/lang/String" "value" "[B" .null := D39 (Or.inr (ow hw 39 rfl)) (ty := (.array .byte)) (by decide)
        refine gs (S' := T39.setTop (mkF m 117 #[iv ((0 : Int32)), iv (md), iv (ps), iv (ch), iv ((md &&& (3 : Int32))), iv ((own_dr ch)), rv (b34)] [(.ref b39)])) st39 ?_
        refine gs (fun _ k => o_dup X39 hx hby d28_117 rfl (o_aload X39 hx hby d28_118 rfl rfl k)) ?_
        have f41 := (V37.ext E39)
        obtain ⟨_, _, ⟨T42, L42, k42, n42⟩, -, X42, ⟨Lc42, hQ42, l42, y42, z42⟩, st42⟩ := X39.specialBack hx (y := my0) rfl hown (mvT hZ (ow hw 14 rfl)) (mvT hZ (ow hw 15 rfl)) (mvT hZ (ow hw 16 rfl)) (by decide) (StrChars.Road.backV (W := 1) hZ hws (kI := 4) (ow hw 8 rfl) (cs := (own_S0.set (own_ix ps (11 : Int32)) (own_dr ch))) (bs := (own_S0.set (own_ix ps (11 : Int32)) (own_dr ch)).map (fun c => c.toInt8.toInt32)) (n := 11) g_b39 Z40 A39 F_value_b39 F_coder_b39 f41 (S0.ext O40.2) hz (by rw [List.length_set]; rfl) rfl (by decide) (by decide) (own_setb own_S0b (own_drb ch)) rfl (by decide) (by decide)) (g := (mkF m 120 #[iv ((0 : Int32)), iv (md), iv (ps), iv (ch), iv ((md &&& (3 : Int32))), iv ((own_dr ch)), rv (b34)] [(.ref b34), (.ref b39), (.ref b39)])) rfl (by rw [hml]; rfl) (Steps.refl _) (a := b39) (argsL := [(.ref b34)]) (rest := [(.ref b39)]) (lenOf pd_669 rfl) rfl (own_w0 rfl) (hb hby d28_120) (fun _ _ => ⟨rfl, e39, (by decide : 2 + 1 ≤ _), (by decide : 15 + 11 ≤ _)⟩)
        dsimp only [Pt.U, Pt.locs, Pt.cells, Pt.slots] at X42 l42 y42 z42 st42 hQ42
        subst l42 y42 z42
        obtain ⟨rfl, N42q, K42q, g42e, g42c, t42, kb42, -, g42t, -, g42v, g42a⟩ := hQ42
        have N42 := Fr.app N37 N42q
        have g_t42 : n0 ≤ t42 := nt Z40 g42t
        have sz_t42 : h0.size ≤ t42 := nt K40.1 g42t
        have Z43 := nt Z40 K42q.1
        have O43 := O40.keep K42q (allS g_b39 all0)
        have K43 := K40.trans K42q (allS (Or.inr sz_b39) all0)
        refine gs (S' := T42.setTop (mkF m 123 #[iv ((0 : Int32)), iv (md), iv (ps), iv (ch), iv ((md &&& (3 : Int32))), iv ((own_dr ch)), rv (b34)] [(.ref b39)])) (fun _ k => st42.trans k) ?_
        have Tm : Str Z T42.heap b39 (own_S0.set (own_ix ps (11 : Int32)) (own_dr ch)) := ⟨_, _, g42e, g42c, g42v, cast (congrArg (fun q_ => Arv Z T42.heap t42 kb42 .byte q_ (((own_S0.set (own_ix ps (11 : Int32)) (own_dr ch)).map (fun c => c.toInt8.toInt32)).map Value.int) (.int 0)) (show (11 : Int32) = Int32.ofNat (own_S0.set (own_ix ps (11 : Int32)) (own_dr ch)).length from (by rw [List.length_set]; rfl))) g42a⟩
        refine gout (v := some (.ref b39)) X42 Bd.notSynchronized (fun h => by rw [Bd.returns] at h; cases h) (by decide) (by decide) ?_ (fun fs hr => retOut X42 hx Bd.returns rfl (Or.inr (Or.inr (Or.inr (Or.inr ⟨rfl, rfl, rfl⟩)))) (hb hby d28_123) hr)
        exact ⟨_, rfl, N42, K43, by unfold own_ms; rw [if_neg hc2, if_neg hc12, if_neg hc23]; exact Tm⟩
theorem ef_759 (m : MethodId) (x0 : Int32) (x1 : Int32) (x2 : Int32) (x3 : Int32) : entryFrame m #[(.int x0), (.int x1), (.int x2), (.int x3)] 6 = mkF m 0 #[.val (.int x0), .val (.int x1), .val (.int x2), .val (.int x3), .unset, .unset] [] := by first | (simp [entryFrame, mkF, argsToLocals, Value.category]; done) | rfl
set_option maxRecDepth 65536 in
set_option maxHeartbeats 40000000 in
theorem rm_mat0 (l : Launch) (Z : State) (a0 : Array Value) (hw : HW Z a0) (ws : List Jvm.Cond) (md : Int32) (ps : Int32) (ch : Int32) (h0 : Heap) (n0 : Nat) (Z0 : n0 ≤ h0.size) (O0 : Old Z n0 h0)  :
    Ctr l Z my14 method_8_code 6 ((Option.some Jvm.ClassFile.FieldType.boolean)) ws (⟨1, 1, 12, 14⟩ : Room) #[(.int (0 : Int32)), (.int md), (.int ps), (.int ch)] h0 (fun v h L => v = some (.int (own_mt own_F0 (12 : Int32) (md &&& (3 : Int32)) ps (own_dr ch))) ∧ Fr n0 L ∧ Keep h0 h []) := by
  refine Ctr.go (plainFor_of_name pn_345) fun p e s m below meth c s₁ Bd hx hby hml hZ hown hnm X0 e0 => ?_
  have N0 := Fr.nil n0
  have K0 := Keep.refl h0 []
  refine gs (S' := s₁.setTop (mkF m 0 #[iv ((0 : Int32)), iv (md), iv (ps), iv (ch), uu, uu] [])) (fun tg kg => castTop (ef_759 m (0 : Int32) md ps ch) kg) ?_
  refine gs (fun _ k => o_iloadN X0 hx hby d29_0 rfl (o_iconst (v := (3 : Int32)) X0 hx hby d29_1 (o_iand X0 hx hby d29_2 (o_istore X0 hx hby d29_3 rfl (o_iload X0 hx hby d29_5 rfl k))))) ?_
  by_cases hc1 : (md &&& (3 : Int32)) = (0 : Int32)
  · refine gs (fun _ k => o_ifNo X0 hx hby d29_7 ((if0 _ _).trans (teq hc1).2) (o_iconst (v := (1 : Int32)) X0 hx hby d29_10 k)) ?_
    refine gout (v := some (.int (1 : Int32))) X0 Bd.notSynchronized (fun h => by rw [Bd.returns] at h; cases h) (by decide) (by decide) ?_ (fun fs hr => retN X0 hx (t := .boolean) Bd.returns (by simp) (hb hby d29_11) hr)
    rw [e0]
    exact ⟨by unfold own_mt; rw [if_pos hc1], N0, K0⟩
  · refine gs (fun _ k => o_ifYes (pc' := 12) X0 hx hby d29_7 ((if0 _ _).trans (feq hc1).2) (o_iload X0 hx hby d29_12 rfl (o_iconst (v := (1 : Int32)) X0 hx hby d29_14 k))) ?_
    by_cases hc2 : (md &&& (3 : Int32)) = (1 : Int32)
    · refine gs (fun _ k => o_icmpNo X0 hx hby d29_15 (teq hc2).2 (o_iloadN X0 hx hby d29_18 rfl k)) ?_
      refine cS (rest := []) X0 hx hZ hown (ow hw 10 rfl) (ow hw 11 rfl) (ow hw 2 rfl) (ow hw 12 rfl) (rm_full0 l Z a0 hw []  h0 n0 Z0 O0 ) hby d29_19 e0 pd_667 0 (by rw [hml]; rfl) rfl rfl rfl rfl (by decide) (by decide) fun _ T3 Lc3 X3 hQ3 => ?_
      obtain ⟨b3, kb3, rfl, N3q, K3q, g3t, V3q⟩ := hQ3
      have N3 := Fr.app N0 N3q
      have g_b3 : n0 ≤ b3 := nt Z0 g3t
      have sz_b3 : h0.size ≤ b3 := nt K0.1 g3t
      have Z4 := nt Z0 K3q.1
      have O4 := O0.keep K3q all0
      have K4 := K0.trans K3q all0
      refine gs (fun _ k => o_astore X3 hx hby d29_22 rfl rfl (o_aload X3 hx hby d29_24 rfl rfl (o_iloadN X3 hx hby d29_26 rfl (X3.ldcInt hx hown (mvT hZ (ow hw 40 rfl)) (g := (mkF m 27 #[iv ((0 : Int32)), iv (md), iv (ps), iv (ch), iv ((md &&& (3 : Int32))), rv (b3)] [(.int ps), (.ref b3)])) rfl (hb hby d29_27) _ (o_iand X3 hx hby d29_29 (o_aload X3 hx hby d29_30 rfl rfl k)))))) ?_
      obtain ⟨cl5, A5, a5q, a5S, a5N, a5H, a5G⟩ := id V3q
      refine gs (S' := T3.setTop (mkF m 33 #[iv ((0 : Int32)), iv (md), iv (ps), iv (ch), iv ((md &&& (3 : Int32))), rv (b3)] [(.int (12 : Int32)), (.int (ps &&& (2147483647 : Int32))), (.ref b3)])) (fun _ k => by refine X3.arraylength hx A5.1 (State.isArrayOf_alike hZ.alike A5.2.1) (g := (mkF m 32 #[iv ((0 : Int32)), iv (md), iv (ps), iv (ch), iv ((md &&& (3 : Int32))), rv (b3)] [(.ref b3), (.int (ps &&& (2147483647 : Int32))), (.ref b3)])) rfl rfl (hb hby d29_32) _ ?_; rw [len_of a5S a5N]; exact k) ?_
      refine gs (fun _ k => Jvm.RoadKit.iremM X3 hx (g := (mkF m 33 #[iv ((0 : Int32)), iv (md), iv (ps), iv (ch), iv ((md &&& (3 : Int32))), rv (b3)] [(.int (12 : Int32)), (.int (ps &&& (2147483647 : Int32))), (.ref b3)])) rfl (hb hby d29_33) rfl (by decide) k) ?_
      obtain ⟨cl6, A6, a6q, a6S, a6N, a6H, a6G⟩ := id V3q
      have hi6 := inb_of a6S (j := ((ps &&& (2147483647 : Int32)) % (12 : Int32))) (own_ixr ps (12 : Int32) (by decide)).1
      refine gs (fun _ k => X3.caload hx (j := ((ps &&& (2147483647 : Int32)) % (12 : Int32))) (v := (.int (own_F0.getD (own_ix ps (12 : Int32)) 0))) A6.1 (State.isArrayOf_alike hZ.alike A6.2.1) A6.2.2 hi6 (Has.at a6H hi6 (own_getm own_F0 (own_ix ps (12 : Int32)))) (g := (mkF m 34 #[iv ((0 : Int32)), iv (md), iv (ps), iv (ch), iv ((md &&& (3 : Int32))), rv (b3)] [(.int ((ps &&& (2147483647 : Int32)) % (12 : Int32))), (.ref b3)])) rfl rfl (hb hby d29_34) _ (o_iloadN X3 hx hby d29_35 rfl k)) ?_
      refine cS (rest := [(.int (own_F0.getD (own_ix ps (12 : Int32)) 0))]) X3 hx hZ hown (ow hw 4 rfl) (ow hw 5 rfl) (ow hw 2 rfl) (ow hw 6 rfl) (rm_dr l Z a0 hw [] ch T3.heap n0 Z4 O4 ) hby d29_36 rfl pd_659 1 (by rw [hml]; rfl) rfl rfl rfl rfl (by decide) (by decide) fun _ T7 Lc7 X7 hQ7 => ?_
      obtain ⟨rfl, N7q, e7q⟩ := hQ7
      have N7 := Fr.app N3 N7q
      by_cases hc8 : (own_F0.getD (own_ix ps (12 : Int32)) 0) = (own_dr ch)
      · refine gs (fun _ k => o_icmpNo X7 hx hby d29_39 (teq hc8).2 (o_iconst (v := (1 : Int32)) X7 hx hby d29_42 (o_goto (pc' := 47) X7 hx hby d29_43 k))) ?_
        refine gout (v := some (.int (1 : Int32))) X7 Bd.notSynchronized (fun h => by rw [Bd.returns] at h; cases h) (by decide) (by decide) ?_ (fun fs hr => retN X7 hx (t := .boolean) Bd.returns (by simp) (hb hby d29_47) hr)
        rw [e7q]
        exact ⟨by unfold own_mt; rw [if_neg hc1, if_pos hc2, if_pos hc8], N7, K4⟩
      · refine gs (fun _ k => o_icmpYes (pc' := 46) X7 hx hby d29_39 (feq hc8).2 (o_iconst (v := (0 : Int32)) X7 hx hby d29_46 k)) ?_
        refine gout (v := some (.int (0 : Int32))) X7 Bd.notSynchronized (fun h => by rw [Bd.returns] at h; cases h) (by decide) (by decide) ?_ (fun fs hr => retN X7 hx (t := .boolean) Bd.returns (by simp) (hb hby d29_47) hr)
        rw [e7q]
        exact ⟨by unfold own_mt; rw [if_neg hc1, if_pos hc2, if_neg hc8], N7, K4⟩
    · refine gs (fun _ k => o_icmpYes (pc' := 48) X0 hx hby d29_15 (feq hc2).2 (o_iconst (v := (0 : Int32)) X0 hx hby d29_48 k)) ?_
      refine gout (v := some (.int (0 : Int32))) X0 Bd.notSynchronized (fun h => by rw [Bd.returns] at h; cases h) (by decide) (by decide) ?_ (fun fs hr => retN X0 hx (t := .boolean) Bd.returns (by simp) (hb hby d29_49) hr)
      rw [e0]
      exact ⟨by unfold own_mt; rw [if_neg hc1, if_neg hc2], N0, K0⟩
theorem ef_760 (m : MethodId) (x0 : Addr) : entryFrame m #[(.ref x0)] 1 = mkF m 0 #[.val (.ref x0)] [] := by first | (simp [entryFrame, mkF, argsToLocals, Value.category]; done) | rfl
theorem d30_0 : decode jdk_30_method_1_code 0 = .ok (.aload_n 0, 1) := by decide +kernel
theorem d30_1 : decode jdk_30_method_1_code 1 = .ok (.invokespecial 1, 3) := by decide +kernel
theorem d30_4 : decode jdk_30_method_1_code 4 = .ok (.return_, 1) := by decide +kernel
theorem pn_764 : plainName "java/lang/Record" = true := by first | (simp [plainName, overriddenIn]; done) | decide +kernel
set_option maxRecDepth 65536 in
set_option maxHeartbeats 40000000 in
theorem rm_ri (l : Launch) (Z : State) (a0 : Array Value) (hw : HW Z a0) (ws : List Jvm.Cond) (a : Addr) (h0 : Heap) (n0 : Nat) (Z0 : n0 ≤ h0.size) (O0 : Old Z n0 h0) (E_a : Exa Z h0 a "com/example/strict_resources/strictresources/core/MediaType") :
    Ctr l Z (⟨"java/lang/Record", "<init>", "()V"⟩ : MethodName) jdk_30_method_1_code 1 ((Option.none : Option Jvm.ClassFile.FieldType)) ws (⟨1, 0, 0, 12⟩ : Room) #[(.ref a)] h0 (fun v h L => v = none ∧ Fr n0 L ∧ h = h0) := by
  refine Ctr.go (plainFor_of_name pn_764) fun p e s m below meth c s₁ Bd hx hby hml hZ hown hnm X0 e0 => ?_
  have N0 := Fr.nil n0
  have K0 := Keep.refl h0 []
  refine gs (S' := s₁.setTop (mkF m 0 #[rv (a)] [])) (fun tg kg => castTop (ef_760 m a) kg) ?_
  refine gs (fun _ k => o_aloadN X0 hx hby d30_0 rfl rfl k) ?_
  obtain ⟨T1, X1, e1, st1⟩ := initO X0 hx hZ hown (ow hw 55 rfl) (ow hw 22 rfl) (ow hw 23 rfl) e0 (g := (mkF m 1 #[rv (a)] [(.ref a)])) rfl (by rw [hml]; rfl) rfl (hb hby d30_1) (by decide) (W := 0) (own_w0 rfl) (by decide)
  refine gs (S' := T1.setTop (mkF m 4 #[rv (a)] [])) st1 ?_
  refine gout (v := none) X1 Bd.notSynchronized (fun _ => rfl) (by decide) (by decide) ?_ (fun fs hr => X1.returnOut hx Bd.returns (hb hby d30_4) hr)
  rw [e1]
  exact ⟨rfl, N0, rfl⟩
theorem ef_765 (m : MethodId) (x0 : Addr) (x1 : Addr) (x2 : Addr) : entryFrame m #[(.ref x0), (.ref x1), (.ref x2), .null] 4 = mkF m 0 #[.val (.ref x0), .val (.ref x1), .val (.ref x2), .val .null] [] := by first | (simp [entryFrame, mkF, argsToLocals, Value.category]; done) | rfl
theorem d31_0 : decode prog_17_method_1_code 0 = .ok (.aload_n 0, 1) := by decide +kernel
theorem d31_1 : decode prog_17_method_1_code 1 = .ok (.invokespecial 1, 3) := by decide +kernel
theorem pd_768 : parseMethodDescriptor "()V" = some ⟨[], none⟩ := by decide +kernel
theorem d31_4 : decode prog_17_method_1_code 4 = .ok (.aload_n 0, 1) := by decide +kernel
theorem d31_5 : decode prog_17_method_1_code 5 = .ok (.aload_n 1, 1) := by decide +kernel
theorem d31_6 : decode prog_17_method_1_code 6 = .ok (.putfield 7, 3) := by decide +kernel
theorem d31_9 : decode prog_17_method_1_code 9 = .ok (.aload_n 0, 1) := by decide +kernel
theorem d31_10 : decode prog_17_method_1_code 10 = .ok (.aload_n 2, 1) := by decide +kernel
theorem d31_11 : decode prog_17_method_1_code 11 = .ok (.putfield 13, 3) := by decide +kernel
theorem d31_14 : decode prog_17_method_1_code 14 = .ok (.aload_n 0, 1) := by decide +kernel
theorem d31_15 : decode prog_17_method_1_code 15 = .ok (.aload_n 3, 1) := by decide +kernel
theorem d31_16 : decode prog_17_method_1_code 16 = .ok (.putfield 16, 3) := by decide +kernel
theorem d31_19 : decode prog_17_method_1_code 19 = .ok (.return_, 1) := by decide +kernel
theorem pn_779 : plainName "com/example/strict_resources/strictresources/core/MediaType" = true := by first | (simp [plainName, overriddenIn]; done) | decide +kernel
set_option maxRecDepth 65536 in
set_option maxHeartbeats 40000000 in
theorem rm_mi (l : Launch) (Z : State) (a0 : Array Value) (hw : HW Z a0) (ws : List Jvm.Cond) (a : Addr) (x1 : Addr) (x2 : Addr) (h0 : Heap) (n0 : Nat) (Z0 : n0 ≤ h0.size) (O0 : Old Z n0 h0) (E_a : Exa Z h0 a "com/example/strict_resources/strictresources/core/MediaType") (F_t : Fld Z h0 a "com/example/strict_resources/strictresources/core/MediaType" "type" "Ljava/lang/String;" .null) (F_s : Fld Z h0 a "com/example/strict_resources/strictresources/core/MediaType" "subtype" "Ljava/lang/String;" .null) (F_p : Fld Z h0 a "com/example/strict_resources/strictresources/core/MediaType" "parameters" "Ljava/util/Map;" .null) (g_a : n0 ≤ a) :
    Ctr l Z (⟨"com/example/strict_resources/strictresources/core/MediaType", "<init>", "(Ljava/lang/String;Ljava/lang/String;Ljava/util/Map;)V"⟩ : MethodName) prog_17_method_1_code 4 ((Option.none : Option Jvm.ClassFile.FieldType)) ws (⟨2, 0, 0, 24⟩ : Room) #[(.ref a), (.ref x1), (.ref x2), .null] h0 (fun v h L => v = none ∧ Fr n0 L ∧ Keep h0 h [a] ∧ Fld Z h a "com/example/strict_resources/strictresources/core/MediaType" "type" "Ljava/lang/String;" (.ref x1) ∧ Fld Z h a "com/example/strict_resources/strictresources/core/MediaType" "subtype" "Ljava/lang/String;" (.ref x2)) := by
  refine Ctr.go (plainFor_of_name pn_779) fun p e s m below meth c s₁ Bd hx hby hml hZ hown hnm X0 e0 => ?_
  have N0 := Fr.nil n0
  have K0 := Keep.refl h0 [a]
  refine gs (S' := s₁.setTop (mkF m 0 #[rv (a), rv (x1), rv (x2), .val .null] [])) (fun tg kg => castTop (ef_765 m a x1 x2) kg) ?_
  refine gs (fun _ k => o_aloadN X0 hx hby d31_0 rfl rfl k) ?_
  refine cI (rest := []) X0 hx hZ hown rfl (ow hw 50 rfl) (ow hw 51 rfl) (ow hw 53 rfl) (ow hw 54 rfl) (rm_ri l Z a0 hw [] a h0 n0 Z0 O0 E_a) hby d31_1 e0 pd_768 0 (by rw [hml]; rfl) rfl rfl rfl rfl (by decide) (by decide) fun _ T1 Lc1 X1 hQ1 => ?_
  obtain ⟨rfl, N1q, e1q⟩ := hQ1
  have N1 := Fr.app N0 N1q
  refine gs (fun _ k => o_aloadN X1 hx hby d31_4 rfl rfl (o_aloadN X1 hx hby d31_5 rfl rfl k)) ?_
  obtain ⟨T2, h2, X2, e2, W2, st2⟩ := putF X1 hx hZ hown (host := "") (Or.inl (ow hw 56 rfl)) Via.refl e1q F_t E_a (Or.inr ⟨(ow hw 57 rfl), rfl, hnm⟩) (ow hw 45 rfl) (ty := (.object "java/lang/String")) (by decide) rfl rfl (g := (mkF m 6 #[rv (a), rv (x1), rv (x2), .val .null] [(.ref x1), (.ref a)])) rfl rfl (hb hby d31_6)
  have N2 := Fr.snoc X2 N1 g_a
  have Fw2 := F_t.same W2
  have Z3 := nt Z0 (Keep.of_wr W2).1
  have O3 := O0.wr W2 g_a
  have K3 := K0.wr W2 (Or.inl (List.mem_of_getElem? (i := 0) rfl))
  refine gs (S' := T2.setTop (mkF m 9 #[rv (a), rv (x1), rv (x2), .val .null] [])) st2 ?_
  refine gs (fun _ k => o_aloadN X2 hx hby d31_9 rfl rfl (o_aloadN X2 hx hby d31_10 rfl rfl k)) ?_
  have f4 := (F_s.other W2 (Or.inr (slot_ne (Or.inr (ow hw 59 rfl)) (Or.inr (ow hw 57 rfl)) (by decide) (t := (.object "java/lang/String")) (t' := (.object "java/lang/String")) (by decide) (by decide))))
  have f5 := (E_a.wr W2)
  obtain ⟨T6, h6, X6, e6, W6, st6⟩ := putF X2 hx hZ hown (host := "") (Or.inl (ow hw 58 rfl)) Via.refl e2 f4 f5 (Or.inr ⟨(ow hw 59 rfl), rfl, hnm⟩) (ow hw 45 rfl) (ty := (.object "java/lang/String")) (by decide) rfl rfl (g := (mkF m 11 #[rv (a), rv (x1), rv (x2), .val .null] [(.ref x2), (.ref a)])) rfl rfl (hb hby d31_11)
  have N6 := Fr.snoc X6 N2 g_a
  have Fw6 := f4.same W6
  have Z7 := nt Z3 (Keep.of_wr W6).1
  have O7 := O3.wr W6 g_a
  have K7 := K3.wr W6 (Or.inl (List.mem_of_getElem? (i := 0) rfl))
  refine gs (S' := T6.setTop (mkF m 14 #[rv (a), rv (x1), rv (x2), .val .null] [])) st6 ?_
  refine gs (fun _ k => o_aloadN X6 hx hby d31_14 rfl rfl (o_aloadN X6 hx hby d31_15 rfl rfl k)) ?_
  have f8 := ((F_p.other W2 (Or.inr (slot_ne (Or.inr (ow hw 61 rfl)) (Or.inr (ow hw 57 rfl)) (by decide) (t := (.object "java/util/Map")) (t' := (.object "java/lang/String")) (by decide) (by decide)))).other W6 (Or.inr (slot_ne (Or.inr (ow hw 61 rfl)) (Or.inr (ow hw 59 rfl)) (by decide) (t := (.object "java/util/Map")) (t' := (.object "java/lang/String")) (by decide) (by decide))))
  have f9 := (f5.wr W6)
  obtain ⟨T10, h10, X10, e10, W10, st10⟩ := putF X6 hx hZ hown (host := "") (Or.inl (ow hw 60 rfl)) Via.refl e6 f8 f9 (Or.inr ⟨(ow hw 61 rfl), rfl, hnm⟩) (ow hw 45 rfl) (ty := (.object "java/util/Map")) (by decide) rfl rfl (g := (mkF m 16 #[rv (a), rv (x1), rv (x2), .val .null] [.null, (.ref a)])) rfl rfl (hb hby d31_16)
  have N10 := Fr.snoc X10 N6 g_a
  have Fw10 := f8.same W10
  have Z11 := nt Z7 (Keep.of_wr W10).1
  have O11 := O7.wr W10 g_a
  have K11 := K7.wr W10 (Or.inl (List.mem_of_getElem? (i := 0) rfl))
  refine gs (S' := T10.setTop (mkF m 19 #[rv (a), rv (x1), rv (x2), .val .null] [])) st10 ?_
  have f12 := ((Fw2.other W6 (Or.inr (slot_ne (Or.inr (ow hw 57 rfl)) (Or.inr (ow hw 59 rfl)) (by decide) (t := (.object "java/lang/String")) (t' := (.object "java/lang/String")) (by decide) (by decide)))).other W10 (Or.inr (slot_ne (Or.inr (ow hw 57 rfl)) (Or.inr (ow hw 61 rfl)) (by decide) (t := (.object "java/lang/String")) (t' := (.object "java/util/Map")) (by decide) (by decide))))
  have f13 := (Fw6.other W10 (Or.inr (slot_ne (Or.inr (ow hw 59 rfl)) (Or.inr (ow hw 61 rfl)) (by decide) (t := (.object "java/lang/String")) (t' := (.object "java/util/Map")) (by decide) (by decide))))
  refine gout (v := none) X10 Bd.notSynchronized (fun _ => rfl) (by decide) (by decide) ?_ (fun fs hr => X10.returnOut hx Bd.returns (hb hby d31_19) hr)
  rw [e10]
  exact ⟨rfl, N10, K11, f12, f13⟩
theorem ef_780 (m : MethodId) (x0 : Addr) : entryFrame m #[(.ref x0)] 1 = mkF m 0 #[.val (.ref x0)] [] := by first | (simp [entryFrame, mkF, argsToLocals, Value.category]; done) | rfl
theorem d32_0 : decode prog_17_method_4_code 0 = .ok (.new 62, 3) := by decide +kernel
theorem d32_3 : decode prog_17_method_4_code 3 = .ok (.dup, 1) := by decide +kernel
theorem d32_4 : decode prog_17_method_4_code 4 = .ok (.invokespecial 64, 3) := by decide +kernel
theorem d32_7 : decode prog_17_method_4_code 7 = .ok (.aload_n 0, 1) := by decide +kernel
theorem d32_8 : decode prog_17_method_4_code 8 = .ok (.getfield 7, 3) := by decide +kernel
theorem d32_11 : decode prog_17_method_4_code 11 = .ok (.invokevirtual 65, 3) := by decide +kernel
theorem pd_787 : parseMethodDescriptor "(Ljava/lang/String;)Ljava/lang/StringBuilder;" = some ⟨[(.object "java/lang/String")], some (.object "java/lang/StringBuilder")⟩ := by decide +kernel
theorem d32_14 : decode prog_17_method_4_code 14 = .ok (.ldc 69, 2) := by decide +kernel
theorem d32_16 : decode prog_17_method_4_code 16 = .ok (.invokevirtual 65, 3) := by decide +kernel
theorem d32_19 : decode prog_17_method_4_code 19 = .ok (.aload_n 0, 1) := by decide +kernel
theorem d32_20 : decode prog_17_method_4_code 20 = .ok (.getfield 13, 3) := by decide +kernel
theorem d32_23 : decode prog_17_method_4_code 23 = .ok (.invokevirtual 65, 3) := by decide +kernel
theorem d32_26 : decode prog_17_method_4_code 26 = .ok (.invokevirtual 71, 3) := by decide +kernel
theorem pd_794 : parseMethodDescriptor "()Ljava/lang/String;" = some ⟨[], some (.object "java/lang/String")⟩ := by decide +kernel
theorem d32_29 : decode prog_17_method_4_code 29 = .ok (.ldc 77, 2) := by decide +kernel
theorem d32_31 : decode prog_17_method_4_code 31 = .ok (.invokevirtual 79, 3) := by decide +kernel
theorem pd_797 : parseMethodDescriptor "(Ljava/lang/Object;)Z" = some ⟨[(.object "java/lang/Object")], some .boolean⟩ := by decide +kernel
theorem d32_34 : decode prog_17_method_4_code 34 = .ok (.ireturn, 1) := by decide +kernel
set_option maxRecDepth 65536 in
set_option maxHeartbeats 40000000 in
theorem rm_js (l : Launch) (Z : State) (a0 : Array Value) (hw : HW Z a0) (ws : List Jvm.Cond) (mt : Addr) (a1 : Addr) (a2 : Addr) (cs : List Int32) (ds : List Int32) (z : Int32) (h0 : Heap) (n0 : Nat) (Z0 : n0 ≤ h0.size) (O0 : Old Z n0 h0) (E_m : Exa Z h0 mt "com/example/strict_resources/strictresources/core/MediaType") (F_t : Fld Z h0 mt "com/example/strict_resources/strictresources/core/MediaType" "type" "Ljava/lang/String;" (.ref a1)) (F_s : Fld Z h0 mt "com/example/strict_resources/strictresources/core/MediaType" "subtype" "Ljava/lang/String;" (.ref a2)) (T_1 : Str Z h0 a1 cs) (T_2 : Str Z h0 a2 ds) (hb1 : ∀ c ∈ cs, ¬ c < 0 ∧ ¬ (255 : Int32) < c) (hb2 : ∀ c ∈ ds, ¬ c < 0 ∧ ¬ (255 : Int32) < c) (hl1 : 10 ≤ cs.length ∧ cs.length ≤ 12) (hl2 : 11 ≤ ds.length ∧ ds.length ≤ 13) (S0 : PS0 Z (.int z)) (hz : ¬ z = 0) :
    CtrW l Z own_EL (⟨"com/example/strict_resources/strictresources/core/MediaType", "isJsonApi", "()Z"⟩ : MethodName) prog_17_method_4_code 1 ((Option.some Jvm.ClassFile.FieldType.boolean)) ws (⟨6, 9, 192, 91⟩ : Room) #[(.ref mt)] h0 (fun v h L => v = some (.int (own_jr cs ds)) ∧ Fr n0 L ∧ Keep h0 h []) := by
  refine CtrW.of (MetFree.of_bodySF (plainFor_of_name pn_779) hisR ?_)
  intro p e s m args below meth c s₁ Bd hml0 hP hK
  obtain ⟨rfl, hZ0, hh, hC⟩ := hP
  have hx := Bd.exec
  have hby := Bd.bytes
  have hml : c.maxLocals = 1 := hml0
  have hZ : Z.Warmed39 (s.setVm s.vm).vm := hZ0
  have hown : (s.setVm s.vm).vm.findClass "com/example/strict_resources/strictresources/core/MediaType" = some m.cls := findClass_of_methodNamed Bd.named
  have hnm := (name_of_methodNamed Bd.named Bd.method).1
  have X0 : Stand p l e (⟨6, 9, 192, 91⟩ : Room) (s.setVm s.vm) m #[(.ref mt)] below meth c s₁ [] 0 0 := Stand.of_body Bd
  have e0 : s₁.heap = h0 := by rw [← hh, Bd.state]; rfl
  have N0 := Fr.nil n0
  have K0 : Keep h0 h0 [] := Keep.refl h0 []
  have hS : s.Since s.vm 0 := (State.WarmedH.refl s).since 0
  have hk : 0 ≤ h0.size := Nat.zero_le _
  have R0 : CHr Z own_EL s.vm h0 s.vm h0 := CHr.refl hC
  show OwnGoW p e below s Z own_EL (fun v h L => v = some (.int (own_jr cs ds)) ∧ Fr n0 L ∧ Keep h0 h []) (⟨6, 9, 192, 91⟩ : Room).cells (⟨6, 9, 192, 91⟩ : Room).slots _
  refine gsW (S' := s₁.setTop (mkF m 0 #[rv (mt)] [])) (fun tg kg => castTop (ef_780 m mt) kg) ?_
  obtain ⟨u1, ku1, Es1, Cs1, Vs1, As1⟩ := id T_1
  obtain ⟨u2, ku2, Es2, Cs2, Vs2, As2⟩ := id T_2
  have g3 := own_grow3 (as := ((([] : List Int32) ++ cs) ++ ([47] : List Int32))) (ds := ds) (by rw [(own_len3 (cs := cs) (ds := ds)).1]; omega) (by rw [(own_len3 (cs := cs) (ds := ds)).1]; omega) hl2.1 hl2.2
  have ts := own_ts (as := (((([] : List Int32) ++ cs) ++ ([47] : List Int32)) ++ ds)) (by rw [(own_len3 (cs := cs) (ds := ds)).2]; omega)
  obtain ⟨T1, h1, X1, e1, E1, A1, D1, -, st1⟩ := newO X0 hx hZ hown (ow hw 67 rfl) (ow hw 68 rfl) (ow hw 69 rfl) e0 (g := (mkF m 0 #[rv (mt)] [])) rfl (hb hby d32_0) (by decide) (by decide)
  obtain ⟨b1, q1⟩ : ∃ z, z = h0.size := ⟨_, rfl⟩
  rw [← q1] at A1 D1 st1
  have g_b1 : n0 ≤ b1 := nt Z0 (Nat.le_of_eq q1.symm)
  have sz_b1 : h0.size ≤ b1 := nt K0.1 (Nat.le_of_eq q1.symm)
  have r2 : CHr Z own_EL s.vm h0 s.vm h1 := CHr.ext E1 R0.1
  have R2 := R0.trans r2
  have Z2 := nt Z0 E1.1
  have O2 := O0.ext E1
  have K2 := K0.ext E1
  have F_value_b1 : Fld Z h1 b1 "java/lang/AbstractStringBuilder" "value" "[B" .null := D1 (Or.inl (ow hw 82 rfl)) (ty := (.array .byte)) (by decide)
  have F_coder_b1 : Fld Z h1 b1 "java/lang/AbstractStringBuilder" "coder" "B" (.int (0 : Int32)) := D1 (Or.inl (ow hw 84 rfl)) (ty := .byte) (by decide)
  have F_count_b1 : Fld Z h1 b1 "java/lang/AbstractStringBuilder" "count" "I" (.int (0 : Int32)) := D1 (Or.inl (ow hw 106 rfl)) (ty := .int) (by decide)
  refine gsW (S' := T1.setTop (mkF m 3 #[rv (mt)] [(.ref b1)])) st1 ?_
  refine gsW (fun _ k => o_dup X1 hx hby d32_3 rfl k) ?_
  refine cIW (rest := [(.ref b1)]) X1 hx hZ hown rfl (ow hw 70 rfl) (ow hw 71 rfl) (ow hw 69 rfl) (ow hw 72 rfl) (rm_sbi l Z a0 hw [] b1 z h1 n0 Z2 O2 A1 F_value_b1 F_coder_b1 F_count_b1 g_b1 S0 hz) hby d32_4 e1 pd_768 1 (by rw [hml]; rfl) rfl rfl rfl rfl (by decide) (by decide) fun _ T3 Lc3 X3 hQ3 => ?_
  obtain ⟨t3, kb3, rfl, N3q, K3q, g3t, F3v, F3c, F3n, V3q⟩ := hQ3
  have N3 := Fr.app N0 N3q
  have g_t3 : n0 ≤ t3 := nt Z2 g3t
  have sz_t3 : h0.size ≤ t3 := nt K2.1 g3t
  have r4 : CHr Z own_EL s.vm h1 s.vm T3.heap := CHr.keep K3q (sfS (Safe.exa hZ.alike A1 (by decide) (by decide)) sf0) R2.1
  have R4 := R2.trans r4
  have Z4 := nt Z2 K3q.1
  have O4 := O2.keep K3q (allS g_b1 all0)
  have K4 := K2.trans K3q (allS (Or.inr sz_b1) all0)
  have sfc3 := Safe.keep K3q (sfS (Safe.exa hZ.alike A1 (by decide) (by decide)) sf0) R2.1 (Safe.new (EL := own_EL) (Z := Z) (vm := s.vm) g3t)
  refine gsW (fun _ k => o_aloadN X3 hx hby d32_7 rfl rfl k) ?_
  have f5 := ((F_t.ext E1).keep K3q (ninS (nw (nu (nu E_m.lt (Nat.le_refl _)) (Nat.le_of_eq q1.symm))) nin0))
  refine gFW X3 hx hZ hown (host := "") (Or.inl (ow hw 56 rfl)) Via.refl rfl f5 hby d32_8 fun T6 X6 e6 => ?_
  have f7 := (A1.keep K3q)
  have f8 := ((Es1.ext E1).keep K3q)
  have f9 := ((Cs1.ext E1).keep K3q (ninS (nw (nu (nu Es1.lt (Nat.le_refl _)) (Nat.le_of_eq q1.symm))) nin0))
  have f10 := ((Vs1.ext E1).keep K3q (ninS (nw (nu (nu Es1.lt (Nat.le_refl _)) (Nat.le_of_eq q1.symm))) nin0))
  have f11 := ((As1.ext E1).keep K3q (ninS (nw (nu (nu As1.lt (Nat.le_refl _)) (Nat.le_of_eq q1.symm))) nin0))
  have Ts12 : Str Z T3.heap a1 cs := ⟨_, _, f8, f9, f10, f11⟩
  refine cVW (rest := []) X6 hx hZ hown (ow hw 85 rfl) (ow hw 86 rfl) (nfs hZ (ow hw 88 rfl)) (ow hw 88 rfl) (ow hw 87 rfl) (ow hw 69 rfl) (ow hw 89 rfl) (rm_saA l Z a0 hw [] b1 t3 kb3 ([] : List Int32) a1 cs z T3.heap n0 Z4 O4 f7 F3v F3c F3n V3q g_b1 g_t3 S0 hz Ts12 hb1 (nt hl1.2 (by decide)) (own_room1 hl1.2).1 (own_room1 hl1.2).2) hby d32_11 e6 pd_787 0 (by rw [hml]; rfl) f7 rfl rfl rfl rfl (by decide) (by decide) fun _ T13 Lc13 X13 hQ13 => ?_
  obtain ⟨rfl, N13q, K13q, F13v, F13c, F13n, V13q⟩ := hQ13
  have N13 := Fr.app N3 N13q
  have r14 : CHr Z own_EL s.vm T3.heap s.vm T13.heap := CHr.keep K13q (sfS (Safe.exa hZ.alike f7 (by decide) (by decide)) (sfS sfc3 sf0)) R4.1
  have R14 := R4.trans r14
  have Z14 := nt Z4 K13q.1
  have O14 := O4.keep K13q (allS g_b1 (allS g_t3 all0))
  have K14 := K4.trans K13q (allS (Or.inr sz_b1) (allS (Or.inr sz_t3) all0))
  have zs16 := nt E1.1 K3q.1
  have zs17 := nt zs16 K13q.1
  obtain ⟨a15, T15, h15, k15, t15, kb15, X15, e15, E15, hS, hk15, hZ, hown, g15e, g15c, g15v, g15a, -, -, r15x, -, ne15, st15⟩ := ldcCH X13 hx hZ hown (ow hw 132 rfl) (own_wS hw) rfl hS (nt hk zs17) (own_EW hw) (List.mem_of_getElem? (i := 0) rfl) R14.1 (vs := ((([47] : List Int32).map (fun c => c.toInt8.toInt32)).map Value.int)) (z := (1 : Int32)) ⟨by decide, by rfl⟩ (by decide) rfl (g := (mkF m 14 #[rv (mt)] [(.ref b1)])) rfl (hb hby d32_14) (n := 4) (by decide) (by decide) (by decide) (by decide)
  have r18 : CHr Z own_EL s.vm T13.heap T15.vm h15 := r15x
  have R18 := R14.trans r18
  have Z18 := nt Z14 E15.1
  have O18 := O14.ext E15
  have K18 := K14.ext E15
  have T15q : Str Z h15 a15 ([47] : List Int32) := ⟨_, _, g15e, g15c, g15v, g15a⟩
  have f19 := (r18.safe (nu V3q.lt K13q.1) (r14.safe (nu V3q.lt (Nat.le_refl _)) sfc3))
  refine gsW (S' := T15.setTop (mkF m 16 #[rv (mt)] [(.ref a15), (.ref b1)])) st15 ?_
  have f20 := ((f7.keep K13q).ext E15)
  have f21 := (F13v.ext E15)
  have f22 := (F13c.ext E15)
  have f23 := (F13n.ext E15)
  have f24 := (V13q.ext E15)
  have Ts25 : Str Z h15 a15 ([47] : List Int32) := ⟨_, _, g15e, g15c, g15v, g15a⟩
  refine cVW (rest := []) X15 hx hZ hown (ow hw 85 rfl) (ow hw 86 rfl) (nfs hZ (ow hw 88 rfl)) (ow hw 88 rfl) (ow hw 87 rfl) (ow hw 69 rfl) (ow hw 89 rfl) (rm_saA l Z a0 hw [] b1 t3 kb3 (([] : List Int32) ++ cs) a15 ([47] : List Int32) z h15 n0 Z18 O18 f20 f21 f22 f23 f24 g_b1 g_t3 S0 hz Ts25 (by decide) (by decide) (own_room2 hl1.2).1 (own_room2 hl1.2).2) hby d32_16 e15 pd_787 0 (by rw [hml]; rfl) f20 rfl rfl rfl rfl (by decide) (by decide) fun _ T26 Lc26 X26 hQ26 => ?_
  obtain ⟨rfl, N26q, K26q, F26v, F26c, F26n, V26q⟩ := hQ26
  have N26 := Fr.app N13 N26q
  have r27 : CHr Z own_EL T15.vm h15 T15.vm T26.heap := CHr.keep K26q (sfS (Safe.exa hZ.alike f20 (by decide) (by decide)) (sfS f19 sf0)) R18.1
  have R27 := R18.trans r27
  have Z27 := nt Z18 K26q.1
  have O27 := O18.keep K26q (allS g_b1 (allS g_t3 all0))
  have K27 := K18.trans K26q (allS (Or.inr sz_b1) (allS (Or.inr sz_t3) all0))
  refine gsW (fun _ k => o_aloadN X26 hx hby d32_19 rfl rfl k) ?_
  have f28 := (((((F_s.ext E1).keep K3q (ninS (nw (nu (nu E_m.lt (Nat.le_refl _)) (Nat.le_of_eq q1.symm))) nin0)).keep K13q (ninS (nw (nu (nu E_m.lt (Nat.le_refl _)) (Nat.le_of_eq q1.symm))) (ninS (nw (nu (nu E_m.lt E1.1) g3t)) nin0))).ext E15).keep K26q (ninS (nw (nu (nu E_m.lt (Nat.le_refl _)) (Nat.le_of_eq q1.symm))) (ninS (nw (nu (nu E_m.lt E1.1) g3t)) nin0)))
  refine gFW X26 hx hZ hown (host := "") (Or.inl (ow hw 58 rfl)) Via.refl rfl f28 hby d32_20 fun T29 X29 e29 => ?_
  have f30 := (f20.keep K26q)
  have f31 := (((((Es2.ext E1).keep K3q).keep K13q).ext E15).keep K26q)
  have f32 := (((((Cs2.ext E1).keep K3q (ninS (nw (nu (nu Es2.lt (Nat.le_refl _)) (Nat.le_of_eq q1.symm))) nin0)).keep K13q (ninS (nw (nu (nu Es2.lt (Nat.le_refl _)) (Nat.le_of_eq q1.symm))) (ninS (nw (nu (nu Es2.lt E1.1) g3t)) nin0))).ext E15).keep K26q (ninS (nw (nu (nu Es2.lt (Nat.le_refl _)) (Nat.le_of_eq q1.symm))) (ninS (nw (nu (nu Es2.lt E1.1) g3t)) nin0)))
  have f33 := (((((Vs2.ext E1).keep K3q (ninS (nw (nu (nu Es2.lt (Nat.le_refl _)) (Nat.le_of_eq q1.symm))) nin0)).keep K13q (ninS (nw (nu (nu Es2.lt (Nat.le_refl _)) (Nat.le_of_eq q1.symm))) (ninS (nw (nu (nu Es2.lt E1.1) g3t)) nin0))).ext E15).keep K26q (ninS (nw (nu (nu Es2.lt (Nat.le_refl _)) (Nat.le_of_eq q1.symm))) (ninS (nw (nu (nu Es2.lt E1.1) g3t)) nin0)))
  have f34 := (((((As2.ext E1).keep K3q (ninS (nw (nu (nu As2.lt (Nat.le_refl _)) (Nat.le_of_eq q1.symm))) nin0)).keep K13q (ninS (nw (nu (nu As2.lt (Nat.le_refl _)) (Nat.le_of_eq q1.symm))) (ninS (nw (nu (nu As2.lt E1.1) g3t)) nin0))).ext E15).keep K26q (ninS (nw (nu (nu As2.lt (Nat.le_refl _)) (Nat.le_of_eq q1.symm))) (ninS (nw (nu (nu As2.lt E1.1) g3t)) nin0)))
  have Ts35 : Str Z T26.heap a2 ds := ⟨_, _, f31, f32, f33, f34⟩
  refine cVW (rest := []) X29 hx hZ hown (ow hw 85 rfl) (ow hw 86 rfl) (nfs hZ (ow hw 88 rfl)) (ow hw 88 rfl) (ow hw 87 rfl) (ow hw 69 rfl) (ow hw 89 rfl) (rm_saG l Z a0 hw [] b1 t3 kb3 ((([] : List Int32) ++ cs) ++ ([47] : List Int32)) a2 ds z T26.heap n0 Z27 O27 f30 F26v F26c F26n V26q g_b1 S0 hz Ts35 hb2 (nt hl2.2 (by decide)) g3.1 g3.2.1 g3.2.2.1 g3.2.2.2) hby d32_23 e29 pd_787 0 (by rw [hml]; rfl) f30 rfl rfl rfl rfl (by decide) (by decide) fun _ T36 Lc36 X36 hQ36 => ?_
  obtain ⟨t36, kb36, rfl, N36q, K36q, g36t, F36v, F36c, F36n, V36q⟩ := hQ36
  have N36 := Fr.app N26 N36q
  have g_t36 : n0 ≤ t36 := nt Z27 g36t
  have sz_t36 : h0.size ≤ t36 := nt K27.1 g36t
  have r37 : CHr Z own_EL T15.vm T26.heap T15.vm T36.heap := CHr.keep K36q (sfS (Safe.exa hZ.alike f30 (by decide) (by decide)) sf0) R27.1
  have R37 := R27.trans r37
  have Z37 := nt Z27 K36q.1
  have O37 := O27.keep K36q (allS g_b1 all0)
  have K37 := K27.trans K36q (allS (Or.inr sz_b1) all0)
  have f38 := (f30.keep K36q)
  refine cVW (rest := []) X36 hx hZ hown (ow hw 158 rfl) (ow hw 159 rfl) (nfs hZ (ow hw 161 rfl)) (ow hw 161 rfl) (ow hw 160 rfl) (ow hw 69 rfl) (ow hw 162 rfl) (rm_tsS l Z a0 hw [] b1 t36 kb36 (((([] : List Int32) ++ cs) ++ ([47] : List Int32)) ++ ds) z T36.heap n0 Z37 O37 f38 F36v F36c F36n V36q S0 hz ts.1 ts.2.1 ts.2.2) hby d32_26 rfl pd_794 0 (by rw [hml]; rfl) f38 rfl rfl rfl rfl (by decide) (by decide) fun _ T39 Lc39 X39 hQ39 => ?_
  obtain ⟨a39, rfl, N39q, K39q, T39q⟩ := hQ39
  have N39 := Fr.app N36 N39q
  have r40 : CHr Z own_EL T15.vm T36.heap T15.vm T39.heap := CHr.keep K39q sf0 R37.1
  have R40 := R37.trans r40
  have Z40 := nt Z37 K39q.1
  have O40 := O37.keep K39q all0
  have K40 := K37.trans K39q all0
  have zs42 := nt K26q.1 K36q.1
  have zs43 := nt zs42 K39q.1
  obtain ⟨a41, T41, h41, k41, t41, kb41, X41, e41, E41, hS, hk41, hZ, hown, g41e, g41c, g41v, g41a, -, -, r41x, -, ne41, st41⟩ := ldcCH X39 hx hZ hown (ow hw 197 rfl) (own_wS hw) rfl hS (nt hk15 zs43) (own_EW hw) (List.mem_of_getElem? (i := 1) rfl) R40.1 (vs := ((([97, 112, 112, 108, 105, 99, 97, 116, 105, 111, 110, 47, 118, 110, 100, 46, 97, 112, 105, 43, 106, 115, 111, 110] : List Int32).map (fun c => c.toInt8.toInt32)).map Value.int)) (z := (24 : Int32)) ⟨by decide, by rfl⟩ (by decide) rfl (g := (mkF m 29 #[rv (mt)] [(.ref a39)])) rfl (hb hby d32_29) (n := 96) (by decide) (by decide) (by decide) (by decide)
  have r44 : CHr Z own_EL T15.vm T39.heap T41.vm h41 := r41x
  have R44 := R40.trans r44
  have Z44 := nt Z40 E41.1
  have O44 := O40.ext E41
  have K44 := K40.ext E41
  have T41q : Str Z h41 a41 ([97, 112, 112, 108, 105, 99, 97, 116, 105, 111, 110, 47, 118, 110, 100, 46, 97, 112, 105, 43, 106, 115, 111, 110] : List Int32) := ⟨_, _, g41e, g41c, g41v, g41a⟩
  have zs45 := nt K13q.1 E15.1
  have zs46 := nt zs45 K26q.1
  have zs47 := nt zs46 K36q.1
  have zs48 := nt zs47 K39q.1
  have f49 := (r44.safe (nu V3q.lt zs48) (r40.safe (nu V3q.lt zs47) (r37.safe (nu V3q.lt zs46) (r27.safe (nu V3q.lt zs45) f19))))
  refine gsW (S' := T41.setTop (mkF m 31 #[rv (mt)] [(.ref a41), (.ref a39)])) st41 ?_
  by_cases hc50 : (((([] : List Int32) ++ cs) ++ ([47] : List Int32)) ++ ds) = ([97, 112, 112, 108, 105, 99, 97, 116, 105, 111, 110, 47, 118, 110, 100, 46, 97, 112, 105, 43, 106, 115, 111, 110] : List Int32)
  · have f51 := (T39q.ext E41)
    obtain ⟨cq52, kq52, q52a, q52b, q52c⟩ := isOf hZ e41 f51.exa
    obtain ⟨_, _, ⟨T52, L52, k52, n52⟩, -, X52, ⟨Lc52, hQ52, l52, y52, z52⟩, st52⟩ := X41.virtualBack hx (y := my2) (z := my2) hown (mvT hZ (ow hw 198 rfl)) (mvT hZ (ow hw 199 rfl)) (notFace_of_selects (args := #[]) (mvT hZ (ow hw 201 rfl))) (mvT hZ (ow hw 201 rfl)) (mvT hZ (ow hw 200 rfl)) (by decide) (own_eqB (W := 0) hZ hw f51 (own_cat_b hb1 hb2) (nt ts.2.2 (by decide)) T41q (by decide) (by decide) (S0.ext O44.2) hz (by decide) (by decide)) q52a q52c (g := (mkF m 31 #[rv (mt)] [(.ref a41), (.ref a39)])) rfl (by rw [hml]; rfl) (Steps.refl _) (argsL := [(.ref a41)]) (rest := []) (lenOf pd_797 rfl) rfl (own_w0 rfl) (hb hby d32_31) (fun _ _ => ⟨rfl, e41, (by decide : 9 + 0 ≤ _), (by decide : 192 + 0 ≤ _)⟩)
    dsimp only [Pt.U, Pt.locs, Pt.cells, Pt.slots] at X52 l52 y52 z52 st52 hQ52
    subst l52 y52 z52
    replace hQ52 := (show _ ∧ _ ∧ _ from by rcases hQ52 with ⟨⟨u1, u2⟩ | ⟨u1, u2⟩, u3, u4⟩; exact ⟨u1, u3, u4⟩; exact absurd hc50 u2)
    obtain ⟨rfl, rfl, e52q⟩ := hQ52
    have N52 := Fr.app N39 (Fr.nil n0)
    refine gsW (S' := T52.setTop (mkF m 34 #[rv (mt)] [(.int (1 : Int32))])) (fun _ k => st52.trans k) ?_
    refine goutW (v := some (.int (1 : Int32))) X52 hS hk41 hZ (own_EW hw) hh e52q R44 Bd.notSynchronized (fun h => by rw [Bd.returns] at h; cases h) (by decide) (by decide) ?_ (fun fs hr => retN X52 hx (t := .boolean) Bd.returns (by simp) (hb hby d32_34) hr)
    exact ⟨by unfold own_jr own_lit; rw [if_pos hc50], N52, K44⟩
  · have f53 := (T39q.ext E41)
    obtain ⟨cq54, kq54, q54a, q54b, q54c⟩ := isOf hZ e41 f53.exa
    obtain ⟨_, _, ⟨T54, L54, k54, n54⟩, -, X54, ⟨Lc54, hQ54, l54, y54, z54⟩, st54⟩ := X41.virtualBack hx (y := my2) (z := my2) hown (mvT hZ (ow hw 198 rfl)) (mvT hZ (ow hw 199 rfl)) (notFace_of_selects (args := #[]) (mvT hZ (ow hw 201 rfl))) (mvT hZ (ow hw 201 rfl)) (mvT hZ (ow hw 200 rfl)) (by decide) (own_eqB (W := 0) hZ hw f53 (own_cat_b hb1 hb2) (nt ts.2.2 (by decide)) T41q (by decide) (by decide) (S0.ext O44.2) hz (by decide) (by decide)) q54a q54c (g := (mkF m 31 #[rv (mt)] [(.ref a41), (.ref a39)])) rfl (by rw [hml]; rfl) (Steps.refl _) (argsL := [(.ref a41)]) (rest := []) (lenOf pd_797 rfl) rfl (own_w0 rfl) (hb hby d32_31) (fun _ _ => ⟨rfl, e41, (by decide : 9 + 0 ≤ _), (by decide : 192 + 0 ≤ _)⟩)
    dsimp only [Pt.U, Pt.locs, Pt.cells, Pt.slots] at X54 l54 y54 z54 st54 hQ54
    subst l54 y54 z54
    replace hQ54 := (show _ ∧ _ ∧ _ from by rcases hQ54 with ⟨⟨u1, u2⟩ | ⟨u1, u2⟩, u3, u4⟩; exact absurd u2 hc50; exact ⟨u1, u3, u4⟩)
    obtain ⟨rfl, rfl, e54q⟩ := hQ54
    have N54 := Fr.app N39 (Fr.nil n0)
    refine gsW (S' := T54.setTop (mkF m 34 #[rv (mt)] [(.int (0 : Int32))])) (fun _ k => st54.trans k) ?_
    refine goutW (v := some (.int (0 : Int32))) X54 hS hk41 hZ (own_EW hw) hh e54q R44 Bd.notSynchronized (fun h => by rw [Bd.returns] at h; cases h) (by decide) (by decide) ?_ (fun fs hr => retN X54 hx (t := .boolean) Bd.returns (by simp) (hb hby d32_34) hr)
    exact ⟨by unfold own_jr own_lit; rw [if_neg hc50], N54, K44⟩
theorem ef_799 (m : MethodId) (x0 : Int32) (x1 : Int32) (x2 : Int32) (x3 : Int32) (x4 : Int32) (x5 : Int32) : entryFrame m #[(.int x0), (.int x1), (.int x2), (.int x3), (.int x4), (.int x5)] maxLocals = mkF m 0 #[.val (.int x0), .val (.int x1), .val (.int x2), .val (.int x3), .val (.int x4), .val (.int x5), .unset, .unset, .unset, .unset] [] := by first | (simp [entryFrame, mkF, argsToLocals, Value.category, maxLocals]; done) | rfl
theorem pd_800 : parseMethodDescriptor "(ZIII)Ljava/lang/String;" = some ⟨[.boolean, .int, .int, .int], some (.object "java/lang/String")⟩ := by decide +kernel
theorem pd_801 : parseMethodDescriptor "(ZIII)Z" = some ⟨[.boolean, .int, .int, .int], some .boolean⟩ := by decide +kernel
theorem pd_802 : parseMethodDescriptor "(Ljava/lang/String;Ljava/lang/String;Ljava/util/Map;)V" = some ⟨[(.object "java/lang/String"), (.object "java/lang/String"), (.object "java/util/Map")], none⟩ := by decide +kernel
set_option maxRecDepth 65536 in
set_option maxHeartbeats 40000000 in
theorem rm_law (l : Launch) (Z : State) (a0 : Array Value) (hw : HW Z a0) (ws : List Jvm.Cond) (i0 : Int32) (i1 : Int32) (i2 : Int32) (i3 : Int32) (i4 : Int32) (i5 : Int32) (z : Int32) (h0 : Heap) (n0 : Nat) (Z0 : n0 ≤ h0.size) (O0 : Old Z n0 h0) (S0 : PS0 Z (.int z)) (hz : ¬ z = 0) :
    CtrW l Z own_EL x code maxLocals ret ws room_1 #[(.int i0), (.int i1), (.int i2), (.int i3), (.int i4), (.int i5)] h0 (fun v h L => v = some (.int 1) ∧ Fr n0 L) := by
  refine CtrW.of (MetFree.of_bodySF (plainFor_of_name pn_345) hisR ?_)
  intro p e s m args below meth c s₁ Bd hml0 hP hK
  obtain ⟨rfl, hZ0, hh, hC⟩ := hP
  have hx := Bd.exec
  have hby := Bd.bytes
  have hml : c.maxLocals = 10 := hml0
  have hZ : Z.Warmed39 (s.setVm s.vm).vm := hZ0
  have hown : (s.setVm s.vm).vm.findClass "com/example/strict_resources/strictresources/core/MediaTypeIsJsonApiPinLaw" = some m.cls := findClass_of_methodNamed Bd.named
  have hnm := (name_of_methodNamed Bd.named Bd.method).1
  have X0 : Stand p l e room_1 (s.setVm s.vm) m #[(.int i0), (.int i1), (.int i2), (.int i3), (.int i4), (.int i5)] below meth c s₁ [] 0 0 := Stand.of_body Bd
  have e0 : s₁.heap = h0 := by rw [← hh, Bd.state]; rfl
  have N0 := Fr.nil n0
  have K0 : Keep h0 h0 [] := Keep.refl h0 []
  have hS : s.Since s.vm 0 := (State.WarmedH.refl s).since 0
  have hk : 0 ≤ h0.size := Nat.zero_le _
  have R0 : CHr Z own_EL s.vm h0 s.vm h0 := CHr.refl hC
  show OwnGoW p e below s Z own_EL (fun v h L => v = some (.int 1) ∧ Fr n0 L) room_1.cells room_1.slots _
  refine gsW (S' := s₁.setTop (mkF m 0 #[iv (i0), iv (i1), iv (i2), iv (i3), iv (i4), iv (i5), uu, uu, uu, uu] [])) (fun tg kg => castTop (ef_799 m i0 i1 i2 i3 i4 i5) kg) ?_
  refine gsW (fun _ k => o_iconst (v := (1 : Int32)) X0 hx hby at_0 (o_iloadN X0 hx hby at_1 rfl (o_iloadN X0 hx hby at_2 rfl (o_iloadN X0 hx hby at_3 rfl k)))) ?_
  refine cSW (rest := []) X0 hx hZ hown (ow hw 0 rfl) (ow hw 1 rfl) (ow hw 2 rfl) (ow hw 3 rfl) (rm_make1 l Z a0 hw [] i0 i1 i2 z h0 n0 Z0 O0 S0 hz) hby at_4 e0 pd_800 0 (by rw [hml]; rfl) rfl rfl rfl rfl (by decide) (by decide) fun _ T1 Lc1 X1 hQ1 => ?_
  obtain ⟨a1, rfl, N1q, K1q, T1q⟩ := hQ1
  have N1 := Fr.app N0 N1q
  have r2 : CHr Z own_EL s.vm h0 s.vm T1.heap := CHr.keep K1q sf0 R0.1
  have R2 := R0.trans r2
  have Z2 := nt Z0 K1q.1
  have O2 := O0.keep K1q all0
  have K2 := K0.trans K1q all0
  refine gsW (fun _ k => o_astore X1 hx hby at_7 rfl rfl (o_iconst (v := (0 : Int32)) X1 hx hby at_9 (o_iloadN X1 hx hby at_10 rfl (o_iload X1 hx hby at_11 rfl (o_iload X1 hx hby at_13 rfl k))))) ?_
  refine cSW (rest := []) X1 hx hZ hown (ow hw 0 rfl) (ow hw 1 rfl) (ow hw 2 rfl) (ow hw 3 rfl) (rm_make0 l Z a0 hw [] i3 i4 i5 z T1.heap n0 Z2 O2 S0 hz) hby at_15 rfl pd_800 0 (by rw [hml]; rfl) rfl rfl rfl rfl (by decide) (by decide) fun _ T3 Lc3 X3 hQ3 => ?_
  obtain ⟨a3, rfl, N3q, K3q, T3q⟩ := hQ3
  have N3 := Fr.app N1 N3q
  have r4 : CHr Z own_EL s.vm T1.heap s.vm T3.heap := CHr.keep K3q sf0 R2.1
  have R4 := R2.trans r4
  have Z4 := nt Z2 K3q.1
  have O4 := O2.keep K3q all0
  have K4 := K2.trans K3q all0
  refine gsW (fun _ k => o_astore X3 hx hby at_18 rfl rfl (o_iconst (v := (1 : Int32)) X3 hx hby at_20 (o_iloadN X3 hx hby at_21 rfl (o_iloadN X3 hx hby at_22 rfl (o_iloadN X3 hx hby at_23 rfl k))))) ?_
  refine cSW (rest := []) X3 hx hZ hown (ow hw 41 rfl) (ow hw 42 rfl) (ow hw 2 rfl) (ow hw 43 rfl) (rm_mat1 l Z a0 hw [] i0 i1 i2 T3.heap n0 Z4 O4 ) hby at_24 rfl pd_801 0 (by rw [hml]; rfl) rfl rfl rfl rfl (by decide) (by decide) fun _ T5 Lc5 X5 hQ5 => ?_
  obtain ⟨rfl, N5q, K5q⟩ := hQ5
  have N5 := Fr.app N3 N5q
  have r6 : CHr Z own_EL s.vm T3.heap s.vm T5.heap := CHr.keep K5q sf0 R4.1
  have R6 := R4.trans r6
  have Z6 := nt Z4 K5q.1
  have O6 := O4.keep K5q all0
  have K6 := K4.trans K5q all0
  by_cases hc7 : (own_mt own_F1 (11 : Int32) (i0 &&& (3 : Int32)) i1 (own_dr i2)) = (0 : Int32)
  · refine gsW (fun _ k => o_ifYes (pc' := 46) X5 hx hby at_27 ((if0 _ _).trans (teq hc7).1) (o_iconst (v := (0 : Int32)) X5 hx hby at_46 (o_istore X5 hx hby at_47 rfl k))) ?_
    obtain ⟨T8, h8, X8, e8, E8, A8, D8, -, st8⟩ := newO X5 hx hZ hown (ow hw 44 rfl) (ow hw 45 rfl) (ow hw 46 rfl) rfl (g := (mkF m 49 #[iv (i0), iv (i1), iv (i2), iv (i3), iv (i4), iv (i5), rv (a1), rv (a3), iv ((0 : Int32)), uu] [])) rfl (hb hby at_49) (by decide) (by decide)
    obtain ⟨b8, q8⟩ : ∃ z, z = T5.heap.size := ⟨_, rfl⟩
    rw [← q8] at A8 D8 st8
    have g_b8 : n0 ≤ b8 := nt Z6 (Nat.le_of_eq q8.symm)
    have sz_b8 : h0.size ≤ b8 := nt K6.1 (Nat.le_of_eq q8.symm)
    have r9 : CHr Z own_EL s.vm T5.heap s.vm h8 := CHr.ext E8 R6.1
    have R9 := R6.trans r9
    have Z9 := nt Z6 E8.1
    have O9 := O6.ext E8
    have K9 := K6.ext E8
    have F_type_b8 : Fld Z h8 b8 "com/example/strict_resources/strictresources/core/MediaType" "type" "Ljava/lang/String;" .null := D8 (Or.inr (ow hw 57 rfl)) (ty := (.object "java/lang/String")) (by decide)
    have F_subtype_b8 : Fld Z h8 b8 "com/example/strict_resources/strictresources/core/MediaType" "subtype" "Ljava/lang/String;" .null := D8 (Or.inr (ow hw 59 rfl)) (ty := (.object "java/lang/String")) (by decide)
    have F_parameters_b8 : Fld Z h8 b8 "com/example/strict_resources/strictresources/core/MediaType" "parameters" "Ljava/util/Map;" .null := D8 (Or.inr (ow hw 61 rfl)) (ty := (.object "java/util/Map")) (by decide)
    refine gsW (S' := T8.setTop (mkF m 52 #[iv (i0), iv (i1), iv (i2), iv (i3), iv (i4), iv (i5), rv (a1), rv (a3), iv ((0 : Int32)), uu] [(.ref b8)])) st8 ?_
    refine gsW (fun _ k => o_dup X8 hx hby at_52 rfl (o_aload X8 hx hby at_53 rfl rfl (o_aload X8 hx hby at_55 rfl rfl (o_aconstNull X8 hx hby at_57 k)))) ?_
    refine cIW (rest := [(.ref b8)]) X8 hx hZ hown rfl (ow hw 47 rfl) (ow hw 48 rfl) (ow hw 46 rfl) (ow hw 49 rfl) (rm_mi l Z a0 hw [] b8 a1 a3 h8 n0 Z9 O9 A8 F_type_b8 F_subtype_b8 F_parameters_b8 g_b8) hby at_58 e8 pd_802 1 (by rw [hml]; rfl) rfl rfl rfl rfl (by decide) (by decide) fun _ T10 Lc10 X10 hQ10 => ?_
    obtain ⟨rfl, N10q, K10q, F10t, F10s⟩ := hQ10
    have N10 := Fr.app N5 N10q
    have r11 : CHr Z own_EL s.vm h8 s.vm T10.heap := CHr.keep K10q (sfS (Safe.exa hZ.alike A8 (by decide) (by decide)) sf0) R9.1
    have R11 := R9.trans r11
    have Z11 := nt Z9 K10q.1
    have O11 := O9.keep K10q (allS g_b8 all0)
    have K11 := K9.trans K10q (allS (Or.inr sz_b8) all0)
    refine gsW (fun _ k => o_astore X10 hx hby at_61 rfl rfl (o_aload X10 hx hby at_63 rfl rfl k)) ?_
    have f12 := (A8.keep K10q)
    have f13 := ((((T1q.keep0 K3q).keep0 K5q).ext E8).keepE K10q A8 (by decide) (ow hw 45 rfl))
    have f14 := (((T3q.keep0 K5q).ext E8).keepE K10q A8 (by decide) (ow hw 45 rfl))
    have zs16 := nt K1q.1 K3q.1
    have zs17 := nt zs16 K5q.1
    have zs18 := nt zs17 E8.1
    have zs19 := nt zs18 K10q.1
    refine cVS (rest := []) X10 hx hS (nt hk zs19) hZ hown (ow hw 62 rfl) (ow hw 63 rfl) (nfs hZ (ow hw 65 rfl)) (ow hw 65 rfl) (ow hw 64 rfl) (ow hw 46 rfl) (ow hw 66 rfl) (rm_js l Z a0 hw [] b8 a1 a3 (own_ms own_F1 own_L1 own_S1 (11 : Int32) (10 : Int32) 11 (i0 &&& (3 : Int32)) i1 (own_dr i2)) (own_ms own_F0 own_L0 own_S0 (12 : Int32) (11 : Int32) 12 (i3 &&& (3 : Int32)) i4 (own_dr i5)) z T10.heap n0 Z11 O11 f12 F10t F10s f13 f14 (own_msb own_F1b own_L1b own_S1b (own_drb i2)) (own_msb own_F0b own_L0b own_S0b (own_drb i5)) (own_msl 10 rfl rfl rfl) (own_msl 11 rfl rfl rfl) S0 hz) (own_EW hw) R11.1 hby at_65 rfl pd_299 0 (by rw [hml]; rfl) f12 rfl rfl rfl rfl (by decide) (by decide) fun _ T15 Lc15 X15 hS hZ hown hQ15 rq15 => ?_
    obtain ⟨rfl, N15q, K15q⟩ := hQ15
    have N15 := Fr.app N10 N15q
    have r20 : CHr Z own_EL s.vm T10.heap T15.vm T15.heap := rq15
    have R20 := R11.trans r20
    have Z20 := nt Z11 K15q.1
    have O20 := O11.keep K15q all0
    have K20 := K11.trans K15q all0
    refine gsW (fun _ k => o_iload X15 hx hby at_68 rfl (o_icmpNo X15 hx hby at_70 (teq (by rw [own_final, if_pos hc7])).2 (o_iconst (v := (1 : Int32)) X15 hx hby at_73 (o_goto (pc' := 78) X15 hx hby at_74 k)))) ?_
    refine goutW (v := some (.int (1 : Int32))) X15 hS (Nat.le_refl T15.heap.size) hZ (own_EW hw) hh rfl R20 Bd.notSynchronized (fun h => by rw [Bd.returns] at h; cases h) (by decide) (by decide) ?_ (fun fs hr => retN X15 hx (t := .boolean) Bd.returns (by simp) (hb hby at_78) hr)
    exact ⟨rfl, N15⟩
  · refine gsW (fun _ k => o_ifNo X5 hx hby at_27 ((if0 _ _).trans (feq hc7).1) (o_iconst (v := (0 : Int32)) X5 hx hby at_30 (o_iloadN X5 hx hby at_31 rfl (o_iload X5 hx hby at_32 rfl (o_iload X5 hx hby at_34 rfl k))))) ?_
    refine cSW (rest := []) X5 hx hZ hown (ow hw 41 rfl) (ow hw 42 rfl) (ow hw 2 rfl) (ow hw 43 rfl) (rm_mat0 l Z a0 hw [] i3 i4 i5 T5.heap n0 Z6 O6 ) hby at_36 rfl pd_801 0 (by rw [hml]; rfl) rfl rfl rfl rfl (by decide) (by decide) fun _ T21 Lc21 X21 hQ21 => ?_
    obtain ⟨rfl, N21q, K21q⟩ := hQ21
    have N21 := Fr.app N5 N21q
    have r22 : CHr Z own_EL s.vm T5.heap s.vm T21.heap := CHr.keep K21q sf0 R6.1
    have R22 := R6.trans r22
    have Z22 := nt Z6 K21q.1
    have O22 := O6.keep K21q all0
    have K22 := K6.trans K21q all0
    by_cases hc23 : (own_mt own_F0 (12 : Int32) (i3 &&& (3 : Int32)) i4 (own_dr i5)) = (0 : Int32)
    · refine gsW (fun _ k => o_ifYes (pc' := 46) X21 hx hby at_39 ((if0 _ _).trans (teq hc23).1) (o_iconst (v := (0 : Int32)) X21 hx hby at_46 (o_istore X21 hx hby at_47 rfl k))) ?_
      obtain ⟨T24, h24, X24, e24, E24, A24, D24, -, st24⟩ := newO X21 hx hZ hown (ow hw 44 rfl) (ow hw 45 rfl) (ow hw 46 rfl) rfl (g := (mkF m 49 #[iv (i0), iv (i1), iv (i2), iv (i3), iv (i4), iv (i5), rv (a1), rv (a3), iv ((0 : Int32)), uu] [])) rfl (hb hby at_49) (by decide) (by decide)
      obtain ⟨b24, q24⟩ : ∃ z, z = T21.heap.size := ⟨_, rfl⟩
      rw [← q24] at A24 D24 st24
      have g_b24 : n0 ≤ b24 := nt Z22 (Nat.le_of_eq q24.symm)
      have sz_b24 : h0.size ≤ b24 := nt K22.1 (Nat.le_of_eq q24.symm)
      have r25 : CHr Z own_EL s.vm T21.heap s.vm h24 := CHr.ext E24 R22.1
      have R25 := R22.trans r25
      have Z25 := nt Z22 E24.1
      have O25 := O22.ext E24
      have K25 := K22.ext E24
      have F_type_b24 : Fld Z h24 b24 "com/example/strict_resources/strictresources/core/MediaType" "type" "Ljava/lang/String;" .null := D24 (Or.inr (ow hw 57 rfl)) (ty := (.object "java/lang/String")) (by decide)
      have F_subtype_b24 : Fld Z h24 b24 "com/example/strict_resources/strictresources/core/MediaType" "subtype" "Ljava/lang/String;" .null := D24 (Or.inr (ow hw 59 rfl)) (ty := (.object "java/lang/String")) (by decide)
      have F_parameters_b24 : Fld Z h24 b24 "com/example/strict_resources/strictresources/core/MediaType" "parameters" "Ljava/util/Map;" .null := D24 (Or.inr (ow hw 61 rfl)) (ty := (.object "java/util/Map")) (by decide)
      refine gsW (S' := T24.setTop (mkF m 52 #[iv (i0), iv (i1), iv (i2), iv (i3), iv (i4), iv (i5), rv (a1), rv (a3), iv ((0 : Int32)), uu] [(.ref b24)])) st24 ?_
      refine gsW (fun _ k => o_dup X24 hx hby at_52 rfl (o_aload X24 hx hby at_53 rfl rfl (o_aload X24 hx hby at_55 rfl rfl (o_aconstNull X24 hx hby at_57 k)))) ?_
      refine cIW (rest := [(.ref b24)]) X24 hx hZ hown rfl (ow hw 47 rfl) (ow hw 48 rfl) (ow hw 46 rfl) (ow hw 49 rfl) (rm_mi l Z a0 hw [] b24 a1 a3 h24 n0 Z25 O25 A24 F_type_b24 F_subtype_b24 F_parameters_b24 g_b24) hby at_58 e24 pd_802 1 (by rw [hml]; rfl) rfl rfl rfl rfl (by decide) (by decide) fun _ T26 Lc26 X26 hQ26 => ?_
      obtain ⟨rfl, N26q, K26q, F26t, F26s⟩ := hQ26
      have N26 := Fr.app N21 N26q
      have r27 : CHr Z own_EL s.vm h24 s.vm T26.heap := CHr.keep K26q (sfS (Safe.exa hZ.alike A24 (by decide) (by decide)) sf0) R25.1
      have R27 := R25.trans r27
      have Z27 := nt Z25 K26q.1
      have O27 := O25.keep K26q (allS g_b24 all0)
      have K27 := K25.trans K26q (allS (Or.inr sz_b24) all0)
      refine gsW (fun _ k => o_astore X26 hx hby at_61 rfl rfl (o_aload X26 hx hby at_63 rfl rfl k)) ?_
      have f28 := (A24.keep K26q)
      have f29 := (((((T1q.keep0 K3q).keep0 K5q).keep0 K21q).ext E24).keepE K26q A24 (by decide) (ow hw 45 rfl))
      have f30 := ((((T3q.keep0 K5q).keep0 K21q).ext E24).keepE K26q A24 (by decide) (ow hw 45 rfl))
      have zs32 := nt K1q.1 K3q.1
      have zs33 := nt zs32 K5q.1
      have zs34 := nt zs33 K21q.1
      have zs35 := nt zs34 E24.1
      have zs36 := nt zs35 K26q.1
      refine cVS (rest := []) X26 hx hS (nt hk zs36) hZ hown (ow hw 62 rfl) (ow hw 63 rfl) (nfs hZ (ow hw 65 rfl)) (ow hw 65 rfl) (ow hw 64 rfl) (ow hw 46 rfl) (ow hw 66 rfl) (rm_js l Z a0 hw [] b24 a1 a3 (own_ms own_F1 own_L1 own_S1 (11 : Int32) (10 : Int32) 11 (i0 &&& (3 : Int32)) i1 (own_dr i2)) (own_ms own_F0 own_L0 own_S0 (12 : Int32) (11 : Int32) 12 (i3 &&& (3 : Int32)) i4 (own_dr i5)) z T26.heap n0 Z27 O27 f28 F26t F26s f29 f30 (own_msb own_F1b own_L1b own_S1b (own_drb i2)) (own_msb own_F0b own_L0b own_S0b (own_drb i5)) (own_msl 10 rfl rfl rfl) (own_msl 11 rfl rfl rfl) S0 hz) (own_EW hw) R27.1 hby at_65 rfl pd_299 0 (by rw [hml]; rfl) f28 rfl rfl rfl rfl (by decide) (by decide) fun _ T31 Lc31 X31 hS hZ hown hQ31 rq31 => ?_
      obtain ⟨rfl, N31q, K31q⟩ := hQ31
      have N31 := Fr.app N26 N31q
      have r37 : CHr Z own_EL s.vm T26.heap T31.vm T31.heap := rq31
      have R37 := R27.trans r37
      have Z37 := nt Z27 K31q.1
      have O37 := O27.keep K31q all0
      have K37 := K27.trans K31q all0
      refine gsW (fun _ k => o_iload X31 hx hby at_68 rfl (o_icmpNo X31 hx hby at_70 (teq (by rw [own_final, if_neg hc7, if_pos hc23])).2 (o_iconst (v := (1 : Int32)) X31 hx hby at_73 (o_goto (pc' := 78) X31 hx hby at_74 k)))) ?_
      refine goutW (v := some (.int (1 : Int32))) X31 hS (Nat.le_refl T31.heap.size) hZ (own_EW hw) hh rfl R37 Bd.notSynchronized (fun h => by rw [Bd.returns] at h; cases h) (by decide) (by decide) ?_ (fun fs hr => retN X31 hx (t := .boolean) Bd.returns (by simp) (hb hby at_78) hr)
      exact ⟨rfl, N31⟩
    · refine gsW (fun _ k => o_ifNo X21 hx hby at_39 ((if0 _ _).trans (feq hc23).1) (o_iconst (v := (1 : Int32)) X21 hx hby at_42 (o_goto (pc' := 47) X21 hx hby at_43 (o_istore X21 hx hby at_47 rfl k)))) ?_
      obtain ⟨T38, h38, X38, e38, E38, A38, D38, -, st38⟩ := newO X21 hx hZ hown (ow hw 44 rfl) (ow hw 45 rfl) (ow hw 46 rfl) rfl (g := (mkF m 49 #[iv (i0), iv (i1), iv (i2), iv (i3), iv (i4), iv (i5), rv (a1), rv (a3), iv ((1 : Int32)), uu] [])) rfl (hb hby at_49) (by decide) (by decide)
      obtain ⟨b38, q38⟩ : ∃ z, z = T21.heap.size := ⟨_, rfl⟩
      rw [← q38] at A38 D38 st38
      have g_b38 : n0 ≤ b38 := nt Z22 (Nat.le_of_eq q38.symm)
      have sz_b38 : h0.size ≤ b38 := nt K22.1 (Nat.le_of_eq q38.symm)
      have r39 : CHr Z own_EL s.vm T21.heap s.vm h38 := CHr.ext E38 R22.1
      have R39 := R22.trans r39
      have Z39 := nt Z22 E38.1
      have O39 := O22.ext E38
      have K39 := K22.ext E38
      have F_type_b38 : Fld Z h38 b38 "com/example/strict_resources/strictresources/core/MediaType" "type" "Ljava/lang/String;" .null := D38 (Or.inr (ow hw 57 rfl)) (ty := (.object "java/lang/String")) (by decide)
      have F_subtype_b38 : Fld Z h38 b38 "com/example/strict_resources/strictresources/core/MediaType" "subtype" "Ljava/lang/String;" .null := D38 (Or.inr (ow hw 59 rfl)) (ty := (.object "java/lang/String")) (by decide)
      have F_parameters_b38 : Fld Z h38 b38 "com/example/strict_resources/strictresources/core/MediaType" "parameters" "Ljava/util/Map;" .null := D38 (Or.inr (ow hw 61 rfl)) (ty := (.object "java/util/Map")) (by decide)
      refine gsW (S' := T38.setTop (mkF m 52 #[iv (i0), iv (i1), iv (i2), iv (i3), iv (i4), iv (i5), rv (a1), rv (a3), iv ((1 : Int32)), uu] [(.ref b38)])) st38 ?_
      refine gsW (fun _ k => o_dup X38 hx hby at_52 rfl (o_aload X38 hx hby at_53 rfl rfl (o_aload X38 hx hby at_55 rfl rfl (o_aconstNull X38 hx hby at_57 k)))) ?_
      refine cIW (rest := [(.ref b38)]) X38 hx hZ hown rfl (ow hw 47 rfl) (ow hw 48 rfl) (ow hw 46 rfl) (ow hw 49 rfl) (rm_mi l Z a0 hw [] b38 a1 a3 h38 n0 Z39 O39 A38 F_type_b38 F_subtype_b38 F_parameters_b38 g_b38) hby at_58 e38 pd_802 1 (by rw [hml]; rfl) rfl rfl rfl rfl (by decide) (by decide) fun _ T40 Lc40 X40 hQ40 => ?_
      obtain ⟨rfl, N40q, K40q, F40t, F40s⟩ := hQ40
      have N40 := Fr.app N21 N40q
      have r41 : CHr Z own_EL s.vm h38 s.vm T40.heap := CHr.keep K40q (sfS (Safe.exa hZ.alike A38 (by decide) (by decide)) sf0) R39.1
      have R41 := R39.trans r41
      have Z41 := nt Z39 K40q.1
      have O41 := O39.keep K40q (allS g_b38 all0)
      have K41 := K39.trans K40q (allS (Or.inr sz_b38) all0)
      refine gsW (fun _ k => o_astore X40 hx hby at_61 rfl rfl (o_aload X40 hx hby at_63 rfl rfl k)) ?_
      have f42 := (A38.keep K40q)
      have f43 := (((((T1q.keep0 K3q).keep0 K5q).keep0 K21q).ext E38).keepE K40q A38 (by decide) (ow hw 45 rfl))
      have f44 := ((((T3q.keep0 K5q).keep0 K21q).ext E38).keepE K40q A38 (by decide) (ow hw 45 rfl))
      have zs46 := nt K1q.1 K3q.1
      have zs47 := nt zs46 K5q.1
      have zs48 := nt zs47 K21q.1
      have zs49 := nt zs48 E38.1
      have zs50 := nt zs49 K40q.1
      refine cVS (rest := []) X40 hx hS (nt hk zs50) hZ hown (ow hw 62 rfl) (ow hw 63 rfl) (nfs hZ (ow hw 65 rfl)) (ow hw 65 rfl) (ow hw 64 rfl) (ow hw 46 rfl) (ow hw 66 rfl) (rm_js l Z a0 hw [] b38 a1 a3 (own_ms own_F1 own_L1 own_S1 (11 : Int32) (10 : Int32) 11 (i0 &&& (3 : Int32)) i1 (own_dr i2)) (own_ms own_F0 own_L0 own_S0 (12 : Int32) (11 : Int32) 12 (i3 &&& (3 : Int32)) i4 (own_dr i5)) z T40.heap n0 Z41 O41 f42 F40t F40s f43 f44 (own_msb own_F1b own_L1b own_S1b (own_drb i2)) (own_msb own_F0b own_L0b own_S0b (own_drb i5)) (own_msl 10 rfl rfl rfl) (own_msl 11 rfl rfl rfl) S0 hz) (own_EW hw) R41.1 hby at_65 rfl pd_299 0 (by rw [hml]; rfl) f42 rfl rfl rfl rfl (by decide) (by decide) fun _ T45 Lc45 X45 hS hZ hown hQ45 rq45 => ?_
      obtain ⟨rfl, N45q, K45q⟩ := hQ45
      have N45 := Fr.app N40 N45q
      have r51 : CHr Z own_EL s.vm T40.heap T45.vm T45.heap := rq45
      have R51 := R41.trans r51
      have Z51 := nt Z41 K45q.1
      have O51 := O41.keep K45q all0
      have K51 := K41.trans K45q all0
      refine gsW (fun _ k => o_iload X45 hx hby at_68 rfl (o_icmpNo X45 hx hby at_70 (teq (by rw [own_final, if_neg hc7, if_neg hc23])).2 (o_iconst (v := (1 : Int32)) X45 hx hby at_73 (o_goto (pc' := 78) X45 hx hby at_74 k)))) ?_
      refine goutW (v := some (.int (1 : Int32))) X45 hS (Nat.le_refl T45.heap.size) hZ (own_EW hw) hh rfl R51 Bd.notSynchronized (fun h => by rw [Bd.returns] at h; cases h) (by decide) (by decide) ?_ (fun fs hr => retN X45 hx (t := .boolean) Bd.returns (by simp) (hb hby at_78) hr)
      exact ⟨rfl, N45⟩
set_option maxRecDepth 65536 in
set_option maxHeartbeats 40000000 in
theorem comes_1 {Post : Tables → Env → Array Value → State → Outcome → State → Prop} (hpost : ∀ tb e args s v u, (limb_1_1.after args s (.returned v) u = true ∧ limb_1_2.after args s (.returned v) u = true ∧ True) → ReturnedEndW s (.returned v) u (Jvm.fieldLocs frame_1_writes args s ++ Jvm.arrayLocs frame_1_arrays args s ++ Jvm.staticLocs frame_1_statics s) 40 2496 → Post tb e args s (.returned v) u) :
    ArmFor flags0 classFile x code maxLocals ret World_1 tables_1 room_1 Calls_1 rest_1 Pre_1 Post := by
  intro l hfl _ _ p e ha hc hk s m args below hf hA hF happ hP
  obtain ⟨hcalls, hrest, hpre⟩ := hP
  obtain ⟨-, -, -, hnamed, -, -, -, hat⟩ := (Spec.applies_iff hf).mp happ
  obtain ⟨hg, hn⟩ := and_e (Cond.before_iff.mp (show (Jvm.Cond.and given_1 narrow_1).before args s = true from hpre))
  obtain ⟨hcnt, ga0⟩ := and_e hg
  obtain ⟨gi0, ga1⟩ := and_e ga0
  obtain ⟨gi1, ga2⟩ := and_e ga1
  obtain ⟨gi2, ga3⟩ := and_e ga2
  obtain ⟨gi3, ga4⟩ := and_e ga3
  obtain ⟨gi4, ga5⟩ := and_e ga4
  have gi5 := ga5
  obtain ⟨w0, w1, w2, w3, w4, w5, rfl⟩ : ∃ w0 w1 w2 w3 w4 w5 : Value, args = #[w0, w1, w2, w3, w4, w5] := by
    have hs : args.size = 6 := by simpa [Cond.value, given_1] using hcnt
    obtain ⟨L⟩ := args
    match L, hs with
    | [w0, w1, w2, w3, w4, w5], _ => exact ⟨w0, w1, w2, w3, w4, w5, rfl⟩
  have hw := fun d (hd : d ∈ tables_1) => atoms_spec (ws := Jvm.Cond.code x code maxLocals ret :: tables_1) hat d (List.mem_cons_of_mem _ hd)
  obtain ⟨hsets, hown0⟩ := atoms_of _ (rest_1_c_eq ▸ (show rest_1_c.before _ s = true from hrest))
  have hfit : Fit s := fun {y c} hc i hi => by
    obtain ⟨ha, rfl⟩ := Array.getElem?_eq_some_iff.mp hc
    have q := List.all_eq_true.mp ((Array.all_eq_true_iff_forall_mem.mp hF) _ (Array.getElem_mem ha)) i (List.mem_range.mpr hi)
    simpa [Array.getElem?_eq_getElem hi] using q
  obtain ⟨i0, ei0⟩ := is_v gi0
  obtain rfl : w0 = (.int i0) := Option.some.inj ei0
  obtain ⟨i1, ei1⟩ := is_v gi1
  obtain rfl : w1 = (.int i1) := Option.some.inj ei1
  obtain ⟨i2, ei2⟩ := is_v gi2
  obtain rfl : w2 = (.int i2) := Option.some.inj ei2
  obtain ⟨i3, ei3⟩ := is_v gi3
  obtain rfl : w3 = (.int i3) := Option.some.inj ei3
  obtain ⟨i4, ei4⟩ := is_v gi4
  obtain rfl : w4 = (.int i4) := Option.some.inj ei4
  obtain ⟨i5, ei5⟩ := is_v gi5
  obtain rfl : w5 = (.int i5) := Option.some.inj ei5
  have n5 := not_v (Cond.before_iff.mp (hsets _ (List.mem_of_getElem? (i := 2) rfl)))
  obtain ⟨cz, ecz⟩ := is_v (Cond.before_iff.mp (hsets _ (List.mem_of_getElem? (i := 1) rfl)))
  have Scz : Sta s s.heap "java/lang/String" "COMPACT_STRINGS" "Z" (.int cz) := Sta.start ecz (Or.inl (hsets _ (List.mem_of_getElem? (i := 0) rfl)))
  have hcz : ¬ (cz = (0 : Int32)) := gotF (Cond.eq_ints ecz (Term.int_eval (0))) n5
  have hC : CHv s own_EL s.vm s.heap := CHv.start (own_EW hw) (fun p hp => hcalls.1 p hp) (hsets _ (List.mem_of_getElem? (i := 2) rfl)) (ow hw 29 rfl) (ow hw 8 rfl)
  obtain ⟨n, o, h1, h2, h3, _, L, rfl, ⟨rfl, N⟩, -, hq⟩ := rm_law l s _ hw tables_1 i0 i1 i2 i3 i4 i5 cz s.heap s.heap.size (Nat.le_refl _) (Old.start s) Scz hcz p e ha hc hk s m _ below hf ((Spec.applies_iff_loose hf).mp happ).1 ⟨rfl, State.Warmed39.refl s, rfl, hC⟩ trivial
  refine ⟨n, _, h1, h2, h3, hpost _ _ _ _ _ _ ⟨Cond.after_iff.mpr rfl, Cond.after_iff.mpr (eq_i res_at (Term.int_eval (1)) rfl), trivial⟩ ⟨hq.1, hq.2.1, hq.2.2.1, (hq.2.2.2.sift fun y hy => Or.inr (N y hy)).mono (by decide) (by decide)⟩⟩
theorem main_1_1 : Claimed_1_1 := comes_1 fun _ _ _ _ _ _ h hF => ⟨h.1, hF⟩
theorem main_1_2 : Claimed_1_2 := comes_1 fun _ _ _ _ _ _ h hF => ⟨h.2.1, hF⟩
end Jvm.Pilot.@@N@@
namespace Jvm.Pilot.@@N@@
open Jvm Jvm.ClassFile Sem Op Lib Jvm.Free Jvm.Stand Jvm.Pilot.@@N@@.Jvm.D
/-! MADE BY PROGRAM (witnessworld.py) out of the Statement's table words and the real class files: 27 classes; the members and pool entries that the words name. The judged class is class 1, her method 1. -/
namespace start1
open Jvm.ClassFile
def u (s : String) : CpInfo := .utf8 (stringToUtf16 s)
/-- a pool by its gaps: so many unusable entries, then the entry; so many at the end -/
def gap : Nat → List CpInfo → List CpInfo
  | 0, r => r
  | n + 1, r => .unusable :: gap n r
def poolList (es : List (Nat × CpInfo)) (last : Nat) : List CpInfo := es.foldr (fun e r => gap e.1 (e.2 :: r)) (gap last [])
def pool (es : List (Nat × CpInfo)) (last : Nat) : Array CpInfo := ⟨poolList es last⟩
def fileOf (pool : Array CpInfo) (this : Nat) (attrs : Array Attribute := #[]) (ms : Array MethodInfo := #[]) (fl : Nat := 33) (sup : Nat := 0) (ifs : Array Nat := #[]) (fds : Array FieldInfo := #[]) : ClassFile where
  minorVersion := 0
  majorVersion := 65
  constantPool := pool
  accessFlags := fl
  thisClass := this
  superClass := sup
  interfaces := ifs
  fields := fds
  methods := ms
  attributes := attrs
def plain (name : String) (sup : Option ClassId) : Class where
  name := name
  kind := .ordinary
  loader := none
  accessFlags := 33
  super := sup
  interfaces := #[]
  cf := none
  fields := #[]
  methods := #[]
  instanceTypes := #[]
  staticTypes := #[]
  resolved := #[]
  callSites := []
  init := .initialized
  statics := none
  mirror := none

def pool0 : Array CpInfo := pool [(5, u "<init>"), (0, u "()V"), (1, .class_ 10), (1, u "java/lang/Object")] 113

def k0c0 : Code := { maxStack := 0, maxLocals := 1, code := object_method_1_code, exceptionTable := #[], attributes := #[] }
def k0m0 : Method := { name := "<init>", desc := "()V", sig := { parameters := [], returnType := none }, accessFlags := 1, code := some k0c0 }
/-- java/lang/Object -/
def k0 : Class := { plain "java/lang/Object" none with
  accessFlags := 33
  interfaces := #[]
  cf := some (fileOf pool0 8 #[] #[{ accessFlags := 1, nameIndex := 5, descriptorIndex := 6, attributes := #[] }] 33 0 #[] #[])
  fields := #[]
  methods := #[k0m0]
  instanceTypes := #[]
  staticTypes := #[]
  resolved := Array.replicate 124 none
  statics := none }

def pool1 : Array CpInfo := pool [(2, .class_ 4), (1, u "java/lang/Object"), (0, u "<init>"), (0, u "()V"), (0, .methodref 8 9), (0, .class_ 10), (0, .nameAndType 11 12), (0, u "com/example/strict_resources/strictresources/core/MediaTypeIsJsonApiPinLaw"), (0, u "make"), (0, u "(ZIII)Ljava/lang/String;"), (0, .methodref 8 14), (0, .nameAndType 15 16), (0, u "matches"), (0, u "(ZIII)Z"), (0, .class_ 18), (0, u "com/example/strict_resources/strictresources/core/MediaType"), (0, .methodref 17 20), (0, .nameAndType 5 21), (0, u "(Ljava/lang/String;Ljava/lang/String;Ljava/util/Map;)V"), (0, .methodref 17 23), (0, .nameAndType 24 25), (0, u "isJsonApi"), (0, u "()Z"), (0, .methodref 8 27), (0, .nameAndType 28 29), (0, u "draw"), (0, u "(I)C"), (0, .class_ 31), (0, u "java/lang/String"), (0, .methodref 8 33), (0, .nameAndType 34 35), (0, u "full"), (0, u "(Z)[C"), (0, .methodref 30 37), (0, .nameAndType 5 38), (0, u "([C)V"), (0, .integer 2147483647), (0, .methodref 8 41), (0, .nameAndType 42 35), (0, u "longer"), (0, .methodref 8 44), (0, .nameAndType 45 35), (0, u "shorter"), (2, u "law"), (0, u "(IIIIII)Z")] 5

def k1m0 : Method := { name := "<init>", desc := "()V", sig := { parameters := [], returnType := none }, accessFlags := 2, code := none }
def k1c1 : Code := { maxStack := 5, maxLocals := 10, code := code, exceptionTable := #[], attributes := #[] }
def k1m1 : Method := { name := "law", desc := "(IIIIII)Z", sig := { parameters := [.int, .int, .int, .int, .int, .int], returnType := some .boolean }, accessFlags := 9, code := some k1c1 }
def k1c2 : Code := { maxStack := 2, maxLocals := 2, code := method_3_code, exceptionTable := #[], attributes := #[] }
def k1m2 : Method := { name := "draw", desc := "(I)C", sig := { parameters := [.int], returnType := some .char }, accessFlags := 10, code := some k1c2 }
def k1c3 : Code := { maxStack := 4, maxLocals := 1, code := method_4_code, exceptionTable := #[], attributes := #[] }
def k1m3 : Method := { name := "full", desc := "(Z)[C", sig := { parameters := [.boolean], returnType := some (.array .char) }, accessFlags := 10, code := some k1c3 }
def k1c4 : Code := { maxStack := 4, maxLocals := 1, code := method_5_code, exceptionTable := #[], attributes := #[] }
def k1m4 : Method := { name := "longer", desc := "(Z)[C", sig := { parameters := [.boolean], returnType := some (.array .char) }, accessFlags := 10, code := some k1c4 }
def k1c5 : Code := { maxStack := 4, maxLocals := 1, code := method_6_code, exceptionTable := #[], attributes := #[] }
def k1m5 : Method := { name := "shorter", desc := "(Z)[C", sig := { parameters := [.boolean], returnType := some (.array .char) }, accessFlags := 10, code := some k1c5 }
def k1c6 : Code := { maxStack := 3, maxLocals := 7, code := method_7_code, exceptionTable := #[], attributes := #[] }
def k1m6 : Method := { name := "make", desc := "(ZIII)Ljava/lang/String;", sig := { parameters := [.boolean, .int, .int, .int], returnType := some (.object "java/lang/String") }, accessFlags := 10, code := some k1c6 }
def k1c7 : Code := { maxStack := 3, maxLocals := 6, code := method_8_code, exceptionTable := #[], attributes := #[] }
def k1m7 : Method := { name := "matches", desc := "(ZIII)Z", sig := { parameters := [.boolean, .int, .int, .int], returnType := some .boolean }, accessFlags := 10, code := some k1c7 }
/-- com/example/strict_resources/strictresources/core/MediaTypeIsJsonApiPinLaw -/
def k1 : Class := { plain "com/example/strict_resources/strictresources/core/MediaTypeIsJsonApiPinLaw" (some 0) with
  accessFlags := 49
  interfaces := #[]
  cf := some (fileOf pool1 8 #[] #[{ accessFlags := 2, nameIndex := 5, descriptorIndex := 6, attributes := #[] }, { accessFlags := 9, nameIndex := 48, descriptorIndex := 49, attributes := #[] }, { accessFlags := 10, nameIndex := 28, descriptorIndex := 29, attributes := #[] }, { accessFlags := 10, nameIndex := 34, descriptorIndex := 35, attributes := #[] }, { accessFlags := 10, nameIndex := 42, descriptorIndex := 35, attributes := #[] }, { accessFlags := 10, nameIndex := 45, descriptorIndex := 35, attributes := #[] }, { accessFlags := 10, nameIndex := 11, descriptorIndex := 12, attributes := #[] }, { accessFlags := 10, nameIndex := 15, descriptorIndex := 16, attributes := #[] }] 49 2 #[] #[])
  fields := #[]
  methods := #[k1m0, k1m1, k1m2, k1m3, k1m4, k1m5, k1m6, k1m7]
  instanceTypes := #[]
  staticTypes := #[]
  resolved := Array.replicate 55 none
  statics := none }

def pool2 : Array CpInfo := pool [(1, .class_ 2), (0, u "java/io/Serializable"), (0, .class_ 4), (0, u "java/lang/Object")] 2

/-- java/io/Serializable -/
def k2 : Class := { plain "java/io/Serializable" (some 0) with
  accessFlags := 1537
  interfaces := #[]
  cf := some (fileOf pool2 1 #[] #[] 1537 3 #[] #[])
  fields := #[]
  methods := #[]
  instanceTypes := #[]
  staticTypes := #[]
  resolved := Array.replicate 7 none
  statics := none }

def pool3 : Array CpInfo := pool [(1, .class_ 2), (0, u "java/lang/Comparable"), (0, .class_ 4), (0, u "java/lang/Object")] 7

/-- java/lang/Comparable -/
def k3 : Class := { plain "java/lang/Comparable" (some 0) with
  accessFlags := 1537
  interfaces := #[]
  cf := some (fileOf pool3 1 #[] #[] 1537 3 #[] #[])
  fields := #[]
  methods := #[]
  instanceTypes := #[]
  staticTypes := #[]
  resolved := Array.replicate 12 none
  statics := none }

def pool4 : Array CpInfo := pool [(2, .class_ 4), (1, u "java/lang/CharSequence"), (42, .class_ 48), (0, u "java/lang/CharSequence$1CodePointIterator"), (10, .class_ 60), (0, u "java/lang/CharSequence$1CharIterator"), (5, .class_ 67), (0, u "java/lang/Object")] 63

/-- java/lang/CharSequence -/
def k4 : Class := { plain "java/lang/CharSequence" (some 0) with
  accessFlags := 1537
  interfaces := #[]
  cf := some (fileOf pool4 2 #[.nestMembers #[47, 59]] #[] 1537 66 #[] #[])
  fields := #[]
  methods := #[]
  instanceTypes := #[]
  staticTypes := #[]
  resolved := Array.replicate 131 none
  statics := none }

def pool5 : Array CpInfo := pool [(1, .class_ 2), (0, u "java/lang/constant/Constable"), (0, .class_ 4), (0, u "java/lang/Object")] 6

/-- java/lang/constant/Constable -/
def k5 : Class := { plain "java/lang/constant/Constable" (some 0) with
  accessFlags := 1537
  interfaces := #[]
  cf := some (fileOf pool5 1 #[] #[] 1537 3 #[] #[])
  fields := #[]
  methods := #[]
  instanceTypes := #[]
  staticTypes := #[]
  resolved := Array.replicate 11 none
  statics := none }

def pool6 : Array CpInfo := pool [(1, .class_ 2), (0, u "java/lang/constant/ConstantDesc"), (0, .class_ 4), (0, u "java/lang/Object")] 32

/-- java/lang/constant/ConstantDesc -/
def k6 : Class := { plain "java/lang/constant/ConstantDesc" (some 0) with
  accessFlags := 1537
  interfaces := #[]
  cf := some (fileOf pool6 1 #[] #[] 1537 3 #[] #[])
  fields := #[]
  methods := #[]
  instanceTypes := #[]
  staticTypes := #[]
  resolved := Array.replicate 37 none
  statics := none }

def pool7 : Array CpInfo := pool [(1, .methodref 2 3), (0, .class_ 4), (0, .nameAndType 5 6), (0, u "java/lang/Object"), (0, u "<init>"), (0, u "()V"), (2, .fieldref 10 11), (0, .class_ 12), (0, .nameAndType 13 14), (0, u "java/lang/String"), (0, u "value"), (0, u "[B"), (0, .fieldref 10 16), (0, .nameAndType 17 18), (0, u "coder"), (0, u "B"), (2, u "hash"), (0, u "I"), (2, u "hashIsZero"), (0, u "Z"), (0, .methodref 10 28), (0, .nameAndType 5 29), (0, u "([CIILjava/lang/Void;)V"), (8, .fieldref 10 39), (0, .nameAndType 40 26), (0, u "COMPACT_STRINGS"), (1, .class_ 44), (1, u "java/lang/StringUTF16"), (0, u "compress"), (1, .methodref 42 48), (0, .nameAndType 49 50), (0, u "coderFromArrayLen"), (0, u "([BI)B"), (3, .methodref 55 56), (0, .class_ 57), (0, .nameAndType 58 59), (0, u "java/util/Arrays"), (0, u "copyOfRange"), (0, u "([BII)[B"), (47, .class_ 109), (1, u "java/lang/StringLatin1"), (32, u "()Z"), (34, .methodref 42 178), (0, .nameAndType 45 179), (0, u "([CII)[B"), (13, .class_ 195), (1, u "java/lang/System"), (16, .methodref 193 213), (0, .nameAndType 214 215), (0, u "arraycopy"), (0, u "(Ljava/lang/Object;ILjava/lang/Object;II)V"), (118, u "()I"), (0, .methodref 10 336), (0, .nameAndType 17 337), (0, u "()B"), (2, u "()[B"), (148, .methodref 10 490), (0, .nameAndType 5 491), (0, u "(Ljava/lang/AbstractStringBuilder;Ljava/lang/Void;)V"), (1, .nameAndType 494 142), (0, u "isLatin1"), (11, .nameAndType 507 334), (0, u "length"), (24, u "getBytes"), (8, .methodref 107 542), (0, .nameAndType 543 544), (0, u "equals"), (0, u "([B[B)Z"), (4, .methodref 550 506), (0, .class_ 551), (0, u "java/lang/AbstractStringBuilder"), (0, .methodref 550 553), (0, .nameAndType 554 340), (0, u "getValue"), (18, u "(Ljava/lang/Object;)Z"), (1, .class_ 576), (0, u "java/lang/CharSequence"), (22, u "CASE_INSENSITIVE_ORDER"), (0, u "Ljava/util/Comparator;"), (220, u "([BIB)V"), (188, u "([C)V"), (36, .methodref 550 493), (53, u "serialPersistentFields"), (0, u "[Ljava/io/ObjectStreamField;"), (0, .class_ 1104), (0, u "java/lang/String$CaseInsensitiveComparator"), (1, .class_ 1107), (0, u "java/io/Serializable"), (0, .class_ 1109), (0, u "java/lang/Comparable"), (0, .class_ 1111), (0, u "java/lang/constant/Constable"), (0, .class_ 1113), (0, u "java/lang/constant/ConstantDesc"), (2, u "serialVersionUID"), (0, u "J"), (3, u "REPL"), (0, u "C"), (2, u "LATIN1"), (1, u "UTF16"), (105, u "(Ljava/lang/StringBuilder;)V")] 217

def k7m0 : Method := { name := "<init>", desc := "()V", sig := { parameters := [], returnType := none }, accessFlags := 1, code := none }
def k7c1 : Code := { maxStack := 5, maxLocals := 2, code := jdk_42_method_3_code, exceptionTable := #[], attributes := #[] }
def k7m1 : Method := { name := "<init>", desc := "([C)V", sig := { parameters := [(.array .char)], returnType := none }, accessFlags := 1, code := some k7c1 }
def k7c2 : Code := { maxStack := 3, maxLocals := 2, code := jdk_42_method_53_code, exceptionTable := #[], attributes := #[] }
def k7m2 : Method := { name := "<init>", desc := "(Ljava/lang/StringBuilder;)V", sig := { parameters := [(.object "java/lang/StringBuilder")], returnType := none }, accessFlags := 1, code := some k7c2 }
def k7c3 : Code := { maxStack := 2, maxLocals := 1, code := jdk_42_method_54_code, exceptionTable := #[], attributes := #[] }
def k7m3 : Method := { name := "length", desc := "()I", sig := { parameters := [], returnType := some .int }, accessFlags := 1, code := some k7c3 }
def k7c4 : Code := { maxStack := 2, maxLocals := 3, code := jdk_42_method_66_code, exceptionTable := #[], attributes := #[] }
def k7m4 : Method := { name := "equals", desc := "(Ljava/lang/Object;)Z", sig := { parameters := [(.object "java/lang/Object")], returnType := some .boolean }, accessFlags := 1, code := some k7c4 }
def k7c5 : Code := { maxStack := 5, maxLocals := 4, code := jdk_42_method_147_code, exceptionTable := #[], attributes := #[] }
def k7m5 : Method := { name := "getBytes", desc := "([BIB)V", sig := { parameters := [(.array .byte), .int, .byte], returnType := none }, accessFlags := 0, code := some k7c5 }
def k7c6 : Code := { maxStack := 4, maxLocals := 6, code := jdk_42_method_149_code, exceptionTable := #[], attributes := #[] }
def k7m6 : Method := { name := "<init>", desc := "([CIILjava/lang/Void;)V", sig := { parameters := [(.array .char), .int, .int, (.object "java/lang/Void")], returnType := none }, accessFlags := 2, code := some k7c6 }
def k7c7 : Code := { maxStack := 5, maxLocals := 5, code := jdk_42_method_150_code, exceptionTable := #[], attributes := #[] }
def k7m7 : Method := { name := "<init>", desc := "(Ljava/lang/AbstractStringBuilder;Ljava/lang/Void;)V", sig := { parameters := [(.object "java/lang/AbstractStringBuilder"), (.object "java/lang/Void")], returnType := none }, accessFlags := 0, code := some k7c7 }
def k7c8 : Code := { maxStack := 1, maxLocals := 1, code := jdk_42_method_152_code, exceptionTable := #[], attributes := #[] }
def k7m8 : Method := { name := "coder", desc := "()B", sig := { parameters := [], returnType := some .byte }, accessFlags := 0, code := some k7c8 }
/-- java/lang/String -/
def k7 : Class := { plain "java/lang/String" (some 0) with
  accessFlags := 49
  interfaces := #[2, 3, 4, 5, 6]
  cf := some (fileOf pool7 10 #[.nestMembers #[1103]] #[{ accessFlags := 1, nameIndex := 5, descriptorIndex := 6, attributes := #[] }, { accessFlags := 1, nameIndex := 5, descriptorIndex := 1010, attributes := #[] }, { accessFlags := 1, nameIndex := 5, descriptorIndex := 1233, attributes := #[] }, { accessFlags := 1, nameIndex := 507, descriptorIndex := 334, attributes := #[] }, { accessFlags := 1, nameIndex := 543, descriptorIndex := 573, attributes := #[] }, { accessFlags := 0, nameIndex := 532, descriptorIndex := 821, attributes := #[] }, { accessFlags := 2, nameIndex := 5, descriptorIndex := 29, attributes := #[] }, { accessFlags := 0, nameIndex := 5, descriptorIndex := 491, attributes := #[] }, { accessFlags := 0, nameIndex := 17, descriptorIndex := 337, attributes := #[] }] 49 2 #[1106, 1108, 575, 1110, 1112] #[{ accessFlags := 18, nameIndex := 13, descriptorIndex := 14, attributes := #[] }, { accessFlags := 18, nameIndex := 17, descriptorIndex := 18, attributes := #[] }, { accessFlags := 2, nameIndex := 21, descriptorIndex := 22, attributes := #[] }, { accessFlags := 2, nameIndex := 25, descriptorIndex := 26, attributes := #[] }, { accessFlags := 26, nameIndex := 1116, descriptorIndex := 1117, attributes := #[] }, { accessFlags := 24, nameIndex := 40, descriptorIndex := 26, attributes := #[] }, { accessFlags := 26, nameIndex := 1101, descriptorIndex := 1102, attributes := #[] }, { accessFlags := 26, nameIndex := 1121, descriptorIndex := 1122, attributes := #[] }, { accessFlags := 25, nameIndex := 599, descriptorIndex := 600, attributes := #[] }, { accessFlags := 24, nameIndex := 1125, descriptorIndex := 18, attributes := #[] }, { accessFlags := 24, nameIndex := 1127, descriptorIndex := 18, attributes := #[] }])
  fields := #[{ name := "value", type := (.array .byte), accessFlags := 18, slot := 0, constantValue := 0 }, { name := "coder", type := .byte, accessFlags := 18, slot := 1, constantValue := 0 }, { name := "hash", type := .int, accessFlags := 2, slot := 2, constantValue := 0 }, { name := "hashIsZero", type := .boolean, accessFlags := 2, slot := 3, constantValue := 0 }, { name := "serialVersionUID", type := .long, accessFlags := 26, slot := 0, constantValue := 0 }, { name := "COMPACT_STRINGS", type := .boolean, accessFlags := 24, slot := 1, constantValue := 0 }, { name := "serialPersistentFields", type := (.array (.object "java/io/ObjectStreamField")), accessFlags := 26, slot := 2, constantValue := 0 }, { name := "REPL", type := .char, accessFlags := 26, slot := 3, constantValue := 0 }, { name := "CASE_INSENSITIVE_ORDER", type := (.object "java/util/Comparator"), accessFlags := 25, slot := 4, constantValue := 0 }, { name := "LATIN1", type := .byte, accessFlags := 24, slot := 5, constantValue := 0 }, { name := "UTF16", type := .byte, accessFlags := 24, slot := 6, constantValue := 0 }]
  methods := #[k7m0, k7m1, k7m2, k7m3, k7m4, k7m5, k7m6, k7m7, k7m8]
  instanceTypes := #[(.array .byte), .byte, .int, .boolean]
  staticTypes := #[.long, .boolean, (.array (.object "java/io/ObjectStreamField")), .char, (.object "java/util/Comparator"), .byte, .byte]
  resolved := Array.replicate 1451 none
  statics := some 0 }

def pool8 : Array CpInfo := pool [(6, .class_ 8), (1, u "java/lang/Object"), (0, u "<init>"), (0, u "()V"), (1, .class_ 14), (1, u "java/lang/StringUTF16"), (31, u "$assertionsDisabled"), (0, u "Z"), (13, u "HI_BYTE_SHIFT"), (0, u "I"), (2, u "LO_BYTE_SHIFT"), (49, .methodref 12 116), (0, .nameAndType 117 118), (0, u "compress"), (0, u "([CI[BII)I"), (3, u "([CII)[B"), (138, u "coderFromArrayLen"), (0, u "([BI)B"), (106, .class_ 371), (1, u "java/lang/StringUTF16$LinesSpliterator"), (58, u "MAX_LENGTH"), (196, .class_ 628), (0, u "java/lang/StringUTF16$CodePointsSpliterator"), (0, .class_ 630), (0, u "java/lang/StringUTF16$CharsSpliterator")] 4

def k8m0 : Method := { name := "<init>", desc := "()V", sig := { parameters := [], returnType := none }, accessFlags := 0, code := none }
def k8c1 : Code := { maxStack := 2, maxLocals := 2, code := jdk_52_method_15_code, exceptionTable := #[], attributes := #[] }
def k8m1 : Method := { name := "coderFromArrayLen", desc := "([BI)B", sig := { parameters := [(.array .byte), .int], returnType := some .byte }, accessFlags := 8, code := some k8c1 }
def k8c2 : Code := { maxStack := 5, maxLocals := 6, code := jdk_52_method_16_code, exceptionTable := #[], attributes := #[] }
def k8m2 : Method := { name := "compress", desc := "([CII)[B", sig := { parameters := [(.array .char), .int, .int], returnType := some (.array .byte) }, accessFlags := 9, code := some k8c2 }
def k8c3 : Code := { maxStack := 3, maxLocals := 7, code := jdk_52_method_21_code, exceptionTable := #[], attributes := #[] }
def k8m3 : Method := { name := "compress", desc := "([CI[BII)I", sig := { parameters := [(.array .char), .int, (.array .byte), .int, .int], returnType := some .int }, accessFlags := 9, code := some k8c3 }
/-- java/lang/StringUTF16 -/
def k8 : Class := { plain "java/lang/StringUTF16" (some 0) with
  accessFlags := 48
  interfaces := #[]
  cf := some (fileOf pool8 12 #[.nestMembers #[627, 629, 369]] #[{ accessFlags := 0, nameIndex := 9, descriptorIndex := 10, attributes := #[] }, { accessFlags := 8, nameIndex := 261, descriptorIndex := 262, attributes := #[] }, { accessFlags := 9, nameIndex := 117, descriptorIndex := 122, attributes := #[] }, { accessFlags := 9, nameIndex := 117, descriptorIndex := 118, attributes := #[] }] 48 6 #[] #[{ accessFlags := 26, nameIndex := 61, descriptorIndex := 62, attributes := #[] }, { accessFlags := 26, nameIndex := 65, descriptorIndex := 62, attributes := #[] }, { accessFlags := 24, nameIndex := 430, descriptorIndex := 62, attributes := #[] }, { accessFlags := 4120, nameIndex := 46, descriptorIndex := 47, attributes := #[] }])
  fields := #[{ name := "HI_BYTE_SHIFT", type := .int, accessFlags := 26, slot := 0, constantValue := 0 }, { name := "LO_BYTE_SHIFT", type := .int, accessFlags := 26, slot := 1, constantValue := 0 }, { name := "MAX_LENGTH", type := .int, accessFlags := 24, slot := 2, constantValue := 0 }, { name := "$assertionsDisabled", type := .boolean, accessFlags := 4120, slot := 3, constantValue := 0 }]
  methods := #[k8m0, k8m1, k8m2, k8m3]
  instanceTypes := #[]
  staticTypes := #[.int, .int, .int, .boolean]
  resolved := Array.replicate 635 none
  statics := none }

def pool9 : Array CpInfo := pool [(1, .methodref 2 3), (0, .class_ 4), (0, .nameAndType 5 6), (0, u "java/lang/Object"), (0, u "<init>"), (0, u "()V"), (0, .class_ 8), (0, u "java/lang/Record")] 13

def k9c0 : Code := { maxStack := 1, maxLocals := 1, code := jdk_30_method_1_code, exceptionTable := #[], attributes := #[] }
def k9m0 : Method := { name := "<init>", desc := "()V", sig := { parameters := [], returnType := none }, accessFlags := 4, code := some k9c0 }
/-- java/lang/Record -/
def k9 : Class := { plain "java/lang/Record" (some 0) with
  accessFlags := 1057
  interfaces := #[]
  cf := some (fileOf pool9 7 #[] #[{ accessFlags := 4, nameIndex := 5, descriptorIndex := 6, attributes := #[] }] 1057 2 #[] #[])
  fields := #[]
  methods := #[k9m0]
  instanceTypes := #[]
  staticTypes := #[]
  resolved := Array.replicate 22 none
  statics := none }

def pool10 : Array CpInfo := pool [(1, .methodref 2 3), (0, .class_ 4), (0, .nameAndType 5 6), (0, u "java/lang/Record"), (0, u "<init>"), (0, u "()V"), (0, .fieldref 8 9), (0, .class_ 10), (0, .nameAndType 11 12), (0, u "com/example/strict_resources/strictresources/core/MediaType"), (0, u "type"), (0, u "Ljava/lang/String;"), (0, .fieldref 8 14), (0, .nameAndType 15 12), (0, u "subtype"), (0, .fieldref 8 17), (0, .nameAndType 18 19), (0, u "parameters"), (0, u "Ljava/util/Map;"), (0, .class_ 21), (0, u "com/example/strict_resources/strictresources/core/MediaType$Reader"), (19, u "()Z"), (5, .class_ 49), (1, u "com/example/strict_resources/strictresources/core/MediaType$Range"), (7, u "(Ljava/lang/Object;)Z"), (4, .class_ 63), (0, u "java/lang/StringBuilder"), (0, .methodref 62 3), (0, .methodref 62 66), (0, .nameAndType 67 68), (0, u "append"), (0, u "(Ljava/lang/String;)Ljava/lang/StringBuilder;"), (0, .string 70), (0, u "/"), (0, .methodref 62 72), (0, .nameAndType 73 74), (0, u "toString"), (0, u "()Ljava/lang/String;"), (2, .string 78), (0, u "application/vnd.api+json"), (0, .methodref 80 81), (0, .class_ 82), (0, .nameAndType 83 57), (0, u "java/lang/String"), (0, u "equals"), (20, u "QVALUE"), (0, u "Ljava/util/regex/Pattern;"), (2, u "(Ljava/lang/String;Ljava/lang/String;Ljava/util/Map;)V"), (10, u "isJsonApi")] 29

def k10c0 : Code := { maxStack := 2, maxLocals := 4, code := prog_17_method_1_code, exceptionTable := #[], attributes := #[] }
def k10m0 : Method := { name := "<init>", desc := "(Ljava/lang/String;Ljava/lang/String;Ljava/util/Map;)V", sig := { parameters := [(.object "java/lang/String"), (.object "java/lang/String"), (.object "java/util/Map")], returnType := none }, accessFlags := 0, code := some k10c0 }
def k10c1 : Code := { maxStack := 2, maxLocals := 1, code := prog_17_method_4_code, exceptionTable := #[], attributes := #[] }
def k10m1 : Method := { name := "isJsonApi", desc := "()Z", sig := { parameters := [], returnType := some .boolean }, accessFlags := 0, code := some k10c1 }
/-- com/example/strict_resources/strictresources/core/MediaType -/
def k10 : Class := { plain "com/example/strict_resources/strictresources/core/MediaType" (some 9) with
  accessFlags := 48
  interfaces := #[]
  cf := some (fileOf pool10 8 #[.nestMembers #[20, 47]] #[{ accessFlags := 0, nameIndex := 5, descriptorIndex := 108, attributes := #[] }, { accessFlags := 0, nameIndex := 119, descriptorIndex := 41, attributes := #[] }] 48 2 #[] #[{ accessFlags := 18, nameIndex := 11, descriptorIndex := 12, attributes := #[] }, { accessFlags := 18, nameIndex := 15, descriptorIndex := 12, attributes := #[] }, { accessFlags := 18, nameIndex := 18, descriptorIndex := 19, attributes := #[] }, { accessFlags := 26, nameIndex := 104, descriptorIndex := 105, attributes := #[] }])
  fields := #[{ name := "type", type := (.object "java/lang/String"), accessFlags := 18, slot := 0, constantValue := 0 }, { name := "subtype", type := (.object "java/lang/String"), accessFlags := 18, slot := 1, constantValue := 0 }, { name := "parameters", type := (.object "java/util/Map"), accessFlags := 18, slot := 2, constantValue := 0 }, { name := "QVALUE", type := (.object "java/util/regex/Pattern"), accessFlags := 26, slot := 0, constantValue := 0 }]
  methods := #[k10m0, k10m1]
  instanceTypes := #[(.object "java/lang/String"), (.object "java/lang/String"), (.object "java/util/Map")]
  staticTypes := #[(.object "java/util/regex/Pattern")]
  resolved := Array.replicate 149 none
  statics := none }

def pool11 : Array CpInfo := pool [(1, .class_ 2), (0, u "java/lang/Appendable"), (0, .class_ 4), (0, u "java/lang/Object")] 9

/-- java/lang/Appendable -/
def k11 : Class := { plain "java/lang/Appendable" (some 0) with
  accessFlags := 1537
  interfaces := #[]
  cf := some (fileOf pool11 1 #[] #[] 1537 3 #[] #[])
  fields := #[]
  methods := #[]
  instanceTypes := #[]
  staticTypes := #[]
  resolved := Array.replicate 14 none
  statics := none }

def pool12 : Array CpInfo := pool [(1, .class_ 2), (0, u "java/lang/String"), (0, .methodref 4 5), (0, .class_ 6), (0, .nameAndType 7 8), (0, u "java/lang/Object"), (0, u "<init>"), (0, u "()V"), (1, .class_ 12), (1, u "java/lang/AbstractStringBuilder"), (0, u "EMPTYVALUE"), (0, u "[B"), (0, .fieldref 10 16), (0, .nameAndType 17 14), (0, u "value"), (0, .fieldref 1 19), (0, .nameAndType 20 21), (0, u "COMPACT_STRINGS"), (0, u "Z"), (0, .fieldref 10 23), (0, .nameAndType 24 25), (0, u "coder"), (0, u "B"), (6, .methodref 1 33), (0, .nameAndType 34 35), (0, u "length"), (0, u "()I"), (3, .integer 2147483647), (0, .methodref 1 41), (0, .nameAndType 24 42), (0, u "()B"), (2, u "append"), (0, u "(Ljava/lang/String;)Ljava/lang/AbstractStringBuilder;"), (1, .class_ 49), (0, u "java/lang/CharSequence"), (19, u "(Ljava/lang/String;)V"), (5, u "maybeLatin1"), (3, .fieldref 10 80), (0, .nameAndType 81 82), (0, u "count"), (0, u "I"), (2, u "isLatin1"), (0, u "()Z"), (13, .methodref 10 101), (0, .nameAndType 102 103), (0, u "ensureCapacityInternal"), (0, u "(I)V"), (0, .methodref 10 105), (0, .nameAndType 106 107), (0, u "newCapacity"), (0, u "(I)I"), (0, .methodref 109 110), (0, .class_ 111), (0, .nameAndType 112 113), (0, u "java/util/Arrays"), (0, u "copyOf"), (0, u "([BI)[B"), (0, .methodref 115 116), (0, .class_ 117), (0, .nameAndType 118 119), (0, u "jdk/internal/util/ArraysSupport"), (0, u "newLength"), (0, u "(III)I"), (88, .methodref 10 209), (0, .nameAndType 210 211), (0, u "putStringAt"), (0, u "(ILjava/lang/String;)V"), (5, u "inflateIfNeededFor"), (2, .nameAndType 221 222), (0, u "getBytes"), (0, u "([BIB)V"), (174, .methodref 10 398), (0, .nameAndType 217 69), (0, .methodref 1 220), (3, u "()[B"), (40, .class_ 445), (0, u "java/lang/Appendable"), (106, u "getValue")] 56

def k12m0 : Method := { name := "<init>", desc := "()V", sig := { parameters := [], returnType := none }, accessFlags := 0, code := none }
def k12c1 : Code := { maxStack := 2, maxLocals := 2, code := jdk_68_method_2_code, exceptionTable := #[], attributes := #[] }
def k12m1 : Method := { name := "<init>", desc := "(I)V", sig := { parameters := [.int], returnType := none }, accessFlags := 0, code := some k12c1 }
def k12c2 : Code := { maxStack := 1, maxLocals := 1, code := jdk_68_method_6_code, exceptionTable := #[], attributes := #[] }
def k12m2 : Method := { name := "length", desc := "()I", sig := { parameters := [], returnType := some .int }, accessFlags := 1, code := some k12c2 }
def k12c3 : Code := { maxStack := 4, maxLocals := 3, code := jdk_68_method_9_code, exceptionTable := #[], attributes := #[] }
def k12m3 : Method := { name := "ensureCapacityInternal", desc := "(I)V", sig := { parameters := [.int], returnType := none }, accessFlags := 2, code := some k12c3 }
def k12c4 : Code := { maxStack := 5, maxLocals := 6, code := jdk_68_method_10_code, exceptionTable := #[], attributes := #[] }
def k12m4 : Method := { name := "newCapacity", desc := "(I)I", sig := { parameters := [.int], returnType := some .int }, accessFlags := 2, code := some k12c4 }
def k12c5 : Code := { maxStack := 3, maxLocals := 3, code := jdk_68_method_22_code, exceptionTable := #[], attributes := #[] }
def k12m5 : Method := { name := "append", desc := "(Ljava/lang/String;)Ljava/lang/AbstractStringBuilder;", sig := { parameters := [(.object "java/lang/String")], returnType := some (.object "java/lang/AbstractStringBuilder") }, accessFlags := 1, code := some k12c5 }
def k12c6 : Code := { maxStack := 1, maxLocals := 1, code := jdk_68_method_64_code, exceptionTable := #[], attributes := #[] }
def k12m6 : Method := { name := "getValue", desc := "()[B", sig := { parameters := [], returnType := some (.array .byte) }, accessFlags := 16, code := some k12c6 }
def k12c7 : Code := { maxStack := 1, maxLocals := 1, code := jdk_68_method_68_code, exceptionTable := #[], attributes := #[] }
def k12m7 : Method := { name := "isLatin1", desc := "()Z", sig := { parameters := [], returnType := some .boolean }, accessFlags := 16, code := some k12c7 }
def k12c8 : Code := { maxStack := 2, maxLocals := 2, code := jdk_68_method_71_code, exceptionTable := #[], attributes := #[] }
def k12m8 : Method := { name := "inflateIfNeededFor", desc := "(Ljava/lang/String;)V", sig := { parameters := [(.object "java/lang/String")], returnType := none }, accessFlags := 2, code := some k12c8 }
def k12c9 : Code := { maxStack := 4, maxLocals := 3, code := jdk_68_method_73_code, exceptionTable := #[], attributes := #[] }
def k12m9 : Method := { name := "putStringAt", desc := "(ILjava/lang/String;)V", sig := { parameters := [.int, (.object "java/lang/String")], returnType := none }, accessFlags := 2, code := some k12c9 }
/-- java/lang/AbstractStringBuilder -/
def k12 : Class := { plain "java/lang/AbstractStringBuilder" (some 0) with
  accessFlags := 1056
  interfaces := #[11, 4]
  cf := some (fileOf pool12 10 #[] #[{ accessFlags := 0, nameIndex := 7, descriptorIndex := 8, attributes := #[] }, { accessFlags := 0, nameIndex := 7, descriptorIndex := 103, attributes := #[] }, { accessFlags := 1, nameIndex := 34, descriptorIndex := 35, attributes := #[] }, { accessFlags := 2, nameIndex := 102, descriptorIndex := 103, attributes := #[] }, { accessFlags := 2, nameIndex := 106, descriptorIndex := 107, attributes := #[] }, { accessFlags := 1, nameIndex := 45, descriptorIndex := 46, attributes := #[] }, { accessFlags := 16, nameIndex := 552, descriptorIndex := 403, attributes := #[] }, { accessFlags := 16, nameIndex := 85, descriptorIndex := 86, attributes := #[] }, { accessFlags := 2, nameIndex := 217, descriptorIndex := 69, attributes := #[] }, { accessFlags := 2, nameIndex := 210, descriptorIndex := 211, attributes := #[] }] 1056 4 #[444, 48] #[{ accessFlags := 0, nameIndex := 17, descriptorIndex := 14, attributes := #[] }, { accessFlags := 0, nameIndex := 24, descriptorIndex := 25, attributes := #[] }, { accessFlags := 0, nameIndex := 75, descriptorIndex := 21, attributes := #[] }, { accessFlags := 0, nameIndex := 81, descriptorIndex := 82, attributes := #[] }, { accessFlags := 26, nameIndex := 13, descriptorIndex := 14, attributes := #[] }])
  fields := #[{ name := "value", type := (.array .byte), accessFlags := 0, slot := 0, constantValue := 0 }, { name := "coder", type := .byte, accessFlags := 0, slot := 1, constantValue := 0 }, { name := "maybeLatin1", type := .boolean, accessFlags := 0, slot := 2, constantValue := 0 }, { name := "count", type := .int, accessFlags := 0, slot := 3, constantValue := 0 }, { name := "EMPTYVALUE", type := (.array .byte), accessFlags := 26, slot := 0, constantValue := 0 }]
  methods := #[k12m0, k12m1, k12m2, k12m3, k12m4, k12m5, k12m6, k12m7, k12m8, k12m9]
  instanceTypes := #[(.array .byte), .byte, .boolean, .int]
  staticTypes := #[(.array .byte)]
  resolved := Array.replicate 609 none
  statics := none }

def pool13 : Array CpInfo := pool [(1, .methodref 2 3), (0, .class_ 4), (0, .nameAndType 5 6), (0, u "java/lang/AbstractStringBuilder"), (0, u "<init>"), (0, u "(I)V"), (11, .class_ 20), (1, u "java/lang/String"), (3, .class_ 26), (1, u "java/lang/StringBuilder"), (0, u "append"), (0, u "(Ljava/lang/String;)Ljava/lang/StringBuilder;"), (0, .methodref 2 30), (0, .nameAndType 27 31), (0, u "(Ljava/lang/String;)Ljava/lang/AbstractStringBuilder;"), (105, .methodref 18 138), (0, .nameAndType 5 139), (0, u "(Ljava/lang/StringBuilder;)V"), (5, u "()V"), (10, u "()I"), (186, .methodref 2 344), (0, .nameAndType 345 156), (0, u "length"), (3, .class_ 350), (0, u "java/lang/Appendable"), (0, .class_ 352), (0, u "java/io/Serializable"), (0, .class_ 354), (0, u "java/lang/Comparable"), (0, .class_ 356), (0, u "java/lang/CharSequence"), (0, u "serialVersionUID"), (0, u "J"), (40, u "toString"), (0, u "()Ljava/lang/String;")] 21

def k13c0 : Code := { maxStack := 2, maxLocals := 1, code := jdk_67_method_1_code, exceptionTable := #[], attributes := #[] }
def k13m0 : Method := { name := "<init>", desc := "()V", sig := { parameters := [], returnType := none }, accessFlags := 1, code := some k13c0 }
def k13c1 : Code := { maxStack := 2, maxLocals := 2, code := jdk_67_method_7_code, exceptionTable := #[], attributes := #[] }
def k13m1 : Method := { name := "append", desc := "(Ljava/lang/String;)Ljava/lang/StringBuilder;", sig := { parameters := [(.object "java/lang/String")], returnType := some (.object "java/lang/StringBuilder") }, accessFlags := 1, code := some k13c1 }
def k13c2 : Code := { maxStack := 3, maxLocals := 1, code := jdk_67_method_42_code, exceptionTable := #[], attributes := #[] }
def k13m2 : Method := { name := "toString", desc := "()Ljava/lang/String;", sig := { parameters := [], returnType := some (.object "java/lang/String") }, accessFlags := 1, code := some k13c2 }
def k13c3 : Code := { maxStack := 1, maxLocals := 1, code := jdk_67_method_93_code, exceptionTable := #[], attributes := #[] }
def k13m3 : Method := { name := "length", desc := "()I", sig := { parameters := [], returnType := some .int }, accessFlags := 4161, code := some k13c3 }
/-- java/lang/StringBuilder -/
def k13 : Class := { plain "java/lang/StringBuilder" (some 12) with
  accessFlags := 49
  interfaces := #[11, 2, 3, 4]
  cf := some (fileOf pool13 24 #[] #[{ accessFlags := 1, nameIndex := 5, descriptorIndex := 145, attributes := #[] }, { accessFlags := 1, nameIndex := 27, descriptorIndex := 28, attributes := #[] }, { accessFlags := 1, nameIndex := 399, descriptorIndex := 400, attributes := #[] }, { accessFlags := 4161, nameIndex := 345, descriptorIndex := 156, attributes := #[] }] 49 2 #[349, 351, 353, 355] #[{ accessFlags := 24, nameIndex := 357, descriptorIndex := 358, attributes := #[] }])
  fields := #[{ name := "serialVersionUID", type := .long, accessFlags := 24, slot := 0, constantValue := 0 }]
  methods := #[k13m0, k13m1, k13m2, k13m3]
  instanceTypes := #[(.array .byte), .byte, .boolean, .int]
  staticTypes := #[.long]
  resolved := Array.replicate 422 none
  statics := none }

def pool14 : Array CpInfo := pool [(2, .class_ 4), (1, u "java/lang/Object"), (0, u "<init>"), (0, u "()V"), (1, .class_ 10), (1, u "java/lang/System"), (0, u "allowSecurityManager"), (0, u "I"), (16, u "cons"), (0, u "Ljava/io/Console;"), (77, .class_ 110), (1, u "java/lang/System$CallersHolder"), (43, u "initialErrStream"), (0, u "Ljava/io/PrintStream;"), (19, u "security"), (0, u "Ljava/lang/SecurityManager;"), (31, .class_ 209), (0, u "java/lang/System$1"), (7, u "props"), (0, u "Ljava/util/Properties;"), (2, u "lineSeparator"), (0, u "Ljava/lang/String;"), (96, .class_ 321), (1, u "java/lang/System$LoggerFinder"), (5, .class_ 328), (0, u "java/lang/System$Logger"), (67, u "err"), (2, u "out"), (91, u "notSupportedJnuEncoding"), (15, u "in"), (17, u "initialIn"), (0, u "Ljava/io/InputStream;"), (35, u "bootLayer"), (0, u "Ljava/lang/ModuleLayer;"), (99, .class_ 664), (0, u "java/lang/System$2"), (9, u "NEVER"), (2, u "MAYBE"), (49, u "arraycopy"), (0, u "(Ljava/lang/Object;ILjava/lang/Object;II)V"), (72, .class_ 802), (0, u "java/lang/System$Logger$Level")] 31

def k14m0 : Method := { name := "<init>", desc := "()V", sig := { parameters := [], returnType := none }, accessFlags := 2, code := none }
def k14m1 : Method := { name := "arraycopy", desc := "(Ljava/lang/Object;ILjava/lang/Object;II)V", sig := { parameters := [(.object "java/lang/Object"), .int, (.object "java/lang/Object"), .int, .int], returnType := none }, accessFlags := 265, code := none }
/-- java/lang/System -/
def k14 : Class := { plain "java/lang/System" (some 0) with
  accessFlags := 49
  interfaces := #[]
  cf := some (fileOf pool14 8 #[.nestMembers #[319, 327, 801, 108, 663, 208]] #[{ accessFlags := 2, nameIndex := 5, descriptorIndex := 6, attributes := #[] }, { accessFlags := 265, nameIndex := 727, descriptorIndex := 728, attributes := #[] }] 49 2 #[] #[{ accessFlags := 25, nameIndex := 507, descriptorIndex := 526, attributes := #[] }, { accessFlags := 25, nameIndex := 399, descriptorIndex := 155, attributes := #[] }, { accessFlags := 25, nameIndex := 396, descriptorIndex := 155, attributes := #[] }, { accessFlags := 10, nameIndex := 525, descriptorIndex := 526, attributes := #[] }, { accessFlags := 26, nameIndex := 674, descriptorIndex := 12, attributes := #[] }, { accessFlags := 26, nameIndex := 677, descriptorIndex := 12, attributes := #[] }, { accessFlags := 10, nameIndex := 11, descriptorIndex := 12, attributes := #[] }, { accessFlags := 74, nameIndex := 175, descriptorIndex := 176, attributes := #[] }, { accessFlags := 10, nameIndex := 491, descriptorIndex := 222, attributes := #[] }, { accessFlags := 74, nameIndex := 29, descriptorIndex := 30, attributes := #[] }, { accessFlags := 74, nameIndex := 154, descriptorIndex := 155, attributes := #[] }, { accessFlags := 10, nameIndex := 217, descriptorIndex := 218, attributes := #[] }, { accessFlags := 10, nameIndex := 221, descriptorIndex := 222, attributes := #[] }, { accessFlags := 8, nameIndex := 562, descriptorIndex := 563, attributes := #[] }])
  fields := #[{ name := "in", type := (.object "java/io/InputStream"), accessFlags := 25, slot := 0, constantValue := 0 }, { name := "out", type := (.object "java/io/PrintStream"), accessFlags := 25, slot := 1, constantValue := 0 }, { name := "err", type := (.object "java/io/PrintStream"), accessFlags := 25, slot := 2, constantValue := 0 }, { name := "initialIn", type := (.object "java/io/InputStream"), accessFlags := 10, slot := 3, constantValue := 0 }, { name := "NEVER", type := .int, accessFlags := 26, slot := 4, constantValue := 0 }, { name := "MAYBE", type := .int, accessFlags := 26, slot := 5, constantValue := 0 }, { name := "allowSecurityManager", type := .int, accessFlags := 10, slot := 6, constantValue := 0 }, { name := "security", type := (.object "java/lang/SecurityManager"), accessFlags := 74, slot := 7, constantValue := 0 }, { name := "notSupportedJnuEncoding", type := (.object "java/lang/String"), accessFlags := 10, slot := 8, constantValue := 0 }, { name := "cons", type := (.object "java/io/Console"), accessFlags := 74, slot := 9, constantValue := 0 }, { name := "initialErrStream", type := (.object "java/io/PrintStream"), accessFlags := 74, slot := 10, constantValue := 0 }, { name := "props", type := (.object "java/util/Properties"), accessFlags := 10, slot := 11, constantValue := 0 }, { name := "lineSeparator", type := (.object "java/lang/String"), accessFlags := 10, slot := 12, constantValue := 0 }, { name := "bootLayer", type := (.object "java/lang/ModuleLayer"), accessFlags := 8, slot := 13, constantValue := 0 }]
  methods := #[k14m0, k14m1]
  instanceTypes := #[]
  staticTypes := #[(.object "java/io/InputStream"), (.object "java/io/PrintStream"), (.object "java/io/PrintStream"), (.object "java/io/InputStream"), .int, .int, .int, (.object "java/lang/SecurityManager"), (.object "java/lang/String"), (.object "java/io/Console"), (.object "java/io/PrintStream"), (.object "java/util/Properties"), (.object "java/lang/String"), (.object "java/lang/ModuleLayer")]
  resolved := Array.replicate 834 none
  statics := none }

def pool15 : Array CpInfo := pool [(9, u "<init>"), (6, .class_ 18), (1, u "java/lang/Object"), (0, u "()V"), (1, .class_ 23), (1, u "jdk/internal/util/ArraysSupport"), (0, u "LOG2_ARRAY_LONG_INDEX_SCALE"), (0, u "I"), (2, u "U"), (0, u "Ljdk/internal/misc/Unsafe;"), (8, u "BIG_ENDIAN"), (0, u "Z"), (8, u "LOG2_BYTE_BIT_SIZE"), (4, u "LOG2_ARRAY_INT_INDEX_SCALE"), (54, u "JLA"), (0, u "Ljdk/internal/access/JavaLangAccess;"), (11, u "LOG2_ARRAY_BOOLEAN_INDEX_SCALE"), (9, u "LOG2_ARRAY_BYTE_INDEX_SCALE"), (5, u "LOG2_ARRAY_CHAR_INDEX_SCALE"), (5, u "LOG2_ARRAY_SHORT_INDEX_SCALE"), (18, u "LOG2_ARRAY_FLOAT_INDEX_SCALE"), (24, u "LOG2_ARRAY_DOUBLE_INDEX_SCALE"), (6, .methodref 195 196), (0, .class_ 197), (0, .nameAndType 198 199), (0, u "java/lang/Math"), (0, u "max"), (0, u "(II)I"), (0, .integer 2147483639), (76, u "T_BOOLEAN"), (2, u "T_CHAR"), (1, u "T_FLOAT"), (1, u "T_DOUBLE"), (1, u "T_BYTE"), (1, u "T_SHORT"), (1, u "T_INT"), (1, u "T_LONG"), (1, u "SOFT_MAX_ARRAY_LENGTH"), (56, u "newLength"), (0, u "(III)I")] 25

def k15m0 : Method := { name := "<init>", desc := "()V", sig := { parameters := [], returnType := none }, accessFlags := 2, code := none }
def k15c1 : Code := { maxStack := 3, maxLocals := 4, code := jdk_48_method_27_code, exceptionTable := #[], attributes := #[] }
def k15m1 : Method := { name := "newLength", desc := "(III)I", sig := { parameters := [.int, .int, .int], returnType := some .int }, accessFlags := 9, code := some k15c1 }
/-- jdk/internal/util/ArraysSupport -/
def k15 : Class := { plain "jdk/internal/util/ArraysSupport" (some 0) with
  accessFlags := 33
  interfaces := #[]
  cf := some (fileOf pool15 21 #[] #[{ accessFlags := 2, nameIndex := 9, descriptorIndex := 19, attributes := #[] }, { accessFlags := 9, nameIndex := 351, descriptorIndex := 352, attributes := #[] }] 33 16 #[] #[{ accessFlags := 24, nameIndex := 28, descriptorIndex := 29, attributes := #[] }, { accessFlags := 26, nameIndex := 38, descriptorIndex := 39, attributes := #[] }, { accessFlags := 25, nameIndex := 121, descriptorIndex := 25, attributes := #[] }, { accessFlags := 25, nameIndex := 131, descriptorIndex := 25, attributes := #[] }, { accessFlags := 25, nameIndex := 137, descriptorIndex := 25, attributes := #[] }, { accessFlags := 25, nameIndex := 143, descriptorIndex := 25, attributes := #[] }, { accessFlags := 25, nameIndex := 53, descriptorIndex := 25, attributes := #[] }, { accessFlags := 25, nameIndex := 24, descriptorIndex := 25, attributes := #[] }, { accessFlags := 25, nameIndex := 162, descriptorIndex := 25, attributes := #[] }, { accessFlags := 25, nameIndex := 187, descriptorIndex := 25, attributes := #[] }, { accessFlags := 26, nameIndex := 48, descriptorIndex := 25, attributes := #[] }, { accessFlags := 25, nameIndex := 277, descriptorIndex := 25, attributes := #[] }, { accessFlags := 25, nameIndex := 280, descriptorIndex := 25, attributes := #[] }, { accessFlags := 25, nameIndex := 282, descriptorIndex := 25, attributes := #[] }, { accessFlags := 25, nameIndex := 284, descriptorIndex := 25, attributes := #[] }, { accessFlags := 25, nameIndex := 286, descriptorIndex := 25, attributes := #[] }, { accessFlags := 25, nameIndex := 288, descriptorIndex := 25, attributes := #[] }, { accessFlags := 25, nameIndex := 290, descriptorIndex := 25, attributes := #[] }, { accessFlags := 25, nameIndex := 292, descriptorIndex := 25, attributes := #[] }, { accessFlags := 26, nameIndex := 108, descriptorIndex := 109, attributes := #[] }, { accessFlags := 25, nameIndex := 294, descriptorIndex := 25, attributes := #[] }])
  fields := #[{ name := "U", type := (.object "jdk/internal/misc/Unsafe"), accessFlags := 24, slot := 0, constantValue := 0 }, { name := "BIG_ENDIAN", type := .boolean, accessFlags := 26, slot := 1, constantValue := 0 }, { name := "LOG2_ARRAY_BOOLEAN_INDEX_SCALE", type := .int, accessFlags := 25, slot := 2, constantValue := 0 }, { name := "LOG2_ARRAY_BYTE_INDEX_SCALE", type := .int, accessFlags := 25, slot := 3, constantValue := 0 }, { name := "LOG2_ARRAY_CHAR_INDEX_SCALE", type := .int, accessFlags := 25, slot := 4, constantValue := 0 }, { name := "LOG2_ARRAY_SHORT_INDEX_SCALE", type := .int, accessFlags := 25, slot := 5, constantValue := 0 }, { name := "LOG2_ARRAY_INT_INDEX_SCALE", type := .int, accessFlags := 25, slot := 6, constantValue := 0 }, { name := "LOG2_ARRAY_LONG_INDEX_SCALE", type := .int, accessFlags := 25, slot := 7, constantValue := 0 }, { name := "LOG2_ARRAY_FLOAT_INDEX_SCALE", type := .int, accessFlags := 25, slot := 8, constantValue := 0 }, { name := "LOG2_ARRAY_DOUBLE_INDEX_SCALE", type := .int, accessFlags := 25, slot := 9, constantValue := 0 }, { name := "LOG2_BYTE_BIT_SIZE", type := .int, accessFlags := 26, slot := 10, constantValue := 0 }, { name := "T_BOOLEAN", type := .int, accessFlags := 25, slot := 11, constantValue := 0 }, { name := "T_CHAR", type := .int, accessFlags := 25, slot := 12, constantValue := 0 }, { name := "T_FLOAT", type := .int, accessFlags := 25, slot := 13, constantValue := 0 }, { name := "T_DOUBLE", type := .int, accessFlags := 25, slot := 14, constantValue := 0 }, { name := "T_BYTE", type := .int, accessFlags := 25, slot := 15, constantValue := 0 }, { name := "T_SHORT", type := .int, accessFlags := 25, slot := 16, constantValue := 0 }, { name := "T_INT", type := .int, accessFlags := 25, slot := 17, constantValue := 0 }, { name := "T_LONG", type := .int, accessFlags := 25, slot := 18, constantValue := 0 }, { name := "JLA", type := (.object "jdk/internal/access/JavaLangAccess"), accessFlags := 26, slot := 19, constantValue := 0 }, { name := "SOFT_MAX_ARRAY_LENGTH", type := .int, accessFlags := 25, slot := 20, constantValue := 0 }]
  methods := #[k15m0, k15m1]
  instanceTypes := #[]
  staticTypes := #[(.object "jdk/internal/misc/Unsafe"), .boolean, .int, .int, .int, .int, .int, .int, .int, .int, .int, .int, .int, .int, .int, .int, .int, .int, .int, (.object "jdk/internal/access/JavaLangAccess"), .int]
  resolved := Array.replicate 378 none
  statics := none }

def pool16 : Array CpInfo := pool [(1, .class_ 2), (0, u "java/lang/Math"), (1, .class_ 6), (1, u "java/lang/Object"), (0, u "<init>"), (0, u "()V"), (89, .class_ 100), (1, u "java/lang/Math$RandomNumberGeneratorHolder"), (71, u "negativeZeroFloatBits"), (0, u "J"), (2, u "negativeZeroDoubleBits"), (21, u "max"), (2, u "min"), (43, u "$assertionsDisabled"), (0, u "Z"), (88, u "(II)I"), (2, u "twoToTheDoubleScaleDown"), (0, u "D"), (4, u "twoToTheDoubleScaleUp"), (9, u "E"), (3, u "PI"), (2, u "TAU"), (2, u "DEGREES_TO_RADIANS"), (0, u "RADIANS_TO_DEGREES")] 94

def k16m0 : Method := { name := "<init>", desc := "()V", sig := { parameters := [], returnType := none }, accessFlags := 2, code := none }
def k16c1 : Code := { maxStack := 2, maxLocals := 2, code := jdk_29_method_65_code, exceptionTable := #[], attributes := #[] }
def k16m1 : Method := { name := "max", desc := "(II)I", sig := { parameters := [.int, .int], returnType := some .int }, accessFlags := 9, code := some k16c1 }
def k16c2 : Code := { maxStack := 2, maxLocals := 2, code := jdk_29_method_69_code, exceptionTable := #[], attributes := #[] }
def k16m2 : Method := { name := "min", desc := "(II)I", sig := { parameters := [.int, .int], returnType := some .int }, accessFlags := 9, code := some k16c2 }
/-- java/lang/Math -/
def k16 : Class := { plain "java/lang/Math" (some 0) with
  accessFlags := 49
  interfaces := #[]
  cf := some (fileOf pool16 1 #[.nestMembers #[98]] #[{ accessFlags := 2, nameIndex := 7, descriptorIndex := 8, attributes := #[] }, { accessFlags := 9, nameIndex := 198, descriptorIndex := 335, attributes := #[] }, { accessFlags := 9, nameIndex := 201, descriptorIndex := 335, attributes := #[] }] 49 4 #[] #[{ accessFlags := 25, nameIndex := 354, descriptorIndex := 339, attributes := #[] }, { accessFlags := 25, nameIndex := 358, descriptorIndex := 339, attributes := #[] }, { accessFlags := 25, nameIndex := 361, descriptorIndex := 339, attributes := #[] }, { accessFlags := 26, nameIndex := 364, descriptorIndex := 339, attributes := #[] }, { accessFlags := 26, nameIndex := 365, descriptorIndex := 339, attributes := #[] }, { accessFlags := 26, nameIndex := 172, descriptorIndex := 173, attributes := #[] }, { accessFlags := 26, nameIndex := 176, descriptorIndex := 173, attributes := #[] }, { accessFlags := 8, nameIndex := 344, descriptorIndex := 339, attributes := #[] }, { accessFlags := 8, nameIndex := 338, descriptorIndex := 339, attributes := #[] }, { accessFlags := 4120, nameIndex := 245, descriptorIndex := 246, attributes := #[] }])
  fields := #[{ name := "E", type := .double, accessFlags := 25, slot := 0, constantValue := 0 }, { name := "PI", type := .double, accessFlags := 25, slot := 1, constantValue := 0 }, { name := "TAU", type := .double, accessFlags := 25, slot := 2, constantValue := 0 }, { name := "DEGREES_TO_RADIANS", type := .double, accessFlags := 26, slot := 3, constantValue := 0 }, { name := "RADIANS_TO_DEGREES", type := .double, accessFlags := 26, slot := 4, constantValue := 0 }, { name := "negativeZeroFloatBits", type := .long, accessFlags := 26, slot := 5, constantValue := 0 }, { name := "negativeZeroDoubleBits", type := .long, accessFlags := 26, slot := 6, constantValue := 0 }, { name := "twoToTheDoubleScaleUp", type := .double, accessFlags := 8, slot := 7, constantValue := 0 }, { name := "twoToTheDoubleScaleDown", type := .double, accessFlags := 8, slot := 8, constantValue := 0 }, { name := "$assertionsDisabled", type := .boolean, accessFlags := 4120, slot := 9, constantValue := 0 }]
  methods := #[k16m0, k16m1, k16m2]
  instanceTypes := #[]
  staticTypes := #[.double, .double, .double, .double, .double, .long, .long, .double, .double, .boolean]
  resolved := Array.replicate 460 none
  statics := none }

def pool17 : Array CpInfo := pool [(2, .class_ 4), (1, u "java/lang/Object"), (0, u "<init>"), (0, u "()V"), (7, .class_ 16), (1, u "java/util/Arrays"), (57, .class_ 76), (1, u "java/util/Arrays$NaturalOrder"), (36, .class_ 115), (1, u "java/util/Arrays$LegacyMergeSort"), (1, u "Z"), (21, u "copyOfRange"), (10, .methodref 151 152), (0, .class_ 153), (0, .nameAndType 154 155), (0, u "java/lang/System"), (0, u "arraycopy"), (0, u "(Ljava/lang/Object;ILjava/lang/Object;II)V"), (146, u "copyOf"), (1, .methodref 305 306), (0, .class_ 307), (0, .nameAndType 308 309), (0, u "java/lang/Math"), (0, u "min"), (0, u "(II)I"), (29, .methodref 14 340), (0, .nameAndType 341 342), (0, u "copyOfRangeByte"), (0, u "([BII)[B"), (0, .methodref 14 344), (0, .nameAndType 345 346), (0, u "checkLength"), (0, u "(II)V"), (28, .class_ 376), (0, u "java/util/Arrays$ArrayList"), (68, u "$assertionsDisabled"), (269, u "MIN_ARRAY_SORT_GRAN"), (0, u "I"), (2, u "INSERTIONSORT_THRESHOLD"), (149, u "([BI)[B"), (105, .class_ 976), (0, u "java/util/Arrays$ArrayItr")] 52

def k17m0 : Method := { name := "<init>", desc := "()V", sig := { parameters := [], returnType := none }, accessFlags := 2, code := none }
def k17c1 : Code := { maxStack := 6, maxLocals := 3, code := jdk_65_method_121_code, exceptionTable := #[], attributes := #[] }
def k17m1 : Method := { name := "copyOf", desc := "([BI)[B", sig := { parameters := [(.array .byte), .int], returnType := some (.array .byte) }, accessFlags := 9, code := some k17c1 }
def k17c2 : Code := { maxStack := 4, maxLocals := 2, code := jdk_65_method_131_code, exceptionTable := #[], attributes := #[] }
def k17m2 : Method := { name := "checkLength", desc := "(II)V", sig := { parameters := [.int, .int], returnType := none }, accessFlags := 10, code := some k17c2 }
def k17c3 : Code := { maxStack := 3, maxLocals := 3, code := jdk_65_method_132_code, exceptionTable := #[], attributes := #[] }
def k17m3 : Method := { name := "copyOfRange", desc := "([BII)[B", sig := { parameters := [(.array .byte), .int, .int], returnType := some (.array .byte) }, accessFlags := 9, code := some k17c3 }
def k17c4 : Code := { maxStack := 6, maxLocals := 5, code := jdk_65_method_133_code, exceptionTable := #[], attributes := #[] }
def k17m4 : Method := { name := "copyOfRangeByte", desc := "([BII)[B", sig := { parameters := [(.array .byte), .int, .int], returnType := some (.array .byte) }, accessFlags := 10, code := some k17c4 }
/-- java/util/Arrays -/
def k17 : Class := { plain "java/util/Arrays" (some 0) with
  accessFlags := 49
  interfaces := #[]
  cf := some (fileOf pool17 14 #[.nestMembers #[975, 375, 113, 74]] #[{ accessFlags := 2, nameIndex := 5, descriptorIndex := 6, attributes := #[] }, { accessFlags := 9, nameIndex := 302, descriptorIndex := 869, attributes := #[] }, { accessFlags := 10, nameIndex := 345, descriptorIndex := 346, attributes := #[] }, { accessFlags := 9, nameIndex := 139, descriptorIndex := 342, attributes := #[] }, { accessFlags := 10, nameIndex := 341, descriptorIndex := 342, attributes := #[] }] 49 2 #[] #[{ accessFlags := 26, nameIndex := 715, descriptorIndex := 716, attributes := #[] }, { accessFlags := 26, nameIndex := 719, descriptorIndex := 716, attributes := #[] }, { accessFlags := 4120, nameIndex := 445, descriptorIndex := 117, attributes := #[] }])
  fields := #[{ name := "MIN_ARRAY_SORT_GRAN", type := .int, accessFlags := 26, slot := 0, constantValue := 0 }, { name := "INSERTIONSORT_THRESHOLD", type := .int, accessFlags := 26, slot := 1, constantValue := 0 }, { name := "$assertionsDisabled", type := .boolean, accessFlags := 4120, slot := 2, constantValue := 0 }]
  methods := #[k17m0, k17m1, k17m2, k17m3, k17m4]
  instanceTypes := #[]
  staticTypes := #[.int, .int, .boolean]
  resolved := Array.replicate 1029 none
  statics := none }

def pool18 : Array CpInfo := pool [(4, .class_ 6), (1, u "java/lang/Object"), (0, u "<init>"), (0, u "()V"), (5, .class_ 16), (1, u "java/lang/StringLatin1"), (104, u "$assertionsDisabled"), (0, u "Z"), (98, .class_ 223), (1, u "java/lang/StringLatin1$LinesSpliterator"), (57, u "equals"), (0, u "([B[B)Z"), (107, .class_ 391), (0, u "java/lang/StringLatin1$CharsSpliterator")] 3

def k18m0 : Method := { name := "<init>", desc := "()V", sig := { parameters := [], returnType := none }, accessFlags := 0, code := none }
def k18c1 : Code := { maxStack := 3, maxLocals := 3, code := jdk_43_method_13_code, exceptionTable := #[], attributes := #[] }
def k18m1 : Method := { name := "equals", desc := "([B[B)Z", sig := { parameters := [(.array .byte), (.array .byte)], returnType := some .boolean }, accessFlags := 9, code := some k18c1 }
/-- java/lang/StringLatin1 -/
def k18 : Class := { plain "java/lang/StringLatin1" (some 0) with
  accessFlags := 48
  interfaces := #[]
  cf := some (fileOf pool18 14 #[.nestMembers #[390, 221]] #[{ accessFlags := 0, nameIndex := 7, descriptorIndex := 8, attributes := #[] }, { accessFlags := 9, nameIndex := 281, descriptorIndex := 282, attributes := #[] }] 48 4 #[] #[{ accessFlags := 4120, nameIndex := 121, descriptorIndex := 122, attributes := #[] }])
  fields := #[{ name := "$assertionsDisabled", type := .boolean, accessFlags := 4120, slot := 0, constantValue := 0 }]
  methods := #[k18m0, k18m1]
  instanceTypes := #[]
  staticTypes := #[.boolean]
  resolved := Array.replicate 395 none
  statics := none }

def pool19 : Array CpInfo := pool [(2, .class_ 4), (1, u "java/lang/Object"), (0, u "<init>"), (0, u "()V"), (17, .class_ 26), (1, u "jdk/internal/util/Preconditions"), (28, .class_ 56), (0, u "jdk/internal/util/Preconditions$4"), (57, .class_ 115), (0, u "jdk/internal/util/Preconditions$1"), (7, u "SIOOBE_FORMATTER"), (0, u "Ljava/util/function/BiFunction;"), (0, .class_ 126), (0, u "jdk/internal/util/Preconditions$2"), (3, u "AIOOBE_FORMATTER"), (0, .class_ 132), (0, u "jdk/internal/util/Preconditions$3"), (3, u "IOOBE_FORMATTER")] 57

def k19m0 : Method := { name := "<init>", desc := "()V", sig := { parameters := [], returnType := none }, accessFlags := 1, code := none }
/-- jdk/internal/util/Preconditions -/
def k19 : Class := { plain "jdk/internal/util/Preconditions" (some 0) with
  accessFlags := 33
  interfaces := #[]
  cf := some (fileOf pool19 24 #[.nestMembers #[55, 131, 125, 114]] #[{ accessFlags := 1, nameIndex := 5, descriptorIndex := 6, attributes := #[] }] 33 2 #[] #[{ accessFlags := 25, nameIndex := 123, descriptorIndex := 124, attributes := #[] }, { accessFlags := 25, nameIndex := 130, descriptorIndex := 124, attributes := #[] }, { accessFlags := 25, nameIndex := 136, descriptorIndex := 124, attributes := #[] }])
  fields := #[{ name := "SIOOBE_FORMATTER", type := (.object "java/util/function/BiFunction"), accessFlags := 25, slot := 0, constantValue := 0 }, { name := "AIOOBE_FORMATTER", type := (.object "java/util/function/BiFunction"), accessFlags := 25, slot := 1, constantValue := 0 }, { name := "IOOBE_FORMATTER", type := (.object "java/util/function/BiFunction"), accessFlags := 25, slot := 2, constantValue := 0 }]
  methods := #[k19m0]
  instanceTypes := #[]
  staticTypes := #[(.object "java/util/function/BiFunction"), (.object "java/util/function/BiFunction"), (.object "java/util/function/BiFunction")]
  resolved := Array.replicate 194 none
  statics := some 1 }

def pool20 : Array CpInfo := pool [(1, u "java/lang/Cloneable"), (0, .class_ 1), (0, u "java/lang/Object"), (0, .class_ 3)] 3

/-- java/lang/Cloneable -/
def k20 : Class := { plain "java/lang/Cloneable" (some 0) with
  accessFlags := 1537
  interfaces := #[]
  cf := some (fileOf pool20 2 #[] #[] 1537 4 #[] #[])
  fields := #[]
  methods := #[]
  instanceTypes := #[]
  staticTypes := #[]
  resolved := Array.replicate 8 none
  statics := none }

/-- the primitive byte -/
def k21 : Class := { plain "byte" none with kind := .primitive 'B', accessFlags := 0x411 }
/-- [B -/
def k22 : Class := { plain "[B" (some 0) with kind := .array 21 .byte, interfaces := #[20, 2], accessFlags := 1041 }

/-- the primitive char -/
def k23 : Class := { plain "char" none with kind := .primitive 'C', accessFlags := 0x411 }
/-- [C -/
def k24 : Class := { plain "[C" (some 0) with kind := .array 23 .char, interfaces := #[20, 2], accessFlags := 1041 }

/-- the primitive int -/
def k25 : Class := { plain "int" none with kind := .primitive 'I', accessFlags := 0x411 }
/-- [I -/
def k26 : Class := { plain "[I" (some 0) with kind := .array 25 .int, interfaces := #[20, 2], accessFlags := 1041 }

def heap : Heap := #[{ cls := 7, slots := #[.long 0, .int 1, .null, .int 0, .null, .int 0, .int 0], vm := .statics 7 },
  { cls := 19, slots := #[.null, .null, .null], vm := .statics 19 }]
def classes : Array Class := #[k0, k1, k2, k3, k4, k5, k6, k7, k8, k9, k10, k11, k12, k13, k14, k15, k16, k17, k18, k19, k20, k21, k22, k23, k24, k25, k26]
def interned : List (Array UInt16 × Addr) := []
def slotsUsed : Nat := 10
def theMethod : MethodId := ⟨1, 1⟩
def args0 : Array Value := #[.int 1, .int 2, .int 3, .int 4, .int 5, .int 6]
def aboutOver (below : List Frame) : State where
  vm := { classes := classes, interned := interned.toArray }
  heap := heap
  slotsUsed := slotsUsed
  threads := #[{ frames := .invoking theMethod args0 :: below }]
def below0 : List Frame := [.native { method := ⟨0, 0⟩, args := #[] }]
def about1 : State := aboutOver below0
def p0 : Program := .bare "" "" ""
def e0 : Env := launch0.env 0 0 0
theorem w_frames : about1.frames = Frame.invoking theMethod args0 :: below0 := rfl
set_option maxRecDepth 65536 in
theorem w_args : argsFit about1.vm theMethod args0 = true := by decide +kernel
set_option maxRecDepth 65536 in
theorem w_heap : heapFits about1 = true := by decide +kernel
set_option maxRecDepth 65536 in
theorem w_runnable : about1.curStatus? = some .runnable := by decide +kernel
set_option maxRecDepth 65536 in
theorem w_alone : about1.alone = true := by decide +kernel
set_option maxRecDepth 65536 in
theorem w_named : about1.methodNamed? x = some theMethod := by decide +kernel
set_option maxRecDepth 65536 in
theorem w_hears : about1.hears theMethod below0 = true := by decide +kernel
set_option maxRecDepth 65536 in
theorem w_ripe : about1.ripe theMethod args0 below0 = true := by decide +kernel
theorem w_running : about1.status = .running := rfl
set_option maxRecDepth 65536 in
theorem w_room : about1.hasRoom e0.platform room_1 = true :=
  launch0.hasRoom_least _ room_1 (by decide +kernel) (by decide +kernel) (by decide +kernel) (by decide +kernel) (by decide +kernel) (by decide +kernel)
theorem allAtoms_all (ts : List Jvm.Cond) (a : Array Jvm.Value) (st : Jvm.State) : (allAtoms ts).before a st = ts.all (fun c => c.before a st) := by
  induction ts with
  | nil => rfl
  | cons c t ih =>
    show (Jvm.Cond.and c (allAtoms t)).before a st = _
    rw [Jvm.Cond.before_and, ih, List.all_cons]
def words1 : List Jvm.Cond := Jvm.Cond.code x code maxLocals ret :: tables_1
/-- a 'code' word, met by the world's own term for the bytes: nothing is compared byte by byte -/
theorem code_word {y : MethodName} {bytes : ByteArray} {mx : Nat} {rt : Option FieldType} {a : Array Value} {s : State} {m : MethodId} {meth : Method} {c : Code} (h1 : s.methodNamed? y = some m) (h2 : s.vm.method? m = some meth) (h3 : meth.code = some c) (h4 : c.code = bytes)
    (h5 : (c.maxLocals == mx && c.exceptionTable.isEmpty && decide (c.maxStack ≤ mostOperands) && decide (meth.sig.returnType = rt) && !meth.locks && decide (parseMethodDescriptor y.desc = some meth.sig)) = true) : (Jvm.Cond.code y bytes mx rt).before a s = true := by
  simp only [Bool.and_eq_true, beq_iff_eq, Bool.not_eq_true', decide_eq_true_eq] at h5
  obtain ⟨⟨⟨⟨⟨g1, g2⟩, g3⟩, g4⟩, g5⟩, g6⟩ := h5
  simp [Cond.before, Cond.holds, Cond.value, h1, h2, h3, h4, g1, g2, g3, g4, g5, g6]
def isCode : Jvm.Cond → Bool
  | .code _ _ _ _ => true
  | _ => false
theorem all_split {L : List Jvm.Cond} {P : Jvm.Cond → Bool} (h1 : L.all (fun c => isCode c || P c) = true) (h2 : ∀ c ∈ L.filter isCode, P c = true) : L.all P = true := by
  refine List.all_eq_true.mpr fun c hc => ?_
  have h := List.all_eq_true.mp h1 c hc
  rcases Bool.eq_false_or_eq_true (isCode c) with hi | hi
  · exact h2 c (List.mem_filter.mpr ⟨hc, hi⟩)
  · simpa [hi] using h
set_option maxRecDepth 65536 in
theorem w_c0 : (Jvm.Cond.code x code maxLocals ret).before args0 about1 = true := code_word (m := ⟨1, 1⟩) (meth := k1m1) (c := k1c1) (by decide +kernel) rfl rfl rfl (by decide +kernel)
set_option maxRecDepth 65536 in
theorem w_c1 : (Jvm.Cond.code ({ cls := "com/example/strict_resources/strictresources/core/MediaTypeIsJsonApiPinLaw", name := "make", desc := "(ZIII)Ljava/lang/String;" } : Jvm.MethodName) method_7_code (7 : Nat) (Option.some (Jvm.ClassFile.FieldType.object "java/lang/String"))).before args0 about1 = true := code_word (m := ⟨1, 6⟩) (meth := k1m6) (c := k1c6) (by decide +kernel) rfl rfl rfl (by decide +kernel)
set_option maxRecDepth 65536 in
theorem w_c2 : (Jvm.Cond.code ({ cls := "com/example/strict_resources/strictresources/core/MediaTypeIsJsonApiPinLaw", name := "draw", desc := "(I)C" } : Jvm.MethodName) method_3_code (2 : Nat) (Option.some Jvm.ClassFile.FieldType.char)).before args0 about1 = true := code_word (m := ⟨1, 2⟩) (meth := k1m2) (c := k1c2) (by decide +kernel) rfl rfl rfl (by decide +kernel)
set_option maxRecDepth 65536 in
theorem w_c3 : (Jvm.Cond.code ({ cls := "com/example/strict_resources/strictresources/core/MediaTypeIsJsonApiPinLaw", name := "full", desc := "(Z)[C" } : Jvm.MethodName) method_4_code (1 : Nat) (Option.some (Jvm.ClassFile.FieldType.array Jvm.ClassFile.FieldType.char))).before args0 about1 = true := code_word (m := ⟨1, 3⟩) (meth := k1m3) (c := k1c3) (by decide +kernel) rfl rfl rfl (by decide +kernel)
set_option maxRecDepth 65536 in
theorem w_c4 : (Jvm.Cond.code ({ cls := "java/lang/String", name := "<init>", desc := "([C)V" } : Jvm.MethodName) jdk_42_method_3_code (2 : Nat) (Option.none : Option Jvm.ClassFile.FieldType)).before args0 about1 = true := code_word (m := ⟨7, 1⟩) (meth := k7m1) (c := k7c1) (by decide +kernel) rfl rfl rfl (by decide +kernel)
set_option maxRecDepth 65536 in
theorem w_c5 : (Jvm.Cond.code ({ cls := "java/lang/String", name := "<init>", desc := "([CIILjava/lang/Void;)V" } : Jvm.MethodName) jdk_42_method_149_code (6 : Nat) (Option.none : Option Jvm.ClassFile.FieldType)).before args0 about1 = true := code_word (m := ⟨7, 6⟩) (meth := k7m6) (c := k7c6) (by decide +kernel) rfl rfl rfl (by decide +kernel)
set_option maxRecDepth 65536 in
theorem w_c6 : (Jvm.Cond.code ({ cls := "java/lang/Object", name := "<init>", desc := "()V" } : Jvm.MethodName) object_method_1_code (1 : Nat) (Option.none : Option Jvm.ClassFile.FieldType)).before args0 about1 = true := code_word (m := ⟨0, 0⟩) (meth := k0m0) (c := k0c0) (by decide +kernel) rfl rfl rfl (by decide +kernel)
set_option maxRecDepth 65536 in
theorem w_c7 : (Jvm.Cond.code ({ cls := "java/lang/StringUTF16", name := "compress", desc := "([CII)[B" } : Jvm.MethodName) jdk_52_method_16_code (6 : Nat) (Option.some (Jvm.ClassFile.FieldType.array Jvm.ClassFile.FieldType.byte))).before args0 about1 = true := code_word (m := ⟨8, 2⟩) (meth := k8m2) (c := k8c2) (by decide +kernel) rfl rfl rfl (by decide +kernel)
set_option maxRecDepth 65536 in
theorem w_c8 : (Jvm.Cond.code ({ cls := "java/lang/StringUTF16", name := "compress", desc := "([CI[BII)I" } : Jvm.MethodName) jdk_52_method_21_code (7 : Nat) (Option.some Jvm.ClassFile.FieldType.int)).before args0 about1 = true := code_word (m := ⟨8, 3⟩) (meth := k8m3) (c := k8c3) (by decide +kernel) rfl rfl rfl (by decide +kernel)
set_option maxRecDepth 65536 in
theorem w_c9 : (Jvm.Cond.code ({ cls := "java/lang/StringUTF16", name := "coderFromArrayLen", desc := "([BI)B" } : Jvm.MethodName) jdk_52_method_15_code (2 : Nat) (Option.some Jvm.ClassFile.FieldType.byte)).before args0 about1 = true := code_word (m := ⟨8, 1⟩) (meth := k8m1) (c := k8c1) (by decide +kernel) rfl rfl rfl (by decide +kernel)
set_option maxRecDepth 65536 in
theorem w_c10 : (Jvm.Cond.code ({ cls := "com/example/strict_resources/strictresources/core/MediaTypeIsJsonApiPinLaw", name := "matches", desc := "(ZIII)Z" } : Jvm.MethodName) method_8_code (6 : Nat) (Option.some Jvm.ClassFile.FieldType.boolean)).before args0 about1 = true := code_word (m := ⟨1, 7⟩) (meth := k1m7) (c := k1c7) (by decide +kernel) rfl rfl rfl (by decide +kernel)
set_option maxRecDepth 65536 in
theorem w_c11 : (Jvm.Cond.code ({ cls := "com/example/strict_resources/strictresources/core/MediaType", name := "<init>", desc := "(Ljava/lang/String;Ljava/lang/String;Ljava/util/Map;)V" } : Jvm.MethodName) prog_17_method_1_code (4 : Nat) (Option.none : Option Jvm.ClassFile.FieldType)).before args0 about1 = true := code_word (m := ⟨10, 0⟩) (meth := k10m0) (c := k10c0) (by decide +kernel) rfl rfl rfl (by decide +kernel)
set_option maxRecDepth 65536 in
theorem w_c12 : (Jvm.Cond.code ({ cls := "java/lang/Record", name := "<init>", desc := "()V" } : Jvm.MethodName) jdk_30_method_1_code (1 : Nat) (Option.none : Option Jvm.ClassFile.FieldType)).before args0 about1 = true := code_word (m := ⟨9, 0⟩) (meth := k9m0) (c := k9c0) (by decide +kernel) rfl rfl rfl (by decide +kernel)
set_option maxRecDepth 65536 in
theorem w_c13 : (Jvm.Cond.code ({ cls := "com/example/strict_resources/strictresources/core/MediaType", name := "isJsonApi", desc := "()Z" } : Jvm.MethodName) prog_17_method_4_code (1 : Nat) (Option.some Jvm.ClassFile.FieldType.boolean)).before args0 about1 = true := code_word (m := ⟨10, 1⟩) (meth := k10m1) (c := k10c1) (by decide +kernel) rfl rfl rfl (by decide +kernel)
set_option maxRecDepth 65536 in
theorem w_c14 : (Jvm.Cond.code ({ cls := "java/lang/StringBuilder", name := "<init>", desc := "()V" } : Jvm.MethodName) jdk_67_method_1_code (1 : Nat) (Option.none : Option Jvm.ClassFile.FieldType)).before args0 about1 = true := code_word (m := ⟨13, 0⟩) (meth := k13m0) (c := k13c0) (by decide +kernel) rfl rfl rfl (by decide +kernel)
set_option maxRecDepth 65536 in
theorem w_c15 : (Jvm.Cond.code ({ cls := "java/lang/AbstractStringBuilder", name := "<init>", desc := "(I)V" } : Jvm.MethodName) jdk_68_method_2_code (2 : Nat) (Option.none : Option Jvm.ClassFile.FieldType)).before args0 about1 = true := code_word (m := ⟨12, 1⟩) (meth := k12m1) (c := k12c1) (by decide +kernel) rfl rfl rfl (by decide +kernel)
set_option maxRecDepth 65536 in
theorem w_c16 : (Jvm.Cond.code ({ cls := "java/lang/StringBuilder", name := "append", desc := "(Ljava/lang/String;)Ljava/lang/StringBuilder;" } : Jvm.MethodName) jdk_67_method_7_code (2 : Nat) (Option.some (Jvm.ClassFile.FieldType.object "java/lang/StringBuilder"))).before args0 about1 = true := code_word (m := ⟨13, 1⟩) (meth := k13m1) (c := k13c1) (by decide +kernel) rfl rfl rfl (by decide +kernel)
set_option maxRecDepth 65536 in
theorem w_c17 : (Jvm.Cond.code ({ cls := "java/lang/AbstractStringBuilder", name := "append", desc := "(Ljava/lang/String;)Ljava/lang/AbstractStringBuilder;" } : Jvm.MethodName) jdk_68_method_22_code (3 : Nat) (Option.some (Jvm.ClassFile.FieldType.object "java/lang/AbstractStringBuilder"))).before args0 about1 = true := code_word (m := ⟨12, 5⟩) (meth := k12m5) (c := k12c5) (by decide +kernel) rfl rfl rfl (by decide +kernel)
set_option maxRecDepth 65536 in
theorem w_c18 : (Jvm.Cond.code ({ cls := "java/lang/String", name := "length", desc := "()I" } : Jvm.MethodName) jdk_42_method_54_code (1 : Nat) (Option.some Jvm.ClassFile.FieldType.int)).before args0 about1 = true := code_word (m := ⟨7, 3⟩) (meth := k7m3) (c := k7c3) (by decide +kernel) rfl rfl rfl (by decide +kernel)
set_option maxRecDepth 65536 in
theorem w_c19 : (Jvm.Cond.code ({ cls := "java/lang/String", name := "coder", desc := "()B" } : Jvm.MethodName) jdk_42_method_152_code (1 : Nat) (Option.some Jvm.ClassFile.FieldType.byte)).before args0 about1 = true := code_word (m := ⟨7, 8⟩) (meth := k7m8) (c := k7c8) (by decide +kernel) rfl rfl rfl (by decide +kernel)
set_option maxRecDepth 65536 in
theorem w_c20 : (Jvm.Cond.code ({ cls := "java/lang/AbstractStringBuilder", name := "ensureCapacityInternal", desc := "(I)V" } : Jvm.MethodName) jdk_68_method_9_code (3 : Nat) (Option.none : Option Jvm.ClassFile.FieldType)).before args0 about1 = true := code_word (m := ⟨12, 3⟩) (meth := k12m3) (c := k12c3) (by decide +kernel) rfl rfl rfl (by decide +kernel)
set_option maxRecDepth 65536 in
theorem w_c21 : (Jvm.Cond.code ({ cls := "java/lang/AbstractStringBuilder", name := "putStringAt", desc := "(ILjava/lang/String;)V" } : Jvm.MethodName) jdk_68_method_73_code (3 : Nat) (Option.none : Option Jvm.ClassFile.FieldType)).before args0 about1 = true := code_word (m := ⟨12, 9⟩) (meth := k12m9) (c := k12c9) (by decide +kernel) rfl rfl rfl (by decide +kernel)
set_option maxRecDepth 65536 in
theorem w_c22 : (Jvm.Cond.code ({ cls := "java/lang/AbstractStringBuilder", name := "inflateIfNeededFor", desc := "(Ljava/lang/String;)V" } : Jvm.MethodName) jdk_68_method_71_code (2 : Nat) (Option.none : Option Jvm.ClassFile.FieldType)).before args0 about1 = true := code_word (m := ⟨12, 8⟩) (meth := k12m8) (c := k12c8) (by decide +kernel) rfl rfl rfl (by decide +kernel)
set_option maxRecDepth 65536 in
theorem w_c23 : (Jvm.Cond.code ({ cls := "java/lang/String", name := "getBytes", desc := "([BIB)V" } : Jvm.MethodName) jdk_42_method_147_code (4 : Nat) (Option.none : Option Jvm.ClassFile.FieldType)).before args0 about1 = true := code_word (m := ⟨7, 5⟩) (meth := k7m5) (c := k7c5) (by decide +kernel) rfl rfl rfl (by decide +kernel)
set_option maxRecDepth 65536 in
theorem w_c24 : (Jvm.Cond.code ({ cls := "java/lang/AbstractStringBuilder", name := "newCapacity", desc := "(I)I" } : Jvm.MethodName) jdk_68_method_10_code (6 : Nat) (Option.some Jvm.ClassFile.FieldType.int)).before args0 about1 = true := code_word (m := ⟨12, 4⟩) (meth := k12m4) (c := k12c4) (by decide +kernel) rfl rfl rfl (by decide +kernel)
set_option maxRecDepth 65536 in
theorem w_c25 : (Jvm.Cond.code ({ cls := "jdk/internal/util/ArraysSupport", name := "newLength", desc := "(III)I" } : Jvm.MethodName) jdk_48_method_27_code (4 : Nat) (Option.some Jvm.ClassFile.FieldType.int)).before args0 about1 = true := code_word (m := ⟨15, 1⟩) (meth := k15m1) (c := k15c1) (by decide +kernel) rfl rfl rfl (by decide +kernel)
set_option maxRecDepth 65536 in
theorem w_c26 : (Jvm.Cond.code ({ cls := "java/lang/Math", name := "max", desc := "(II)I" } : Jvm.MethodName) jdk_29_method_65_code (2 : Nat) (Option.some Jvm.ClassFile.FieldType.int)).before args0 about1 = true := code_word (m := ⟨16, 1⟩) (meth := k16m1) (c := k16c1) (by decide +kernel) rfl rfl rfl (by decide +kernel)
set_option maxRecDepth 65536 in
theorem w_c27 : (Jvm.Cond.code ({ cls := "java/util/Arrays", name := "copyOf", desc := "([BI)[B" } : Jvm.MethodName) jdk_65_method_121_code (3 : Nat) (Option.some (Jvm.ClassFile.FieldType.array Jvm.ClassFile.FieldType.byte))).before args0 about1 = true := code_word (m := ⟨17, 1⟩) (meth := k17m1) (c := k17c1) (by decide +kernel) rfl rfl rfl (by decide +kernel)
set_option maxRecDepth 65536 in
theorem w_c28 : (Jvm.Cond.code ({ cls := "java/lang/Math", name := "min", desc := "(II)I" } : Jvm.MethodName) jdk_29_method_69_code (2 : Nat) (Option.some Jvm.ClassFile.FieldType.int)).before args0 about1 = true := code_word (m := ⟨16, 2⟩) (meth := k16m2) (c := k16c2) (by decide +kernel) rfl rfl rfl (by decide +kernel)
set_option maxRecDepth 65536 in
theorem w_c29 : (Jvm.Cond.code ({ cls := "java/lang/StringBuilder", name := "toString", desc := "()Ljava/lang/String;" } : Jvm.MethodName) jdk_67_method_42_code (1 : Nat) (Option.some (Jvm.ClassFile.FieldType.object "java/lang/String"))).before args0 about1 = true := code_word (m := ⟨13, 2⟩) (meth := k13m2) (c := k13c2) (by decide +kernel) rfl rfl rfl (by decide +kernel)
set_option maxRecDepth 65536 in
theorem w_c30 : (Jvm.Cond.code ({ cls := "java/lang/String", name := "<init>", desc := "(Ljava/lang/StringBuilder;)V" } : Jvm.MethodName) jdk_42_method_53_code (2 : Nat) (Option.none : Option Jvm.ClassFile.FieldType)).before args0 about1 = true := code_word (m := ⟨7, 2⟩) (meth := k7m2) (c := k7c2) (by decide +kernel) rfl rfl rfl (by decide +kernel)
set_option maxRecDepth 65536 in
theorem w_c31 : (Jvm.Cond.code ({ cls := "java/lang/String", name := "<init>", desc := "(Ljava/lang/AbstractStringBuilder;Ljava/lang/Void;)V" } : Jvm.MethodName) jdk_42_method_150_code (5 : Nat) (Option.none : Option Jvm.ClassFile.FieldType)).before args0 about1 = true := code_word (m := ⟨7, 7⟩) (meth := k7m7) (c := k7c7) (by decide +kernel) rfl rfl rfl (by decide +kernel)
set_option maxRecDepth 65536 in
theorem w_c32 : (Jvm.Cond.code ({ cls := "java/lang/AbstractStringBuilder", name := "getValue", desc := "()[B" } : Jvm.MethodName) jdk_68_method_64_code (1 : Nat) (Option.some (Jvm.ClassFile.FieldType.array Jvm.ClassFile.FieldType.byte))).before args0 about1 = true := code_word (m := ⟨12, 6⟩) (meth := k12m6) (c := k12c6) (by decide +kernel) rfl rfl rfl (by decide +kernel)
set_option maxRecDepth 65536 in
theorem w_c33 : (Jvm.Cond.code ({ cls := "java/lang/StringBuilder", name := "length", desc := "()I" } : Jvm.MethodName) jdk_67_method_93_code (1 : Nat) (Option.some Jvm.ClassFile.FieldType.int)).before args0 about1 = true := code_word (m := ⟨13, 3⟩) (meth := k13m3) (c := k13c3) (by decide +kernel) rfl rfl rfl (by decide +kernel)
set_option maxRecDepth 65536 in
theorem w_c34 : (Jvm.Cond.code ({ cls := "java/lang/AbstractStringBuilder", name := "length", desc := "()I" } : Jvm.MethodName) jdk_68_method_6_code (1 : Nat) (Option.some Jvm.ClassFile.FieldType.int)).before args0 about1 = true := code_word (m := ⟨12, 2⟩) (meth := k12m2) (c := k12c2) (by decide +kernel) rfl rfl rfl (by decide +kernel)
set_option maxRecDepth 65536 in
theorem w_c35 : (Jvm.Cond.code ({ cls := "java/lang/AbstractStringBuilder", name := "isLatin1", desc := "()Z" } : Jvm.MethodName) jdk_68_method_68_code (1 : Nat) (Option.some Jvm.ClassFile.FieldType.boolean)).before args0 about1 = true := code_word (m := ⟨12, 7⟩) (meth := k12m7) (c := k12c7) (by decide +kernel) rfl rfl rfl (by decide +kernel)
set_option maxRecDepth 65536 in
theorem w_c36 : (Jvm.Cond.code ({ cls := "java/util/Arrays", name := "copyOfRange", desc := "([BII)[B" } : Jvm.MethodName) jdk_65_method_132_code (3 : Nat) (Option.some (Jvm.ClassFile.FieldType.array Jvm.ClassFile.FieldType.byte))).before args0 about1 = true := code_word (m := ⟨17, 3⟩) (meth := k17m3) (c := k17c3) (by decide +kernel) rfl rfl rfl (by decide +kernel)
set_option maxRecDepth 65536 in
theorem w_c37 : (Jvm.Cond.code ({ cls := "java/util/Arrays", name := "copyOfRangeByte", desc := "([BII)[B" } : Jvm.MethodName) jdk_65_method_133_code (5 : Nat) (Option.some (Jvm.ClassFile.FieldType.array Jvm.ClassFile.FieldType.byte))).before args0 about1 = true := code_word (m := ⟨17, 4⟩) (meth := k17m4) (c := k17c4) (by decide +kernel) rfl rfl rfl (by decide +kernel)
set_option maxRecDepth 65536 in
theorem w_c38 : (Jvm.Cond.code ({ cls := "java/util/Arrays", name := "checkLength", desc := "(II)V" } : Jvm.MethodName) jdk_65_method_131_code (2 : Nat) (Option.none : Option Jvm.ClassFile.FieldType)).before args0 about1 = true := code_word (m := ⟨17, 2⟩) (meth := k17m2) (c := k17c2) (by decide +kernel) rfl rfl rfl (by decide +kernel)
set_option maxRecDepth 65536 in
theorem w_c39 : (Jvm.Cond.code ({ cls := "java/lang/String", name := "equals", desc := "(Ljava/lang/Object;)Z" } : Jvm.MethodName) jdk_42_method_66_code (3 : Nat) (Option.some Jvm.ClassFile.FieldType.boolean)).before args0 about1 = true := code_word (m := ⟨7, 4⟩) (meth := k7m4) (c := k7c4) (by decide +kernel) rfl rfl rfl (by decide +kernel)
set_option maxRecDepth 65536 in
theorem w_c40 : (Jvm.Cond.code ({ cls := "java/lang/StringLatin1", name := "equals", desc := "([B[B)Z" } : Jvm.MethodName) jdk_43_method_13_code (3 : Nat) (Option.some Jvm.ClassFile.FieldType.boolean)).before args0 about1 = true := code_word (m := ⟨18, 1⟩) (meth := k18m1) (c := k18c1) (by decide +kernel) rfl rfl rfl (by decide +kernel)
set_option maxRecDepth 65536 in
theorem w_c41 : (Jvm.Cond.code ({ cls := "com/example/strict_resources/strictresources/core/MediaTypeIsJsonApiPinLaw", name := "shorter", desc := "(Z)[C" } : Jvm.MethodName) method_6_code (1 : Nat) (Option.some (Jvm.ClassFile.FieldType.array Jvm.ClassFile.FieldType.char))).before args0 about1 = true := code_word (m := ⟨1, 5⟩) (meth := k1m5) (c := k1c5) (by decide +kernel) rfl rfl rfl (by decide +kernel)
set_option maxRecDepth 65536 in
theorem w_c42 : (Jvm.Cond.code ({ cls := "com/example/strict_resources/strictresources/core/MediaTypeIsJsonApiPinLaw", name := "longer", desc := "(Z)[C" } : Jvm.MethodName) method_5_code (1 : Nat) (Option.some (Jvm.ClassFile.FieldType.array Jvm.ClassFile.FieldType.char))).before args0 about1 = true := code_word (m := ⟨1, 4⟩) (meth := k1m4) (c := k1c4) (by decide +kernel) rfl rfl rfl (by decide +kernel)
def codes1 : List Jvm.Cond := [Jvm.Cond.code x code maxLocals ret, Jvm.Cond.code ({ cls := "com/example/strict_resources/strictresources/core/MediaTypeIsJsonApiPinLaw", name := "make", desc := "(ZIII)Ljava/lang/String;" } : Jvm.MethodName) method_7_code (7 : Nat) (Option.some (Jvm.ClassFile.FieldType.object "java/lang/String")), Jvm.Cond.code ({ cls := "com/example/strict_resources/strictresources/core/MediaTypeIsJsonApiPinLaw", name := "draw", desc := "(I)C" } : Jvm.MethodName) method_3_code (2 : Nat) (Option.some Jvm.ClassFile.FieldType.char), Jvm.Cond.code ({ cls := "com/example/strict_resources/strictresources/core/MediaTypeIsJsonApiPinLaw", name := "full", desc := "(Z)[C" } : Jvm.MethodName) method_4_code (1 : Nat) (Option.some (Jvm.ClassFile.FieldType.array Jvm.ClassFile.FieldType.char)), Jvm.Cond.code ({ cls := "java/lang/String", name := "<init>", desc := "([C)V" } : Jvm.MethodName) jdk_42_method_3_code (2 : Nat) (Option.none : Option Jvm.ClassFile.FieldType), Jvm.Cond.code ({ cls := "java/lang/String", name := "<init>", desc := "([CIILjava/lang/Void;)V" } : Jvm.MethodName) jdk_42_method_149_code (6 : Nat) (Option.none : Option Jvm.ClassFile.FieldType), Jvm.Cond.code ({ cls := "java/lang/Object", name := "<init>", desc := "()V" } : Jvm.MethodName) object_method_1_code (1 : Nat) (Option.none : Option Jvm.ClassFile.FieldType), Jvm.Cond.code ({ cls := "java/lang/StringUTF16", name := "compress", desc := "([CII)[B" } : Jvm.MethodName) jdk_52_method_16_code (6 : Nat) (Option.some (Jvm.ClassFile.FieldType.array Jvm.ClassFile.FieldType.byte)), Jvm.Cond.code ({ cls := "java/lang/StringUTF16", name := "compress", desc := "([CI[BII)I" } : Jvm.MethodName) jdk_52_method_21_code (7 : Nat) (Option.some Jvm.ClassFile.FieldType.int), Jvm.Cond.code ({ cls := "java/lang/StringUTF16", name := "coderFromArrayLen", desc := "([BI)B" } : Jvm.MethodName) jdk_52_method_15_code (2 : Nat) (Option.some Jvm.ClassFile.FieldType.byte), Jvm.Cond.code ({ cls := "com/example/strict_resources/strictresources/core/MediaTypeIsJsonApiPinLaw", name := "matches", desc := "(ZIII)Z" } : Jvm.MethodName) method_8_code (6 : Nat) (Option.some Jvm.ClassFile.FieldType.boolean), Jvm.Cond.code ({ cls := "com/example/strict_resources/strictresources/core/MediaType", name := "<init>", desc := "(Ljava/lang/String;Ljava/lang/String;Ljava/util/Map;)V" } : Jvm.MethodName) prog_17_method_1_code (4 : Nat) (Option.none : Option Jvm.ClassFile.FieldType), Jvm.Cond.code ({ cls := "java/lang/Record", name := "<init>", desc := "()V" } : Jvm.MethodName) jdk_30_method_1_code (1 : Nat) (Option.none : Option Jvm.ClassFile.FieldType), Jvm.Cond.code ({ cls := "com/example/strict_resources/strictresources/core/MediaType", name := "isJsonApi", desc := "()Z" } : Jvm.MethodName) prog_17_method_4_code (1 : Nat) (Option.some Jvm.ClassFile.FieldType.boolean), Jvm.Cond.code ({ cls := "java/lang/StringBuilder", name := "<init>", desc := "()V" } : Jvm.MethodName) jdk_67_method_1_code (1 : Nat) (Option.none : Option Jvm.ClassFile.FieldType), Jvm.Cond.code ({ cls := "java/lang/AbstractStringBuilder", name := "<init>", desc := "(I)V" } : Jvm.MethodName) jdk_68_method_2_code (2 : Nat) (Option.none : Option Jvm.ClassFile.FieldType), Jvm.Cond.code ({ cls := "java/lang/StringBuilder", name := "append", desc := "(Ljava/lang/String;)Ljava/lang/StringBuilder;" } : Jvm.MethodName) jdk_67_method_7_code (2 : Nat) (Option.some (Jvm.ClassFile.FieldType.object "java/lang/StringBuilder")), Jvm.Cond.code ({ cls := "java/lang/AbstractStringBuilder", name := "append", desc := "(Ljava/lang/String;)Ljava/lang/AbstractStringBuilder;" } : Jvm.MethodName) jdk_68_method_22_code (3 : Nat) (Option.some (Jvm.ClassFile.FieldType.object "java/lang/AbstractStringBuilder")), Jvm.Cond.code ({ cls := "java/lang/String", name := "length", desc := "()I" } : Jvm.MethodName) jdk_42_method_54_code (1 : Nat) (Option.some Jvm.ClassFile.FieldType.int), Jvm.Cond.code ({ cls := "java/lang/String", name := "coder", desc := "()B" } : Jvm.MethodName) jdk_42_method_152_code (1 : Nat) (Option.some Jvm.ClassFile.FieldType.byte), Jvm.Cond.code ({ cls := "java/lang/AbstractStringBuilder", name := "ensureCapacityInternal", desc := "(I)V" } : Jvm.MethodName) jdk_68_method_9_code (3 : Nat) (Option.none : Option Jvm.ClassFile.FieldType), Jvm.Cond.code ({ cls := "java/lang/AbstractStringBuilder", name := "putStringAt", desc := "(ILjava/lang/String;)V" } : Jvm.MethodName) jdk_68_method_73_code (3 : Nat) (Option.none : Option Jvm.ClassFile.FieldType), Jvm.Cond.code ({ cls := "java/lang/AbstractStringBuilder", name := "inflateIfNeededFor", desc := "(Ljava/lang/String;)V" } : Jvm.MethodName) jdk_68_method_71_code (2 : Nat) (Option.none : Option Jvm.ClassFile.FieldType), Jvm.Cond.code ({ cls := "java/lang/String", name := "getBytes", desc := "([BIB)V" } : Jvm.MethodName) jdk_42_method_147_code (4 : Nat) (Option.none : Option Jvm.ClassFile.FieldType), Jvm.Cond.code ({ cls := "java/lang/AbstractStringBuilder", name := "newCapacity", desc := "(I)I" } : Jvm.MethodName) jdk_68_method_10_code (6 : Nat) (Option.some Jvm.ClassFile.FieldType.int), Jvm.Cond.code ({ cls := "jdk/internal/util/ArraysSupport", name := "newLength", desc := "(III)I" } : Jvm.MethodName) jdk_48_method_27_code (4 : Nat) (Option.some Jvm.ClassFile.FieldType.int), Jvm.Cond.code ({ cls := "java/lang/Math", name := "max", desc := "(II)I" } : Jvm.MethodName) jdk_29_method_65_code (2 : Nat) (Option.some Jvm.ClassFile.FieldType.int), Jvm.Cond.code ({ cls := "java/util/Arrays", name := "copyOf", desc := "([BI)[B" } : Jvm.MethodName) jdk_65_method_121_code (3 : Nat) (Option.some (Jvm.ClassFile.FieldType.array Jvm.ClassFile.FieldType.byte)), Jvm.Cond.code ({ cls := "java/lang/Math", name := "min", desc := "(II)I" } : Jvm.MethodName) jdk_29_method_69_code (2 : Nat) (Option.some Jvm.ClassFile.FieldType.int), Jvm.Cond.code ({ cls := "java/lang/StringBuilder", name := "toString", desc := "()Ljava/lang/String;" } : Jvm.MethodName) jdk_67_method_42_code (1 : Nat) (Option.some (Jvm.ClassFile.FieldType.object "java/lang/String")), Jvm.Cond.code ({ cls := "java/lang/String", name := "<init>", desc := "(Ljava/lang/StringBuilder;)V" } : Jvm.MethodName) jdk_42_method_53_code (2 : Nat) (Option.none : Option Jvm.ClassFile.FieldType), Jvm.Cond.code ({ cls := "java/lang/String", name := "<init>", desc := "(Ljava/lang/AbstractStringBuilder;Ljava/lang/Void;)V" } : Jvm.MethodName) jdk_42_method_150_code (5 : Nat) (Option.none : Option Jvm.ClassFile.FieldType), Jvm.Cond.code ({ cls := "java/lang/AbstractStringBuilder", name := "getValue", desc := "()[B" } : Jvm.MethodName) jdk_68_method_64_code (1 : Nat) (Option.some (Jvm.ClassFile.FieldType.array Jvm.ClassFile.FieldType.byte)), Jvm.Cond.code ({ cls := "java/lang/StringBuilder", name := "length", desc := "()I" } : Jvm.MethodName) jdk_67_method_93_code (1 : Nat) (Option.some Jvm.ClassFile.FieldType.int), Jvm.Cond.code ({ cls := "java/lang/AbstractStringBuilder", name := "length", desc := "()I" } : Jvm.MethodName) jdk_68_method_6_code (1 : Nat) (Option.some Jvm.ClassFile.FieldType.int), Jvm.Cond.code ({ cls := "java/lang/AbstractStringBuilder", name := "isLatin1", desc := "()Z" } : Jvm.MethodName) jdk_68_method_68_code (1 : Nat) (Option.some Jvm.ClassFile.FieldType.boolean), Jvm.Cond.code ({ cls := "java/util/Arrays", name := "copyOfRange", desc := "([BII)[B" } : Jvm.MethodName) jdk_65_method_132_code (3 : Nat) (Option.some (Jvm.ClassFile.FieldType.array Jvm.ClassFile.FieldType.byte)), Jvm.Cond.code ({ cls := "java/util/Arrays", name := "copyOfRangeByte", desc := "([BII)[B" } : Jvm.MethodName) jdk_65_method_133_code (5 : Nat) (Option.some (Jvm.ClassFile.FieldType.array Jvm.ClassFile.FieldType.byte)), Jvm.Cond.code ({ cls := "java/util/Arrays", name := "checkLength", desc := "(II)V" } : Jvm.MethodName) jdk_65_method_131_code (2 : Nat) (Option.none : Option Jvm.ClassFile.FieldType), Jvm.Cond.code ({ cls := "java/lang/String", name := "equals", desc := "(Ljava/lang/Object;)Z" } : Jvm.MethodName) jdk_42_method_66_code (3 : Nat) (Option.some Jvm.ClassFile.FieldType.boolean), Jvm.Cond.code ({ cls := "java/lang/StringLatin1", name := "equals", desc := "([B[B)Z" } : Jvm.MethodName) jdk_43_method_13_code (3 : Nat) (Option.some Jvm.ClassFile.FieldType.boolean), Jvm.Cond.code ({ cls := "com/example/strict_resources/strictresources/core/MediaTypeIsJsonApiPinLaw", name := "shorter", desc := "(Z)[C" } : Jvm.MethodName) method_6_code (1 : Nat) (Option.some (Jvm.ClassFile.FieldType.array Jvm.ClassFile.FieldType.char)), Jvm.Cond.code ({ cls := "com/example/strict_resources/strictresources/core/MediaTypeIsJsonApiPinLaw", name := "longer", desc := "(Z)[C" } : Jvm.MethodName) method_5_code (1 : Nat) (Option.some (Jvm.ClassFile.FieldType.array Jvm.ClassFile.FieldType.char))]
set_option maxRecDepth 65536 in
theorem codes_eq : words1.filter isCode = codes1 := rfl
theorem w_codes : ∀ c ∈ words1.filter isCode, c.before args0 about1 = true := by
  rw [codes_eq]
  intro c hc
  simp only [codes1, List.mem_cons, List.not_mem_nil, or_false] at hc
  rcases hc with rfl | rfl | rfl | rfl | rfl | rfl | rfl | rfl | rfl | rfl | rfl | rfl | rfl | rfl | rfl | rfl | rfl | rfl | rfl | rfl | rfl | rfl | rfl | rfl | rfl | rfl | rfl | rfl | rfl | rfl | rfl | rfl | rfl | rfl | rfl | rfl | rfl | rfl | rfl | rfl | rfl | rfl | rfl
  · exact w_c0
  · exact w_c1
  · exact w_c2
  · exact w_c3
  · exact w_c4
  · exact w_c5
  · exact w_c6
  · exact w_c7
  · exact w_c8
  · exact w_c9
  · exact w_c10
  · exact w_c11
  · exact w_c12
  · exact w_c13
  · exact w_c14
  · exact w_c15
  · exact w_c16
  · exact w_c17
  · exact w_c18
  · exact w_c19
  · exact w_c20
  · exact w_c21
  · exact w_c22
  · exact w_c23
  · exact w_c24
  · exact w_c25
  · exact w_c26
  · exact w_c27
  · exact w_c28
  · exact w_c29
  · exact w_c30
  · exact w_c31
  · exact w_c32
  · exact w_c33
  · exact w_c34
  · exact w_c35
  · exact w_c36
  · exact w_c37
  · exact w_c38
  · exact w_c39
  · exact w_c40
  · exact w_c41
  · exact w_c42
set_option maxRecDepth 65536 in
theorem w_t1 : (words1.take 24).all (fun c => isCode c || c.before args0 about1) = true := by decide +kernel
set_option maxRecDepth 65536 in
theorem w_t2 : ((words1.drop 24).take 24).all (fun c => isCode c || c.before args0 about1) = true := by decide +kernel
set_option maxRecDepth 65536 in
theorem w_t3 : (((words1.drop 24).drop 24).take 24).all (fun c => isCode c || c.before args0 about1) = true := by decide +kernel
set_option maxRecDepth 65536 in
theorem w_t4 : ((((words1.drop 24).drop 24).drop 24).take 24).all (fun c => isCode c || c.before args0 about1) = true := by decide +kernel
set_option maxRecDepth 65536 in
theorem w_t5 : (((((words1.drop 24).drop 24).drop 24).drop 24).take 24).all (fun c => isCode c || c.before args0 about1) = true := by decide +kernel
set_option maxRecDepth 65536 in
theorem w_t6 : ((((((words1.drop 24).drop 24).drop 24).drop 24).drop 24).take 24).all (fun c => isCode c || c.before args0 about1) = true := by decide +kernel
set_option maxRecDepth 65536 in
theorem w_t7 : (((((((words1.drop 24).drop 24).drop 24).drop 24).drop 24).drop 24).take 24).all (fun c => isCode c || c.before args0 about1) = true := by decide +kernel
set_option maxRecDepth 65536 in
theorem w_t8 : ((((((((words1.drop 24).drop 24).drop 24).drop 24).drop 24).drop 24).drop 24).take 24).all (fun c => isCode c || c.before args0 about1) = true := by decide +kernel
set_option maxRecDepth 65536 in
theorem w_t9 : ((((((((words1.drop 24).drop 24).drop 24).drop 24).drop 24).drop 24).drop 24).drop 24).all (fun c => isCode c || c.before args0 about1) = true := by decide +kernel
theorem w_tables : (allAtoms (Jvm.Cond.code x code maxLocals ret :: tables_1)).before args0 about1 = true := by
  rw [allAtoms_all]
  show words1.all (fun c => c.before args0 about1) = true
  refine all_split ?_ w_codes
  rw [← List.take_append_drop 24 words1, List.all_append, w_t1, ← List.take_append_drop 24 (words1.drop 24), List.all_append, w_t2, ← List.take_append_drop 24 ((words1.drop 24).drop 24), List.all_append, w_t3, ← List.take_append_drop 24 (((words1.drop 24).drop 24).drop 24), List.all_append, w_t4, ← List.take_append_drop 24 ((((words1.drop 24).drop 24).drop 24).drop 24), List.all_append, w_t5, ← List.take_append_drop 24 (((((words1.drop 24).drop 24).drop 24).drop 24).drop 24), List.all_append, w_t6, ← List.take_append_drop 24 ((((((words1.drop 24).drop 24).drop 24).drop 24).drop 24).drop 24), List.all_append, w_t7, ← List.take_append_drop 24 (((((((words1.drop 24).drop 24).drop 24).drop 24).drop 24).drop 24).drop 24), List.all_append, w_t8, w_t9]
  rfl
set_option maxRecDepth 65536 in
theorem w_rest : rest_1_c.before args0 about1 = true := by decide +kernel
set_option maxRecDepth 65536 in
theorem w_case : (Jvm.Cond.and given_1 narrow_1).before args0 about1 = true := by decide +kernel
set_option maxRecDepth 65536 in
theorem w_consts : constsHeld consts_1 about1 := Jvm.Lit.constsHeldB_iff.mp (by decide +kernel)
theorem w_applies : (headSpec (Jvm.Cond.code x code maxLocals ret :: tables_1) room_1).applies x e0.platform about1 = true :=
  (Spec.applies_iff w_frames).mpr ⟨w_running, w_runnable, w_alone, w_named, w_hears, w_ripe, w_room, w_tables⟩
theorem atStart : AtStart classFile x code maxLocals ret World_1 tables_1 room_1 Calls_1 rest_1 Pre_1 launch0 p0 e0 about1 theMethod args0 below0 :=
  ⟨lists_1, trivial, launch0.admits_env _ _ _, launch0.least_env, fairChoices_fair.cas, fairChoices_fair.clock, w_frames, w_args, w_heap, w_applies, ⟨w_consts, trivial⟩, w_rest, w_case⟩
end start1
theorem witness_1 : WitnessClaimed_1 := ⟨start1.p0, start1.e0, start1.about1, start1.theMethod, start1.args0, start1.below0, start1.atStart⟩
end Jvm.Pilot.@@N@@
