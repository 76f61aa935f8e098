import JvmDerived
import JvmDerived.Pilot.@@N@@Statement
import JvmDerived.Pilot.@@N@@Code
set_option linter.unusedVariables false
set_option linter.unusedSimpArgs false
namespace Jvm.RoadKit
open Sem ClassFile Op Lib Jvm.Stand Jvm.Free Jvm.LawKit
section New
variable {p : Program} {l : Launch} {e : Env} {R : Room} {s : State} {m : MethodId} {args : Array Value} {below : List Frame} {meth : Method} {c : Code} {T : State} {locs : List Loc} {cells slots : Nat}
theorem retI (X : Stand p l e R s m args below meth c T locs cells slots) (hx : p.tables.exec = Jvm.exec) {pc : Nat} {Ls : Array Slot} {z : Int32} {rest : List Value} (hret : meth.sig.returnType = some .int) (hd : decode c.code pc = .ok (.ireturn, 1)) {fs : List Frame}
    (hl : ∀ (f : JFrame) (acts : List Action), f.method = m → f.locked = none → f.entered = [] → (doReturn e (T.setTop f) acts (some (.int z))).1 = T.setFrames fs) : Steps p.tables e below (T.setTop (mkF m pc Ls (.int z :: rest))) (T.setFrames fs) := by
  have hm' : T.vm.method? m = some meth := X.method'
  have hn : narrow .int (.int z) = .int z := rfl
  show Steps p.tables e below (T.setTop { method := m, pc := pc, locals := Ls, stack := _ :: rest, locked := none }) _
  jvm_step X.here [X.here.top, hx, hd, hm', hret, hn]
  first | (intro acts; rw [hl _ acts rfl rfl rfl]) | rw [hl _ _ rfl rfl rfl]
  exact Steps.refl _
/-- what is left of a walk: from S the run comes to its end, and Q is said of that -/
def OwnGo (p : Program) (e : Env) (below : List Frame) (s : State) (Q : Option Value → Heap → List Loc → Prop) (k n : Nat) (S : State) : Prop :=
  ∃ s₂ o, Steps p.tables e below S s₂ ∧ s₂.status = .running ∧ Ended s₂ below o ∧ ∃ v L, o = .returned v ∧ Q v s₂.heap L ∧ FrameEnd s o s₂ L k n
theorem gs {Q : Option Value → Heap → List Loc → Prop} {k n : Nat} {S S' : State} (f : ∀ t, Steps p.tables e below S' t → Steps p.tables e below S t) (h : OwnGo p e below s Q k n S') : OwnGo p e below s Q k n S := by
  obtain ⟨s₂, o, h1, r⟩ := h; exact ⟨s₂, o, f _ h1, r⟩
theorem gout {Q : Option Value → Heap → List Loc → Prop} {k n : Nat} {S : State} (X : Stand p l e R s m args below meth c T locs cells slots) (hlk : meth.locks = false) {v : Option Value} (hv : meth.sig.returnType = none → v = none) (hk : cells ≤ k) (hn : slots ≤ n) (hq : Q v T.heap locs)
    (st : ∀ fs, (∀ (f : JFrame) (acts : List Action), f.method = m → f.locked = none → f.entered = [] → (doReturn e (T.setTop f) acts v).1 = T.setFrames fs) → Steps p.tables e below S (T.setFrames fs)) : OwnGo p e below s Q k n S := by
  obtain ⟨fs, hr, hrun, hended, hW, hsame⟩ := X.leave (v := v) hv hlk
  exact ⟨_, _, st fs hr, hrun, hended, v, _, rfl, hq, ⟨v, rfl⟩, hW, hsame.mono hk hn⟩
/-- .. where String constants may be loaded on the way -/
def OwnGoW (p : Program) (e : Env) (below : List Frame) (s : State) (Z : State) (EL : List (String × Nat)) (Q : Option Value → Heap → List Loc → Prop) (k n : Nat) (S : State) : Prop :=
  ∃ s₂ o, Steps p.tables e below S s₂ ∧ s₂.status = .running ∧ Ended s₂ below o ∧ ∃ v L, o = .returned v ∧ Q v s₂.heap L ∧ CHr Z EL s.vm s.heap s₂.vm s₂.heap ∧ ReturnedEndW s o s₂ L k n
theorem gsW {Z : State} {EL : List (String × Nat)} {Q : Option Value → Heap → List Loc → Prop} {k n : Nat} {S S' : State} (f : ∀ t, Steps p.tables e below S' t → Steps p.tables e below S t) (h : OwnGoW p e below s Z EL Q k n S') : OwnGoW p e below s Z EL Q k n S := by
  obtain ⟨s₂, o, h1, r⟩ := h; exact ⟨s₂, o, f _ h1, r⟩
theorem goutW {Z : State} {a0 : Array Value} {EL : List (String × Nat)} {Q : Option Value → Heap → List Loc → Prop} {k n k0 : Nat} {S : State} {vm1 : Vm} {h0 h : Heap} (X : Stand p l e R (s.setVm vm1) m args below meth c T locs cells slots) (hS : s.Since vm1 k0) (hkk : k0 ≤ h.size) (hZ : Z.Warmed39 (s.setVm vm1).vm) (hEL : EW Z a0 EL) (hh : s.heap = h0) (eT : T.heap = h) (hR : CHr Z EL s.vm h0 vm1 h)
    (hlk : meth.locks = false) {v : Option Value} (hv : meth.sig.returnType = none → v = none) (hk : cells ≤ k) (hn : slots ≤ n) (hq : Q v h locs)
    (st : ∀ fs, (∀ (f : JFrame) (acts : List Action), f.method = m → f.locked = none → f.entered = [] → (doReturn e (T.setTop f) acts v).1 = T.setFrames fs) → Steps p.tables e below S (T.setFrames fs)) : OwnGoW p e below s Z EL Q k n S := by
  subst eT hh
  obtain ⟨fs, hr, hrun, hended, hE⟩ := X.leaveW hS hkk (v := v) hv hlk
  exact ⟨_, _, st fs hr, hrun, hended, v, _, rfl, hq, hR.trans (show CHr Z EL vm1 T.heap T.vm T.heap from CHv.at X hZ hEL hR.1), hE.1, hE.2.1, hE.2.2.1, hE.2.2.2.mono hk hn⟩
end New
def CtrW (l : Launch) (Z : State) (EL : List (String × Nat)) (y : MethodName) (bytes : ByteArray) (maxL : Nat) (ret : Option FieldType) (ws : List Jvm.Cond) (R : Room) (as' : Array Value) (h0 : Heap) (Q : Option Value → Heap → List Loc → Prop) : Prop :=
  MetFree l y (head1 (Jvm.Cond.code y bytes maxL ret :: ws) R) (fun a U => a = as' ∧ Z.Warmed39 U.vm ∧ U.heap = h0 ∧ CHv Z EL U.vm h0) (fun _ _ _ _ _ => True) (fun _ U o U' => ∃ v L, o = .returned v ∧ Q v U'.heap L ∧ CHr Z EL U.vm U.heap U'.vm U'.heap ∧ ReturnedEndW U o U' L R.cells R.slots)
/-- a method's contract -/
def Ctr (l : Launch) (Z : State) (y : MethodName) (bytes : ByteArray) (maxL : Nat) (ret : Option FieldType) (ws : List Jvm.Cond) (R : Room) (as' : Array Value) (h0 : Heap) (Q : Option Value → Heap → List Loc → Prop) : Prop :=
  MetFree l y (head1 (Jvm.Cond.code y bytes maxL ret :: ws) R) (fun a U => a = as' ∧ Z.Warmed39 U.vm ∧ U.heap = h0) (fun _ _ _ _ _ => True) (fun _ U o U' => ∃ v L, o = .returned v ∧ Q v U'.heap L ∧ FrameEnd U o U' L R.cells R.slots)
section Own
variable {p : Program} {l : Launch} {e : Env} {R : Room} {s Z : State} {args a0 : Array Value} {below : List Frame} {y : MethodName} {bytes : ByteArray} {maxL : Nat} {ret : Option FieldType} {rm : Room} {len W : Nat} {as' : Array Value} {h : Heap} {Q : Option Value → Heap → List Loc → Prop} {EL : List (String × Nat)} {vm0 : Vm} {ws : List Jvm.Cond}
theorem Ctr.of (hM : MetFree l y (head1 (Jvm.Cond.code y bytes maxL ret :: ws) R) (fun a U => a = as' ∧ Z.Warmed39 U.vm ∧ U.heap = h) (fun _ _ _ _ _ => True) (fun _ U o U' => ∃ v L, o = .returned v ∧ Q v U'.heap L ∧ FrameEnd U o U' L R.cells R.slots)) : Ctr l Z y bytes maxL ret ws R as' h Q := hM
theorem CtrW.of (hM : MetFree l y (head1 (Jvm.Cond.code y bytes maxL ret :: ws) R) (fun a U => a = as' ∧ Z.Warmed39 U.vm ∧ U.heap = h ∧ CHv Z EL U.vm h) (fun _ _ _ _ _ => True) (fun _ U o U' => ∃ v L, o = .returned v ∧ Q v U'.heap L ∧ CHr Z EL U.vm U.heap U'.vm U'.heap ∧ ReturnedEndW U o U' L R.cells R.slots)) : CtrW l Z EL y bytes maxL ret ws R as' h Q := hM
theorem backC (hM : Ctr l Z y bytes maxL ret [] rm as' h Q) (hZ : Z.Warmed39 s.vm) (wc : (Cond.code y bytes maxL ret).before a0 Z = true) (wz : (Cond.initialized y.cls).before a0 Z = true) (hf : rm.frames + 1 ≤ R.frames) (hl : W + (maxL + 11) + rm.locals ≤ R.locals) :
    Back l R p e below s args y len W (fun A a => a = as' ∧ A.U.heap = h ∧ A.cells + rm.cells ≤ R.cells ∧ A.slots + rm.slots ≤ R.slots)
      (fun A _ v B => ∃ L, Q v B.U.heap L ∧ B.locs = A.locs ++ L ∧ B.cells = A.cells + rm.cells ∧ B.slots = A.slots + rm.slots) := backOf (Q := Q) hM hZ wc wz hf hl
theorem backCW (hM : CtrW l Z EL y bytes maxL ret [] rm as' h Q) (hZ : Z.Warmed39 vm0) (wc : (Cond.code y bytes maxL ret).before a0 Z = true) (wz : (Cond.initialized y.cls).before a0 Z = true) (hf : rm.frames + 1 ≤ R.frames) (hl : W + (maxL + 11) + rm.locals ≤ R.locals) (hEL : EW Z a0 EL) (H : CHv Z EL vm0 h) :
    BackS l R p e below (s.setVm vm0) args y len W (fun A a => a = as' ∧ A.U.heap = h ∧ A.cells + rm.cells ≤ R.cells ∧ A.slots + rm.slots ≤ R.slots)
      (fun A _ v B => ∃ L, Q v B.U.heap L ∧ B.locs = A.locs ++ L ∧ B.cells = A.cells + rm.cells ∧ B.slots = A.slots + rm.slots ∧ CHr Z EL vm0 h B.U.vm B.U.heap) := backOfSH (Q := Q) hM hZ wc wz hf hl hEL H
theorem Ctr.go {h0 : Heap} (hp : plainFor y = true) (H : ∀ (p : Program) (e : Env) (s : State) (m : MethodId) (below : List Frame) (meth : Method) (c : Code) (s₁ : State), BodyLoose p l y (head1 (Jvm.Cond.code y bytes maxL ret :: ws) R) bytes maxL ret e s m as' below meth c s₁ → p.tables.exec = Jvm.exec → c.code = bytes → c.maxLocals = maxL → Z.Warmed39 s.vm → s.vm.findClass y.cls = some m.cls → meth.name = y.name → Stand p l e R s m as' below meth c s₁ [] 0 0 → s₁.heap = h0 → OwnGo p e below s Q R.cells R.slots (s₁.setTop (entryFrame m as' maxL))) : Ctr l Z y bytes maxL ret ws R as' h0 Q := by
  refine Ctr.of (MetFree.of_bodySF hp hisR ?_)
  intro p e s m args below meth c s₁ Bd hml0 hP hK
  obtain ⟨rfl, hZ, hh⟩ := hP
  exact H p e s m below meth c s₁ Bd Bd.exec Bd.bytes hml0 hZ (findClass_of_methodNamed Bd.named) (name_of_methodNamed Bd.named Bd.method).1 (Stand.of_body Bd) (by rw [← hh, Bd.state]; rfl)
end Own
end Jvm.RoadKit
/- laws to paste: Road.backV, Road.lenW, Road.codOf (cut by pick.py; bodies as the Statement names them) -/
namespace Jvm.Pilot.@@N@@
namespace StrChars
open Jvm Sem ClassFile Op Lib Jvm.Stand Jvm.Free.XT Jvm.Free.ALB Jvm.Free.JM Jvm.Free
open Jvm.Lib.Cold (StaticIs)
/-- a char array whose places are chars -/
def Ch (a : Addr) (A : Cell) (U : State) : Prop := Arr .char a A U ∧ Typed .char A
theorem Ch.mv {a : Addr} {A : Cell} {U U' : State} (h : Ch a A U) (hal : U.vm.Alike U'.vm) (hh : U'.heap = U.heap) : Ch a A U' := ⟨h.1.mv hal hh, h.2⟩
theorem Ch.keep {a : Addr} {A : Cell} {U U' : State} (h : Ch a A U) (hal : U.vm.Alike U'.vm) (hk : U'.heap[a]? = some A) : Ch a A U' := ⟨h.1.keep hal hk, h.2⟩
/-- what place i of a char[]'s cell holds -/
def cv (A : Cell) (i : Nat) : Int32 := match A.slots[i]? with | some (.int x) => x | _ => 0
theorem Ch.get {a : Addr} {A : Cell} {U : State} (h : Ch a A U) {i : Nat} (hi : i < A.slots.size) : A.slots[i]? = some (.int (cv A i)) := by
  have e := Array.getElem?_eq_getElem hi
  have f := h.2 i _ e
  unfold cv; rw [e]
  generalize A.slots[i] = v at f
  cases v <;> simp [fits] at f ⊢
/-- the byte that i2b leaves of a char -/
def lo8 (x : Int32) : Int32 := x.toInt8.toInt32
theorem fits_lo8 (y : Int32) : fits .byte (.int (lo8 y)) = true := by
  have h1 := y.toInt8.le_toInt
  have h2 := y.toInt8.toInt_lt
  simp only [lo8, fits, Bool.and_eq_true, decide_eq_true_eq, Int32.le_iff_toInt_le, Int8.toInt_toInt32, show (-128 : Int32).toInt = -128 from by decide, show (127 : Int32).toInt = 127 from by decide]
  omega
/-- A' is A but that each place j of lo .. hi - 1 holds f j -/
def Laid (A A' : Cell) (lo hi : Nat) (f : Nat → Value) : Prop := A'.cls = A.cls ∧ A'.vm = A.vm ∧ A'.slots.size = A.slots.size ∧ ∀ i, A'.slots[i]? = if lo ≤ i ∧ i < hi then some (f i) else A.slots[i]?
theorem Laid.zero (A : Cell) (lo : Nat) (f : Nat → Value) : Laid A A lo (lo + 0) f := ⟨rfl, rfl, rfl, fun i => by rw [if_neg (by omega)]⟩
theorem Laid.step {A Ak : Cell} {lo k : Nat} {f : Nat → Value} {v : Value} (h : Laid A Ak lo k f) (hlo : lo ≤ k) (hk : k < Ak.slots.size) (hv : v = f k) : Laid A (Ak.setSlot k v) lo (k + 1) f := by
  refine ⟨h.1, h.2.1, by simpa [Cell.setSlot] using h.2.2.1, fun i => ?_⟩
  by_cases e : k = i
  · subst e; rw [Cell.slots_setSlot_self v hk, if_pos (by omega), hv]
  · rw [Cell.slots_setSlot_ne v e, h.2.2.2 i]
    by_cases q : lo ≤ i ∧ i < k
    · rw [if_pos q, if_pos (by omega)]
    · rw [if_neg q, if_neg (by omega)]
def U16 : String := "java/lang/StringUTF16"
namespace Cmp5
def yN : MethodName := ⟨"java/lang/StringUTF16", "compress", "([CI[BII)I"⟩
abbrev yB : ByteArray := jdk_52_method_21_code
theorem d0 : decode yB 0 = .ok (.iconst 0, 1) := by decide +kernel
theorem d1 : decode yB 1 = .ok (.istore 5, 2) := by decide +kernel
theorem d3 : decode yB 3 = .ok (.iload 5, 2) := by decide +kernel
theorem d5 : decode yB 5 = .ok (.iload 4, 2) := by decide +kernel
theorem d7 : decode yB 7 = .ok (.if_icmp (.ge) 37, 3) := by decide +kernel
theorem d10 : decode yB 10 = .ok (.aload_n 0, 1) := by decide +kernel
theorem d11 : decode yB 11 = .ok (.iload_n 1, 1) := by decide +kernel
theorem d12 : decode yB 12 = .ok (.caload, 1) := by decide +kernel
theorem d13 : decode yB 13 = .ok (.istore 6, 2) := by decide +kernel
theorem d15 : decode yB 15 = .ok (.iload 6, 2) := by decide +kernel
theorem d17 : decode yB 17 = .ok (.sipush 255, 3) := by decide +kernel
theorem d20 : decode yB 20 = .ok (.if_icmp (.le) 6, 3) := by decide +kernel
theorem d26 : decode yB 26 = .ok (.aload_n 2, 1) := by decide +kernel
theorem d27 : decode yB 27 = .ok (.iload_n 3, 1) := by decide +kernel
theorem d28 : decode yB 28 = .ok (.iload 6, 2) := by decide +kernel
theorem d30 : decode yB 30 = .ok (.i2b, 1) := by decide +kernel
theorem d31 : decode yB 31 = .ok (.bastore, 1) := by decide +kernel
theorem d32 : decode yB 32 = .ok (.iinc 1 1, 3) := by decide +kernel
theorem d35 : decode yB 35 = .ok (.iinc 3 1, 3) := by decide +kernel
theorem d38 : decode yB 38 = .ok (.iinc 5 1, 3) := by decide +kernel
theorem d41 : decode yB 41 = .ok (.goto (-38), 3) := by decide +kernel
theorem d44 : decode yB 44 = .ok (.iload 4, 2) := by decide +kernel
theorem d46 : decode yB 46 = .ok (.ireturn, 1) := by decide +kernel
def site : List Cond := []
def tab : Cond := tabOf yN yB 7 (some .int) site
def P (b : Addr) (A : Cell) (d : Addr) (B : Cell) (o q len : Nat) (args : Array Value) (s : State) : Prop := args = #[.ref b, .int (Int32.ofNat o), .ref d, .int (Int32.ofNat q), .int (Int32.ofNat len)] ∧ Ch b A s ∧ Arr .byte d B s ∧ b ≠ d ∧ o + len ≤ A.slots.size ∧ q + len ≤ B.slots.size ∧ ∀ i, i < len → ¬ 255 < cv A (o + i)
def E (b : Addr) (A : Cell) (d : Addr) (B : Cell) (o q len : Nat) (r : Option Value) (s u : State) : Prop := r = some (.int (Int32.ofNat len)) ∧ ∃ B', Put d B' s u ∧ Laid B B' q (q + len) (fun j => Value.int (lo8 (cv A (o + (j - q)))))
/-- no char of the range above 255: len; the places written hold each char's low byte -/
theorem law (l : Launch) (b : Addr) (A : Cell) (d : Addr) (B : Cell) (o q len : Nat) : Law l yN 5 5 0 0 yB 7 (some .int) site (P b A d B o q len) (E b A d B o q len) (copyLocs d q len) 0 0 := by
  refine Law.of_walk (plainFor_of_name (by decide +kernel)) (by decide +kernel) (by decide +kernel) (by decide) (fun _ _ h => by rw [h.1]; rfl) (fun _ U U' hal hh h => ⟨h.1, h.2.1.mv hal hh, h.2.2.1.mv hal hh, h.2.2.2⟩) (fun r U U' V V' h1 hal h2 h => ⟨h.1, h.2.elim fun B' q => ⟨B', q.1.mv h1 h2, q.2⟩⟩) ?_
  intro p e s m args below meth c s₁ X0 hexec hbytes hml hret hlk hnm hown hh0 W hP
  obtain ⟨rfl, hA, hB, hne, l1, l2, hp⟩ := hP
  have c1 : Steps p.tables e below (s₁.setTop (entryFrame m #[.ref b, .int (Int32.ofNat o), .ref d, .int (Int32.ofNat q), .int (Int32.ofNat len)] 7)) (s₁.setTop (mkF m 0 #[.val (.ref b), .val (.int (Int32.ofNat o)), .val (.ref d), .val (.int (Int32.ofNat q)), .val (.int (Int32.ofNat len)), .unset, .unset] [])) := entry rfl
  have hA0 := hA.1.mv X0.warmed.alike hh0
  have hB0 := hB.mv X0.warmed.alike hh0
  have a31 := hA.1.2.2.2
  have c2 : Steps p.tables e below (s₁.setTop (entryFrame m #[.ref b, .int (Int32.ofNat o), .ref d, .int (Int32.ofNat q), .int (Int32.ofNat len)] 7)) (s₁.setTop (mkF m 3 #[.val (.ref b), .val (.int (Int32.ofNat o)), .val (.ref d), .val (.int (Int32.ofNat q)), .val (.int (Int32.ofNat len)), .val (.int 0), .unset] [])) := c1.trans (by
    refine iconstV X0.here hexec rfl 0 (hb hbytes d0) (by decide) ?_
    refine XS.istore X0.here hexec rfl (hb hbytes d1) rfl rfl ?_
    exact Steps.refl _)
  have loop : ∀ (r i : Nat), i + r = len → ∀ (z : Slot), (z = .unset ∨ ∃ w, z = .val w ∧ w.category = 1) → ∀ (Tl : State) (Bk : Cell), Stand p l e { frames := 0, locals := 0, cells := 0, slots := 0 } s m #[.ref b, .int (Int32.ofNat o), .ref d, .int (Int32.ofNat q), .int (Int32.ofNat len)] below meth c Tl ([] ++ copyLocs d q i) 0 0 → Put d Bk s₁ Tl → Laid B Bk q (q + i) (fun j => Value.int (lo8 (cv A (o + (j - q))))) →
      Steps p.tables e below (s₁.setTop (entryFrame m #[.ref b, .int (Int32.ofNat o), .ref d, .int (Int32.ofNat q), .int (Int32.ofNat len)] 7)) (Tl.setTop (mkF m 3 #[.val (.ref b), .val (.int (Int32.ofNat (o + i))), .val (.ref d), .val (.int (Int32.ofNat (q + i))), .val (.int (Int32.ofNat len)), .val (.int (Int32.ofNat i)), z] [])) → ∃ (T' : State) (B' : Cell) (z' : Slot), Stand p l e { frames := 0, locals := 0, cells := 0, slots := 0 } s m #[.ref b, .int (Int32.ofNat o), .ref d, .int (Int32.ofNat q), .int (Int32.ofNat len)] below meth c T' ([] ++ copyLocs d q len) 0 0 ∧ Put d B' s₁ T' ∧ Laid B B' q (q + len) (fun j => Value.int (lo8 (cv A (o + (j - q))))) ∧
      Steps p.tables e below (s₁.setTop (entryFrame m #[.ref b, .int (Int32.ofNat o), .ref d, .int (Int32.ofNat q), .int (Int32.ofNat len)] 7)) (T'.setTop (mkF m 3 #[.val (.ref b), .val (.int (Int32.ofNat (o + len))), .val (.ref d), .val (.int (Int32.ofNat (q + len))), .val (.int (Int32.ofNat len)), .val (.int (Int32.ofNat len)), z'] [])) := by
    intro r
    induction r with
    | zero =>
      intro i hi z hz Tl Bk Xl pl fl cl
      have hil : i = len := by omega
      rw [hil] at Xl fl cl
      exact ⟨Tl, Bk, z, Xl, pl, fl, cl⟩
    | succ r ih =>
      intro i hi z hz Tl Bk Xl pl fl cl
      have all := X0.warmed.alike.symm.trans Xl.warmed.alike
      have hAl := hA0.keep all (pl.other hne hA0.1)
      have hBk := hB0.like all pl.1 fl.1 fl.2.1 fl.2.2.1
      have hlt : q + i < Bk.slots.size := by rw [fl.2.2.1]; omega
      have c3 : Steps p.tables e below (s₁.setTop (entryFrame m #[.ref b, .int (Int32.ofNat o), .ref d, .int (Int32.ofNat q), .int (Int32.ofNat len)] 7)) (Tl.setTop (mkF m 12 #[.val (.ref b), .val (.int (Int32.ofNat (o + i))), .val (.ref d), .val (.int (Int32.ofNat (q + i))), .val (.int (Int32.ofNat len)), .val (.int (Int32.ofNat i)), z] [.int (Int32.ofNat (o + i)), .ref b])) := cl.trans (by
        refine XS.iload Xl.here hexec rfl (hb hbytes d3) rfl ?_
        refine XS.iload Xl.here hexec rfl (hb hbytes d5) rfl ?_
        refine XS.icmpNo Xl.here hexec rfl (hb hbytes d7) rfl (ii_ge_f (lt32 (by omega) (by omega))) ?_
        refine XS.aloadN Xl.here hexec rfl (hb hbytes d10) rfl rfl ?_
        refine XS.iloadN Xl.here hexec rfl (hb hbytes d11) rfl ?_
        exact Steps.refl _)
      have c4 : Steps p.tables e below (s₁.setTop (entryFrame m #[.ref b, .int (Int32.ofNat o), .ref d, .int (Int32.ofNat q), .int (Int32.ofNat len)] 7)) (Tl.setTop (mkF m 13 #[.val (.ref b), .val (.int (Int32.ofNat (o + i))), .val (.ref d), .val (.int (Int32.ofNat (q + i))), .val (.int (Int32.ofNat len)), .val (.int (Int32.ofNat i)), z] [.int (cv A (o + i))])) := c3.trans (by
        refine Xl.aget hexec hAl rfl (hA.get (i := o + i) (by omega)) rfl rfl (hb hbytes d12) ?_
        exact Steps.refl _)
      have c5 : Steps p.tables e below (s₁.setTop (entryFrame m #[.ref b, .int (Int32.ofNat o), .ref d, .int (Int32.ofNat q), .int (Int32.ofNat len)] 7)) (Tl.setTop (mkF m 15 #[.val (.ref b), .val (.int (Int32.ofNat (o + i))), .val (.ref d), .val (.int (Int32.ofNat (q + i))), .val (.int (Int32.ofNat len)), .val (.int (Int32.ofNat i)), .val (.int (cv A (o + i)))] [])) := c4.trans (by
        refine XS.istoreS Xl.here hexec rfl (hb hbytes d13) rfl rfl hz ?_
        exact Steps.refl _)
      have c6 : Steps p.tables e below (s₁.setTop (entryFrame m #[.ref b, .int (Int32.ofNat o), .ref d, .int (Int32.ofNat q), .int (Int32.ofNat len)] 7)) (Tl.setTop (mkF m 31 #[.val (.ref b), .val (.int (Int32.ofNat (o + i))), .val (.ref d), .val (.int (Int32.ofNat (q + i))), .val (.int (Int32.ofNat len)), .val (.int (Int32.ofNat i)), .val (.int (cv A (o + i)))] [.int (lo8 (cv A (o + i))), .int (Int32.ofNat (q + i)), .ref d])) := c5.trans (by
        refine XS.iload Xl.here hexec rfl (hb hbytes d15) rfl ?_
        refine sipushV Xl.here hexec rfl 255 (hb hbytes d17) (by decide) ?_
        refine XS.icmpYes Xl.here hexec rfl (pc0 := 20) rfl (hb hbytes d20) rfl (ii_le_t (hp i (by omega))) (by decide) rfl ?_
        refine XS.aloadN Xl.here hexec rfl (hb hbytes d26) rfl rfl ?_
        refine XS.iloadN Xl.here hexec rfl (hb hbytes d27) rfl ?_
        refine XS.iload Xl.here hexec rfl (hb hbytes d28) rfl ?_
        refine i2b Xl.here hexec rfl (hb hbytes d30) rfl ?_
        exact Steps.refl _)
      obtain ⟨T7, X7, p7, st7⟩ := Xl.aput hexec hBk rfl hlt rfl (fits_lo8 (cv A (o + i))) (g := (mkF m 31 #[.val (.ref b), .val (.int (Int32.ofNat (o + i))), .val (.ref d), .val (.int (Int32.ofNat (q + i))), .val (.int (Int32.ofNat len)), .val (.int (Int32.ofNat i)), .val (.int (cv A (o + i)))] [.int (lo8 (cv A (o + i))), .int (Int32.ofNat (q + i)), .ref d])) rfl (rest := []) rfl (hb hbytes d31)
      have c8 : Steps p.tables e below (s₁.setTop (entryFrame m #[.ref b, .int (Int32.ofNat o), .ref d, .int (Int32.ofNat q), .int (Int32.ofNat len)] 7)) (T7.setTop (mkF m 32 #[.val (.ref b), .val (.int (Int32.ofNat (o + i))), .val (.ref d), .val (.int (Int32.ofNat (q + i))), .val (.int (Int32.ofNat len)), .val (.int (Int32.ofNat i)), .val (.int (cv A (o + i)))] [])) := c6.trans (st7 _ (Steps.refl _))
      have c9 : Steps p.tables e below (s₁.setTop (entryFrame m #[.ref b, .int (Int32.ofNat o), .ref d, .int (Int32.ofNat q), .int (Int32.ofNat len)] 7)) (T7.setTop (mkF m 3 #[.val (.ref b), .val (.int (Int32.ofNat (o + i) + 1)), .val (.ref d), .val (.int (Int32.ofNat (q + i) + 1)), .val (.int (Int32.ofNat len)), .val (.int (Int32.ofNat i + 1)), .val (.int (cv A (o + i)))] [])) := c8.trans (by
        refine iincV X7.here hexec rfl 1 (hb hbytes d32) (by decide) rfl rfl ?_
        refine iincV X7.here hexec rfl 1 (hb hbytes d35) (by decide) rfl rfl ?_
        refine iincV X7.here hexec rfl 1 (hb hbytes d38) (by decide) rfl rfl ?_
        refine XS.goto X7.here hexec rfl (pc0 := 41) rfl (hb hbytes d41) (by decide) rfl ?_
        exact Steps.refl _)
      have c10 : Steps p.tables e below (s₁.setTop (entryFrame m #[.ref b, .int (Int32.ofNat o), .ref d, .int (Int32.ofNat q), .int (Int32.ofNat len)] 7)) (T7.setTop (mkF m 3 #[.val (.ref b), .val (.int (Int32.ofNat (o + (i + 1)))), .val (.ref d), .val (.int (Int32.ofNat (q + (i + 1)))), .val (.int (Int32.ofNat len)), .val (.int (Int32.ofNat (i + 1))), .val (.int (cv A (o + i)))] [])) := by
        have := c9
        rw [succ32, succ32, succ32] at this
        exact this
      exact ih (i + 1) (by omega) _ (Or.inr ⟨_, rfl, rfl⟩) T7 _ (by rw [copyLocs_step, ← List.append_assoc]; exact X7) (pl.trans p7) (fl.step (by omega) hlt (by simp)) c10
  obtain ⟨T9, B9, z9, X9, p9, f9, g9⟩ := loop len 0 (by omega) .unset (Or.inl rfl) s₁ B (by simpa [copyLocs] using X0) ⟨hB0.1, fun _ _ => rfl, rfl⟩ (Laid.zero _ _ _) c2
  have c11 : Steps p.tables e below (s₁.setTop (entryFrame m #[.ref b, .int (Int32.ofNat o), .ref d, .int (Int32.ofNat q), .int (Int32.ofNat len)] 7)) (T9.setTop (mkF m 46 #[.val (.ref b), .val (.int (Int32.ofNat (o + len))), .val (.ref d), .val (.int (Int32.ofNat (q + len))), .val (.int (Int32.ofNat len)), .val (.int (Int32.ofNat len)), z9] [.int (Int32.ofNat len)])) := g9.trans (by
    refine XS.iload X9.here hexec rfl (hb hbytes d3) rfl ?_
    refine XS.iload X9.here hexec rfl (hb hbytes d5) rfl ?_
    refine XS.icmpYes X9.here hexec rfl (pc0 := 7) rfl (hb hbytes d7) rfl (ii_ge_t (nlt32 (by omega) (Nat.le_refl _))) (by decide) rfl ?_
    refine XS.iload X9.here hexec rfl (hb hbytes d44) rfl ?_
    exact Steps.refl _)
  exact ⟨T9, some (.int (Int32.ofNat len)), _, _, _, X9, by simp, rfl, rfl, (fun h => by cases h), ⟨rfl, B9, p9.from hh0, f9⟩, fun fs hl => c11.trans (X9.ireturnOut hexec hret rfl (Or.inl rfl) (hb hbytes d46) hl)⟩
end Cmp5
namespace Cmp3
def yN : MethodName := ⟨"java/lang/StringUTF16", "compress", "([CII)[B"⟩
abbrev yB : ByteArray := jdk_52_method_16_code
theorem d0 : decode yB 0 = .ok (.iload_n 2, 1) := by decide +kernel
theorem d1 : decode yB 1 = .ok (.newarray .byte, 2) := by decide +kernel
theorem d3 : decode yB 3 = .ok (.astore_n 3, 1) := by decide +kernel
theorem d4 : decode yB 4 = .ok (.aload_n 0, 1) := by decide +kernel
theorem d5 : decode yB 5 = .ok (.iload_n 1, 1) := by decide +kernel
theorem d6 : decode yB 6 = .ok (.aload_n 3, 1) := by decide +kernel
theorem d7 : decode yB 7 = .ok (.iconst 0, 1) := by decide +kernel
theorem d8 : decode yB 8 = .ok (.iload_n 2, 1) := by decide +kernel
theorem d9 : decode yB 9 = .ok (.invokestatic 115, 3) := by decide +kernel
theorem d12 : decode yB 12 = .ok (.istore 4, 2) := by decide +kernel
theorem d14 : decode yB 14 = .ok (.iload 4, 2) := by decide +kernel
theorem d16 : decode yB 16 = .ok (.iload_n 2, 1) := by decide +kernel
theorem d17 : decode yB 17 = .ok (.if_icmp (.eq) 40, 3) := by decide +kernel
theorem d57 : decode yB 57 = .ok (.aload_n 3, 1) := by decide +kernel
theorem d58 : decode yB 58 = .ok (.areturn, 1) := by decide +kernel
def site : List Cond := [.arrayClass .byte, Cmp5.tab] ++ staticW U16 115 Cmp5.yN
def tab : Cond := tabOf yN yB 6 (some (.array .byte)) site
def P (b : Addr) (A : Cell) (o len : Nat) (args : Array Value) (s : State) : Prop := args = #[.ref b, .int (Int32.ofNat o), .int (Int32.ofNat len)] ∧ Ch b A s ∧ o + len ≤ A.slots.size ∧ len ≤ 536870912 ∧ ∀ i, i < len → ¬ 255 < cv A (o + i)
def E (b : Addr) (A : Cell) (o len : Nat) (r : Option Value) (s u : State) : Prop := NewArr .byte "[B" len (fun j => .int (lo8 (cv A (o + j)))) r s u ∧ u.heap.size = s.heap.size + 1
/-- no char of the range above 255: a new byte[] of their low bytes -/
theorem law (l : Launch) (b : Addr) (A : Cell) (o len : Nat) : Law l yN 3 3 1 18 yB 6 (some (.array .byte)) site (P b A o len) (E b A o len) [] 1 len := by
  refine Law.of_walk (plainFor_of_name (by decide +kernel)) (by decide +kernel) (by decide +kernel) (by decide) (fun _ _ h => by rw [h.1]; rfl) (fun _ U U' hal hh h => ⟨h.1, h.2.1.mv hal hh, h.2.2⟩) (fun r U U' V V' h1 hal h2 h => ⟨NewArr.mv r U U' V V' h1 hal h2 h.1, by rw [h1, h2]; exact h.2⟩) ?_
  intro p e s m args below meth c s₁ X0 hexec hbytes hml hret hlk hnm hown hh0 W hP
  obtain ⟨rfl, hA, l1, l2, hp⟩ := hP
  have a31 := hA.1.2.2.2
  have c1 : Steps p.tables e below (s₁.setTop (entryFrame m #[.ref b, .int (Int32.ofNat o), .int (Int32.ofNat len)] 6)) (s₁.setTop (mkF m 0 #[.val (.ref b), .val (.int (Int32.ofNat o)), .val (.int (Int32.ofNat len)), .unset, .unset, .unset] [])) := entry rfl
  have c2 : Steps p.tables e below (s₁.setTop (entryFrame m #[.ref b, .int (Int32.ofNat o), .int (Int32.ofNat len)] 6)) (s₁.setTop (mkF m 1 #[.val (.ref b), .val (.int (Int32.ofNat o)), .val (.int (Int32.ofNat len)), .unset, .unset, .unset] [.int (Int32.ofNat len)])) := c1.trans (by
    refine XS.iloadN X0.here hexec rfl (hb hbytes d0) rfl ?_
    exact Steps.refl _)
  obtain ⟨T3, B3, X3, ba3, bs3, bv3, bh3, bf3, st3⟩ := X0.anew hexec (atype := .byte) (wk W (.arrayClass .byte)) rfl (by show len * 1 ≤ _; omega) (by omega) (g := (mkF m 1 #[.val (.ref b), .val (.int (Int32.ofNat o)), .val (.int (Int32.ofNat len)), .unset, .unset, .unset] [.int (Int32.ofNat len)])) rfl (hb hbytes d1) (rest := []) rfl (Nat.le_refl _) (by show 0 + len ≤ len; omega)
  rw [hh0] at ba3 st3
  have kp3 : XT.Kept s T3 := (XT.Kept.of_eq hh0).push bh3
  have hA3 := hA.keep X3.warmed.alike (kp3 _ _ hA.1.1)
  have hne : b ≠ s.heap.size := hA.1.ne
  have c4 : Steps p.tables e below (s₁.setTop (entryFrame m #[.ref b, .int (Int32.ofNat o), .int (Int32.ofNat len)] 6)) (T3.setTop (mkF m 3 #[.val (.ref b), .val (.int (Int32.ofNat o)), .val (.int (Int32.ofNat len)), .unset, .unset, .unset] [.ref s.heap.size])) := c2.trans (st3 _ (Steps.refl _))
  have c5 : Steps p.tables e below (s₁.setTop (entryFrame m #[.ref b, .int (Int32.ofNat o), .int (Int32.ofNat len)] 6)) (T3.setTop (mkF m 9 #[.val (.ref b), .val (.int (Int32.ofNat o)), .val (.int (Int32.ofNat len)), .val (.ref s.heap.size), .unset, .unset] [.int (Int32.ofNat len), .int 0, .ref s.heap.size, .int (Int32.ofNat o), .ref b])) := c4.trans (by
    refine XS.astoreN X3.here hexec rfl (hb hbytes d3) rfl rfl rfl ?_
    refine XS.aloadN X3.here hexec rfl (hb hbytes d4) rfl rfl ?_
    refine XS.iloadN X3.here hexec rfl (hb hbytes d5) rfl ?_
    refine XS.aloadN X3.here hexec rfl (hb hbytes d6) rfl rfl ?_
    refine iconstV X3.here hexec rfl 0 (hb hbytes d7) (by decide) ?_
    refine XS.iloadN X3.here hexec rfl (hb hbytes d8) rfl ?_
    exact Steps.refl _)
  obtain ⟨v6, T6, X6, E6, g6⟩ := X3.callS hexec (Cmp5.law l b A s.heap.size B3 o 0 len) hown (wks W (staticW U16 115 Cmp5.yN)) (wk W Cmp5.tab) (W := 0) (Nat.le_of_ble_eq_true rfl) (Nat.le_of_ble_eq_true rfl) (Nat.le_refl _) (by show 0 + len + 0 ≤ len; omega) (g := (mkF m 9 #[.val (.ref b), .val (.int (Int32.ofNat o)), .val (.int (Int32.ofNat len)), .val (.ref s.heap.size), .unset, .unset] [.int (Int32.ofNat len), .int (Int32.ofNat 0), .ref s.heap.size, .int (Int32.ofNat o), .ref b])) rfl (by rw [hml]; rfl) c5 (argsL := [.ref b, .int (Int32.ofNat o), .ref s.heap.size, .int (Int32.ofNat 0), .int (Int32.ofNat len)]) (rest := []) rfl rfl (by show 2 * 0 + 0 ≤ _; decide) (hb hbytes d9) (⟨rfl, hA3, ba3, hne, l1, by rw [bs3]; simp, hp⟩)
  obtain ⟨rfl, B6, p6, f6⟩ := E6
  have c7 : Steps p.tables e below (s₁.setTop (entryFrame m #[.ref b, .int (Int32.ofNat o), .int (Int32.ofNat len)] 6)) (T6.setTop (mkF m 12 #[.val (.ref b), .val (.int (Int32.ofNat o)), .val (.int (Int32.ofNat len)), .val (.ref s.heap.size), .unset, .unset] [.int (Int32.ofNat len)])) := g6
  have c8 : Steps p.tables e below (s₁.setTop (entryFrame m #[.ref b, .int (Int32.ofNat o), .int (Int32.ofNat len)] 6)) (T6.setTop (mkF m 58 #[.val (.ref b), .val (.int (Int32.ofNat o)), .val (.int (Int32.ofNat len)), .val (.ref s.heap.size), .val (.int (Int32.ofNat len)), .unset] [.ref s.heap.size])) := c7.trans (by
    refine XS.istore X6.here hexec rfl (hb hbytes d12) rfl rfl ?_
    refine XS.iload X6.here hexec rfl (hb hbytes d14) rfl ?_
    refine XS.iloadN X6.here hexec rfl (hb hbytes d16) rfl ?_
    refine XS.icmpYes X6.here hexec rfl (pc0 := 17) rfl (hb hbytes d17) rfl (ii_eq_t rfl) (by decide) rfl ?_
    refine XS.aloadN X6.here hexec rfl (hb hbytes d57) rfl rfl ?_
    exact Steps.refl _)
  have X8 := X6.wide (L' := []) (cells' := 1) (slots' := len) (fun x hx hlt => by
    simp only [List.nil_append, copyLocs, List.mem_map, List.mem_range] at hx
    obtain ⟨i, -, rfl⟩ := hx
    exact absurd hlt (Nat.lt_irrefl _)) (Nat.le_refl _) (by omega)
  exact ⟨T6, some (.ref s.heap.size), _, _, _, X8, rfl, rfl, rfl, (fun h => by cases h), ⟨⟨rfl, B6, ba3.like (X3.warmed.alike.symm.trans X6.warmed.alike) p6.1 f6.1 f6.2.1 f6.2.2.1, f6.2.1.trans bv3, by rw [X6.warmed.alike.findClass, f6.1]; exact bf3, by rw [f6.2.2.1, bs3]; simp, fun j hj => by rw [f6.2.2.2 j, if_pos (by omega)]; rfl, kp3.put p6 (Nat.le_refl _)⟩, by rw [p6.2.2, bh3, hh0]; simp⟩, fun fs hl => c8.trans (X8.areturnOut hexec rfl hret rfl (hb hbytes d58) hl)⟩
end Cmp3
namespace CodL
def yN : MethodName := ⟨"java/lang/StringUTF16", "coderFromArrayLen", "([BI)B"⟩
abbrev yB : ByteArray := jdk_52_method_15_code
theorem d0 : decode yB 0 = .ok (.iload_n 1, 1) := by decide +kernel
theorem d1 : decode yB 1 = .ok (.aload_n 0, 1) := by decide +kernel
theorem d2 : decode yB 2 = .ok (.arraylength, 1) := by decide +kernel
theorem d3 : decode yB 3 = .ok (.isub, 1) := by decide +kernel
theorem d4 : decode yB 4 = .ok (.bipush 31, 2) := by decide +kernel
theorem d6 : decode yB 6 = .ok (.iushr, 1) := by decide +kernel
theorem d7 : decode yB 7 = .ok (.i2b, 1) := by decide +kernel
theorem d8 : decode yB 8 = .ok (.ireturn, 1) := by decide +kernel
def site : List Cond := []
def tab : Cond := tabOf yN yB 2 (some .byte) site
def P (d : Addr) (B : Cell) (args : Array Value) (s : State) : Prop := args = #[.ref d, .int (Int32.ofNat B.slots.size)] ∧ Arr .byte d B s
def E (r : Option Value) (s u : State) : Prop := XT.PureE (some (.int 0)) r s u
/-- an array as long as the number of chars: LATIN1 -/
theorem law (l : Launch) (d : Addr) (B : Cell) : Law l yN 2 2 0 0 yB 2 (some .byte) site (P d B) E [] 0 0 := by
  refine Law.of_walk (plainFor_of_name (by decide +kernel)) (by decide +kernel) (by decide +kernel) (by decide) (fun _ _ h => by rw [h.1]; rfl) (fun _ U U' hal hh h => ⟨h.1, h.2.mv hal hh⟩) (fun r U U' V V' h1 hal h2 h => XT.PureE.mv r U U' V V' h1 hal h2 h) ?_
  intro p e s m args below meth c s₁ X0 hexec hbytes hml hret hlk hnm hown hh0 W hP
  obtain ⟨rfl, hB⟩ := hP
  have hB0 := hB.mv X0.warmed.alike hh0
  have c1 : Steps p.tables e below (s₁.setTop (entryFrame m #[.ref d, .int (Int32.ofNat B.slots.size)] 2)) (s₁.setTop (mkF m 0 #[.val (.ref d), .val (.int (Int32.ofNat B.slots.size))] [])) := entry rfl
  have c2 : Steps p.tables e below (s₁.setTop (entryFrame m #[.ref d, .int (Int32.ofNat B.slots.size)] 2)) (s₁.setTop (mkF m 2 #[.val (.ref d), .val (.int (Int32.ofNat B.slots.size))] [.ref d, .int (Int32.ofNat B.slots.size)])) := c1.trans (by
    refine XS.iloadN X0.here hexec rfl (hb hbytes d0) rfl ?_
    refine XS.aloadN X0.here hexec rfl (hb hbytes d1) rfl rfl ?_
    exact Steps.refl _)
  have c3 : Steps p.tables e below (s₁.setTop (entryFrame m #[.ref d, .int (Int32.ofNat B.slots.size)] 2)) (s₁.setTop (mkF m 8 #[.val (.ref d), .val (.int (Int32.ofNat B.slots.size))] [.int (lo8 (ushr (Int32.ofNat B.slots.size - Int32.ofNat B.slots.size) 31))])) := c2.trans (by
    refine X0.alen hexec hB0 rfl rfl (hb hbytes d2) ?_
    refine XS.isub X0.here hexec rfl (hb hbytes d3) rfl ?_
    refine bipushV X0.here hexec rfl 31 (hb hbytes d4) (by decide) ?_
    refine iushr X0.here hexec rfl (hb hbytes d6) rfl ?_
    refine i2b X0.here hexec rfl (hb hbytes d7) rfl ?_
    exact Steps.refl _)
  have e0 : lo8 (ushr (Int32.ofNat B.slots.size - Int32.ofNat B.slots.size) 31) = 0 := by rw [Int32.sub_self]; decide
  rw [e0] at c3
  exact ⟨s₁, some (.int 0), _, _, _, X0, rfl, rfl, rfl, (fun h => by cases h), ⟨rfl, hh0⟩, fun fs hl => c3.trans (X0.ireturnOut hexec hret rfl (Or.inr (Or.inr (Or.inl rfl))) (hb hbytes d8) hl)⟩
end CodL
/-- the String at a is Latin-1 over a new byte[] (the heap's one new cell): the low bytes of the len chars of A from o on; every cell but a is kept -/
def Got (a : Addr) (D : Cell) (fV fC : Field) (A : Cell) (o len : Nat) (r : Option Value) (s u : State) : Prop := r = none ∧ ∃ D' V : Cell, Blank "java/lang/String" a D' u ∧ Same D D' [fV.slot, fC.slot] ∧ D'.slots[fV.slot]? = some (.ref s.heap.size) ∧ D'.slots[fC.slot]? = some (.int 0) ∧ Arr .byte s.heap.size V u ∧ V.vm = .none ∧ u.vm.findClass "[B" = some V.cls ∧ V.slots.size = len ∧ (∀ j, j < len → V.slots[j]? = some (.int (lo8 (cv A (o + j))))) ∧ (∀ (y : Addr) (c : Cell), y ≠ a → s.heap[y]? = some c → u.heap[y]? = some c) ∧ u.heap.size = s.heap.size + 1
theorem Got.mv {a : Addr} {D A : Cell} {fV fC : Field} {o len : Nat} : ∀ r (U U' V V' : State), U'.heap = U.heap → V.vm.Alike V'.vm → V'.heap = V.heap → Got a D fV fC A o len r U V → Got a D fV fC A o len r U' V' :=
  fun r U U' V V' h1 hal h2 ⟨e0, D', X, a1, a2, a3, a4, a5, a6, a7, a8, a9, a10, a11⟩ => ⟨e0, D', X, a1.mv hal h2, a2, by rw [h1]; exact a3, a4, by rw [h1]; exact a5.mv hal h2, a6, by rw [hal.findClass]; exact a7, a8, a9, by rw [h1, h2]; exact a10, by rw [h1, h2]; exact a11⟩
namespace New4
def yN : MethodName := ⟨"java/lang/String", "<init>", "([CIILjava/lang/Void;)V"⟩
abbrev yB : ByteArray := jdk_42_method_149_code
theorem d0 : decode yB 0 = .ok (.aload_n 0, 1) := by decide +kernel
theorem d1 : decode yB 1 = .ok (.invokespecial 1, 3) := by decide +kernel
theorem d4 : decode yB 4 = .ok (.iload_n 3, 1) := by decide +kernel
theorem d5 : decode yB 5 = .ok (.ifCond (.ne) 22, 3) := by decide +kernel
theorem d27 : decode yB 27 = .ok (.getstatic 38, 3) := by decide +kernel
theorem d30 : decode yB 30 = .ok (.ifCond (.eq) 28, 3) := by decide +kernel
theorem d33 : decode yB 33 = .ok (.aload_n 1, 1) := by decide +kernel
theorem d34 : decode yB 34 = .ok (.iload_n 2, 1) := by decide +kernel
theorem d35 : decode yB 35 = .ok (.iload_n 3, 1) := by decide +kernel
theorem d36 : decode yB 36 = .ok (.invokestatic 177, 3) := by decide +kernel
theorem d39 : decode yB 39 = .ok (.astore 5, 2) := by decide +kernel
theorem d41 : decode yB 41 = .ok (.aload_n 0, 1) := by decide +kernel
theorem d42 : decode yB 42 = .ok (.aload 5, 2) := by decide +kernel
theorem d44 : decode yB 44 = .ok (.iload_n 3, 1) := by decide +kernel
theorem d45 : decode yB 45 = .ok (.invokestatic 47, 3) := by decide +kernel
theorem d48 : decode yB 48 = .ok (.putfield 15, 3) := by decide +kernel
theorem d51 : decode yB 51 = .ok (.aload_n 0, 1) := by decide +kernel
theorem d52 : decode yB 52 = .ok (.aload 5, 2) := by decide +kernel
theorem d54 : decode yB 54 = .ok (.putfield 9, 3) := by decide +kernel
theorem d57 : decode yB 57 = .ok (.return_, 1) := by decide +kernel
def site : List Cond := [.fieldLink "java/lang/String" 38 "java/lang/String" "COMPACT_STRINGS" "Z", Cmp3.tab, CodL.tab, .laysFinal "java/lang/String" "java/lang/String" "value" "[B", .fieldLink "java/lang/String" 9 "java/lang/String" "value" "[B", .laysFinal "java/lang/String" "java/lang/String" "coder" "B", .fieldLink "java/lang/String" 15 "java/lang/String" "coder" "B"] ++ objW "java/lang/String" 1 ++ staticW "java/lang/String" 177 Cmp3.yN ++ staticW "java/lang/String" 47 CodL.yN
def tab : Cond := tabOf yN yB 6 none site
def P (a : Addr) (D : Cell) (fV fC : Field) (b : Addr) (A : Cell) (z : Int32) (o len : Nat) (args : Array Value) (s : State) : Prop := args = #[.ref a, .ref b, .int (Int32.ofNat o), .int (Int32.ofNat len), .null] ∧ Blank "java/lang/String" a D s ∧ Found "java/lang/String" "value" "[B" fV s ∧ Found "java/lang/String" "coder" "B" fC s ∧ Ch b A s ∧ StaticIs s "java/lang/String" "COMPACT_STRINGS" "Z" (.int z) ∧ ¬ z = 0 ∧ 0 < len ∧ o + len ≤ A.slots.size ∧ len ≤ 536870912 ∧ ∀ i, i < len → ¬ 255 < cv A (o + i)
def E (a : Addr) (D : Cell) (fV fC : Field) (A : Cell) (o len : Nat) (r : Option Value) (s u : State) : Prop := Got a D fV fC A o len r s u
/-- len > 0, no char of the range above 255: a Latin-1 String of their low bytes -/
theorem law (l : Launch) (a : Addr) (D : Cell) (fV fC : Field) (b : Addr) (A : Cell) (z : Int32) (o len : Nat) : Law l yN 5 4 2 35 yB 6 none site (P a D fV fC b A z o len) (E a D fV fC A o len) [⟨a, fC.slot⟩, ⟨a, fV.slot⟩] 1 len := by
  refine Law.of_walk (plainFor_of_name (by decide +kernel)) (by decide +kernel) (by decide +kernel) (by decide) (fun _ _ h => by rw [h.1]; rfl) (fun _ U U' hal hh h => ⟨h.1, h.2.1.mv hal hh, h.2.2.1.al hal, h.2.2.2.1.al hal, h.2.2.2.2.1.mv hal hh, h.2.2.2.2.2.1.there hal hh, h.2.2.2.2.2.2⟩) (fun r U U' V V' h1 hal h2 h => Got.mv r U U' V V' h1 hal h2 h) ?_
  intro p e s m args below meth c s₁ X0 hexec hbytes hml hret hlk hnm hown hh0 W hP
  obtain ⟨rfl, hB, f1, f2, hA, s1, hz, l0, l1, l2, hp⟩ := hP
  have a31 := hA.1.2.2.2
  have c1 : Steps p.tables e below (s₁.setTop (entryFrame m #[.ref a, .ref b, .int (Int32.ofNat o), .int (Int32.ofNat len), .null] 6)) (s₁.setTop (mkF m 0 #[.val (.ref a), .val (.ref b), .val (.int (Int32.ofNat o)), .val (.int (Int32.ofNat len)), .val .null, .unset] [])) := entry rfl
  have c2 : Steps p.tables e below (s₁.setTop (entryFrame m #[.ref a, .ref b, .int (Int32.ofNat o), .int (Int32.ofNat len), .null] 6)) (s₁.setTop (mkF m 1 #[.val (.ref a), .val (.ref b), .val (.int (Int32.ofNat o)), .val (.int (Int32.ofNat len)), .val .null, .unset] [.ref a])) := c1.trans (by
    refine XS.aloadN X0.here hexec rfl (hb hbytes d0) rfl rfl ?_
    exact Steps.refl _)
  obtain ⟨T3, X3, q3, st3⟩ := X0.oinit hexec hown (wks W (objW "java/lang/String" 1)) (g := (mkF m 1 #[.val (.ref a), .val (.ref b), .val (.int (Int32.ofNat o)), .val (.int (Int32.ofNat len)), .val .null, .unset] [.ref a])) rfl (by rw [hml]; rfl) (rest := []) rfl (hb hbytes d1) (W := 0) (by show 2 * 0 + 0 ≤ _; decide) (Nat.le_of_ble_eq_true rfl) (Nat.le_of_ble_eq_true rfl)
  have hh3 := q3.trans hh0
  have c4 : Steps p.tables e below (s₁.setTop (entryFrame m #[.ref a, .ref b, .int (Int32.ofNat o), .int (Int32.ofNat len), .null] 6)) (T3.setTop (mkF m 27 #[.val (.ref a), .val (.ref b), .val (.int (Int32.ofNat o)), .val (.int (Int32.ofNat len)), .val .null, .unset] [])) := (c2.trans (st3 _ (Steps.refl _))).trans (by
    refine XS.iloadN X3.here hexec rfl (hb hbytes d4) rfl ?_
    refine XS.ifYes X3.here hexec rfl (pc0 := 5) rfl (hb hbytes d5) rfl (i0_ne_t (nz32 (by omega) l0)) (by decide) rfl ?_
    exact Steps.refl _)
  obtain ⟨T5, X5, q5, st5⟩ := X3.sget hexec hown (wk W (.fieldLink "java/lang/String" 38 "java/lang/String" "COMPACT_STRINGS" "Z")) s1 (fun _ _ h => by rw [hh3]; exact h) (g := (mkF m 27 #[.val (.ref a), .val (.ref b), .val (.int (Int32.ofNat o)), .val (.int (Int32.ofNat len)), .val .null, .unset] [])) rfl (hb hbytes d27)
  have hh5 := q5.trans hh3
  have c6 : Steps p.tables e below (s₁.setTop (entryFrame m #[.ref a, .ref b, .int (Int32.ofNat o), .int (Int32.ofNat len), .null] 6)) (T5.setTop (mkF m 30 #[.val (.ref a), .val (.ref b), .val (.int (Int32.ofNat o)), .val (.int (Int32.ofNat len)), .val .null, .unset] [.int z])) := c4.trans (st5 _ (Steps.refl _))
  have c7 : Steps p.tables e below (s₁.setTop (entryFrame m #[.ref a, .ref b, .int (Int32.ofNat o), .int (Int32.ofNat len), .null] 6)) (T5.setTop (mkF m 36 #[.val (.ref a), .val (.ref b), .val (.int (Int32.ofNat o)), .val (.int (Int32.ofNat len)), .val .null, .unset] [.int (Int32.ofNat len), .int (Int32.ofNat o), .ref b])) := c6.trans (by
    refine XS.ifNo X5.here hexec rfl (hb hbytes d30) rfl (i0_eq_f hz) ?_
    refine XS.aloadN X5.here hexec rfl (hb hbytes d33) rfl rfl ?_
    refine XS.iloadN X5.here hexec rfl (hb hbytes d34) rfl ?_
    refine XS.iloadN X5.here hexec rfl (hb hbytes d35) rfl ?_
    exact Steps.refl _)
  obtain ⟨v8, T8, X8, E8, g8⟩ := X5.callS hexec (Cmp3.law l b A o len) hown (wks W (staticW "java/lang/String" 177 Cmp3.yN)) (wk W Cmp3.tab) (W := 0) (Nat.le_of_ble_eq_true rfl) (Nat.le_of_ble_eq_true rfl) (Nat.le_refl _) (by show 0 + len ≤ len; omega) (g := (mkF m 36 #[.val (.ref a), .val (.ref b), .val (.int (Int32.ofNat o)), .val (.int (Int32.ofNat len)), .val .null, .unset] [.int (Int32.ofNat len), .int (Int32.ofNat o), .ref b])) rfl (by rw [hml]; rfl) c7 (argsL := [.ref b, .int (Int32.ofNat o), .int (Int32.ofNat len)]) (rest := []) rfl rfl (by show 2 * 0 + 0 ≤ _; decide) (hb hbytes d36) (⟨rfl, hA.mv X5.warmed.alike hh5, l1, l2, hp⟩)
  obtain ⟨e8, z8⟩ := E8
  obtain ⟨rfl, N, n1, n2, n3, n4, n5, n6⟩ := NewArr.mv _ T5 s _ _ hh5.symm (Vm.Alike.refl _) rfl e8
  rw [hh5] at z8
  have hB1 := hB.keep X8.warmed.alike (n6 _ _ hB.1)
  have hne : s.heap.size ≠ a := (Nat.ne_of_lt (Array.getElem?_eq_some_iff.mp hB.1).1).symm
  have c9 : Steps p.tables e below (s₁.setTop (entryFrame m #[.ref a, .ref b, .int (Int32.ofNat o), .int (Int32.ofNat len), .null] 6)) (T8.setTop (mkF m 39 #[.val (.ref a), .val (.ref b), .val (.int (Int32.ofNat o)), .val (.int (Int32.ofNat len)), .val .null, .unset] [.ref s.heap.size])) := g8
  have c10 : Steps p.tables e below (s₁.setTop (entryFrame m #[.ref a, .ref b, .int (Int32.ofNat o), .int (Int32.ofNat len), .null] 6)) (T8.setTop (mkF m 45 #[.val (.ref a), .val (.ref b), .val (.int (Int32.ofNat o)), .val (.int (Int32.ofNat len)), .val .null, .val (.ref s.heap.size)] [.int (Int32.ofNat N.slots.size), .ref s.heap.size, .ref a])) := by
    have hc : Steps p.tables e below (s₁.setTop (entryFrame m #[.ref a, .ref b, .int (Int32.ofNat o), .int (Int32.ofNat len), .null] 6)) (T8.setTop (mkF m 45 #[.val (.ref a), .val (.ref b), .val (.int (Int32.ofNat o)), .val (.int (Int32.ofNat len)), .val .null, .val (.ref s.heap.size)] [.int (Int32.ofNat len), .ref s.heap.size, .ref a])) := c9.trans (by
      refine XS.astore X8.here hexec rfl (hb hbytes d39) rfl rfl rfl ?_
      refine XS.aloadN X8.here hexec rfl (hb hbytes d41) rfl rfl ?_
      refine XS.aload X8.here hexec rfl (hb hbytes d42) rfl rfl ?_
      refine XS.iloadN X8.here hexec rfl (hb hbytes d44) rfl ?_
      exact Steps.refl _)
    rw [n4]; exact hc
  obtain ⟨v11, T11, X11, E11, g11⟩ := X8.callS hexec (CodL.law l s.heap.size N) hown (wks W (staticW "java/lang/String" 47 CodL.yN)) (wk W CodL.tab) (W := 1) (Nat.le_of_ble_eq_true rfl) (Nat.le_of_ble_eq_true rfl) (Nat.le_refl _) (by show 0 + len + 0 ≤ len; omega) (g := (mkF m 45 #[.val (.ref a), .val (.ref b), .val (.int (Int32.ofNat o)), .val (.int (Int32.ofNat len)), .val .null, .val (.ref s.heap.size)] [.int (Int32.ofNat N.slots.size), .ref s.heap.size, .ref a])) rfl (by rw [hml]; rfl) c10 (argsL := [.ref s.heap.size, .int (Int32.ofNat N.slots.size)]) (rest := [.ref a]) rfl rfl (by show 2 * 0 + (1 + 0) ≤ _; decide) (hb hbytes d45) (⟨rfl, n1⟩)
  obtain ⟨rfl, q11⟩ := E11
  have hB11 := hB1.mv (X8.warmed.alike.symm.trans X11.warmed.alike) q11
  have c12 : Steps p.tables e below (s₁.setTop (entryFrame m #[.ref a, .ref b, .int (Int32.ofNat o), .int (Int32.ofNat len), .null] 6)) (T11.setTop (mkF m 48 #[.val (.ref a), .val (.ref b), .val (.int (Int32.ofNat o)), .val (.int (Int32.ofNat len)), .val .null, .val (.ref s.heap.size)] [.int 0, .ref a])) := g11
  obtain ⟨T13, X13, p13, bl13, sl13, st13⟩ := X11.finit hexec hown (wk W (.fieldLink "java/lang/String" 15 "java/lang/String" "coder" "B")) (Or.inr ⟨_, (wk W (.laysFinal "java/lang/String" "java/lang/String" "coder" "B"))⟩) (Or.inl ⟨rfl, hnm⟩) f2 (Or.inl rfl) hB11 (t := .byte) (by decide +kernel) rfl (g := (mkF m 48 #[.val (.ref a), .val (.ref b), .val (.int (Int32.ofNat o)), .val (.int (Int32.ofNat len)), .val .null, .val (.ref s.heap.size)] [.int 0, .ref a])) rfl (rest := []) rfl (hb hbytes d48)
  have c14 : Steps p.tables e below (s₁.setTop (entryFrame m #[.ref a, .ref b, .int (Int32.ofNat o), .int (Int32.ofNat len), .null] 6)) (T13.setTop (mkF m 54 #[.val (.ref a), .val (.ref b), .val (.int (Int32.ofNat o)), .val (.int (Int32.ofNat len)), .val .null, .val (.ref s.heap.size)] [.ref s.heap.size, .ref a])) := (c12.trans (st13 _ (Steps.refl _))).trans (by
    refine XS.aloadN X13.here hexec rfl (hb hbytes d51) rfl rfl ?_
    refine XS.aload X13.here hexec rfl (hb hbytes d52) rfl rfl ?_
    exact Steps.refl _)
  obtain ⟨T15, X15, p15, bl15, sl15, st15⟩ := X13.finit hexec hown (wk W (.fieldLink "java/lang/String" 9 "java/lang/String" "value" "[B")) (Or.inr ⟨_, (wk W (.laysFinal "java/lang/String" "java/lang/String" "value" "[B"))⟩) (Or.inl ⟨rfl, hnm⟩) f1 (Or.inl rfl) bl13 (t := (.array .byte)) (by decide +kernel) rfl (g := (mkF m 54 #[.val (.ref a), .val (.ref b), .val (.int (Int32.ofNat o)), .val (.int (Int32.ofNat len)), .val .null, .val (.ref s.heap.size)] [.ref s.heap.size, .ref a])) rfl (rest := []) rfl (hb hbytes d54)
  have c16 : Steps p.tables e below (s₁.setTop (entryFrame m #[.ref a, .ref b, .int (Int32.ofNat o), .int (Int32.ofNat len), .null] 6)) (T15.setTop (mkF m 57 #[.val (.ref a), .val (.ref b), .val (.int (Int32.ofNat o)), .val (.int (Int32.ofNat len)), .val .null, .val (.ref s.heap.size)] [])) := c14.trans (st15 _ (Steps.refl _))
  have ap := apart (Or.inr ⟨_, (wk W (.laysFinal "java/lang/String" "java/lang/String" "value" "[B"))⟩) (Or.inr ⟨_, (wk W (.laysFinal "java/lang/String" "java/lang/String" "coder" "B"))⟩) f1 f2 (t₁ := .array .byte) (t₂ := .byte) (by decide +kernel) (by decide +kernel) (by decide)
  have al := X8.warmed.alike.symm.trans X15.warmed.alike
  have n7 : T11.heap[s.heap.size]? = some N := by rw [q11]; exact n1.1
  exact ⟨T15, none, _, _, _, X15, by simp, rfl, by omega, (fun _ => rfl), ⟨rfl, _, N, bl15, ((Same.refl D _).set _ (by simp)).set _ (by simp), sl15, (Cell.slots_setSlot_ne _ ap).trans sl13, n1.keep al (p15.other hne (p13.other hne n7)), n2, by rw [al.findClass]; exact n3, n4, n5, fun y c h1 h2 => p15.other h1 (p13.other h1 (by rw [q11]; exact n6 y c h2)), by rw [p15.2.2, p13.2.2, q11]; exact z8⟩, fun fs hl => c16.trans (X15.returnOut hexec hret (hb hbytes d57) hl)⟩
end New4
namespace New1
def yN : MethodName := ⟨"java/lang/String", "<init>", "([C)V"⟩
abbrev yB : ByteArray := jdk_42_method_3_code
theorem d0 : decode yB 0 = .ok (.aload_n 0, 1) := by decide +kernel
theorem d1 : decode yB 1 = .ok (.aload_n 1, 1) := by decide +kernel
theorem d2 : decode yB 2 = .ok (.iconst 0, 1) := by decide +kernel
theorem d3 : decode yB 3 = .ok (.aload_n 1, 1) := by decide +kernel
theorem d4 : decode yB 4 = .ok (.arraylength, 1) := by decide +kernel
theorem d5 : decode yB 5 = .ok (.aconst_null, 1) := by decide +kernel
theorem d6 : decode yB 6 = .ok (.invokespecial 27, 3) := by decide +kernel
theorem d9 : decode yB 9 = .ok (.return_, 1) := by decide +kernel
def site : List Cond := [New4.tab] ++ initW "java/lang/String" 27 New4.yN
def tab : Cond := tabOf yN yB 2 none site
def P (a : Addr) (D : Cell) (fV fC : Field) (b : Addr) (A : Cell) (z : Int32) (args : Array Value) (s : State) : Prop := args = #[.ref a, .ref b] ∧ Blank "java/lang/String" a D s ∧ Found "java/lang/String" "value" "[B" fV s ∧ Found "java/lang/String" "coder" "B" fC s ∧ Ch b A s ∧ StaticIs s "java/lang/String" "COMPACT_STRINGS" "Z" (.int z) ∧ ¬ z = 0 ∧ 0 < A.slots.size ∧ A.slots.size ≤ 536870912 ∧ ∀ i, i < A.slots.size → ¬ 255 < cv A i
def E (a : Addr) (D : Cell) (fV fC : Field) (A : Cell) (r : Option Value) (s u : State) : Prop := Got a D fV fC A 0 A.slots.size r s u
/-- new String(chars), not empty, no char above 255: a Latin-1 String of their low bytes -/
theorem law (l : Launch) (a : Addr) (D : Cell) (fV fC : Field) (b : Addr) (A : Cell) (z : Int32) : Law l yN 2 1 3 52 yB 2 none site (P a D fV fC b A z) (E a D fV fC A) [⟨a, fC.slot⟩, ⟨a, fV.slot⟩] 1 A.slots.size := by
  refine Law.of_walk (plainFor_of_name (by decide +kernel)) (by decide +kernel) (by decide +kernel) (by decide) (fun _ _ h => by rw [h.1]; rfl) (fun _ U U' hal hh h => ⟨h.1, h.2.1.mv hal hh, h.2.2.1.al hal, h.2.2.2.1.al hal, h.2.2.2.2.1.mv hal hh, h.2.2.2.2.2.1.there hal hh, h.2.2.2.2.2.2⟩) (fun r U U' V V' h1 hal h2 h => Got.mv r U U' V V' h1 hal h2 h) ?_
  intro p e s m args below meth c s₁ X0 hexec hbytes hml hret hlk hnm hown hh0 W hP
  obtain ⟨rfl, hB, f1, f2, hA, s1, hz, l0, l2, hp⟩ := hP
  have c1 : Steps p.tables e below (s₁.setTop (entryFrame m #[.ref a, .ref b] 2)) (s₁.setTop (mkF m 0 #[.val (.ref a), .val (.ref b)] [])) := entry rfl
  have c2 : Steps p.tables e below (s₁.setTop (entryFrame m #[.ref a, .ref b] 2)) (s₁.setTop (mkF m 6 #[.val (.ref a), .val (.ref b)] [.null, .int (Int32.ofNat A.slots.size), .int 0, .ref b, .ref a])) := c1.trans (by
    refine XS.aloadN X0.here hexec rfl (hb hbytes d0) rfl rfl ?_
    refine XS.aloadN X0.here hexec rfl (hb hbytes d1) rfl rfl ?_
    refine iconstV X0.here hexec rfl 0 (hb hbytes d2) (by decide) ?_
    refine XS.aloadN X0.here hexec rfl (hb hbytes d3) rfl rfl ?_
    refine X0.alen hexec (hA.1.mv X0.warmed.alike hh0) rfl rfl (hb hbytes d4) ?_
    refine XS.aconstNull X0.here hexec rfl (hb hbytes d5) ?_
    exact Steps.refl _)
  obtain ⟨v3, T3, X3, E3, g3⟩ := X0.callN hexec (New4.law l a D fV fC b A z 0 A.slots.size) rfl hown (wks W (initW "java/lang/String" 27 New4.yN)) (W New4.tab (by simp only [site, List.mem_cons, List.mem_append, true_or, or_true])) (W := 0) (Nat.le_of_ble_eq_true rfl) (Nat.le_of_ble_eq_true rfl) (Nat.le_refl _) (by show 0 + A.slots.size ≤ A.slots.size; omega) (g := (mkF m 6 #[.val (.ref a), .val (.ref b)] [.null, .int (Int32.ofNat A.slots.size), .int (Int32.ofNat 0), .ref b, .ref a])) rfl (by rw [hml]; rfl) c2 (argsL := [.ref b, .int (Int32.ofNat 0), .int (Int32.ofNat A.slots.size), .null]) (rest := []) rfl rfl (by show 2 * 0 + 0 ≤ _; decide) (hb hbytes d6) (⟨rfl, hB.mv X0.warmed.alike hh0, f1.al X0.warmed.alike, f2.al X0.warmed.alike, hA.mv X0.warmed.alike hh0, s1.there X0.warmed.alike hh0, hz, l0, by omega, l2, fun i hi => by rw [Nat.zero_add]; exact hp i hi⟩)
  have e0 := Got.mv _ s₁ s _ _ hh0.symm (Vm.Alike.refl _) rfl E3
  obtain rfl := e0.1
  have c4 : Steps p.tables e below (s₁.setTop (entryFrame m #[.ref a, .ref b] 2)) (T3.setTop (mkF m 9 #[.val (.ref a), .val (.ref b)] [])) := g3
  exact ⟨T3, none, _, _, _, X3, by simp, rfl, by omega, (fun _ => rfl), e0, fun fs hl => c4.trans (X3.returnOut hexec hret (hb hbytes d9) hl)⟩
theorem pays {l : Launch} {R : Room} {p : Program} {e : Env} {below : List Frame} {s : State} {sargs : Array Value} {len W : Nat} (a : Addr) (D : Cell) (fV fC : Field) (b : Addr) (A : Cell) (z : Int32) (htab : tab.before sargs s = true) (hfr : 4 ≤ R.frames) (hlo : W + 65 ≤ R.locals) :
    Back l R p e below s sargs yN len W (fun A₁ a₁ => A₁.cells + 1 ≤ R.cells ∧ A₁.slots + A.slots.size ≤ R.slots ∧ P a D fV fC b A z a₁ A₁.U) (fun A₁ _ v₁ B₁ => E a D fV fC A v₁ A₁.U B₁.U ∧ B₁.locs = A₁.locs ++ [⟨a, fC.slot⟩, ⟨a, fV.slot⟩] ∧ B₁.cells = A₁.cells + 1 ∧ B₁.slots = A₁.slots + A.slots.size) :=
  (law l a D fV fC b A z).pays htab hfr (by omega)
end New1
end StrChars
namespace StrChars.Road
open Jvm Sem ClassFile Op Lib Jvm.Stand Jvm.Free Jvm.Free.XT
open Jvm.Lib.Cold (StaticIs)
abbrev ST : String := "java/lang/String"
/-- every table word that New1's law asks, flat -/
abbrev words : List Jvm.Cond := [.code New1.yN New1.yB 2 none, .initialized ST, .methodLink ST 27 New4.yN, .instanceMethod New4.yN,
  .code New4.yN New4.yB 6 none, .fieldLink ST 38 ST "COMPACT_STRINGS" "Z", .laysFinal ST ST "value" "[B", .fieldLink ST 9 ST "value" "[B", .laysFinal ST ST "coder" "B", .fieldLink ST 15 ST "coder" "B",
  .methodLink ST 1 Lib.objectInit, .instanceMethod Lib.objectInit, .code Lib.objectInit ⟨#[0xb1]⟩ 1 none, .methodLink ST 177 Cmp3.yN, .static Cmp3.yN, .methodLink ST 47 CodL.yN, .static CodL.yN,
  .code Cmp3.yN Cmp3.yB 6 (some (.array .byte)), .initialized U16, .arrayClass .byte, .methodLink U16 115 Cmp5.yN, .static Cmp5.yN, .code Cmp5.yN Cmp5.yB 7 (some .int), .code CodL.yN CodL.yB 2 (some .byte)]
theorem tab_of {a : Array Value} {s : State} (h : ∀ w ∈ words, w.before a s = true) : New1.tab.before a s = true := by
  have h5 : Cmp5.tab.before a s = true := unparts (wk h (.code Cmp5.yN Cmp5.yB 7 (some .int))) (wks h (.initialized Cmp5.yN.cls :: Cmp5.site))
  have hc : CodL.tab.before a s = true := unparts (wk h (.code CodL.yN CodL.yB 2 (some .byte))) (wks h (.initialized CodL.yN.cls :: CodL.site))
  have q5 : ∀ w ∈ Cmp5.tab :: words, w.before a s = true := fun w hw => (List.mem_cons.mp hw).elim (fun e => e ▸ h5) (h w)
  have h3 : Cmp3.tab.before a s = true := unparts (wk q5 (.code Cmp3.yN Cmp3.yB 6 (some (.array .byte)))) (wks q5 (.initialized Cmp3.yN.cls :: Cmp3.site))
  have q3 : ∀ w ∈ Cmp3.tab :: CodL.tab :: words, w.before a s = true := fun w hw => (List.mem_cons.mp hw).elim (fun e => e ▸ h3) fun hw => (List.mem_cons.mp hw).elim (fun e => e ▸ hc) (h w)
  have h4 : New4.tab.before a s = true := unparts (wk q3 (.code New4.yN New4.yB 6 none)) (wks q3 (.initialized New4.yN.cls :: New4.site))
  have q4 : ∀ w ∈ New4.tab :: words, w.before a s = true := fun w hw => (List.mem_cons.mp hw).elim (fun e => e ▸ h4) (h w)
  exact unparts (wk q4 (.code New1.yN New1.yB 2 none)) (wks q4 (.initialized New1.yN.cls :: New1.site))
/-- the words ride from the start Z to the walk's own state -/
theorem moved {Z s : State} {a0 args : Array Value} (hZ : Z.Warmed39 s.vm) (hw : ∀ d ∈ words, d.before a0 Z = true) : ∀ d ∈ words, d.before args s = true := fun d hd => by
  have q := hw d hd
  have t : ∀ d ∈ words, d = .arrayClass .byte ∨ (d.onTables && d.keepsFace) = true := by decide +kernel
  rcases t d hd with rfl | t
  · exact RoadKit.mvA hZ q
  · exact RoadKit.mv hZ q t
/-- WHAT COMES BACK, over the tables of the start Z: h the heap at the call, h' behind it -/
def Q (Z : State) (x : Addr) (A : Cell) (h : Heap) (v : Option Value) (h' : Heap) (L : List Loc) : Prop := v = none ∧ (∀ y ∈ L, y.base = x) ∧ RoadKit.Keep h h' [x] ∧ h'.size = h.size + 1 ∧ RoadKit.Exa Z h' x ST ∧ RoadKit.Fld Z h' x ST "value" "[B" (.ref h.size) ∧ RoadKit.Fld Z h' x ST "coder" "B" (.int 0) ∧
  (∃ V : Cell, RoadKit.Arr Z h' h.size V .byte ∧ V.vm = .none ∧ Z.vm.findClass "[B" = some V.cls ∧ V.slots.size = A.slots.size ∧ ∀ j, j < A.slots.size → V.slots[j]? = some (.int (lo8 (cv A j)))) ∧
  ∀ (O n d : String) (w : Value), RoadKit.Fld Z h x O n d w → RoadKit.slotOf Z O n d ≠ RoadKit.slotOf Z ST "value" "[B" → RoadKit.slotOf Z O n d ≠ RoadKit.slotOf Z ST "coder" "B" → RoadKit.Fld Z h' x O n d w
/-- **new String(chars) AT A CALL, IN THE ROAD'S FORM**: for specialBack behind newO: x the fresh String, b the char[] with the cell A -/
theorem back {p : Program} {l : Launch} {e : Env} {R : Room} {s : State} {args : Array Value} {below : List Frame} {len W : Nat} {Z : State} {a0 : Array Value} {h : Heap} (hZ : Z.Warmed39 s.vm) (hw : ∀ d ∈ words, d.before a0 Z = true) {kI : Nat} (wi : (Jvm.Cond.instantiable ST kI).before a0 Z = true)
    {x b : Addr} {A : Cell} {z : Int32} {v0 c0 : Value} (E : RoadKit.Exa Z h x ST) (V : RoadKit.Fld Z h x ST "value" "[B" v0) (C : RoadKit.Fld Z h x ST "coder" "B" c0) (K : RoadKit.Arr Z h b A .char) (hty : Typed .char A) (S : RoadKit.Sta Z h ST "COMPACT_STRINGS" "Z" (.int z)) (hz : ¬ z = 0)
    (l0 : 0 < A.slots.size) (l2 : A.slots.size ≤ 536870912) (hp : ∀ i, i < A.slots.size → ¬ 255 < cv A i) (hfr : 4 ≤ R.frames) (hlo : W + 65 ≤ R.locals) :
    Back l R p e below s args New1.yN len W (fun P a => a = #[.ref x, .ref b] ∧ P.U.heap = h ∧ P.cells + 1 ≤ R.cells ∧ P.slots + A.slots.size ≤ R.slots)
      (fun P _ v B => ∃ L, Q Z x A h v B.U.heap L ∧ B.locs = P.locs ++ L ∧ B.cells = P.cells + 1 ∧ B.slots = P.slots + A.slots.size) := by
  intro m meth c P g ig mk a X hg hsize hdg hW hn hp'
  obtain ⟨rfl, rfl, r1, r2⟩ := hp'
  have al : Z.vm.Alike P.U.vm := hZ.alike.trans X.warmed.alike
  obtain ⟨D, cfV, kV, iV, fV, hD, gV, stV, knV, obV, asV, slV⟩ := id V
  obtain ⟨D', cfC, kC, iC, fC, hD', gC, stC, -, -, asC, slC⟩ := id C
  cases hD.symm.trans hD'
  obtain ⟨D2, kD, e1, e2, e3, e4, e5⟩ := id E
  cases hD.symm.trans e1
  obtain ⟨c2, k2, i1, i2, i3, -⟩ := Cond.instantiable_spec wi
  cases e2.symm.trans i1
  cases e3.symm.trans i2
  obtain ⟨kU, u1, u2⟩ := al.2.2 _ _ e3
  have hB : Blank ST x D P.U := ⟨hD, ⟨knV, fun q hq => by rw [hq] at obV; cases obV⟩, by rw [al.findClass]; exact e2, kU, u1, by rw [u2]; exact i3, by rw [u2]; exact e5 i3⟩
  have F1 : Found ST "value" "[B" fV P.U := ⟨SBG.found_only al ⟨cfV, kV, iV, gV⟩, stV⟩
  have F2 : Found ST "coder" "B" fC P.U := ⟨SBG.found_only al ⟨cfC, kC, iC, gC⟩, stC⟩
  have hA : Ch b A P.U := ⟨⟨K.1, State.isArrayOf_alike al K.2.1, K.2.2, by omega⟩, hty⟩
  have hS : StaticIs P.U ST "COMPACT_STRINGS" "Z" (.int z) := by
    obtain ⟨cfS, iS, kS, fS, st, cS, t1, t2, t3, t4, t5, t6, t7⟩ := S
    exact StaticIs.there (s := { Z with heap := P.U.heap }) ⟨cfS, iS, kS, fS, st, cS, t1, t2, t3, t4, t5, (fun q => by rw [q] at t6; cases t6), t7⟩ al rfl
  obtain ⟨v, B, X', ⟨⟨hv, E', V', q1, q2, q3, q4, q5, q6, q7, q8, q9, q10, q11⟩, hl, hc, hs⟩, st⟩ := New1.pays x D fV fC b A z (tab_of (moved hZ hw)) hfr hlo m meth c P g ig mk _ X hg hsize hdg hW hn ⟨r1, r2, rfl, hB, F1, F2, hA, hS, hz, l0, l2, hp⟩
  have al' : Z.vm.Alike B.U.vm := hZ.alike.trans X'.warmed.alike
  have hsz : E'.slots.size = D.slots.size := by
    obtain ⟨-, -, -, kB, w1, w2, w3⟩ := q1
    obtain ⟨kB', y1, y2⟩ := al'.2.2 _ _ e3
    rw [q2.2.1] at w1
    cases w1.symm.trans y1
    rw [w3, e5 i3, y2]
  refine ⟨v, B, X', ⟨_, ⟨hv, ?_, ⟨by omega, fun y cy hy hn' => q10 y cy (by simpa using hn') hy, fun y cy hy => ?_⟩, q11, ⟨E', _, q1.1, by rw [q2.2.1]; exact e2, by rw [q2.2.1]; exact e3, by rw [q2.1]; exact obV, fun _ => by rw [hsz]; exact e5 i3⟩,
    ⟨E', cfV, kV, iV, fV, q1.1, gV, stV, by rw [q2.1]; exact knV, by rw [q2.1]; exact obV, by rw [q2.2.1]; exact asV, q3⟩, ⟨E', cfC, kC, iC, fC, q1.1, gC, stC, by rw [q2.1]; exact knV, by rw [q2.1]; exact obV, by rw [q2.2.1]; exact asC, q4⟩,
    ⟨V', ⟨q5.1, State.isArrayOf_alike al'.symm q5.2.1, q5.2.2.1⟩, q6, by rw [← al'.findClass]; exact q7, q8, fun j hj => by have := q9 j hj; rwa [Nat.zero_add] at this⟩, fun O n d w F n1 n2 => ?_⟩, hl, hc, hs⟩, st⟩
  · intro y hy
    simp only [List.mem_cons, List.not_mem_nil, or_false] at hy
    rcases hy with rfl | rfl <;> rfl
  · by_cases q : y = x
    · subst q
      cases hD.symm.trans hy
      exact ⟨E', q1.1, q2.2.1, q2.1, hsz⟩
    · exact ⟨cy, q10 y cy q hy, rfl, rfl, rfl⟩
  · obtain ⟨D3, cf, k, i, f, g1, g2, g3, g4, g5, g6, g7⟩ := F
    cases hD.symm.trans g1
    simp only [RoadKit.slotOf, g2, gV, gC, Option.map_some, Option.getD_some] at n1 n2
    exact ⟨E', cf, k, i, f, q1.1, g2, g3, by rw [q2.1]; exact g4, by rw [q2.1]; exact g5, by rw [q2.2.1]; exact g6, by rw [q2.2.2 f.slot (by simp [n1, n2])]; exact g7⟩
end StrChars.Road
namespace StrChars.Road
open Jvm Sem ClassFile Op Lib Jvm.Stand Jvm.Free Jvm.Free.XT
/-- WHAT COMES BACK, the byte[] as a list of values -/
def QA (Z : State) (x : Addr) (zn : Int32) (cs : List Int32) (h : Heap) (v : Option Value) (h' : Heap) (L : List Loc) : Prop := v = none ∧ (∀ y ∈ L, y.base = x) ∧ RoadKit.Keep h h' [x] ∧ h'.size = h.size + 1 ∧ RoadKit.Exa Z h' x ST ∧ RoadKit.Fld Z h' x ST "value" "[B" (.ref h.size) ∧ RoadKit.Fld Z h' x ST "coder" "B" (.int 0) ∧
  (∃ kb, Z.vm.findClass "[B" = some kb ∧ RoadKit.Arv Z h' h.size kb .byte zn (cs.map fun c => .int (lo8 c)) (.int 0)) ∧
  ∀ (O n d : String) (w : Value), RoadKit.Fld Z h x O n d w → RoadKit.slotOf Z O n d ≠ RoadKit.slotOf Z ST "value" "[B" → RoadKit.slotOf Z O n d ≠ RoadKit.slotOf Z ST "coder" "B" → RoadKit.Fld Z h' x O n d w
/-- **new String(chars) AT A CALL, THE ARRAYS AS LISTS**: the char[] at b holds cs, not empty, no char above 255 -/
theorem backArv {p : Program} {l : Launch} {e : Env} {R : Room} {s : State} {args : Array Value} {below : List Frame} {len W : Nat} {Z : State} {a0 : Array Value} {h : Heap} (hZ : Z.Warmed39 s.vm) (hw : ∀ d ∈ words, d.before a0 Z = true) {kI : Nat} (wi : (Jvm.Cond.instantiable ST kI).before a0 Z = true)
    {x b : Addr} {k : ClassId} {zn z : Int32} {cs : List Int32} {dv v0 c0 : Value} (E : RoadKit.Exa Z h x ST) (V : RoadKit.Fld Z h x ST "value" "[B" v0) (C : RoadKit.Fld Z h x ST "coder" "B" c0) (K : RoadKit.Arv Z h b k .char zn (cs.map Value.int) dv) (S : RoadKit.Sta Z h ST "COMPACT_STRINGS" "Z" (.int z)) (hz : ¬ z = 0)
    (hlen : zn.toNatClampNeg = cs.length) (h0 : 0 < cs.length) (hbig : cs.length ≤ 536870912) (hall : ∀ c ∈ cs, ¬ 255 < c) (hfr : 4 ≤ R.frames) (hlo : W + 65 ≤ R.locals) :
    Back l R p e below s args New1.yN len W (fun P a => a = #[.ref x, .ref b] ∧ P.U.heap = h ∧ P.cells + 1 ≤ R.cells ∧ P.slots + cs.length ≤ R.slots)
      (fun P _ v B => ∃ L, QA Z x zn cs h v B.U.heap L ∧ B.locs = P.locs ++ L ∧ B.cells = P.cells + 1 ∧ B.slots = P.slots + cs.length) := by
  obtain ⟨A, K1, K2, K3, K4, K5, K6⟩ := K
  have e : A.slots.size = cs.length := K3.trans hlen
  have hat : ∀ (i : Nat) (hi : i < cs.length), A.slots[i]? = some (.int cs[i]) := fun i hi => by rw [K5 i (by omega)]; simp [List.getD_eq_getElem?_getD, hi]
  have hcv : ∀ (i : Nat) (hi : i < cs.length), cv A i = cs[i] := fun i hi => by unfold cv; rw [hat i hi]
  have hty : Typed .char A := fun i v hv => by
    have hi : i < A.slots.size := (Array.getElem?_eq_some_iff.mp hv).1
    have q := K5 i hi
    rw [hv] at q
    rw [Option.some.inj q]
    exact K6 i hi
  refine Back.mono (back hZ hw wi E V C K1 hty S hz (by omega) (by omega) (fun i hi => by rw [hcv i (by omega)]; exact hall _ (List.getElem_mem _)) hfr hlo) (fun P a hp => ⟨hp.1, hp.2.1, hp.2.2.1, by rw [e]; exact hp.2.2.2⟩) (fun P a v B hp hq => ?_)
  obtain ⟨L, ⟨q1, q2, q3, q4, q5, q6, q7, ⟨V', v1, v2, v3, v4, v5⟩, q9⟩, hl, hc, hs⟩ := hq
  refine ⟨L, ⟨q1, q2, q3, q4, q5, q6, q7, ⟨V'.cls, v3, V', v1, rfl, by rw [v4, e, hlen], K4, fun i hi => ?_, fun i hi => ?_⟩, q9⟩, hl, hc, by rw [hs, e]⟩
  · have hi' : i < cs.length := by omega
    rw [v5 i (by omega), hcv i hi']; simp [List.getD_eq_getElem?_getD, hi']
  · have hi' : i < cs.length := by omega
    simp only [List.getD_eq_getElem?_getD, List.getElem?_map, List.getElem?_eq_getElem hi', Option.map_some, Option.getD_some]
    exact fits_lo8 _
end StrChars.Road
namespace StrChars.Road
open Jvm Sem ClassFile Op Lib Jvm.Stand Jvm.Free Jvm.Free.XT
/-- WHAT COMES BACK, in the writer's own shape -/
def QV (Z : State) (x : Addr) (N : Int32) (bs : List Int32) (h : Heap) (n0 : Nat) (v : Option Value) (h' : Heap) (L : List Loc) : Prop := v = none ∧ RoadKit.Fr n0 L ∧ RoadKit.Keep h h' [x] ∧ RoadKit.Exa Z h' x ST ∧ RoadKit.Fld Z h' x ST "coder" "B" (.int 0) ∧
  ∃ (t : Addr) (kb : ClassId), n0 ≤ t ∧ h.size ≤ t ∧ ¬ t = x ∧ RoadKit.Fld Z h' x ST "value" "[B" (.ref t) ∧ RoadKit.Arv Z h' t kb .byte N (bs.map Value.int) (.int 0)
/-- **new String(chars) AT A CALL, FOR THE WRITER**: a char[] of n known ints, each 0 to 255 -/
theorem backV {p : Program} {l : Launch} {e : Env} {R : Room} {s : State} {args : Array Value} {below : List Frame} {len W : Nat} {Z : State} {a0 : Array Value} {h : Heap} (hZ : Z.Warmed39 s.vm) (hw : ∀ d ∈ words, d.before a0 Z = true) {kI : Nat} (wi : (Jvm.Cond.instantiable ST kI).before a0 Z = true)
    {x b : Addr} {kC : ClassId} {cs bs : List Int32} {d v0 c0 : Value} {z N : Int32} {n n0 : Nat} (hx0 : n0 ≤ x) (hh0 : n0 ≤ h.size) (E : RoadKit.Exa Z h x ST) (V : RoadKit.Fld Z h x ST "value" "[B" v0) (C : RoadKit.Fld Z h x ST "coder" "B" c0) (K : RoadKit.Arv Z h b kC .char N (cs.map Value.int) d) (S : RoadKit.Sta Z h ST "COMPACT_STRINGS" "Z" (.int z)) (hz : ¬ z = 0)
    (hn : cs.length = n) (hN : N = Int32.ofNat n) (l0 : 0 < n) (l2 : n ≤ 4000) (hp : ∀ c ∈ cs, ¬ c < 0 ∧ ¬ (255 : Int32) < c) (hb : bs = cs.map (fun c => c.toInt8.toInt32)) (hfr : 4 ≤ R.frames) (hlo : W + 65 ≤ R.locals) :
    Back l R p e below s args (⟨"java/lang/String", "<init>", "([C)V"⟩ : MethodName) len W (fun P a => a = #[.ref x, .ref b] ∧ P.U.heap = h ∧ P.cells + 1 ≤ R.cells ∧ P.slots + n ≤ R.slots)
      (fun P _ v B => ∃ L, QV Z x N bs h n0 v B.U.heap L ∧ B.locs = P.locs ++ L ∧ B.cells = P.cells + 1 ∧ B.slots = P.slots + n) := by
  subst hn hN hb
  refine Back.mono (backArv hZ hw wi E V C K S hz (n32 (by omega)) l0 (by omega) (fun c hc => (hp c hc).2) hfr hlo) (fun P a hp => hp) (fun P a v B hp hq => ?_)
  obtain ⟨L, ⟨q1, q2, q3, q4, q5, q6, q7, ⟨kb, v1, v2⟩, q9⟩, hl, hc, hs⟩ := hq
  exact ⟨L, ⟨q1, fun y hy => by rw [q2 y hy]; exact hx0, q3, q5, q7, h.size, kb, hh0, Nat.le_refl _, Nat.ne_of_gt E.lt, q6, by rw [List.map_map]; exact v2⟩, hl, hc, hs⟩
end StrChars.Road
namespace StrChars
open Jvm Sem ClassFile Op Lib Jvm.Stand Jvm.Free.XT Jvm.Free.ALB Jvm.Free.JM Jvm.Free
open Jvm.Lib.Cold (StaticIs)
def hi8 (x : Int32) : Int32 := lo8 (x >>> ((8 : Int32) &&& 31))
theorem shr0 (c : Int32) : c >>> ((0 : Int32) &&& 31) = c := by
  have e : ((0 : Int32) &&& 31) = 0 := by decide
  rw [e]
  apply Int32.toBitVec_inj.mp
  rw [Int32.toBitVec_shiftRight]
  have e1 : ((0 : Int32).toBitVec.smod 32) = 0#32 := by decide
  rw [e1, BitVec.sshiftRight_eq']
  exact BitVec.sshiftRight_zero
end StrChars
namespace StrChars
open Jvm Sem ClassFile Op Lib Jvm.Stand Jvm.Free.XT Jvm.Free.ALB Jvm.Free.JM Jvm.Free
open Jvm.Lib.Cold (StaticIs)
theorem shr1 {n : Nat} (h : 2 * n < 2 ^ 31) : Int32.ofNat (2 * n) >>> ((1 : Int32) &&& 31) = Int32.ofNat n := by
  have e : ((1 : Int32) &&& 31) = 1 := by decide
  rw [e]
  apply Int32.toBitVec_inj.mp
  rw [Int32.toBitVec_shiftRight]
  have e1 : ((1 : Int32).toBitVec.smod 32) = 1#32 := by decide
  have hm : (BitVec.ofNat 32 (2 * n)).toNat = 2 * n := by rw [BitVec.toNat_ofNat, Nat.mod_eq_of_lt (by omega)]
  rw [e1, BitVec.sshiftRight_eq']
  apply BitVec.eq_of_toNat_eq
  show ((BitVec.ofNat 32 (2 * n)).sshiftRight 1).toNat = (BitVec.ofNat 32 n).toNat
  rw [BitVec.toNat_sshiftRight_of_msb_false (by rw [BitVec.msb_eq_false_iff_two_mul_lt, hm]; omega), hm, BitVec.toNat_ofNat, Nat.shiftRight_eq_div_pow]
  omega
/-- the array's cell V codes the n chars f 0 .. f (n - 1) by the coder cd, as the JDK does: coder 1 just where some char is above 255 -/
def Cod (cd : Int32) (n : Nat) (f : Nat → Int32) (V : Cell) : Prop := (cd = 0 ∧ V.slots.size = n ∧ ∀ j, j < n → V.slots[j]? = some (.int (lo8 (f j))) ∧ ¬ 255 < f j) ∨ (cd = 1 ∧ V.slots.size = 2 * n ∧ (∀ j, j < n → V.slots[2 * j]? = some (.int (lo8 (f j))) ∧ V.slots[2 * j + 1]? = some (.int (hi8 (f j)))) ∧ ∃ j, j < n ∧ 255 < f j)
theorem Cod.cd {cd : Int32} {n : Nat} {f : Nat → Int32} {V : Cell} (h : Cod cd n f V) : cd = 0 ∨ cd = 1 := h.imp (fun q => q.1) fun q => q.1
theorem Cod.len {cd : Int32} {n : Nat} {f : Nat → Int32} {V : Cell} (h : Cod cd n f V) (hs : V.slots.size < 2 ^ 31) : Int32.ofNat V.slots.size >>> (cd &&& 31) = Int32.ofNat n := by
  rcases h with ⟨rfl, h, -⟩ | ⟨rfl, h, -⟩
  · rw [shr0, h]
  · rw [h, shr1 (by omega)]
/-- **x is a String of the n chars f 0 .. f (n - 1)**, Latin-1 or UTF-16; its array at t has the cell V -/
def Txt (x t : Addr) (V : Cell) (cd : Int32) (n : Nat) (f : Nat → Int32) (U : State) : Prop := Exact "java/lang/String" x U ∧ Has x "java/lang/String" "value" "[B" (.ref t) U ∧ Has x "java/lang/String" "coder" "B" (.int cd) U ∧ XT.Arr .byte t V U ∧ Cod cd n f V ∧ ∀ j, j < n → ¬ f j < 0 ∧ ¬ 65535 < f j
theorem Txt.mv {x t : Addr} {V : Cell} {cd : Int32} {n : Nat} {f : Nat → Int32} {U U' : State} (h : Txt x t V cd n f U) (hal : U.vm.Alike U'.vm) (hh : U'.heap = U.heap) : Txt x t V cd n f U' := ⟨h.1.mv hal hh, h.2.1.mv hal hh, h.2.2.1.mv hal hh, h.2.2.2.1.mv hal hh, h.2.2.2.2⟩
namespace Cdr
def yN : MethodName := ⟨"java/lang/String", "coder", "()B"⟩
abbrev yB : ByteArray := jdk_42_method_152_code
theorem d0 : decode yB 0 = .ok (.getstatic 38, 3) := by decide +kernel
theorem d3 : decode yB 3 = .ok (.ifCond (.eq) 10, 3) := by decide +kernel
theorem d6 : decode yB 6 = .ok (.aload_n 0, 1) := by decide +kernel
theorem d7 : decode yB 7 = .ok (.getfield 15, 3) := by decide +kernel
theorem d10 : decode yB 10 = .ok (.goto 4, 3) := by decide +kernel
theorem d14 : decode yB 14 = .ok (.ireturn, 1) := by decide +kernel
def site : List Cond := [.fieldLink "java/lang/String" 38 "java/lang/String" "COMPACT_STRINGS" "Z", .fieldLink "java/lang/String" 15 "java/lang/String" "coder" "B"]
def tab : Cond := tabOf yN yB 1 (some .byte) site
def P (x : Addr) (cd z : Int32) (args : Array Value) (s : State) : Prop := args = #[.ref x] ∧ Has x "java/lang/String" "coder" "B" (.int cd) s ∧ (cd = 0 ∨ cd = 1) ∧ StaticIs s "java/lang/String" "COMPACT_STRINGS" "Z" (.int z) ∧ ¬ z = 0
def E (cd : Int32) (r : Option Value) (s u : State) : Prop := XT.PureE (some (.int cd)) r s u
theorem law (l : Launch) (x : Addr) (cd z : Int32) : Law l yN 1 0 0 0 yB 1 (some .byte) site (P x cd z) (E cd) [] 0 0 := by
  refine Law.of_walk (plainFor_of_name (by decide +kernel)) (by decide +kernel) (by decide +kernel) (by decide) (fun _ _ h => by rw [h.1]; rfl) (fun _ U U' hal hh h => ⟨h.1, h.2.1.mv hal hh, h.2.2.1, h.2.2.2.1.there hal hh, h.2.2.2.2⟩) (fun r U U' V V' h1 hal h2 h => XT.PureE.mv r U U' V V' h1 hal h2 h) ?_
  intro p e s m args below meth c s₁ X0 hexec hbytes hml hret hlk hnm hown hh0 W hP
  obtain ⟨rfl, hx, hc, s1, hz⟩ := hP
  have c1 : Steps p.tables e below (s₁.setTop (entryFrame m #[.ref x] 1)) (s₁.setTop (mkF m 0 #[.val (.ref x)] [])) := entry rfl
  obtain ⟨T2, X2, q2, st2⟩ := X0.sget hexec hown (wk W (.fieldLink "java/lang/String" 38 "java/lang/String" "COMPACT_STRINGS" "Z")) s1 (fun _ _ h => by rw [hh0]; exact h) (g := (mkF m 0 #[.val (.ref x)] [])) rfl (hb hbytes d0)
  have hh2 := q2.trans hh0
  have c3 : Steps p.tables e below (s₁.setTop (entryFrame m #[.ref x] 1)) (T2.setTop (mkF m 7 #[.val (.ref x)] [.ref x])) := (c1.trans (st2 _ (Steps.refl _))).trans (by
    refine XS.ifNo X2.here hexec rfl (hb hbytes d3) rfl (i0_eq_f hz) ?_
    refine XS.aloadN X2.here hexec rfl (hb hbytes d6) rfl rfl ?_
    exact Steps.refl _)
  obtain ⟨T4, X4, q4, st4⟩ := X2.hget hexec hown (wk W (.fieldLink "java/lang/String" 15 "java/lang/String" "coder" "B")) (hx.mv X2.warmed.alike hh2) (g := (mkF m 7 #[.val (.ref x)] [.ref x])) rfl (rest := []) rfl (hb hbytes d7)
  have c5 : Steps p.tables e below (s₁.setTop (entryFrame m #[.ref x] 1)) (T4.setTop (mkF m 14 #[.val (.ref x)] [.int cd])) := (c3.trans (st4 _ (Steps.refl _))).trans (by
    refine XS.goto X4.here hexec rfl (pc0 := 10) rfl (hb hbytes d10) (by decide) rfl ?_
    exact Steps.refl _)
  exact ⟨T4, some (.int cd), _, _, _, X4, rfl, rfl, rfl, (fun h => by cases h), ⟨rfl, q4.trans hh2⟩, fun fs hl => c5.trans (X4.ireturnOut hexec hret (by rcases hc with rfl | rfl <;> rfl) (Or.inr (Or.inr (Or.inl rfl))) (hb hbytes d14) hl)⟩
end Cdr
namespace Len
def yN : MethodName := ⟨"java/lang/String", "length", "()I"⟩
abbrev yB : ByteArray := jdk_42_method_54_code
theorem d0 : decode yB 0 = .ok (.aload_n 0, 1) := by decide +kernel
theorem d1 : decode yB 1 = .ok (.getfield 9, 3) := by decide +kernel
theorem d4 : decode yB 4 = .ok (.arraylength, 1) := by decide +kernel
theorem d5 : decode yB 5 = .ok (.aload_n 0, 1) := by decide +kernel
theorem d6 : decode yB 6 = .ok (.invokevirtual 335, 3) := by decide +kernel
theorem d9 : decode yB 9 = .ok (.ishr, 1) := by decide +kernel
theorem d10 : decode yB 10 = .ok (.ireturn, 1) := by decide +kernel
def site : List Cond := [.fieldLink "java/lang/String" 9 "java/lang/String" "value" "[B", Cdr.tab] ++ virtW "java/lang/String" 335 "java/lang/String" Cdr.yN Cdr.yN
def tab : Cond := tabOf yN yB 1 (some .int) site
def P (x t : Addr) (V : Cell) (cd : Int32) (n : Nat) (f : Nat → Int32) (z : Int32) (args : Array Value) (s : State) : Prop := args = #[.ref x] ∧ Txt x t V cd n f s ∧ StaticIs s "java/lang/String" "COMPACT_STRINGS" "Z" (.int z) ∧ ¬ z = 0
def E (n : Nat) (r : Option Value) (s u : State) : Prop := XT.PureE (some (.int (Int32.ofNat n))) r s u
/-- length() of a String of n chars, in either coding -/
theorem law (l : Launch) (x t : Addr) (V : Cell) (cd : Int32) (n : Nat) (f : Nat → Int32) (z : Int32) : Law l yN 1 0 1 13 yB 1 (some .int) site (P x t V cd n f z) (E n) [] 0 0 := by
  refine Law.of_walk (plainFor_of_name (by decide +kernel)) (by decide +kernel) (by decide +kernel) (by decide) (fun _ _ h => by rw [h.1]; rfl) (fun _ U U' hal hh h => ⟨h.1, h.2.1.mv hal hh, h.2.2.1.there hal hh, h.2.2.2⟩) (fun r U U' V V' h1 hal h2 h => XT.PureE.mv r U U' V V' h1 hal h2 h) ?_
  intro p e s m args below meth c s₁ X0 hexec hbytes hml hret hlk hnm hown hh0 W hP
  obtain ⟨rfl, hx, s1, hz⟩ := hP
  have v31 := hx.2.2.2.1.2.2.2
  have c1 : Steps p.tables e below (s₁.setTop (entryFrame m #[.ref x] 1)) (s₁.setTop (mkF m 1 #[.val (.ref x)] [.ref x])) := Steps.trans (entry rfl) (by
    show Steps p.tables e below (s₁.setTop (mkF m 0 #[.val (.ref x)] [])) _
    refine XS.aloadN X0.here hexec rfl (hb hbytes d0) rfl rfl ?_
    exact Steps.refl _)
  obtain ⟨T2, X2, q2, st2⟩ := X0.hget hexec hown (wk W (.fieldLink "java/lang/String" 9 "java/lang/String" "value" "[B")) (hx.mv X0.warmed.alike hh0).2.1 (g := (mkF m 1 #[.val (.ref x)] [.ref x])) rfl (rest := []) rfl (hb hbytes d1)
  have hh2 := q2.trans hh0
  have hx2 := hx.mv X2.warmed.alike hh2
  have c3 : Steps p.tables e below (s₁.setTop (entryFrame m #[.ref x] 1)) (T2.setTop (mkF m 6 #[.val (.ref x)] [.ref x, .int (Int32.ofNat V.slots.size)])) := (c1.trans (st2 _ (Steps.refl _))).trans (by
    refine X2.alen hexec hx2.2.2.2.1 rfl rfl (hb hbytes d4) ?_
    refine XS.aloadN X2.here hexec rfl (hb hbytes d5) rfl rfl ?_
    exact Steps.refl _)
  obtain ⟨v4, T4, X4, E4, g4⟩ := X2.callV hexec (Cdr.law l x cd z) hown (wks W (virtW "java/lang/String" 335 "java/lang/String" Cdr.yN Cdr.yN)) rfl (by decide) (wk W Cdr.tab) (W := 1) (Nat.le_of_ble_eq_true rfl) (Nat.le_of_ble_eq_true rfl) (Nat.le_refl _) (Nat.le_refl _) (hx2.1.fc X2.warmed.alike) hx2.1.is (g := (mkF m 6 #[.val (.ref x)] [.ref x, .int (Int32.ofNat V.slots.size)])) rfl (by rw [hml]; rfl) c3 (argsL := []) (rest := [.int (Int32.ofNat V.slots.size)]) rfl rfl (by show 2 * 0 + (1 + 0) ≤ _; decide) (hb hbytes d6) (⟨rfl, hx2.2.2.1, hx.2.2.2.2.1.cd, s1.there X2.warmed.alike hh2, hz⟩)
  obtain ⟨rfl, q4⟩ := E4
  have c5 : Steps p.tables e below (s₁.setTop (entryFrame m #[.ref x] 1)) (T4.setTop (mkF m 10 #[.val (.ref x)] [.int (Int32.ofNat V.slots.size >>> (cd &&& 31))])) := Steps.trans g4 (by
    refine ishr X4.here hexec rfl (hb hbytes d9) rfl ?_
    exact Steps.refl _)
  rw [hx.2.2.2.2.1.len v31] at c5
  exact ⟨T4, some (.int (Int32.ofNat n)), _, _, _, X4, rfl, rfl, rfl, (fun h => by cases h), ⟨rfl, q4.trans hh2⟩, fun fs hl => c5.trans (X4.ireturnOut hexec hret rfl (Or.inl rfl) (hb hbytes d10) hl)⟩
theorem pays {l : Launch} {R : Room} {p : Program} {e : Env} {below : List Frame} {s : State} {sargs : Array Value} {len W : Nat} (x t : Addr) (V : Cell) (cd : Int32) (n : Nat) (f : Nat → Int32) (z : Int32) (htab : tab.before sargs s = true) (hfr : 2 ≤ R.frames) (hlo : W + 25 ≤ R.locals) :
    Back l R p e below s sargs yN len W (fun A₁ a₁ => A₁.cells + 0 ≤ R.cells ∧ A₁.slots + 0 ≤ R.slots ∧ P x t V cd n f z a₁ A₁.U) (fun A₁ _ v₁ B₁ => E n v₁ A₁.U B₁.U ∧ B₁.locs = A₁.locs ++ [] ∧ B₁.cells = A₁.cells + 0 ∧ B₁.slots = A₁.slots + 0) :=
  (law l x t V cd n f z).pays htab hfr (by omega)
end Len
end StrChars
namespace StrChars.Road
open Jvm Sem ClassFile Op Lib Jvm.Stand Jvm.Free Jvm.Free.XT
open Jvm.Lib.Cold (StaticIs)
theorem consq {a : Array Value} {s : State} {c : Jvm.Cond} {L : List Jvm.Cond} (h0 : c.before a s = true) (h : ∀ w ∈ L, w.before a s = true) : ∀ w ∈ c :: L, w.before a s = true := fun w hw => (List.mem_cons.mp hw).elim (fun e => e ▸ h0) (h w)
/-- the words of String.length(), either coding -/
abbrev wordsLen : List Jvm.Cond := [.code Len.yN Len.yB 1 (some .int), .initialized ST, .fieldLink ST 9 ST "value" "[B", .fieldLink ST 38 ST "COMPACT_STRINGS" "Z", .fieldLink ST 15 ST "coder" "B", .code Cdr.yN Cdr.yB 1 (some .byte), .methodLink ST 335 Cdr.yN, .declares Cdr.yN, .selects ST Cdr.yN Cdr.yN, .instanceMethod Cdr.yN]
theorem tabLen_of {a : Array Value} {s : State} (h : ∀ w ∈ wordsLen, w.before a s = true) : Len.tab.before a s = true := by
  have hc : Cdr.tab.before a s = true := unparts (wk h (.code Cdr.yN Cdr.yB 1 (some .byte))) (wks h (.initialized Cdr.yN.cls :: Cdr.site))
  have q := consq hc h
  exact unparts (wk q (.code Len.yN Len.yB 1 (some .int))) (wks q (.initialized Len.yN.cls :: Len.site))
theorem movedLen {Z s : State} {a0 args : Array Value} (hZ : Z.Warmed39 s.vm) (hw : ∀ d ∈ wordsLen, d.before a0 Z = true) : ∀ d ∈ wordsLen, d.before args s = true := fun d hd => by
  have q := hw d hd
  have t : ∀ d ∈ wordsLen, d = .arrayClass .byte ∨ (d.onTables && d.keepsFace) = true := by decide +kernel
  rcases t d hd with rfl | t
  · exact RoadKit.mvA hZ q
  · exact RoadKit.mv hZ q t
/-- the bytes of the chars cs, low before high -/
def wideBytes : List Int32 → List Value
  | [] => []
  | c :: cs => .int (lo8 c) :: .int (hi8 c) :: wideBytes cs
theorem wide_lo (d : Value) : ∀ (cs : List Int32) (j : Nat), j < cs.length → (wideBytes cs).getD (2 * j) d = .int (lo8 (cs.getD j 0))
  | [], j, h => absurd h (Nat.not_lt_zero j)
  | c :: cs, 0, _ => rfl
  | c :: cs, j + 1, h => by
    have q := wide_lo d cs j (by simpa using h)
    rw [show 2 * (j + 1) = 2 * j + 1 + 1 from by omega]
    simpa [wideBytes] using q
theorem wide_hi (d : Value) : ∀ (cs : List Int32) (j : Nat), j < cs.length → (wideBytes cs).getD (2 * j + 1) d = .int (hi8 (cs.getD j 0))
  | [], j, h => absurd h (Nat.not_lt_zero j)
  | c :: cs, 0, _ => rfl
  | c :: cs, j + 1, h => by
    have q := wide_hi d cs j (by simpa using h)
    rw [show 2 * (j + 1) + 1 = 2 * j + 1 + 1 + 1 from by omega]
    simpa [wideBytes] using q
theorem low_at (d : Value) (cs : List Int32) (j : Nat) (h : j < cs.length) : (cs.map fun c => Value.int (lo8 c)).getD j d = .int (lo8 (cs.getD j 0)) := by
  simp [List.getD_eq_getElem?_getD, h]
/-- an array of N2 bytes vs codes the chars cs by the coder cd -/
def CodA (cs : List Int32) (cd N2 : Int32) (vs : List Value) : Prop := (cd = 0 ∧ N2 = Int32.ofNat cs.length ∧ vs = (cs.map fun c => Value.int (lo8 c)) ∧ ∀ c ∈ cs, ¬ 255 < c) ∨ (cd = 1 ∧ N2 = Int32.ofNat (2 * cs.length) ∧ vs = wideBytes cs ∧ ∃ c ∈ cs, 255 < c)
theorem CodA.cod {cs : List Int32} {cd N2 : Int32} {vs : List Value} {V : Cell} (h : CodA cs cd N2 vs) (hn : 2 * cs.length < 2 ^ 31) (hs : V.slots.size = N2.toNatClampNeg) (hv : RoadKit.Has V vs (.int 0)) : Cod cd cs.length (fun j => cs.getD j 0) V := by
  rcases h with ⟨rfl, rfl, rfl, h⟩ | ⟨rfl, rfl, rfl, c, hc, hw⟩
  · rw [n32 (by omega)] at hs
    exact Or.inl ⟨rfl, hs, fun j hj => ⟨by rw [hv j (by omega), low_at _ _ _ hj], by
      have e : cs.getD j 0 = cs[j] := by simp [List.getD_eq_getElem?_getD, hj]
      show ¬ 255 < cs.getD j 0
      rw [e]; exact h _ (List.getElem_mem _)⟩⟩
  · rw [n32 (by omega)] at hs
    obtain ⟨j, hj, rfl⟩ := List.getElem_of_mem hc
    exact Or.inr ⟨rfl, hs, fun j hj => ⟨by rw [hv _ (by omega), wide_lo _ _ _ hj], by rw [hv _ (by omega), wide_hi _ _ _ hj]⟩, j, hj, by
      have e : cs.getD j 0 = cs[j] := by simp [List.getD_eq_getElem?_getD, hj]
      show 255 < cs.getD j 0
      rw [e]; exact hw⟩
/-- an object of exactly java/lang/String, its two fields found: as the laws ask it -/
theorem strObj {Z U : State} {a0 : Array Value} {kI : Nat} (wi : (Jvm.Cond.instantiable ST kI).before a0 Z = true) (al : Z.vm.Alike U.vm) {x : Addr} {v0 c0 : Value} (E : RoadKit.Exa Z U.heap x ST) (V : RoadKit.Fld Z U.heap x ST "value" "[B" v0) (C : RoadKit.Fld Z U.heap x ST "coder" "B" c0) :
    ∃ (D : Cell) (fV fC : Field), Blank ST x D U ∧ Found ST "value" "[B" fV U ∧ Found ST "coder" "B" fC U ∧ D.slots[fV.slot]? = some v0 ∧ D.slots[fC.slot]? = some c0 ∧ RoadKit.slotOf Z ST "value" "[B" = fV.slot ∧ RoadKit.slotOf Z ST "coder" "B" = fC.slot := by
  obtain ⟨D, cfV, kV, iV, fV, hD, gV, stV, knV, obV, asV, slV⟩ := V
  obtain ⟨D', cfC, kC, iC, fC, hD', gC, stC, -, -, asC, slC⟩ := C
  cases hD.symm.trans hD'
  obtain ⟨D2, kD, e1, e2, e3, e4, e5⟩ := E
  cases hD.symm.trans e1
  obtain ⟨c2, k2, i1, i2, i3, -⟩ := Cond.instantiable_spec wi
  cases e2.symm.trans i1
  cases e3.symm.trans i2
  obtain ⟨kU, u1, u2⟩ := al.2.2 _ _ e3
  exact ⟨D, fV, fC, ⟨hD, ⟨knV, fun q hq => by rw [hq] at obV; cases obV⟩, by rw [al.findClass]; exact e2, kU, u1, by rw [u2]; exact i3, by rw [u2]; exact e5 i3⟩, ⟨SBG.found_only al ⟨cfV, kV, iV, gV⟩, stV⟩, ⟨SBG.found_only al ⟨cfC, kC, iC, gC⟩, stC⟩, slV, slC, by simp [RoadKit.slotOf, gV], by simp [RoadKit.slotOf, gC]⟩
theorem sta_is {Z U : State} (al : Z.vm.Alike U.vm) {C n d : String} {v : Value} (S : RoadKit.Sta Z U.heap C n d v) : StaticIs U C n d v := by
  obtain ⟨cfS, iS, kS, fS, st, cS, t1, t2, t3, t4, t5, t6, t7⟩ := S
  exact StaticIs.there (s := { Z with heap := U.heap }) ⟨cfS, iS, kS, fS, st, cS, t1, t2, t3, t4, t5, (fun q => by rw [q] at t6; cases t6), t7⟩ al rfl
/-- **length() OF SUCH A STRING** -/
theorem lenW {p : Program} {l : Launch} {e : Env} {R : Room} {s : State} {args : Array Value} {below : List Frame} {len W : Nat} {Z : State} {a0 : Array Value} {h : Heap} (hZ : Z.Warmed39 s.vm) (hw : ∀ d ∈ wordsLen, d.before a0 Z = true) {kI : Nat} (wi : (Jvm.Cond.instantiable ST kI).before a0 Z = true)
    {x t : Addr} {kb : ClassId} {cs : List Int32} {cd N2 z : Int32} {vs : List Value} (E : RoadKit.Exa Z h x ST) (V : RoadKit.Fld Z h x ST "value" "[B" (.ref t)) (C : RoadKit.Fld Z h x ST "coder" "B" (.int cd)) (K : RoadKit.Arv Z h t kb .byte N2 vs (.int 0)) (hc : CodA cs cd N2 vs) (hb : ∀ c ∈ cs, ¬ c < 0 ∧ ¬ (65535 : Int32) < c)
    (S : RoadKit.Sta Z h ST "COMPACT_STRINGS" "Z" (.int z)) (hz : ¬ z = 0) (l2 : cs.length ≤ 4000) (hfr : 2 ≤ R.frames) (hlo : W + 25 ≤ R.locals) :
    Back l R p e below s args (⟨"java/lang/String", "length", "()I"⟩ : MethodName) len W (fun P a => a = #[.ref x] ∧ P.U.heap = h ∧ P.cells + 0 ≤ R.cells ∧ P.slots + 0 ≤ R.slots)
      (fun P _ v B => ∃ L, (v = some (.int (Int32.ofNat cs.length)) ∧ L = [] ∧ B.U.heap = h) ∧ B.locs = P.locs ++ L ∧ B.cells = P.cells + 0 ∧ B.slots = P.slots + 0) := by
  obtain ⟨A, K1, K2, K3, K4, K5, K6⟩ := K
  have hcod := hc.cod (by omega) K3 K5
  intro m meth c P g ig mk a X hg hsize hdg hW hn hp'
  obtain ⟨rfl, rfl, r1, r2⟩ := hp'
  have al : Z.vm.Alike P.U.vm := hZ.alike.trans X.warmed.alike
  obtain ⟨D, fV, fC, hB, F1, F2, g1, g2, -, -⟩ := strObj wi al E V C
  have hx : Txt x t A cd cs.length (fun j => cs.getD j 0) P.U := ⟨⟨_, hB.2.2.1, D, hB.1, rfl, by cases q : D.vm <;> first | rfl | exact absurd q (hB.2.1.2 _)⟩, Has.of hB F1 g1, Has.of hB F2 g2, ⟨K1.1, State.isArrayOf_alike al K1.2.1, K1.2.2, by rcases hcod with ⟨-, q, -⟩ | ⟨-, q, -⟩ <;> omega⟩, hcod, fun j hj => by
    have e : cs.getD j 0 = cs[j] := by simp [List.getD_eq_getElem?_getD, hj]
    show ¬ cs.getD j 0 < 0 ∧ ¬ 65535 < cs.getD j 0
    rw [e]; exact hb _ (List.getElem_mem _)⟩
  obtain ⟨v, B, X', ⟨⟨hv, hh⟩, hl, hk, hs⟩, st⟩ := Len.pays x t A cd cs.length (fun j => cs.getD j 0) z (tabLen_of (movedLen hZ hw)) hfr hlo m meth c P g ig mk _ X hg hsize hdg hW hn ⟨r1, r2, rfl, hx, sta_is al S, hz⟩
  exact ⟨v, B, X', ⟨[], ⟨hv, rfl, hh⟩, hl, hk, hs⟩, st⟩
end StrChars.Road
namespace StrChars.Road
open Jvm Sem ClassFile Op Lib Jvm.Stand Jvm.Free Jvm.Free.XT
open Jvm.Lib.Cold (StaticIs)
/-- what backV says of its String, as the contracts of this text ask it: cs's low bytes, coder 0 -/
theorem codOf {cs : List Int32} {n : Nat} (hn : cs.length = n) (hb : ∀ c ∈ cs, ¬ 255 < c) : CodA cs 0 (Int32.ofNat n) ((cs.map lo8).map Value.int) := Or.inl ⟨rfl, by rw [hn], by simp [List.map_map, Function.comp_def], hb⟩
end StrChars.Road
end Jvm.Pilot.@@N@@
namespace Jvm.Pilot.@@N@@
open Jvm Jvm.ClassFile Sem Op Lib Jvm.Free Jvm.Stand Jvm.LawKit Jvm.RoadKit Bundle Jvm.Pilot.@@N@@.Jvm.D
section Ow
variable {p : Program} {l : Launch} {e : Env} {R : Room} {s : State} {m : MethodId} {args : Array Value} {below : List Frame} {meth : Method} {c : Code} {T : State} {locs : List Loc} {cells slots : Nat} {code : ByteArray} {pc : Nat} {L : Array Slot} {S : List Value} {tg : State}
theorem o_aconstNull (X : Stand p l e R s m args below meth c T locs cells slots) (hx : p.tables.exec = Jvm.exec) (hby : c.code = code) (d : decode code pc = .ok (.aconst_null, 1)) (r : Steps p.tables e below (T.setTop (mkF m (pc + 1) L (.null :: S))) tg)  : Steps p.tables e below (T.setTop (mkF m pc L (S))) tg := XS.aconstNull X.here hx rfl (hb hby d) r
theorem o_aload (X : Stand p l e R s m args below meth c T locs cells slots) (hx : p.tables.exec = Jvm.exec) (hby : c.code = code) {k : Nat} {v : Value} (d : decode code pc = .ok (.aload k, 2)) (hl : L[k]? = some (.val v)) (hv : v.isRef = true) (r : Steps p.tables e below (T.setTop (mkF m (pc + 2) L (v :: S))) tg)  : Steps p.tables e below (T.setTop (mkF m pc L (S))) tg := XS.aload X.here hx rfl (hb hby d) hl hv r
theorem o_aloadN (X : Stand p l e R s m args below meth c T locs cells slots) (hx : p.tables.exec = Jvm.exec) (hby : c.code = code) {k : Fin 4} {v : Value} (d : decode code pc = .ok (.aload_n k, 1)) (hl : L[k.val]? = some (.val v)) (hv : v.isRef = true) (r : Steps p.tables e below (T.setTop (mkF m (pc + 1) L (v :: S))) tg)  : Steps p.tables e below (T.setTop (mkF m pc L (S))) tg := XS.aloadN X.here hx rfl (hb hby d) hl hv r
theorem o_astore (X : Stand p l e R s m args below meth c T locs cells slots) (hx : p.tables.exec = Jvm.exec) (hby : c.code = code) {k : Nat} {x : Value} {l' : Array Slot} (d : decode code pc = .ok (.astore k, 2)) (hv : x.isRef = true) (hl : storeLocals L k x = some l') (r : Steps p.tables e below (T.setTop (mkF m (pc + 2) l' (S))) tg)  : Steps p.tables e below (T.setTop (mkF m pc L (x :: S))) tg := XS.astore X.here hx rfl (hb hby d) rfl hv hl r
theorem o_astoreN (X : Stand p l e R s m args below meth c T locs cells slots) (hx : p.tables.exec = Jvm.exec) (hby : c.code = code) {k : Fin 4} {x : Value} {l' : Array Slot} (d : decode code pc = .ok (.astore_n k, 1)) (hv : x.isRef = true) (hl : storeLocals L k.val x = some l') (r : Steps p.tables e below (T.setTop (mkF m (pc + 1) l' (S))) tg)  : Steps p.tables e below (T.setTop (mkF m pc L (x :: S))) tg := XS.astoreN X.here hx rfl (hb hby d) rfl hv hl r
theorem o_bipush (X : Stand p l e R s m args below meth c T locs cells slots) (hx : p.tables.exec = Jvm.exec) (hby : c.code = code) {v : Int32} {i : Int} (d : decode code pc = .ok (.bipush i, 2)) (r : Steps p.tables e below (T.setTop (mkF m (pc + 2) L (.int v :: S))) tg) (hv : (Int8.ofInt i).toInt32 = v := by rfl) : Steps p.tables e below (T.setTop (mkF m pc L S)) tg := by subst hv; exact XS.bipush X.here hx rfl (hb hby d) r
theorem o_dup (X : Stand p l e R s m args below meth c T locs cells slots) (hx : p.tables.exec = Jvm.exec) (hby : c.code = code) {x : Value} (d : decode code pc = .ok (.dup, 1)) (hc : x.category = 1) (r : Steps p.tables e below (T.setTop (mkF m (pc + 1) L (x :: x :: S))) tg)  : Steps p.tables e below (T.setTop (mkF m pc L (x :: S))) tg := XS.dup X.here hx rfl (hb hby d) rfl hc r
theorem o_goto (X : Stand p l e R s m args below meth c T locs cells slots) (hx : p.tables.exec = Jvm.exec) (hby : c.code = code) {o : Int} {pc' : Nat} (d : decode code pc = .ok (.goto o, 3)) (r : Steps p.tables e below (T.setTop (mkF m (pc') L (S))) tg) (ho : decide (0 ≤ (pc : Int) + o) = true := by rfl) (hp : ((pc : Int) + o).toNat = pc' := by rfl) : Steps p.tables e below (T.setTop (mkF m pc L (S))) tg := XS.goto X.here hx rfl rfl (hb hby d) (of_decide_eq_true ho) hp r
theorem o_i2b (X : Stand p l e R s m args below meth c T locs cells slots) (hx : p.tables.exec = Jvm.exec) (hby : c.code = code) {v : Int32} (d : decode code pc = .ok (.i2b, 1)) (r : Steps p.tables e below (T.setTop (mkF m (pc + 1) L (.int (v.toInt8.toInt32) :: S))) tg)  : Steps p.tables e below (T.setTop (mkF m pc L (.int v :: S))) tg := XS.i2b X.here hx rfl (hb hby d) rfl r
theorem o_i2c (X : Stand p l e R s m args below meth c T locs cells slots) (hx : p.tables.exec = Jvm.exec) (hby : c.code = code) {v : Int32} (d : decode code pc = .ok (.i2c, 1)) (r : Steps p.tables e below (T.setTop (mkF m (pc + 1) L (.int (v.toUInt32.toUInt16.toUInt32.toInt32) :: S))) tg)  : Steps p.tables e below (T.setTop (mkF m pc L (.int v :: S))) tg := XS.i2c X.here hx rfl (hb hby d) rfl r
theorem o_iand (X : Stand p l e R s m args below meth c T locs cells slots) (hx : p.tables.exec = Jvm.exec) (hby : c.code = code) {x y : Int32} (d : decode code pc = .ok (.iand, 1)) (r : Steps p.tables e below (T.setTop (mkF m (pc + 1) L (.int (x &&& y) :: S))) tg)  : Steps p.tables e below (T.setTop (mkF m pc L (.int y :: .int x :: S))) tg := XS.iand X.here hx rfl (hb hby d) rfl r
theorem o_icmpNo (X : Stand p l e R s m args below meth c T locs cells slots) (hx : p.tables.exec = Jvm.exec) (hby : c.code = code) {cd : ClassFile.Cond} {o : Int} {x y : Int32} (d : decode code pc = .ok (.if_icmp cd o, 3)) (hc : if_icmp.holds cd x y = false) (r : Steps p.tables e below (T.setTop (mkF m (pc + 3) L (S))) tg)  : Steps p.tables e below (T.setTop (mkF m pc L (.int y :: .int x :: S))) tg := XS.icmpNo X.here hx rfl (hb hby d) rfl hc r
theorem o_icmpYes (X : Stand p l e R s m args below meth c T locs cells slots) (hx : p.tables.exec = Jvm.exec) (hby : c.code = code) {cd : ClassFile.Cond} {x y : Int32} {o : Int} {pc' : Nat} (d : decode code pc = .ok (.if_icmp cd o, 3)) (hc : if_icmp.holds cd x y = true) (r : Steps p.tables e below (T.setTop (mkF m (pc') L (S))) tg) (ho : decide (0 ≤ (pc : Int) + o) = true := by rfl) (hp : ((pc : Int) + o).toNat = pc' := by rfl) : Steps p.tables e below (T.setTop (mkF m pc L (.int y :: .int x :: S))) tg := XS.icmpYes X.here hx rfl rfl (hb hby d) rfl hc (of_decide_eq_true ho) hp r
theorem o_iconst (X : Stand p l e R s m args below meth c T locs cells slots) (hx : p.tables.exec = Jvm.exec) (hby : c.code = code) {v : Int32} {i : Int} (d : decode code pc = .ok (.iconst i, 1)) (r : Steps p.tables e below (T.setTop (mkF m (pc + 1) L (.int v :: S))) tg) (hv : Int32.ofInt i = v := by rfl) : Steps p.tables e below (T.setTop (mkF m pc L S)) tg := by subst hv; exact XS.iconst X.here hx rfl (hb hby d) r
theorem o_ifNo (X : Stand p l e R s m args below meth c T locs cells slots) (hx : p.tables.exec = Jvm.exec) (hby : c.code = code) {cd : ClassFile.Cond} {o : Int} {x : Int32} (d : decode code pc = .ok (.ifCond cd o, 3)) (hc : ifCond.holds cd x = false) (r : Steps p.tables e below (T.setTop (mkF m (pc + 3) L (S))) tg)  : Steps p.tables e below (T.setTop (mkF m pc L (.int x :: S))) tg := XS.ifNo X.here hx rfl (hb hby d) rfl hc r
theorem o_ifYes (X : Stand p l e R s m args below meth c T locs cells slots) (hx : p.tables.exec = Jvm.exec) (hby : c.code = code) {cd : ClassFile.Cond} {x : Int32} {o : Int} {pc' : Nat} (d : decode code pc = .ok (.ifCond cd o, 3)) (hc : ifCond.holds cd x = true) (r : Steps p.tables e below (T.setTop (mkF m (pc') L (S))) tg) (ho : decide (0 ≤ (pc : Int) + o) = true := by rfl) (hp : ((pc : Int) + o).toNat = pc' := by rfl) : Steps p.tables e below (T.setTop (mkF m pc L (.int x :: S))) tg := XS.ifYes X.here hx rfl rfl (hb hby d) rfl hc (of_decide_eq_true ho) hp r
theorem o_iinc (X : Stand p l e R s m args below meth c T locs cells slots) (hx : p.tables.exec = Jvm.exec) (hby : c.code = code) {k : Nat} {cst : Int} {x : Int32} {l' : Array Slot} (d : decode code pc = .ok (.iinc k cst, 3)) (hl : L[k]? = some (.val (.int x))) (hl' : storeLocals L k (.int (x + Int32.ofInt cst)) = some l') (r : Steps p.tables e below (T.setTop (mkF m (pc + 3) l' (S))) tg)  : Steps p.tables e below (T.setTop (mkF m pc L (S))) tg := XS.iinc X.here hx rfl (hb hby d) hl hl' r
theorem o_iload (X : Stand p l e R s m args below meth c T locs cells slots) (hx : p.tables.exec = Jvm.exec) (hby : c.code = code) {k : Nat} {v : Int32} (d : decode code pc = .ok (.iload k, 2)) (hl : L[k]? = some (.val (.int v))) (r : Steps p.tables e below (T.setTop (mkF m (pc + 2) L (.int v :: S))) tg)  : Steps p.tables e below (T.setTop (mkF m pc L (S))) tg := XS.iload X.here hx rfl (hb hby d) hl r
theorem o_iloadN (X : Stand p l e R s m args below meth c T locs cells slots) (hx : p.tables.exec = Jvm.exec) (hby : c.code = code) {k : Fin 4} {v : Int32} (d : decode code pc = .ok (.iload_n k, 1)) (hl : L[k.val]? = some (.val (.int v))) (r : Steps p.tables e below (T.setTop (mkF m (pc + 1) L (.int v :: S))) tg)  : Steps p.tables e below (T.setTop (mkF m pc L (S))) tg := XS.iloadN X.here hx rfl (hb hby d) hl r
theorem o_ior (X : Stand p l e R s m args below meth c T locs cells slots) (hx : p.tables.exec = Jvm.exec) (hby : c.code = code) {x : Int32} {y : Int32} (d : decode code pc = .ok (.ior, 1)) (r : Steps p.tables e below (T.setTop (mkF m (pc + 1) L (.int (x ||| y) :: S))) tg)  : Steps p.tables e below (T.setTop (mkF m pc L (.int y :: .int x :: S))) tg := XS.ior X.here hx rfl (hb hby d) rfl r
theorem o_ishl (X : Stand p l e R s m args below meth c T locs cells slots) (hx : p.tables.exec = Jvm.exec) (hby : c.code = code) {x : Int32} {y : Int32} (d : decode code pc = .ok (.ishl, 1)) (r : Steps p.tables e below (T.setTop (mkF m (pc + 1) L (.int (x <<< (y &&& 31)) :: S))) tg)  : Steps p.tables e below (T.setTop (mkF m pc L (.int y :: .int x :: S))) tg := XS.ishl X.here hx rfl (hb hby d) rfl r
theorem o_ishr (X : Stand p l e R s m args below meth c T locs cells slots) (hx : p.tables.exec = Jvm.exec) (hby : c.code = code) {x : Int32} {y : Int32} (d : decode code pc = .ok (.ishr, 1)) (r : Steps p.tables e below (T.setTop (mkF m (pc + 1) L (.int (x >>> (y &&& 31)) :: S))) tg)  : Steps p.tables e below (T.setTop (mkF m pc L (.int y :: .int x :: S))) tg := XS.ishr X.here hx rfl (hb hby d) rfl r
theorem o_istore (X : Stand p l e R s m args below meth c T locs cells slots) (hx : p.tables.exec = Jvm.exec) (hby : c.code = code) {k : Nat} {x : Int32} {l' : Array Slot} (d : decode code pc = .ok (.istore k, 2)) (hl : storeLocals L k (.int x) = some l') (r : Steps p.tables e below (T.setTop (mkF m (pc + 2) l' (S))) tg)  : Steps p.tables e below (T.setTop (mkF m pc L (.int x :: S))) tg := XS.istore X.here hx rfl (hb hby d) rfl hl r
theorem o_istoreN (X : Stand p l e R s m args below meth c T locs cells slots) (hx : p.tables.exec = Jvm.exec) (hby : c.code = code) {k : Fin 4} {x : Int32} {l' : Array Slot} (d : decode code pc = .ok (.istore_n k, 1)) (hl : storeLocals L k.val (.int x) = some l') (r : Steps p.tables e below (T.setTop (mkF m (pc + 1) l' (S))) tg)  : Steps p.tables e below (T.setTop (mkF m pc L (.int x :: S))) tg := XS.istoreN X.here hx rfl (hb hby d) rfl hl r
theorem o_isub (X : Stand p l e R s m args below meth c T locs cells slots) (hx : p.tables.exec = Jvm.exec) (hby : c.code = code) {x y : Int32} (d : decode code pc = .ok (.isub, 1)) (r : Steps p.tables e below (T.setTop (mkF m (pc + 1) L (.int (x - y) :: S))) tg)  : Steps p.tables e below (T.setTop (mkF m pc L (.int y :: .int x :: S))) tg := XS.isub X.here hx rfl (hb hby d) rfl r
theorem o_iushr (X : Stand p l e R s m args below meth c T locs cells slots) (hx : p.tables.exec = Jvm.exec) (hby : c.code = code) {x : Int32} {y : Int32} (d : decode code pc = .ok (.iushr, 1)) (r : Steps p.tables e below (T.setTop (mkF m (pc + 1) L (.int ((x.toUInt32 >>> (y &&& 31).toUInt32).toInt32) :: S))) tg)  : Steps p.tables e below (T.setTop (mkF m pc L (.int y :: .int x :: S))) tg := XS.iushr X.here hx rfl (hb hby d) rfl r
theorem o_pop (X : Stand p l e R s m args below meth c T locs cells slots) (hx : p.tables.exec = Jvm.exec) (hby : c.code = code) {x : Value} (d : decode code pc = .ok (.pop, 1)) (hc : x.category = 1) (r : Steps p.tables e below (T.setTop (mkF m (pc + 1) L (S))) tg)  : Steps p.tables e below (T.setTop (mkF m pc L (x :: S))) tg := XS.pop X.here hx rfl (hb hby d) rfl hc r
end Ow
section Oc
variable {p : Program} {l : Launch} {e : Env} {R : Room} {s u Z : State} {m : MethodId} {args a0 : Array Value} {below : List Frame} {meth : Method} {c : Code} {T : State} {locs : List Loc} {cells slots : Nat} {code : ByteArray} {pc : Nat} {L : Array Slot} {S : List Value} {EL : List (String × Nat)} {QQ : Option Value → Heap → List Loc → Prop} {kk nn : Nat} {own : String} {index : Nat} {y : MethodName} {bytes : ByteArray} {maxL : Nat} {ret : Option FieldType} {rm : Room} {as' : Array Value} {h : Heap} {Q' : Option Value → Heap → List Loc → Prop} {vm0 : Vm} {k0 : Nat}
theorem nfs {C : String} (hZ : Z.Warmed39 u.vm) (w : (Cond.selects C y y).before a0 Z = true) : NotFace u y := notFace_of_selects (args := #[]) (mvT hZ w)
theorem cSS (X : Stand p l e R (s.setVm vm0) m args below meth c T locs cells slots) (hx : p.tables.exec = Jvm.exec) (hS : s.Since vm0 k0) (hk : k0 ≤ h.size) (hZ : Z.Warmed39 (s.setVm vm0).vm) (hown : (s.setVm vm0).vm.findClass own = some m.cls) (w1 : (Cond.methodLink own index y).before a0 Z = true) (w2 : (Cond.static y).before a0 Z = true) (wz : (Cond.initialized y.cls).before a0 Z = true) (wc : (Cond.code y bytes maxL ret).before a0 Z = true) (hM : CtrW l Z EL y bytes maxL ret [] rm as' h Q') (hEL : EW Z a0 EL) (H : CHv Z EL vm0 h) (hby : c.code = code) (d : decode code pc = .ok (.invokestatic index, 3)) (eT : T.heap = h) {ps : List FieldType} {r : Option FieldType} (pd : parseMethodDescriptor y.desc = some ⟨ps, r⟩) {argsL rest : List Value} (W : Nat) (hsz : L.size = c.maxLocals) (q1 : as' = argsL.toArray) (q2 : argsL.length = ps.length) (q3 : S = argsL.reverse ++ rest) (q4 : (rest.map fun v => v.category).sum = W) (q5 : (y.cls ≠ "java/lang/invoke/MethodHandle" ∧ y.cls ≠ "java/lang/invoke/VarHandle") ∧ rm.frames + 1 ≤ R.frames ∧ W + (maxL + 11) + rm.locals ≤ R.locals ∧ cells + rm.cells ≤ R.cells) (q6 : slots + rm.slots ≤ R.slots)
    (K : ∀ v T' Lc, Stand p l e R (s.setVm T'.vm) m args below meth c T' (locs ++ Lc) (cells + rm.cells) (slots + rm.slots) → s.Since T'.vm T'.heap.size → Z.Warmed39 (s.setVm T'.vm).vm → (s.setVm T'.vm).vm.findClass own = some m.cls → Q' v T'.heap Lc → CHr Z EL vm0 h T'.vm T'.heap → OwnGoW p e below s Z EL QQ kk nn (T'.setTop (mkF m (pc + 3) L (v.toList ++ rest)))) : OwnGoW p e below s Z EL QQ kk nn (T.setTop (mkF m pc L S)) := by
  obtain ⟨v, _, ⟨T', L', k', n'⟩, -, Xq, hSq, gq, ⟨Lc, hQ, l', y', z', rq⟩, st⟩ := callSS X hx (y := y) hown (mvT hZ w1) (mvT hZ w2) (mvT hZ wz) (mvT hZ wc) q5.1 (backCW (W := W) hM hZ wc wz q5.2.1 q5.2.2.1 hEL H) (g := mkF m pc L S) rfl hsz (argsL := argsL) (rest := rest) (lenOf pd q2) q3 (by show 2 * 0 + _ ≤ _; rw [q4]; omega) (hb hby d) (fun _ _ => ⟨q1.symm, eT, q5.2.2.2, q6⟩)
  dsimp only [Pt.U, Pt.locs, Pt.cells, Pt.slots] at Xq hSq gq rq l' y' z' st hQ
  subst l' y' z'
  obtain ⟨X', hS', hZ', hown'⟩ := rebS hS (Nat.le_trans hk (Nat.le_of_eq (congrArg Array.size eT.symm))) Xq hSq gq hZ hown
  exact gsW (fun _ k => st.trans k) (K _ _ _ X' hS' hZ' hown' hQ rq)
theorem cIS (X : Stand p l e R (s.setVm vm0) m args below meth c T locs cells slots) (hx : p.tables.exec = Jvm.exec) (hS : s.Since vm0 k0) (hk : k0 ≤ h.size) (hZ : Z.Warmed39 (s.setVm vm0).vm) (hown : (s.setVm vm0).vm.findClass own = some m.cls) (hy1 : y.name = "<init>") (w1 : (Cond.methodLink own index y).before a0 Z = true) (w2 : (Cond.instanceMethod y).before a0 Z = true) (wz : (Cond.initialized y.cls).before a0 Z = true) (wc : (Cond.code y bytes maxL none).before a0 Z = true) (hM : CtrW l Z EL y bytes maxL none [] rm as' h Q') (hEL : EW Z a0 EL) (H : CHv Z EL vm0 h) (hby : c.code = code) (d : decode code pc = .ok (.invokespecial index, 3)) (eT : T.heap = h) {ps : List FieldType} {r : Option FieldType} (pd : parseMethodDescriptor y.desc = some ⟨ps, r⟩) {argsL rest : List Value} (W : Nat) (hsz : L.size = c.maxLocals) {a : Addr} (q1 : as' = (.ref a :: argsL).toArray) (q2 : argsL.length = ps.length) (q3 : S = argsL.reverse ++ .ref a :: rest) (q4 : (rest.map fun v => v.category).sum = W) (q5 : (y.cls ≠ "java/lang/invoke/MethodHandle" ∧ y.cls ≠ "java/lang/invoke/VarHandle") ∧ rm.frames + 1 ≤ R.frames ∧ W + (maxL + 11) + rm.locals ≤ R.locals ∧ cells + rm.cells ≤ R.cells) (q6 : slots + rm.slots ≤ R.slots)
    (K : ∀ v T' Lc, Stand p l e R (s.setVm T'.vm) m args below meth c T' (locs ++ Lc) (cells + rm.cells) (slots + rm.slots) → s.Since T'.vm T'.heap.size → Z.Warmed39 (s.setVm T'.vm).vm → (s.setVm T'.vm).vm.findClass own = some m.cls → Q' v T'.heap Lc → CHr Z EL vm0 h T'.vm T'.heap → OwnGoW p e below s Z EL QQ kk nn (T'.setTop (mkF m (pc + 3) L (v.toList ++ rest)))) : OwnGoW p e below s Z EL QQ kk nn (T.setTop (mkF m pc L S)) := by
  obtain ⟨v, _, ⟨T', L', k', n'⟩, -, Xq, hSq, gq, ⟨Lc, hQ, l', y', z', rq⟩, st⟩ := X.specialBackS hx (y := y) hy1 hown (mvT hZ w1) (mvT hZ w2) (mvT hZ wc) q5.1 (backCW (W := W) hM hZ wc wz q5.2.1 q5.2.2.1 hEL H) (g := mkF m pc L S) rfl hsz (Steps.refl _) (a := a) (argsL := argsL) (rest := rest) (lenOf pd q2) q3 (by show 2 * 0 + _ ≤ _; rw [q4]; omega) (hb hby d) (fun _ _ => ⟨q1.symm, eT, q5.2.2.2, q6⟩)
  dsimp only [Pt.U, Pt.locs, Pt.cells, Pt.slots] at Xq hSq gq rq l' y' z' st hQ
  subst l' y' z'
  obtain ⟨X', hS', hZ', hown'⟩ := rebS hS (Nat.le_trans hk (Nat.le_of_eq (congrArg Array.size eT.symm))) Xq hSq gq hZ hown
  exact gsW (fun _ k => st.trans k) (K _ _ _ X' hS' hZ' hown' hQ rq)
theorem cS (X : Stand p l e R u m args below meth c T locs cells slots) (hx : p.tables.exec = Jvm.exec) (hZ : Z.Warmed39 u.vm) (hown : u.vm.findClass own = some m.cls) (w1 : (Cond.methodLink own index y).before a0 Z = true) (w2 : (Cond.static y).before a0 Z = true) (wz : (Cond.initialized y.cls).before a0 Z = true) (wc : (Cond.code y bytes maxL ret).before a0 Z = true) (hM : Ctr l Z y bytes maxL ret [] rm as' h Q') (hby : c.code = code) (d : decode code pc = .ok (.invokestatic index, 3)) (eT : T.heap = h) {ps : List FieldType} {r : Option FieldType} (pd : parseMethodDescriptor y.desc = some ⟨ps, r⟩) {argsL rest : List Value} (W : Nat) (hsz : L.size = c.maxLocals) (q1 : as' = argsL.toArray) (q2 : argsL.length = ps.length) (q3 : S = argsL.reverse ++ rest) (q4 : (rest.map fun v => v.category).sum = W) (q5 : (y.cls ≠ "java/lang/invoke/MethodHandle" ∧ y.cls ≠ "java/lang/invoke/VarHandle") ∧ rm.frames + 1 ≤ R.frames ∧ W + (maxL + 11) + rm.locals ≤ R.locals ∧ cells + rm.cells ≤ R.cells) (q6 : slots + rm.slots ≤ R.slots)
    (K : ∀ v T' Lc, Stand p l e R u m args below meth c T' (locs ++ Lc) (cells + rm.cells) (slots + rm.slots) → Q' v T'.heap Lc → OwnGo p e below s QQ kk nn (T'.setTop (mkF m (pc + 3) L (v.toList ++ rest)))) : OwnGo p e below s QQ kk nn (T.setTop (mkF m pc L S)) := by
  obtain ⟨v, _, ⟨T', L', k', n'⟩, -, X', ⟨Lc, hQ, l', y', z'⟩, st⟩ := Jvm.LawKit.callS X hx (y := y) hown (mvT hZ w1) (mvT hZ w2) (mvT hZ wz) (mvT hZ wc) q5.1 (backC (W := W) hM hZ wc wz q5.2.1 q5.2.2.1) (g := mkF m pc L S) rfl hsz (argsL := argsL) (rest := rest) (lenOf pd q2) q3 (by show 2 * 0 + _ ≤ _; rw [q4]; omega) (hb hby d) (fun _ _ => ⟨q1.symm, eT, q5.2.2.2, q6⟩)
  dsimp only [Pt.U, Pt.locs, Pt.cells, Pt.slots] at X' l' y' z' st hQ
  subst l' y' z'
  exact gs st (K _ _ _ X' hQ)
theorem cI (X : Stand p l e R u m args below meth c T locs cells slots) (hx : p.tables.exec = Jvm.exec) (hZ : Z.Warmed39 u.vm) (hown : u.vm.findClass own = some m.cls) (hy1 : y.name = "<init>") (w1 : (Cond.methodLink own index y).before a0 Z = true) (w2 : (Cond.instanceMethod y).before a0 Z = true) (wz : (Cond.initialized y.cls).before a0 Z = true) (wc : (Cond.code y bytes maxL none).before a0 Z = true) (hM : Ctr l Z y bytes maxL none [] rm as' h Q') (hby : c.code = code) (d : decode code pc = .ok (.invokespecial index, 3)) (eT : T.heap = h) {ps : List FieldType} {r : Option FieldType} (pd : parseMethodDescriptor y.desc = some ⟨ps, r⟩) {argsL rest : List Value} (W : Nat) (hsz : L.size = c.maxLocals) {a : Addr} (q1 : as' = (.ref a :: argsL).toArray) (q2 : argsL.length = ps.length) (q3 : S = argsL.reverse ++ .ref a :: rest) (q4 : (rest.map fun v => v.category).sum = W) (q5 : (y.cls ≠ "java/lang/invoke/MethodHandle" ∧ y.cls ≠ "java/lang/invoke/VarHandle") ∧ rm.frames + 1 ≤ R.frames ∧ W + (maxL + 11) + rm.locals ≤ R.locals ∧ cells + rm.cells ≤ R.cells) (q6 : slots + rm.slots ≤ R.slots)
    (K : ∀ v T' Lc, Stand p l e R u m args below meth c T' (locs ++ Lc) (cells + rm.cells) (slots + rm.slots) → Q' v T'.heap Lc → OwnGo p e below s QQ kk nn (T'.setTop (mkF m (pc + 3) L (v.toList ++ rest)))) : OwnGo p e below s QQ kk nn (T.setTop (mkF m pc L S)) := by
  obtain ⟨v, _, ⟨T', L', k', n'⟩, -, X', ⟨Lc, hQ, l', y', z'⟩, st⟩ := X.specialBack hx (y := y) hy1 hown (mvT hZ w1) (mvT hZ w2) (mvT hZ wc) q5.1 (backC (W := W) hM hZ wc wz q5.2.1 q5.2.2.1) (g := mkF m pc L S) rfl hsz (Steps.refl _) (a := a) (argsL := argsL) (rest := rest) (lenOf pd q2) q3 (by show 2 * 0 + _ ≤ _; rw [q4]; omega) (hb hby d) (fun _ _ => ⟨q1.symm, eT, q5.2.2.2, q6⟩)
  dsimp only [Pt.U, Pt.locs, Pt.cells, Pt.slots] at X' l' y' z' st hQ
  subst l' y' z'
  exact gs (fun _ k => st.trans k) (K _ _ _ X' hQ)
theorem cV (X : Stand p l e R u m args below meth c T locs cells slots) (hx : p.tables.exec = Jvm.exec) (hZ : Z.Warmed39 u.vm) (hown : u.vm.findClass own = some m.cls) {y' : MethodName} {C : String} (w1 : (Cond.methodLink own index y').before a0 Z = true) (w2 : (Cond.declares y').before a0 Z = true) (hnf : NotFace u y') (ws : (Cond.selects C y' y).before a0 Z = true) (wi : (Cond.instanceMethod y).before a0 Z = true) (wz : (Cond.initialized y.cls).before a0 Z = true) (wc : (Cond.code y bytes maxL ret).before a0 Z = true) (hM : Ctr l Z y bytes maxL ret [] rm as' h Q') (hby : c.code = code) (d : decode code pc = .ok (.invokevirtual index, 3)) (eT : T.heap = h) {ps : List FieldType} {r : Option FieldType} (pd : parseMethodDescriptor y'.desc = some ⟨ps, r⟩) {argsL rest : List Value} (W : Nat) (hsz : L.size = c.maxLocals) {a : Addr} (E : Exa Z h a C) (q1 : as' = (.ref a :: argsL).toArray) (q2 : argsL.length = ps.length) (q3 : S = argsL.reverse ++ .ref a :: rest) (q4 : (rest.map fun v => v.category).sum = W) (q5 : (y'.cls ≠ "java/lang/invoke/MethodHandle" ∧ y'.cls ≠ "java/lang/invoke/VarHandle") ∧ rm.frames + 1 ≤ R.frames ∧ W + (maxL + 11) + rm.locals ≤ R.locals ∧ cells + rm.cells ≤ R.cells) (q6 : slots + rm.slots ≤ R.slots)
    (K : ∀ v T' Lc, Stand p l e R u m args below meth c T' (locs ++ Lc) (cells + rm.cells) (slots + rm.slots) → Q' v T'.heap Lc → OwnGo p e below s QQ kk nn (T'.setTop (mkF m (pc + 3) L (v.toList ++ rest)))) : OwnGo p e below s QQ kk nn (T.setTop (mkF m pc L S)) := by
  obtain ⟨cq, kq, qa, qb, qc⟩ := isOf hZ eT E
  obtain ⟨v, _, ⟨T', L', k', n'⟩, -, X', ⟨Lc, hQ, l', y', z'⟩, st⟩ := X.virtualBack hx (y := y') (z := y) hown (mvT hZ w1) (mvT hZ w2) hnf (mvT hZ ws) (mvT hZ wi) q5.1 (backC (W := W) hM hZ wc wz q5.2.1 q5.2.2.1) qa qc (g := mkF m pc L S) rfl hsz (Steps.refl _) (argsL := argsL) (rest := rest) (lenOf pd q2) q3 (by show 2 * 0 + _ ≤ _; rw [q4]; omega) (hb hby d) (fun _ _ => ⟨q1.symm, eT, q5.2.2.2, q6⟩)
  dsimp only [Pt.U, Pt.locs, Pt.cells, Pt.slots] at X' l' y' z' st hQ
  subst l' y' z'
  exact gs (fun _ k => st.trans k) (K _ _ _ X' hQ)
theorem gF (X : Stand p l e R u m args below meth c T locs cells slots) (hx : p.tables.exec = Jvm.exec) (hZ : Z.Warmed39 u.vm) (hown : u.vm.findClass own = some m.cls) {R0 O n d' host : String} (w : (Cond.fieldLink own index R0 n d').before a0 Z = true ∨ (Cond.fieldLinkNest own index R0 n d' host).before a0 Z = true) (via : Via Z R0 O n d') (eT : T.heap = h) {a : Addr} {v : Value} (F : Fld Z h a O n d' v) (hby : c.code = code) (d : decode code pc = .ok (.getfield index, 3)) (K : ∀ T', Stand p l e R u m args below meth c T' locs cells slots → T'.heap = h → OwnGo p e below s QQ kk nn (T'.setTop (mkF m (pc + 3) L (v :: S)))) : OwnGo p e below s QQ kk nn (T.setTop (mkF m pc L (.ref a :: S))) := by
  obtain ⟨T', X', e', st⟩ := getF X hx hZ hown w via eT F (g := mkF m pc L (.ref a :: S)) rfl rfl (hb hby d)
  exact gs st (K _ X' e')
theorem gS (X : Stand p l e R u m args below meth c T locs cells slots) (hx : p.tables.exec = Jvm.exec) (hZ : Z.Warmed39 u.vm) (hown : u.vm.findClass own = some m.cls) {R0 O n d' host : String} (w : (Cond.fieldLink own index R0 n d').before a0 Z = true ∨ (Cond.fieldLinkNest own index R0 n d' host).before a0 Z = true) (via : Via Z R0 O n d') (eT : T.heap = h) {v : Value} (F : Sta Z h O n d' v) (hby : c.code = code) (d : decode code pc = .ok (.getstatic index, 3)) (K : ∀ T', Stand p l e R u m args below meth c T' locs cells slots → T'.heap = h → OwnGo p e below s QQ kk nn (T'.setTop (mkF m (pc + 3) L (v :: S)))) : OwnGo p e below s QQ kk nn (T.setTop (mkF m pc L S)) := by
  obtain ⟨T', X', e', st⟩ := getS2 X hx hZ hown w via eT F (g := mkF m pc L S) rfl (hb hby d)
  exact gs st (K _ X' e')
theorem cSW (X : Stand p l e R u m args below meth c T locs cells slots) (hx : p.tables.exec = Jvm.exec) (hZ : Z.Warmed39 u.vm) (hown : u.vm.findClass own = some m.cls) (w1 : (Cond.methodLink own index y).before a0 Z = true) (w2 : (Cond.static y).before a0 Z = true) (wz : (Cond.initialized y.cls).before a0 Z = true) (wc : (Cond.code y bytes maxL ret).before a0 Z = true) (hM : Ctr l Z y bytes maxL ret [] rm as' h Q') (hby : c.code = code) (d : decode code pc = .ok (.invokestatic index, 3)) (eT : T.heap = h) {ps : List FieldType} {r : Option FieldType} (pd : parseMethodDescriptor y.desc = some ⟨ps, r⟩) {argsL rest : List Value} (W : Nat) (hsz : L.size = c.maxLocals) (q1 : as' = argsL.toArray) (q2 : argsL.length = ps.length) (q3 : S = argsL.reverse ++ rest) (q4 : (rest.map fun v => v.category).sum = W) (q5 : (y.cls ≠ "java/lang/invoke/MethodHandle" ∧ y.cls ≠ "java/lang/invoke/VarHandle") ∧ rm.frames + 1 ≤ R.frames ∧ W + (maxL + 11) + rm.locals ≤ R.locals ∧ cells + rm.cells ≤ R.cells) (q6 : slots + rm.slots ≤ R.slots)
    (K : ∀ v T' Lc, Stand p l e R u m args below meth c T' (locs ++ Lc) (cells + rm.cells) (slots + rm.slots) → Q' v T'.heap Lc → OwnGoW p e below s Z EL QQ kk nn (T'.setTop (mkF m (pc + 3) L (v.toList ++ rest)))) : OwnGoW p e below s Z EL QQ kk nn (T.setTop (mkF m pc L S)) := by
  obtain ⟨v, _, ⟨T', L', k', n'⟩, -, X', ⟨Lc, hQ, l', y', z'⟩, st⟩ := Jvm.LawKit.callS X hx (y := y) hown (mvT hZ w1) (mvT hZ w2) (mvT hZ wz) (mvT hZ wc) q5.1 (backC (W := W) hM hZ wc wz q5.2.1 q5.2.2.1) (g := mkF m pc L S) rfl hsz (argsL := argsL) (rest := rest) (lenOf pd q2) q3 (by show 2 * 0 + _ ≤ _; rw [q4]; omega) (hb hby d) (fun _ _ => ⟨q1.symm, eT, q5.2.2.2, q6⟩)
  dsimp only [Pt.U, Pt.locs, Pt.cells, Pt.slots] at X' l' y' z' st hQ
  subst l' y' z'
  exact gsW st (K _ _ _ X' hQ)
theorem cIW (X : Stand p l e R u m args below meth c T locs cells slots) (hx : p.tables.exec = Jvm.exec) (hZ : Z.Warmed39 u.vm) (hown : u.vm.findClass own = some m.cls) (hy1 : y.name = "<init>") (w1 : (Cond.methodLink own index y).before a0 Z = true) (w2 : (Cond.instanceMethod y).before a0 Z = true) (wz : (Cond.initialized y.cls).before a0 Z = true) (wc : (Cond.code y bytes maxL none).before a0 Z = true) (hM : Ctr l Z y bytes maxL none [] rm as' h Q') (hby : c.code = code) (d : decode code pc = .ok (.invokespecial index, 3)) (eT : T.heap = h) {ps : List FieldType} {r : Option FieldType} (pd : parseMethodDescriptor y.desc = some ⟨ps, r⟩) {argsL rest : List Value} (W : Nat) (hsz : L.size = c.maxLocals) {a : Addr} (q1 : as' = (.ref a :: argsL).toArray) (q2 : argsL.length = ps.length) (q3 : S = argsL.reverse ++ .ref a :: rest) (q4 : (rest.map fun v => v.category).sum = W) (q5 : (y.cls ≠ "java/lang/invoke/MethodHandle" ∧ y.cls ≠ "java/lang/invoke/VarHandle") ∧ rm.frames + 1 ≤ R.frames ∧ W + (maxL + 11) + rm.locals ≤ R.locals ∧ cells + rm.cells ≤ R.cells) (q6 : slots + rm.slots ≤ R.slots)
    (K : ∀ v T' Lc, Stand p l e R u m args below meth c T' (locs ++ Lc) (cells + rm.cells) (slots + rm.slots) → Q' v T'.heap Lc → OwnGoW p e below s Z EL QQ kk nn (T'.setTop (mkF m (pc + 3) L (v.toList ++ rest)))) : OwnGoW p e below s Z EL QQ kk nn (T.setTop (mkF m pc L S)) := by
  obtain ⟨v, _, ⟨T', L', k', n'⟩, -, X', ⟨Lc, hQ, l', y', z'⟩, st⟩ := X.specialBack hx (y := y) hy1 hown (mvT hZ w1) (mvT hZ w2) (mvT hZ wc) q5.1 (backC (W := W) hM hZ wc wz q5.2.1 q5.2.2.1) (g := mkF m pc L S) rfl hsz (Steps.refl _) (a := a) (argsL := argsL) (rest := rest) (lenOf pd q2) q3 (by show 2 * 0 + _ ≤ _; rw [q4]; omega) (hb hby d) (fun _ _ => ⟨q1.symm, eT, q5.2.2.2, q6⟩)
  dsimp only [Pt.U, Pt.locs, Pt.cells, Pt.slots] at X' l' y' z' st hQ
  subst l' y' z'
  exact gsW (fun _ k => st.trans k) (K _ _ _ X' hQ)
theorem gFW (X : Stand p l e R u m args below meth c T locs cells slots) (hx : p.tables.exec = Jvm.exec) (hZ : Z.Warmed39 u.vm) (hown : u.vm.findClass own = some m.cls) {R0 O n d' host : String} (w : (Cond.fieldLink own index R0 n d').before a0 Z = true ∨ (Cond.fieldLinkNest own index R0 n d' host).before a0 Z = true) (via : Via Z R0 O n d') (eT : T.heap = h) {a : Addr} {v : Value} (F : Fld Z h a O n d' v) (hby : c.code = code) (d : decode code pc = .ok (.getfield index, 3)) (K : ∀ T', Stand p l e R u m args below meth c T' locs cells slots → T'.heap = h → OwnGoW p e below s Z EL QQ kk nn (T'.setTop (mkF m (pc + 3) L (v :: S)))) : OwnGoW p e below s Z EL QQ kk nn (T.setTop (mkF m pc L (.ref a :: S))) := by
  obtain ⟨T', X', e', st⟩ := getF X hx hZ hown w via eT F (g := mkF m pc L (.ref a :: S)) rfl rfl (hb hby d)
  exact gsW st (K _ X' e')
end Oc
abbrev my0 : MethodName := ⟨"java/lang/String", "length", "()I"⟩
abbrev my1 : MethodName := ⟨"com/example/ledgergate/ledgergate/access/Buttons", "withoutSeparator", "(Ljava/lang/String;Ljava/lang/String;)Ljava/lang/String;"⟩
abbrev my2 : MethodName := ⟨"java/lang/String", "<init>", "([C)V"⟩
abbrev my3 : MethodName := ⟨"java/lang/String", "<init>", "([CIILjava/lang/Void;)V"⟩
abbrev my4 : MethodName := ⟨"java/lang/String", "indexOf", "(II)I"⟩
abbrev my5 : MethodName := ⟨"java/lang/String", "indexOf", "(I)I"⟩
abbrev my6 : MethodName := ⟨"java/lang/StringUTF16", "putChar", "([BII)V"⟩
abbrev my7 : MethodName := ⟨"java/lang/StringUTF16", "getChar", "([BI)C"⟩
abbrev my8 : MethodName := ⟨"java/lang/StringUTF16", "compress", "([CI[BII)I"⟩
abbrev my9 : MethodName := ⟨"java/lang/StringUTF16", "compress", "([CII)[B"⟩
abbrev my10 : MethodName := ⟨"java/lang/Math", "min", "(II)I"⟩
abbrev my11 : MethodName := ⟨"java/lang/StringLatin1", "indexOf", "([BIII)I"⟩
abbrev my12 : MethodName := ⟨"java/lang/StringUTF16", "newBytesLength", "(I)I"⟩
abbrev my13 : MethodName := ⟨"java/lang/StringUTF16", "newBytesFor", "(I)[B"⟩
abbrev my14 : MethodName := ⟨"java/lang/StringUTF16", "toBytes", "([CII)[B"⟩
abbrev my15 : MethodName := ⟨"java/lang/StringUTF16", "coderFromArrayLen", "([BI)B"⟩
abbrev my16 : MethodName := ⟨"java/lang/StringLatin1", "indexOfChar", "([BIII)I"⟩
abbrev my17 : MethodName := ⟨"java/lang/StringUTF16", "length", "([B)I"⟩
abbrev my18 : MethodName := ⟨"jdk/internal/util/Preconditions", "checkFromToIndex", "(IIILjava/util/function/BiFunction;)I"⟩
abbrev my19 : MethodName := ⟨"java/lang/String", "checkBoundsBeginEnd", "(III)V"⟩
abbrev my20 : MethodName := ⟨"java/lang/StringUTF16", "checkBoundsBeginEnd", "(II[B)V"⟩
abbrev my21 : MethodName := ⟨"java/lang/StringUTF16", "indexOfCharUnsafe", "([BIII)I"⟩
abbrev my22 : MethodName := ⟨"java/lang/StringUTF16", "indexOfChar", "([BIII)I"⟩
abbrev my23 : MethodName := ⟨"java/lang/StringUTF16", "indexOf", "([BIII)I"⟩
abbrev my24 : MethodName := ⟨"java/lang/Math", "max", "(II)I"⟩
abbrev my25 : MethodName := ⟨"java/lang/String", "isLatin1", "()Z"⟩
abbrev HW (Z : State) (a0 : Array Value) : Prop := ∀ d ∈ tables_1, d.before a0 Z = true
abbrev PS0 (Z : State) (q : Value) : Prop := Sta Z Z.heap "java/lang/StringUTF16" "$assertionsDisabled" "Z" q
abbrev PS1 (Z : State) (q : Value) : Prop := Sta Z Z.heap "java/lang/StringUTF16" "HI_BYTE_SHIFT" "I" q
abbrev PS2 (Z : State) (q : Value) : Prop := Sta Z Z.heap "java/lang/StringUTF16" "LO_BYTE_SHIFT" "I" q
abbrev PS3 (Z : State) (q : Value) : Prop := Sta Z Z.heap "java/lang/String" "COMPACT_STRINGS" "Z" q
abbrev PS4 (Z : State) (q : Value) : Prop := Sta Z Z.heap "jdk/internal/util/Preconditions" "SIOOBE_FORMATTER" "Ljava/util/function/BiFunction;" q
theorem own_w0 {a b : Nat} (h : a = b) : a ≤ b := Nat.le_of_eq h
abbrev uu : Slot := .unset
theorem nt {a b c : Nat} (h : a ≤ b) (k : b ≤ c) : a ≤ c := Nat.le_trans h k
theorem nu {a b c : Nat} (h : a < b) (k : b ≤ c) : a < c := Nat.lt_of_lt_of_le h k
theorem nw {a b : Nat} (h : a < b) : a ≠ b := Nat.ne_of_lt h
theorem nb {a b : Nat} (h : Nat.ble a b = true) : a ≤ b := Nat.le_of_ble_eq_true h
theorem ow {Z : State} {a0 : Array Value} (hw : HW Z a0) (i : Nat) {d : Jvm.Cond} (q : tables_1[i]? = some d) : d.before a0 Z = true := hw d (List.mem_of_getElem? q)
def own_EL : List (String × Nat) := [("java/lang/String", 7)]
theorem own_EW {Z : State} {a0 : Array Value} (hw : HW Z a0) : EW Z a0 own_EL := (EW.cons (ow hw 19 rfl) (by decide) EW.nil)
theorem own_wS {Z : State} {a0 : Array Value} (hw : HW Z a0) : ∀ a ∈ Bundle.stringAtoms, a.before a0 Z = true := fun d hd => hw d ((by decide +kernel : ∀ d ∈ Bundle.stringAtoms, d ∈ tables_1) d hd)
theorem own_and255 (x : Int32) : ¬ nar .char ((x &&& (255 : Int32)).toUInt32.toUInt16.toUInt32.toInt32) < 0 ∧ ¬ (255 : Int32) < nar .char ((x &&& (255 : Int32)).toUInt32.toUInt16.toUInt32.toInt32) := by
  have h := c_i2c (x &&& (255 : Int32)); have h2 := c_and x 255 (by decide)
  have h3 := c_i2c ((x &&& (255 : Int32)).toUInt32.toUInt16.toUInt32.toInt32)
  have e : (255 : Int32).toInt = 255 := by decide
  have z : (0 : Int32).toInt = 0 := by decide
  show ¬ ((x &&& (255 : Int32)).toUInt32.toUInt16.toUInt32.toInt32).toUInt32.toUInt16.toUInt32.toInt32 < 0 ∧ ¬ (255 : Int32) < ((x &&& (255 : Int32)).toUInt32.toUInt16.toUInt32.toInt32).toUInt32.toUInt16.toUInt32.toInt32
  simp only [Int32.lt_iff_toInt_lt]
  omega
theorem own_narc (x : Int32) : nar .char (x.toUInt32.toUInt16.toUInt32.toInt32) = x.toUInt32.toUInt16.toUInt32.toInt32 := by
  show (x.toUInt32.toUInt16.toUInt32.toInt32).toUInt32.toUInt16.toUInt32.toInt32 = _
  simp only [UInt32.toUInt32_toInt32, UInt16.toUInt16_toUInt32]
theorem own_narb (x : Int32) : nar .byte (x.toInt8.toInt32) = x.toInt8.toInt32 := by
  show (x.toInt8.toInt32).toInt8.toInt32 = _
  simp
theorem own_ci (x : Int32) : ¬ (x &&& (255 : Int32)).toUInt32.toUInt16.toUInt32.toInt32 < 0 ∧ ¬ (255 : Int32) < (x &&& (255 : Int32)).toUInt32.toUInt16.toUInt32.toInt32 := by
  have h := c_i2c (x &&& (255 : Int32)); have h2 := c_and x 255 (by decide)
  have e : (255 : Int32).toInt = 255 := by decide
  have z : (0 : Int32).toInt = 0 := by decide
  simp only [Int32.lt_iff_toInt_lt]
  omega


/-- a String at a spells cs (each 0 to 255) -/
def Str (Z : State) (h : Heap) (a : Addr) (cs : List Int32) : Prop := ∃ (t : Addr) (kb : ClassId), Exa Z h a "java/lang/String" ∧ Fld Z h a "java/lang/String" "coder" "B" (.int 0) ∧ Fld Z h a "java/lang/String" "value" "[B" (.ref t) ∧ Arv Z h t kb .byte (Int32.ofNat cs.length) ((cs.map (fun c => c.toInt8.toInt32)).map Value.int) (.int 0)
theorem Str.exa {Z : State} {h : Heap} {a : Addr} {cs : List Int32} (F : Str Z h a cs) : Exa Z h a "java/lang/String" := by obtain ⟨t, kb, E, -⟩ := F; exact E
theorem Str.lt {Z : State} {h : Heap} {a : Addr} {cs : List Int32} (F : Str Z h a cs) : a < h.size := F.exa.lt
theorem Str.ext {Z : State} {h h' : Heap} {a : Addr} {cs : List Int32} (F : Str Z h a cs) (E : Ext h h') : Str Z h' a cs := by obtain ⟨t, kb, x, c, v, k⟩ := F; exact ⟨t, kb, x.ext E, c.ext E, v.ext E, k.ext E⟩
theorem Str.keep0 {Z : State} {h h' : Heap} {a : Addr} {cs : List Int32} (F : Str Z h a cs) (K : Keep h h' []) : Str Z h' a cs := by obtain ⟨t, kb, x, c, v, k⟩ := F; exact ⟨t, kb, x.keep K, c.keep K nin0, v.keep K nin0, k.keep K nin0⟩
theorem Str.keepE {Z : State} {h h' : Heap} {a b : Addr} {C : String} {cs : List Int32} (F : Str Z h a cs) (K : Keep h h' [b]) (E : Exa Z h b C) (hC : C ≠ "java/lang/String") {a0 : Array Value} {n : Nat} (w : (Cond.instantiable C n).before a0 Z = true) : Str Z h' a cs := by
  obtain ⟨t, kb, x, c, v, k⟩ := F
  have n1 : a ≠ b := Ne.symm (Exa.ne E x hC)
  have n2 : t ≠ b := Ne.symm (Exa.neArv E k w)
  exact ⟨t, kb, x.keep K, c.keep K (ninS n1 nin0), v.keep K (ninS n1 nin0), k.keep K (ninS n2 nin0)⟩
theorem Str.wrE {Z : State} {h h' : Heap} {a b : Addr} {C : String} {cs : List Int32} {sl : Nat} {v : Value} (F : Str Z h a cs) (W : Wr h h' b sl v) (E : Exa Z h b C) (hC : C ≠ "java/lang/String") {a0 : Array Value} {n : Nat} (w : (Cond.instantiable C n).before a0 Z = true) : Str Z h' a cs := F.keepE (Keep.of_wr W) E hC w
theorem own_up {cs : List Int32} (hb : ∀ c ∈ cs, ¬ c < 0 ∧ ¬ (255 : Int32) < c) : ∀ c ∈ cs, ¬ c < 0 ∧ ¬ (65535 : Int32) < c := fun c hc => by
  have h := hb c hc
  have e1 : (255 : Int32).toInt = 255 := by decide
  have e2 : (65535 : Int32).toInt = 65535 := by decide
  simp only [Int32.lt_iff_toInt_lt] at h ⊢
  omega

theorem own_lenB {p : Program} {l : Launch} {e : Env} {R : Room} {s : State} {args : Array Value} {below : List Frame} {len W : Nat} {Z : State} {a0 : Array Value} {h : Heap} {x : Addr} {cs : List Int32} {z : Int32} (hZ : Z.Warmed39 s.vm) (hw : HW Z a0) (F : Str Z h x cs) (hb : ∀ c ∈ cs, ¬ c < 0 ∧ ¬ (255 : Int32) < c)
    (S : Sta Z h "java/lang/String" "COMPACT_STRINGS" "Z" (.int z)) (hz : ¬ z = 0) (l2 : cs.length ≤ 4000) (hfr : 2 ≤ R.frames) (hlo : W + 25 ≤ R.locals) :
    Back l R p e below s args my0 len W (fun P a => a = #[.ref x] ∧ P.U.heap = h ∧ P.cells + 0 ≤ R.cells ∧ P.slots + 0 ≤ R.slots)
      (fun P _ v B => ∃ L, (v = some (.int (Int32.ofNat cs.length)) ∧ L = [] ∧ B.U.heap = h) ∧ B.locs = P.locs ++ L ∧ B.cells = P.cells + 0 ∧ B.slots = P.slots + 0) := by
  obtain ⟨t, kb, E, C, V, K⟩ := F
  exact StrChars.Road.lenW hZ (fun d hd => hw d ((by decide +kernel : ∀ d ∈ StrChars.Road.wordsLen, d ∈ tables_1) d hd)) (kI := 4) (ow hw 6 rfl) E V C K (StrChars.Road.codOf rfl fun c hc => (hb c hc).2) (own_up hb) S hz l2 hfr hlo

abbrev own_b0 (c : Int32) : Int32 := nar .byte ((c >>> ((0 : Int32) &&& 31)).toInt8.toInt32)
abbrev own_b1 (c : Int32) : Int32 := nar .byte ((c >>> ((8 : Int32) &&& 31)).toInt8.toInt32)
theorem own_gc {c : Int32} (h : ¬ c < 0 ∧ ¬ (65535 : Int32) < c) : nar .char ((((own_b0 c &&& (255 : Int32)) <<< ((0 : Int32) &&& 31)) ||| ((own_b1 c &&& (255 : Int32)) <<< ((8 : Int32) &&& 31))).toUInt32.toUInt16.toUInt32.toInt32) = c := by
  have e1 : (65535 : Int32).toInt = 65535 := by decide
  have e0 : (0 : Int32).toInt = 0 := by decide
  simp only [Int32.lt_iff_toInt_lt, e1, e0] at h
  have s0 := c_ishr c 0 0 (by decide)
  have s8 := c_ishr c 8 8 (by decide)
  have b0 : (own_b0 c).toInt = (c >>> ((0 : Int32) &&& 31)).toInt8.toInt32.toInt := by show ((c >>> ((0 : Int32) &&& 31)).toInt8.toInt32).toInt8.toInt32.toInt = _; simp
  have b1 : (own_b1 c).toInt = (c >>> ((8 : Int32) &&& 31)).toInt8.toInt32.toInt := by show ((c >>> ((8 : Int32) &&& 31)).toInt8.toInt32).toInt8.toInt32.toInt = _; simp
  have i0 := c_i2b (c >>> ((0 : Int32) &&& 31))
  have i1 := c_i2b (c >>> ((8 : Int32) &&& 31))
  have m0 := c_mask (own_b0 c) 255 8 (by decide) (by decide)
  have m1 := c_mask (own_b1 c) 255 8 (by decide) (by decide)
  have l0 := c_ishl (own_b0 c &&& 255) 0 0 (by decide)
  have l1 := c_ishl (own_b1 c &&& 255) 8 8 (by decide)
  have r0 := rng32 ((own_b0 c &&& 255) <<< ((0 : Int32) &&& 31))
  have r1 := rng32 ((own_b1 c &&& 255) <<< ((8 : Int32) &&& 31))
  generalize hX : (own_b0 c &&& (255 : Int32)) <<< ((0 : Int32) &&& 31) = X at *
  generalize hY : (own_b1 c &&& (255 : Int32)) <<< ((8 : Int32) &&& 31) = Y at *
  have hXv : X.toInt = c.toInt % 256 := by omega
  have hYv : Y.toInt = (c.toInt / 256) * 256 := by omega
  have o := c_or' X Y 8 (by decide) 256 (by decide) (by omega) (by omega) (by omega)
  have ro := rng32 (X ||| Y)
  have n1 := c_i2c (X ||| Y)
  have n2 := c_i2c ((X ||| Y).toUInt32.toUInt16.toUInt32.toInt32)
  show ((X ||| Y).toUInt32.toUInt16.toUInt32.toInt32).toUInt32.toUInt16.toUInt32.toInt32 = c
  rw [← Int32.toInt_inj]
  omega
def own_bs (cs : List Int32) : List Value := cs.flatMap fun c => [Value.int (own_b0 c), Value.int (own_b1 c)]
def Str16 (Z : State) (h : Heap) (a : Addr) (cs : List Int32) : Prop := ∃ (t : Addr) (kb : ClassId), Exa Z h a "java/lang/String" ∧ Fld Z h a "java/lang/String" "coder" "B" (.int 1) ∧ Fld Z h a "java/lang/String" "value" "[B" (.ref t) ∧ Arv Z h t kb .byte (Int32.ofNat (2 * cs.length)) (own_bs cs) (.int 0)
theorem Str16.exa {Z : State} {h : Heap} {a : Addr} {cs : List Int32} (F : Str16 Z h a cs) : Exa Z h a "java/lang/String" := by obtain ⟨t, kb, E, -⟩ := F; exact E
theorem Str16.lt {Z : State} {h : Heap} {a : Addr} {cs : List Int32} (F : Str16 Z h a cs) : a < h.size := F.exa.lt
theorem Str16.ext {Z : State} {h h' : Heap} {a : Addr} {cs : List Int32} (F : Str16 Z h a cs) (E : Ext h h') : Str16 Z h' a cs := by obtain ⟨t, kb, x, c, v, k⟩ := F; exact ⟨t, kb, x.ext E, c.ext E, v.ext E, k.ext E⟩
theorem Str16.keep0 {Z : State} {h h' : Heap} {a : Addr} {cs : List Int32} (F : Str16 Z h a cs) (K : Keep h h' []) : Str16 Z h' a cs := by obtain ⟨t, kb, x, c, v, k⟩ := F; exact ⟨t, kb, x.keep K, c.keep K nin0, v.keep K nin0, k.keep K nin0⟩
theorem own_nc16 {x : Int32} (h : ¬ x < 0 ∧ ¬ (65535 : Int32) < x) : nar .char x = x := by
  have a := c_i2c x
  have e : (65535 : Int32).toInt = 65535 := by decide
  have z : (0 : Int32).toInt = 0 := by decide
  show x.toUInt32.toUInt16.toUInt32.toInt32 = x
  simp only [Int32.lt_iff_toInt_lt] at h
  rw [← Int32.toInt_inj]
  omega
theorem own_c16 (x : Int32) : ¬ (x &&& (65535 : Int32)).toUInt32.toUInt16.toUInt32.toInt32 < 0 ∧ ¬ (65535 : Int32) < (x &&& (65535 : Int32)).toUInt32.toUInt16.toUInt32.toInt32 := by
  have h := c_i2c (x &&& (65535 : Int32))
  have e : (65535 : Int32).toInt = 65535 := by decide
  have z : (0 : Int32).toInt = 0 := by decide
  simp only [Int32.lt_iff_toInt_lt]
  omega
theorem own_b58 {c : Int32} (h : ¬ c < 0 ∧ ¬ (255 : Int32) < c) (n : ¬ c = (58 : Int32)) : ¬ c.toInt8.toInt32 = (58 : Int32) := by
  have a := c_i2b c
  have e : (255 : Int32).toInt = 255 := by decide
  have z : (0 : Int32).toInt = 0 := by decide
  have f : (58 : Int32).toInt = 58 := by decide
  simp only [Int32.lt_iff_toInt_lt] at h
  simp only [← Int32.toInt_inj] at n ⊢
  omega
theorem own_safe_new {Z : State} {EL : List (String × Nat)} {vm : Vm} {h : Heap} {x : Addr} (hal : Z.vm.Alike vm) (E : Exa Z h x "java/lang/String") (F : Fld Z h x "java/lang/String" "value" "[B" .null) : Safe Z EL vm h x := fun B => by
  obtain ⟨p, hp, u, a, hb, q, hqa, S, hy⟩ := B
  obtain ⟨cS, ⟨⟨s1, s2, s3, ⟨cv, kv, iv, s4, s4'⟩, ⟨cc, kc, ic, s5, s5'⟩, s6, s7, s8, s9, s10, s11, s12, s13, s14, s15, s16⟩, hfS, hcS⟩, ⟨kS, k1, k2, k3⟩, hB, hbyt⟩ := S
  rcases hy with hy | hy
  · obtain ⟨cell, cf, k, i, f, h1, h2, h3, h4, h5, h6, h7⟩ := F
    obtain ⟨kv', z4⟩ := ff_back (U := Wst Z vm h) hal s4
    subst hy
    have s1' : h[q.sa]? = some q.sC := s1
    cases h1.symm.trans s1'
    cases h2.symm.trans z4
    cases h7.symm.trans s8
  · obtain ⟨cell, k, h1, h2, -⟩ := E
    subst hy
    have s10' : h[q.sd]? = some q.SA := s10
    cases h1.symm.trans s10'
    have hB' : vm.findClass "[B" = some q.SA.cls := hB
    rw [hal.findClass] at hB'
    exact ids_ne h2 hB' (by decide) rfl
theorem ef_0 (m : MethodId) (x0 : Addr) (x1 : Addr) (x2 : Int32) (x3 : Int32) : entryFrame m #[(.ref x0), (.ref x1), (.int x2), (.int x3), .null] 6 = mkF m 0 #[.val (.ref x0), .val (.ref x1), .val (.int x2), .val (.int x3), .val .null, .unset] [] := by first | (simp [entryFrame, mkF, argsToLocals, Value.category]; done) | rfl
theorem d0_0 : decode jdk_42_method_149_code 0 = .ok (.aload_n 0, 1) := by decide +kernel
theorem d0_1 : decode jdk_42_method_149_code 1 = .ok (.invokespecial 1, 3) := by decide +kernel
theorem d0_4 : decode jdk_42_method_149_code 4 = .ok (.iload_n 3, 1) := by decide +kernel
theorem d0_5 : decode jdk_42_method_149_code 5 = .ok (.ifCond .ne 22, 3) := by decide +kernel
theorem d0_8 : decode jdk_42_method_149_code 8 = .ok (.aload_n 0, 1) := by decide +kernel
theorem d0_9 : decode jdk_42_method_149_code 9 = .ok (.ldc 7, 2) := by decide +kernel
theorem d0_11 : decode jdk_42_method_149_code 11 = .ok (.getfield 9, 3) := by decide +kernel
theorem d0_14 : decode jdk_42_method_149_code 14 = .ok (.putfield 9, 3) := by decide +kernel
theorem d0_17 : decode jdk_42_method_149_code 17 = .ok (.aload_n 0, 1) := by decide +kernel
theorem d0_18 : decode jdk_42_method_149_code 18 = .ok (.ldc 7, 2) := by decide +kernel
theorem d0_20 : decode jdk_42_method_149_code 20 = .ok (.getfield 15, 3) := by decide +kernel
theorem d0_23 : decode jdk_42_method_149_code 23 = .ok (.putfield 15, 3) := by decide +kernel
theorem d0_26 : decode jdk_42_method_149_code 26 = .ok (.return_, 1) := by decide +kernel
theorem pn_14 : plainName "java/lang/String" = true := by first | (simp [plainName, overriddenIn]; done) | decide +kernel
set_option maxRecDepth 65536 in
set_option maxHeartbeats 40000000 in
theorem rm_sv0 (l : Launch) (Z : State) (a0 : Array Value) (hw : HW Z a0) (ws : List Jvm.Cond) (a : Addr) (b : Addr) (h0 : Heap) (n0 : Nat) (Z0 : n0 ≤ h0.size) (O0 : Old Z n0 h0) (E_a : Exa Z h0 a "java/lang/String") (F_v : Fld Z h0 a "java/lang/String" "value" "[B" .null) (F_c : Fld Z h0 a "java/lang/String" "coder" "B" (.int (0 : Int32))) (g_a : n0 ≤ a) :
    CtrW l Z own_EL my3 jdk_42_method_149_code 6 ((Option.none : Option Jvm.ClassFile.FieldType)) ws (⟨1, 4, 8, 12⟩ : Room) #[(.ref a), (.ref b), (.int (0 : Int32)), (.int (0 : Int32)), .null] h0 (fun v h L => v = none ∧ Fr n0 L ∧ Keep h0 h [a] ∧ Str Z h a []) := by
  refine CtrW.of (MetFree.of_bodySF (plainFor_of_name pn_14) hisR ?_)
  intro p e s m args below meth c s₁ Bd hml0 hP hK
  obtain ⟨rfl, hZ0, hh, hC⟩ := hP
  have hx := Bd.exec
  have hby := Bd.bytes
  have hml : c.maxLocals = 6 := hml0
  have hZ : Z.Warmed39 (s.setVm s.vm).vm := hZ0
  have hown : (s.setVm s.vm).vm.findClass "java/lang/String" = some m.cls := findClass_of_methodNamed Bd.named
  have hnm := (name_of_methodNamed Bd.named Bd.method).1
  have X0 : Stand p l e (⟨1, 4, 8, 12⟩ : Room) (s.setVm s.vm) m #[(.ref a), (.ref b), (.int (0 : Int32)), (.int (0 : Int32)), .null] below meth c s₁ [] 0 0 := Stand.of_body Bd
  have e0 : s₁.heap = h0 := by rw [← hh, Bd.state]; rfl
  have N0 := Fr.nil n0
  have K0 : Keep h0 h0 [a] := Keep.refl h0 [a]
  have hS : s.Since s.vm 0 := (State.WarmedH.refl s).since 0
  have hk : 0 ≤ h0.size := Nat.zero_le _
  have R0 : CHr Z own_EL s.vm h0 s.vm h0 := CHr.refl hC
  show OwnGoW p e below s Z own_EL (fun v h L => v = none ∧ Fr n0 L ∧ Keep h0 h [a] ∧ Str Z h a []) (⟨1, 4, 8, 12⟩ : Room).cells (⟨1, 4, 8, 12⟩ : Room).slots _
  refine gsW (S' := s₁.setTop (mkF m 0 #[rv (a), rv (b), iv ((0 : Int32)), iv ((0 : Int32)), .val .null, uu] [])) (fun tg kg => castTop (ef_0 m a b (0 : Int32) (0 : Int32)) kg) ?_
  have sfa0 : Safe Z own_EL s.vm h0 a := own_safe_new hZ0.alike E_a F_v
  refine gsW (fun _ k => o_aloadN X0 hx hby d0_0 rfl rfl k) ?_
  obtain ⟨T1, X1, e1, st1⟩ := initO X0 hx hZ hown (ow hw 16 rfl) (ow hw 17 rfl) (ow hw 18 rfl) e0 (g := (mkF m 1 #[rv (a), rv (b), iv ((0 : Int32)), iv ((0 : Int32)), .val .null, uu] [(.ref a)])) rfl (by rw [hml]; rfl) rfl (hb hby d0_1) (by decide) (W := 0) (own_w0 rfl) (by decide)
  refine gsW (S' := T1.setTop (mkF m 4 #[rv (a), rv (b), iv ((0 : Int32)), iv ((0 : Int32)), .val .null, uu] [])) st1 ?_
  refine gsW (fun _ k => o_iloadN X1 hx hby d0_4 rfl (o_ifNo X1 hx hby d0_5 ((if0 _ _).trans (teq (by decide : (0 : Int32) = (0 : Int32))).2) (o_aloadN X1 hx hby d0_8 rfl rfl k))) ?_
  obtain ⟨a2, T2, h2, k2, t2, kb2, X2, e2, E2, hS, hk2, hZ, hown, g2e, g2c, g2v, g2a, -, -, r2x, -, ne2, st2⟩ := ldcCH X1 hx hZ hown (ow hw 19 rfl) (own_wS hw) e1 hS hk (own_EW hw) (List.mem_of_getElem? (i := 0) rfl) R0.1 (vs := ((([] : List Int32).map (fun c => c.toInt8.toInt32)).map Value.int)) (z := (0 : Int32)) ⟨by decide, by rfl⟩ (by decide) rfl (g := (mkF m 9 #[rv (a), rv (b), iv ((0 : Int32)), iv ((0 : Int32)), .val .null, uu] [(.ref a)])) rfl (hb hby d0_9) (n := 0) (by decide) (by decide) (by decide) (by decide)
  have r3 : CHr Z own_EL s.vm h0 T2.vm h2 := r2x
  have R3 := R0.trans r3
  have Z3 := nt Z0 E2.1
  have O3 := O0.ext E2
  have K3 := K0.ext E2
  have T2q : Str Z h2 a2 ([] : List Int32) := ⟨_, _, g2e, g2c, g2v, g2a⟩
  have f4 := (r3.safe (nu E_a.lt (Nat.le_refl _)) sfa0)
  refine gsW (S' := T2.setTop (mkF m 11 #[rv (a), rv (b), iv ((0 : Int32)), iv ((0 : Int32)), .val .null, uu] [(.ref a2), (.ref a)])) st2 ?_
  refine gFW X2 hx hZ hown (host := "") (Or.inl (ow hw 25 rfl)) Via.refl e2 g2v hby d0_11 fun T5 X5 e5 => ?_
  have f6 := (F_v.ext E2)
  have f7 := (E_a.ext E2)
  obtain ⟨T8, h8, X8, e8, W8, st8⟩ := putF X5 hx hZ hown (host := "") (Or.inl (ow hw 25 rfl)) Via.refl e5 f6 f7 (Or.inr ⟨(ow hw 21 rfl), rfl, hnm⟩) (ow hw 6 rfl) (ty := (.array .byte)) (by decide) rfl rfl (g := (mkF m 14 #[rv (a), rv (b), iv ((0 : Int32)), iv ((0 : Int32)), .val .null, uu] [(.ref t2), (.ref a)])) rfl rfl (hb hby d0_14)
  have N8 := Fr.snoc X8 N0 g_a
  have Fw8 := f6.same W8
  have r9 : CHr Z own_EL T2.vm h2 T2.vm h8 := CHr.wr W8 f4 R3.1
  have R9 := R3.trans r9
  have Z9 := nt Z3 (Keep.of_wr W8).1
  have O9 := O3.wr W8 g_a
  have K9 := K3.wr W8 (Or.inl (List.mem_of_getElem? (i := 0) rfl))
  refine gsW (S' := T8.setTop (mkF m 17 #[rv (a), rv (b), iv ((0 : Int32)), iv ((0 : Int32)), .val .null, uu] [])) st8 ?_
  refine gsW (fun _ k => o_aloadN X8 hx hby d0_17 rfl rfl k) ?_
  obtain ⟨a10, T10, h10, k10, t10, kb10, X10, e10, E10, hS, hk10, hZ, hown, g10e, g10c, g10v, g10a, -, -, r10x, -, ne10, st10⟩ := ldcCH X8 hx hZ hown (ow hw 19 rfl) (own_wS hw) e8 hS (nt hk2 (Keep.of_wr W8).1) (own_EW hw) (List.mem_of_getElem? (i := 0) rfl) R9.1 (vs := ((([] : List Int32).map (fun c => c.toInt8.toInt32)).map Value.int)) (z := (0 : Int32)) ⟨by decide, by rfl⟩ (by decide) rfl (g := (mkF m 18 #[rv (a), rv (b), iv ((0 : Int32)), iv ((0 : Int32)), .val .null, uu] [(.ref a)])) rfl (hb hby d0_18) (n := 0) (by decide) (by decide) (by decide) (by decide)
  have r11 : CHr Z own_EL T2.vm h8 T10.vm h10 := r10x
  have R11 := R9.trans r11
  have Z11 := nt Z9 E10.1
  have O11 := O9.ext E10
  have K11 := K9.ext E10
  have T10q : Str Z h10 a10 ([] : List Int32) := ⟨_, _, g10e, g10c, g10v, g10a⟩
  have zs12 := nt E2.1 (Keep.of_wr W8).1
  have f13 := (r11.safe (nu E_a.lt zs12) (r9.safe (nu E_a.lt E2.1) f4))
  refine gsW (S' := T10.setTop (mkF m 20 #[rv (a), rv (b), iv ((0 : Int32)), iv ((0 : Int32)), .val .null, uu] [(.ref a10), (.ref a)])) st10 ?_
  refine gFW X10 hx hZ hown (host := "") (Or.inl (ow hw 26 rfl)) Via.refl e10 g10c hby d0_20 fun T14 X14 e14 => ?_
  have f15 := (((F_c.ext E2).other W8 (Or.inr (slot_ne (Or.inr (ow hw 22 rfl)) (Or.inr (ow hw 21 rfl)) (by decide) (t := .byte) (t' := (.array .byte)) (by decide) (by decide)))).ext E10)
  have f16 := ((f7.wr W8).ext E10)
  obtain ⟨T17, h17, X17, e17, W17, st17⟩ := putFN X14 hx hZ hown (ow hw 26 rfl) Via.refl e14 f15 f16 (Or.inr ⟨(ow hw 22 rfl), rfl, hnm⟩) (ow hw 6 rfl) (ty := .byte) (v' := (.int (0 : Int32))) (by decide) rfl rfl (g := (mkF m 23 #[rv (a), rv (b), iv ((0 : Int32)), iv ((0 : Int32)), .val .null, uu] [(.int (0 : Int32)), (.ref a)])) rfl rfl (hb hby d0_23)
  have N17 := Fr.snoc X17 N8 g_a
  have Fw17 := f15.same W17
  have r18 : CHr Z own_EL T10.vm h10 T10.vm h17 := CHr.wr W17 f13 R11.1
  have R18 := R11.trans r18
  have Z18 := nt Z11 (Keep.of_wr W17).1
  have O18 := O11.wr W17 g_a
  have K18 := K11.wr W17 (Or.inl (List.mem_of_getElem? (i := 0) rfl))
  refine gsW (S' := T17.setTop (mkF m 26 #[rv (a), rv (b), iv ((0 : Int32)), iv ((0 : Int32)), .val .null, uu] [])) st17 ?_
  have f19 := (f16.wr W17)
  have f20 := ((Fw8.ext E10).other W17 (Or.inr (slot_ne (Or.inr (ow hw 21 rfl)) (Or.inr (ow hw 22 rfl)) (by decide) (t := (.array .byte)) (t' := .byte) (by decide) (by decide))))
  have f21 := (((g2a.other W8 (Ne.symm (ne2 _ f4).2)).ext E10).other W17 (Ne.symm (ne2 _ f4).2))
  refine goutW (v := none) X17 hS (nt hk10 (Keep.of_wr W17).1) hZ (own_EW hw) hh e17 R18 Bd.notSynchronized (fun _ => rfl) (by decide) (by decide) ?_ (fun fs hr => X17.returnOut hx Bd.returns (hb hby d0_26) hr)
  exact ⟨rfl, N17, K18, _, _, f19, Fw17, f20, f21⟩
theorem ef_15 (m : MethodId) (x0 : Addr) (x1 : Addr) : entryFrame m #[(.ref x0), (.ref x1)] 2 = mkF m 0 #[.val (.ref x0), .val (.ref x1)] [] := by first | (simp [entryFrame, mkF, argsToLocals, Value.category]; done) | rfl
theorem d1_0 : decode jdk_42_method_3_code 0 = .ok (.aload_n 0, 1) := by decide +kernel
theorem d1_1 : decode jdk_42_method_3_code 1 = .ok (.aload_n 1, 1) := by decide +kernel
theorem d1_2 : decode jdk_42_method_3_code 2 = .ok (.iconst 0, 1) := by decide +kernel
theorem d1_3 : decode jdk_42_method_3_code 3 = .ok (.aload_n 1, 1) := by decide +kernel
theorem d1_4 : decode jdk_42_method_3_code 4 = .ok (.arraylength, 1) := by decide +kernel
theorem d1_5 : decode jdk_42_method_3_code 5 = .ok (.aconst_null, 1) := by decide +kernel
theorem d1_6 : decode jdk_42_method_3_code 6 = .ok (.invokespecial 27, 3) := by decide +kernel
theorem pd_23 : parseMethodDescriptor "([CIILjava/lang/Void;)V" = some ⟨[(.array .char), .int, .int, (.object "java/lang/Void")], none⟩ := by decide +kernel
theorem d1_9 : decode jdk_42_method_3_code 9 = .ok (.return_, 1) := by decide +kernel
set_option maxRecDepth 65536 in
set_option maxHeartbeats 40000000 in
theorem rm_s0 (l : Launch) (Z : State) (a0 : Array Value) (hw : HW Z a0) (ws : List Jvm.Cond) (a : Addr) (b : Addr) (kb : ClassId) (h0 : Heap) (n0 : Nat) (Z0 : n0 ≤ h0.size) (O0 : Old Z n0 h0) (E_a : Exa Z h0 a "java/lang/String") (F_v : Fld Z h0 a "java/lang/String" "value" "[B" .null) (F_c : Fld Z h0 a "java/lang/String" "coder" "B" (.int (0 : Int32))) (g_a : n0 ≤ a) (V_b : Arv Z h0 b kb .char (0 : Int32) [] (.int (0 : Int32))) :
    CtrW l Z own_EL my2 jdk_42_method_3_code 2 ((Option.none : Option Jvm.ClassFile.FieldType)) ws (⟨2, 4, 8, 30⟩ : Room) #[(.ref a), (.ref b)] h0 (fun v h L => v = none ∧ Fr n0 L ∧ Keep h0 h [a] ∧ Str Z h a []) := by
  refine CtrW.of (MetFree.of_bodySF (plainFor_of_name pn_14) hisR ?_)
  intro p e s m args below meth c s₁ Bd hml0 hP hK
  obtain ⟨rfl, hZ0, hh, hC⟩ := hP
  have hx := Bd.exec
  have hby := Bd.bytes
  have hml : c.maxLocals = 2 := hml0
  have hZ : Z.Warmed39 (s.setVm s.vm).vm := hZ0
  have hown : (s.setVm s.vm).vm.findClass "java/lang/String" = some m.cls := findClass_of_methodNamed Bd.named
  have hnm := (name_of_methodNamed Bd.named Bd.method).1
  have X0 : Stand p l e (⟨2, 4, 8, 30⟩ : Room) (s.setVm s.vm) m #[(.ref a), (.ref b)] below meth c s₁ [] 0 0 := Stand.of_body Bd
  have e0 : s₁.heap = h0 := by rw [← hh, Bd.state]; rfl
  have N0 := Fr.nil n0
  have K0 : Keep h0 h0 [a] := Keep.refl h0 [a]
  have hS : s.Since s.vm 0 := (State.WarmedH.refl s).since 0
  have hk : 0 ≤ h0.size := Nat.zero_le _
  have R0 : CHr Z own_EL s.vm h0 s.vm h0 := CHr.refl hC
  show OwnGoW p e below s Z own_EL (fun v h L => v = none ∧ Fr n0 L ∧ Keep h0 h [a] ∧ Str Z h a []) (⟨2, 4, 8, 30⟩ : Room).cells (⟨2, 4, 8, 30⟩ : Room).slots _
  refine gsW (S' := s₁.setTop (mkF m 0 #[rv (a), rv (b)] [])) (fun tg kg => castTop (ef_15 m a b) kg) ?_
  refine gsW (fun _ k => o_aloadN X0 hx hby d1_0 rfl rfl (o_aloadN X0 hx hby d1_1 rfl rfl (o_iconst (v := (0 : Int32)) X0 hx hby d1_2 (o_aloadN X0 hx hby d1_3 rfl rfl k)))) ?_
  obtain ⟨cl1, A1, a1q, a1S, a1N, a1H, a1G⟩ := id V_b
  refine gsW (S' := s₁.setTop (mkF m 5 #[rv (a), rv (b)] [(.int (0 : Int32)), (.int (0 : Int32)), (.ref b), (.ref a)])) (fun _ k => by refine X0.arraylength hx (by rw [e0]; exact A1.1) (State.isArrayOf_alike hZ.alike A1.2.1) (g := (mkF m 4 #[rv (a), rv (b)] [(.ref b), (.int (0 : Int32)), (.ref b), (.ref a)])) rfl rfl (hb hby d1_4) _ ?_; rw [len_of a1S a1N]; exact k) ?_
  refine gsW (fun _ k => o_aconstNull X0 hx hby d1_5 k) ?_
  refine cIS (rest := []) X0 hx hS hk hZ hown rfl (ow hw 12 rfl) (ow hw 13 rfl) (ow hw 7 rfl) (ow hw 15 rfl) (rm_sv0 l Z a0 hw [] a b h0 n0 Z0 O0 E_a F_v F_c g_a) (own_EW hw) R0.1 hby d1_6 e0 pd_23 0 (by rw [hml]; rfl) rfl rfl rfl rfl (by decide) (by decide) fun _ T2 Lc2 X2 hS hZ hown hQ2 rq2 => ?_
  obtain ⟨rfl, N2q, K2q, T2q⟩ := hQ2
  have N2 := Fr.app N0 N2q
  have r3 : CHr Z own_EL s.vm h0 T2.vm T2.heap := rq2
  have R3 := R0.trans r3
  have Z3 := nt Z0 K2q.1
  have O3 := O0.keep K2q (allS g_a all0)
  have K3 := K0.trans K2q (allS (Or.inl (List.mem_of_getElem? (i := 0) rfl)) all0)
  refine goutW (v := none) X2 hS (Nat.le_refl T2.heap.size) hZ (own_EW hw) hh rfl R3 Bd.notSynchronized (fun _ => rfl) (by decide) (by decide) ?_ (fun fs hr => X2.returnOut hx Bd.returns (hb hby d1_9) hr)
  exact ⟨rfl, N2, K3, T2q⟩
theorem ef_25 (m : MethodId) (x0 : Int32) : entryFrame m #[(.int x0)] 1 = mkF m 0 #[.val (.int x0)] [] := by first | (simp [entryFrame, mkF, argsToLocals, Value.category]; done) | rfl
theorem d2_0 : decode jdk_43_method_3_code 0 = .ok (.iload_n 0, 1) := by decide +kernel
theorem d2_1 : decode jdk_43_method_3_code 1 = .ok (.sipush 255, 3) := by decide +kernel
theorem d2_4 : decode jdk_43_method_3_code 4 = .ok (.if_icmp .gt 7, 3) := by decide +kernel
theorem d2_7 : decode jdk_43_method_3_code 7 = .ok (.iconst 1, 1) := by decide +kernel
theorem d2_8 : decode jdk_43_method_3_code 8 = .ok (.goto 4, 3) := by decide +kernel
theorem d2_12 : decode jdk_43_method_3_code 12 = .ok (.ireturn, 1) := by decide +kernel
theorem pn_32 : plainName "java/lang/StringLatin1" = true := by first | (simp [plainName, overriddenIn]; done) | decide +kernel
set_option maxRecDepth 65536 in
set_option maxHeartbeats 40000000 in
theorem rm_ce (l : Launch) (Z : State) (a0 : Array Value) (hw : HW Z a0) (ws : List Jvm.Cond) (p1 : Int32) (h0 : Heap) (n0 : Nat) (Z0 : n0 ≤ h0.size) (O0 : Old Z n0 h0) (hp : ¬ (255 : Int32) < p1) :
    Ctr l Z (⟨"java/lang/StringLatin1", "canEncode", "(C)Z"⟩ : MethodName) jdk_43_method_3_code 1 ((Option.some Jvm.ClassFile.FieldType.boolean)) ws (⟨0, 0, 0, 0⟩ : Room) #[(.int p1)] h0 (fun v h L => v = some (.int 1) ∧ Fr n0 L ∧ Keep h0 h []) := by
  refine Ctr.go (plainFor_of_name pn_32) fun p e s m below meth c s₁ Bd hx hby hml hZ hown hnm X0 e0 => ?_
  have N0 := Fr.nil n0
  have K0 := Keep.refl h0 []
  refine gs (S' := s₁.setTop (mkF m 0 #[iv (p1)] [])) (fun tg kg => castTop (ef_25 m p1) kg) ?_
  refine gs (fun _ k => o_iloadN X0 hx hby d2_0 rfl (XS.sipush X0.here hx rfl (hb hby d2_1) (o_icmpNo X0 hx hby d2_4 (flt hp).2.2.1 (o_iconst (v := (1 : Int32)) X0 hx hby d2_7 (o_goto (pc' := 12) X0 hx hby d2_8 k))))) ?_
  refine gout (v := some (.int (1 : Int32))) X0 Bd.notSynchronized (fun h => by rw [Bd.returns] at h; cases h) (by decide) (by decide) ?_ (fun fs hr => retN X0 hx (t := .boolean) Bd.returns (by simp) (hb hby d2_12) hr)
  rw [e0]
  exact ⟨rfl, N0, K0⟩
theorem ef_33 (m : MethodId) (x0 : Int32) : entryFrame m #[(.int x0)] 1 = mkF m 0 #[.val (.int x0)] [] := by first | (simp [entryFrame, mkF, argsToLocals, Value.category]; done) | rfl
theorem d3_0 : decode jdk_43_method_46_code 0 = .ok (.iconst 1, 1) := by decide +kernel
theorem d3_1 : decode jdk_43_method_46_code 1 = .ok (.newarray .byte, 2) := by decide +kernel
theorem d3_3 : decode jdk_43_method_46_code 3 = .ok (.dup, 1) := by decide +kernel
theorem d3_4 : decode jdk_43_method_46_code 4 = .ok (.iconst 0, 1) := by decide +kernel
theorem d3_5 : decode jdk_43_method_46_code 5 = .ok (.iload_n 0, 1) := by decide +kernel
theorem d3_6 : decode jdk_43_method_46_code 6 = .ok (.i2b, 1) := by decide +kernel
theorem d3_7 : decode jdk_43_method_46_code 7 = .ok (.bastore, 1) := by decide +kernel
theorem d3_8 : decode jdk_43_method_46_code 8 = .ok (.areturn, 1) := by decide +kernel
set_option maxRecDepth 65536 in
set_option maxHeartbeats 40000000 in
theorem rm_tb (l : Launch) (Z : State) (a0 : Array Value) (hw : HW Z a0) (ws : List Jvm.Cond) (p1 : Int32) (h0 : Heap) (n0 : Nat) (Z0 : n0 ≤ h0.size) (O0 : Old Z n0 h0)  :
    Ctr l Z (⟨"java/lang/StringLatin1", "toBytes", "(C)[B"⟩ : MethodName) jdk_43_method_46_code 1 ((Option.some (Jvm.ClassFile.FieldType.array Jvm.ClassFile.FieldType.byte))) ws (⟨0, 1, 1, 0⟩ : Room) #[(.int p1)] h0 (fun v h L => ∃ (t : Addr) (kb : ClassId), v = some (.ref t) ∧ Fr n0 L ∧ Keep h0 h [] ∧ h0.size ≤ t ∧ Arv Z h t kb .byte (1 : Int32) [(.int (nar .byte (p1.toInt8.toInt32)))] (.int (0 : Int32))) := by
  refine Ctr.go (plainFor_of_name pn_32) fun p e s m below meth c s₁ Bd hx hby hml hZ hown hnm X0 e0 => ?_
  have N0 := Fr.nil n0
  have K0 := Keep.refl h0 []
  refine gs (S' := s₁.setTop (mkF m 0 #[iv (p1)] [])) (fun tg kg => castTop (ef_33 m p1) kg) ?_
  refine gs (fun _ k => o_iconst (v := (1 : Int32)) X0 hx hby d3_0 k) ?_
  obtain ⟨T1, h1, k1, X1, e1, E1, A1, st1⟩ := newP X0 hx hZ (ow hw 20 rfl) e0 (g := (mkF m 1 #[iv (p1)] [(.int (1 : Int32))])) rfl (hb hby d3_1) rfl (by decide) (cap := 1) (by decide) (by decide) (by decide) (by decide)
  obtain ⟨b1, q1⟩ : ∃ z, z = h0.size := ⟨_, rfl⟩
  rw [← q1] at A1 st1
  have g_b1 : n0 ≤ b1 := nt Z0 (Nat.le_of_eq q1.symm)
  have sz_b1 : h0.size ≤ b1 := nt K0.1 (Nat.le_of_eq q1.symm)
  have Z2 := nt Z0 E1.1
  have O2 := O0.ext E1
  have K2 := K0.ext E1
  have V1 : Arv Z h1 b1 k1 .byte (1 : Int32) [(.int (0 : Int32))] (.int (0 : Int32)) := (Arv.new A1 (by decide)).pad (pad_rep [] (.int (0 : Int32)) 1)
  refine gs (S' := T1.setTop (mkF m 3 #[iv (p1)] [(.ref b1)])) st1 ?_
  refine gs (fun _ k => o_dup X1 hx hby d3_3 rfl (o_iconst (v := (0 : Int32)) X1 hx hby d3_4 (o_iloadN X1 hx hby d3_5 rfl (o_i2b X1 hx hby d3_6 k)))) ?_
  obtain ⟨cl3, A3, a3q, a3S, a3N, a3H, a3G⟩ := id V1
  obtain ⟨T3, h3, X3, e3, W3, st3⟩ := stB X1 hx hZ e1 A3 (j := (0 : Int32)) (inb_of a3S ⟨by decide, by decide⟩) (g := (mkF m 7 #[iv (p1)] [(.int (p1.toInt8.toInt32)), (.int (0 : Int32)), (.ref b1), (.ref b1)])) rfl rfl (hb hby d3_7)
  have V3 : Arv Z h3 b1 k1 .byte (1 : Int32) [(.int (nar .byte (p1.toInt8.toInt32)))] (.int (0 : Int32)) := Arv.set A3 a3q a3S a3N a3H a3G (fits_nar_byte _) W3 0 rfl (nb rfl)
  have N3 := Fr.snoc X3 N0 g_b1
  have Z4 := nt Z2 (Keep.of_wr W3).1
  have O4 := O2.wr W3 g_b1
  have K4 := K2.wr W3 (Or.inr sz_b1)
  refine gs (S' := T3.setTop (mkF m 8 #[iv (p1)] [(.ref b1)])) st3 ?_
  refine gout (v := some (.ref b1)) X3 Bd.notSynchronized (fun h => by rw [Bd.returns] at h; cases h) (by decide) (by decide) ?_ (fun fs hr => retOut X3 hx Bd.returns rfl (Or.inr (Or.inr (Or.inr (Or.inr ⟨rfl, rfl, rfl⟩)))) (hb hby d3_8) hr)
  rw [e3]
  exact ⟨_, _, rfl, N3, K4, sz_b1, V3⟩
theorem ef_42 (m : MethodId) (x0 : Addr) (x1 : Addr) (x2 : Int32) : entryFrame m #[(.ref x0), (.ref x1), (.int x2)] 3 = mkF m 0 #[.val (.ref x0), .val (.ref x1), .val (.int x2)] [] := by first | (simp [entryFrame, mkF, argsToLocals, Value.category]; done) | rfl
theorem d4_0 : decode jdk_42_method_151_code 0 = .ok (.aload_n 0, 1) := by decide +kernel
theorem d4_1 : decode jdk_42_method_151_code 1 = .ok (.invokespecial 1, 3) := by decide +kernel
theorem d4_4 : decode jdk_42_method_151_code 4 = .ok (.aload_n 0, 1) := by decide +kernel
theorem d4_5 : decode jdk_42_method_151_code 5 = .ok (.aload_n 1, 1) := by decide +kernel
theorem d4_6 : decode jdk_42_method_151_code 6 = .ok (.putfield 9, 3) := by decide +kernel
theorem d4_9 : decode jdk_42_method_151_code 9 = .ok (.aload_n 0, 1) := by decide +kernel
theorem d4_10 : decode jdk_42_method_151_code 10 = .ok (.iload_n 2, 1) := by decide +kernel
theorem d4_11 : decode jdk_42_method_151_code 11 = .ok (.putfield 15, 3) := by decide +kernel
theorem d4_14 : decode jdk_42_method_151_code 14 = .ok (.return_, 1) := by decide +kernel
set_option maxRecDepth 65536 in
set_option maxHeartbeats 40000000 in
theorem rm_si (l : Launch) (Z : State) (a0 : Array Value) (hw : HW Z a0) (ws : List Jvm.Cond) (a : Addr) (t : Addr) (h0 : Heap) (n0 : Nat) (Z0 : n0 ≤ h0.size) (O0 : Old Z n0 h0) (E_a : Exa Z h0 a "java/lang/String") (F_v : Fld Z h0 a "java/lang/String" "value" "[B" .null) (F_c : Fld Z h0 a "java/lang/String" "coder" "B" (.int (0 : Int32))) (g_a : n0 ≤ a) :
    Ctr l Z (⟨"java/lang/String", "<init>", "([BB)V"⟩ : MethodName) jdk_42_method_151_code 3 ((Option.none : Option Jvm.ClassFile.FieldType)) ws (⟨1, 0, 0, 12⟩ : Room) #[(.ref a), (.ref t), (.int (0 : Int32))] h0 (fun v h L => v = none ∧ Fr n0 L ∧ Keep h0 h [a] ∧ Fld Z h a "java/lang/String" "value" "[B" (.ref t) ∧ Fld Z h a "java/lang/String" "coder" "B" (.int (0 : Int32))) := by
  refine Ctr.go (plainFor_of_name pn_14) fun p e s m below meth c s₁ Bd hx hby hml hZ hown hnm X0 e0 => ?_
  have N0 := Fr.nil n0
  have K0 := Keep.refl h0 [a]
  refine gs (S' := s₁.setTop (mkF m 0 #[rv (a), rv (t), iv ((0 : Int32))] [])) (fun tg kg => castTop (ef_42 m a t (0 : Int32)) kg) ?_
  refine gs (fun _ k => o_aloadN X0 hx hby d4_0 rfl rfl k) ?_
  obtain ⟨T1, X1, e1, st1⟩ := initO X0 hx hZ hown (ow hw 16 rfl) (ow hw 17 rfl) (ow hw 18 rfl) e0 (g := (mkF m 1 #[rv (a), rv (t), iv ((0 : Int32))] [(.ref a)])) rfl (by rw [hml]; rfl) rfl (hb hby d4_1) (by decide) (W := 0) (own_w0 rfl) (by decide)
  refine gs (S' := T1.setTop (mkF m 4 #[rv (a), rv (t), iv ((0 : Int32))] [])) st1 ?_
  refine gs (fun _ k => o_aloadN X1 hx hby d4_4 rfl rfl (o_aloadN X1 hx hby d4_5 rfl rfl k)) ?_
  obtain ⟨T2, h2, X2, e2, W2, st2⟩ := putF X1 hx hZ hown (host := "") (Or.inl (ow hw 25 rfl)) Via.refl e1 F_v E_a (Or.inr ⟨(ow hw 21 rfl), rfl, hnm⟩) (ow hw 6 rfl) (ty := (.array .byte)) (by decide) rfl rfl (g := (mkF m 6 #[rv (a), rv (t), iv ((0 : Int32))] [(.ref t), (.ref a)])) rfl rfl (hb hby d4_6)
  have N2 := Fr.snoc X2 N0 g_a
  have Fw2 := F_v.same W2
  have Z3 := nt Z0 (Keep.of_wr W2).1
  have O3 := O0.wr W2 g_a
  have K3 := K0.wr W2 (Or.inl (List.mem_of_getElem? (i := 0) rfl))
  refine gs (S' := T2.setTop (mkF m 9 #[rv (a), rv (t), iv ((0 : Int32))] [])) st2 ?_
  refine gs (fun _ k => o_aloadN X2 hx hby d4_9 rfl rfl (o_iloadN X2 hx hby d4_10 rfl k)) ?_
  have f4 := (F_c.other W2 (Or.inr (slot_ne (Or.inr (ow hw 22 rfl)) (Or.inr (ow hw 21 rfl)) (by decide) (t := .byte) (t' := (.array .byte)) (by decide) (by decide))))
  have f5 := (E_a.wr W2)
  obtain ⟨T6, h6, X6, e6, W6, st6⟩ := putFN X2 hx hZ hown (ow hw 26 rfl) Via.refl e2 f4 f5 (Or.inr ⟨(ow hw 22 rfl), rfl, hnm⟩) (ow hw 6 rfl) (ty := .byte) (v' := (.int (0 : Int32))) (by decide) rfl rfl (g := (mkF m 11 #[rv (a), rv (t), iv ((0 : Int32))] [(.int (0 : Int32)), (.ref a)])) rfl rfl (hb hby d4_11)
  have N6 := Fr.snoc X6 N2 g_a
  have Fw6 := f4.same W6
  have Z7 := nt Z3 (Keep.of_wr W6).1
  have O7 := O3.wr W6 g_a
  have K7 := K3.wr W6 (Or.inl (List.mem_of_getElem? (i := 0) rfl))
  refine gs (S' := T6.setTop (mkF m 14 #[rv (a), rv (t), iv ((0 : Int32))] [])) st6 ?_
  have f8 := (Fw2.other W6 (Or.inr (slot_ne (Or.inr (ow hw 21 rfl)) (Or.inr (ow hw 22 rfl)) (by decide) (t := (.array .byte)) (t' := .byte) (by decide) (by decide))))
  refine gout (v := none) X6 Bd.notSynchronized (fun _ => rfl) (by decide) (by decide) ?_ (fun fs hr => X6.returnOut hx Bd.returns (hb hby d4_14) hr)
  rw [e6]
  exact ⟨rfl, N6, K7, f8, Fw6⟩
theorem ef_52 (m : MethodId) (x0 : Int32) : entryFrame m #[(.int x0)] 1 = mkF m 0 #[.val (.int x0)] [] := by first | (simp [entryFrame, mkF, argsToLocals, Value.category]; done) | rfl
theorem d5_0 : decode jdk_42_method_139_code 0 = .ok (.getstatic 38, 3) := by decide +kernel
theorem d5_3 : decode jdk_42_method_139_code 3 = .ok (.ifCond .eq 23, 3) := by decide +kernel
theorem d5_6 : decode jdk_42_method_139_code 6 = .ok (.iload_n 0, 1) := by decide +kernel
theorem d5_7 : decode jdk_42_method_139_code 7 = .ok (.invokestatic 1015, 3) := by decide +kernel
theorem pd_57 : parseMethodDescriptor "(C)Z" = some ⟨[.char], some .boolean⟩ := by decide +kernel
theorem d5_10 : decode jdk_42_method_139_code 10 = .ok (.ifCond .eq 16, 3) := by decide +kernel
theorem d5_13 : decode jdk_42_method_139_code 13 = .ok (.new 10, 3) := by decide +kernel
theorem d5_16 : decode jdk_42_method_139_code 16 = .ok (.dup, 1) := by decide +kernel
theorem d5_17 : decode jdk_42_method_139_code 17 = .ok (.iload_n 0, 1) := by decide +kernel
theorem d5_18 : decode jdk_42_method_139_code 18 = .ok (.invokestatic 1018, 3) := by decide +kernel
theorem pd_63 : parseMethodDescriptor "(C)[B" = some ⟨[.char], some (.array .byte)⟩ := by decide +kernel
theorem d5_21 : decode jdk_42_method_139_code 21 = .ok (.iconst 0, 1) := by decide +kernel
theorem d5_22 : decode jdk_42_method_139_code 22 = .ok (.invokespecial 209, 3) := by decide +kernel
theorem pd_66 : parseMethodDescriptor "([BB)V" = some ⟨[(.array .byte), .byte], none⟩ := by decide +kernel
theorem d5_25 : decode jdk_42_method_139_code 25 = .ok (.areturn, 1) := by decide +kernel
set_option maxRecDepth 65536 in
set_option maxHeartbeats 40000000 in
theorem rm_vo (l : Launch) (Z : State) (a0 : Array Value) (hw : HW Z a0) (ws : List Jvm.Cond) (p1 : Int32) (z : Int32) (h0 : Heap) (n0 : Nat) (Z0 : n0 ≤ h0.size) (O0 : Old Z n0 h0) (S0 : PS3 Z (.int z)) (hz : ¬ z = 0) (hp : ¬ (255 : Int32) < p1) :
    Ctr l Z (⟨"java/lang/String", "valueOf", "(C)Ljava/lang/String;"⟩ : MethodName) jdk_42_method_139_code 1 ((Option.some (Jvm.ClassFile.FieldType.object "java/lang/String"))) ws (⟨2, 2, 5, 30⟩ : Room) #[(.int p1)] h0 (fun v h L => ∃ a : Addr, v = some (.ref a) ∧ Fr n0 L ∧ Keep h0 h [] ∧ Str Z h a [p1]) := by
  refine Ctr.go (plainFor_of_name pn_14) fun p e s m below meth c s₁ Bd hx hby hml hZ hown hnm X0 e0 => ?_
  have N0 := Fr.nil n0
  have K0 := Keep.refl h0 []
  refine gs (S' := s₁.setTop (mkF m 0 #[iv (p1)] [])) (fun tg kg => castTop (ef_52 m p1) kg) ?_
  refine gS X0 hx hZ hown (host := "") (Or.inl (ow hw 30 rfl)) Via.refl e0 (S0.ext O0.2) hby d5_0 fun T1 X1 e1 => ?_
  refine gs (fun _ k => o_ifNo X1 hx hby d5_3 ((if0 _ _).trans (feq hz).1) (o_iloadN X1 hx hby d5_6 rfl k)) ?_
  refine cS (rest := []) X1 hx hZ hown (ow hw 31 rfl) (ow hw 32 rfl) (ow hw 33 rfl) (ow hw 34 rfl) (rm_ce l Z a0 hw [] p1 h0 n0 Z0 O0 hp) hby d5_7 e1 pd_57 0 (by rw [hml]; rfl) rfl rfl rfl rfl (by decide) (by decide) fun _ T2 Lc2 X2 hQ2 => ?_
  obtain ⟨rfl, N2q, K2q⟩ := hQ2
  have N2 := Fr.app N0 N2q
  have Z3 := nt Z0 K2q.1
  have O3 := O0.keep K2q all0
  have K3 := K0.trans K2q all0
  refine gs (fun _ k => o_ifNo X2 hx hby d5_10 ((if0 _ _).trans (feq (by decide : ¬ ((1 : Int32) = (0 : Int32)))).1) k) ?_
  obtain ⟨T4, h4, X4, e4, E4, A4, D4, -, st4⟩ := newO X2 hx hZ hown (ow hw 35 rfl) (ow hw 6 rfl) (ow hw 7 rfl) rfl (g := (mkF m 13 #[iv (p1)] [])) rfl (hb hby d5_13) (by decide) (by decide)
  obtain ⟨b4, q4⟩ : ∃ z, z = T2.heap.size := ⟨_, rfl⟩
  rw [← q4] at A4 D4 st4
  have g_b4 : n0 ≤ b4 := nt Z3 (Nat.le_of_eq q4.symm)
  have sz_b4 : h0.size ≤ b4 := nt K3.1 (Nat.le_of_eq q4.symm)
  have Z5 := nt Z3 E4.1
  have O5 := O3.ext E4
  have K5 := K3.ext E4
  have F_value_b4 : Fld Z h4 b4 "java/lang/String" "value" "[B" .null := D4 (Or.inr (ow hw 21 rfl)) (ty := (.array .byte)) (by decide)
  have F_coder_b4 : Fld Z h4 b4 "java/lang/String" "coder" "B" (.int (0 : Int32)) := D4 (Or.inr (ow hw 22 rfl)) (ty := .byte) (by decide)
  refine gs (S' := T4.setTop (mkF m 16 #[iv (p1)] [(.ref b4)])) st4 ?_
  refine gs (fun _ k => o_dup X4 hx hby d5_16 rfl (o_iloadN X4 hx hby d5_17 rfl k)) ?_
  refine cS (rest := [(.ref b4), (.ref b4)]) X4 hx hZ hown (ow hw 36 rfl) (ow hw 37 rfl) (ow hw 33 rfl) (ow hw 38 rfl) (rm_tb l Z a0 hw [] p1 h4 n0 Z5 O5 ) hby d5_18 e4 pd_63 2 (by rw [hml]; rfl) rfl rfl rfl rfl (by decide) (by decide) fun _ T6 Lc6 X6 hQ6 => ?_
  obtain ⟨t6, kb6, rfl, N6q, K6q, g6t, V6q⟩ := hQ6
  have N6 := Fr.app N2 N6q
  have g_t6 : n0 ≤ t6 := nt Z5 g6t
  have sz_t6 : h0.size ≤ t6 := nt K5.1 g6t
  have Z7 := nt Z5 K6q.1
  have O7 := O5.keep K6q all0
  have K7 := K5.trans K6q all0
  refine gs (fun _ k => o_iconst (v := (0 : Int32)) X6 hx hby d5_21 k) ?_
  have f8 := (A4.keep K6q)
  have f9 := (F_value_b4.keep K6q nin0)
  have f10 := (F_coder_b4.keep K6q nin0)
  refine cI (rest := [(.ref b4)]) X6 hx hZ hown rfl (ow hw 39 rfl) (ow hw 40 rfl) (ow hw 7 rfl) (ow hw 41 rfl) (rm_si l Z a0 hw [] b4 t6 T6.heap n0 Z7 O7 f8 f9 f10 g_b4) hby d5_22 rfl pd_66 1 (by rw [hml]; rfl) rfl rfl rfl rfl (by decide) (by decide) fun _ T11 Lc11 X11 hQ11 => ?_
  obtain ⟨rfl, N11q, K11q, F11v, F11c⟩ := hQ11
  have N11 := Fr.app N6 N11q
  have Z12 := nt Z7 K11q.1
  have O12 := O7.keep K11q (allS g_b4 all0)
  have K12 := K7.trans K11q (allS (Or.inr sz_b4) all0)
  have f13 := (V6q.keep K11q (ninS (Ne.symm (nw (nu (nu A4.lt (Nat.le_refl _)) g6t))) nin0))
  have Vt := f13
  rw [own_narb] at Vt
  have f14 := (f8.keep K11q)
  refine gout (v := some (.ref b4)) X11 Bd.notSynchronized (fun h => by rw [Bd.returns] at h; cases h) (by decide) (by decide) ?_ (fun fs hr => retOut X11 hx Bd.returns rfl (Or.inr (Or.inr (Or.inr (Or.inr ⟨rfl, rfl, rfl⟩)))) (hb hby d5_25) hr)
  exact ⟨_, rfl, N11, K12, _, _, f14, F11c, F11v, Vt⟩
theorem own_pf1 : plainFor my24 = true := by decide +kernel
theorem own_pf2 : plainFor my10 = true := by decide +kernel
theorem ef_68 (m : MethodId) (x0 : Int32) (x1 : Int32) : entryFrame m #[(.int x0), (.int x1)] 2 = mkF m 0 #[.val (.int x0), .val (.int x1)] [] := by first | (simp [entryFrame, mkF, argsToLocals, Value.category]; done) | rfl
theorem d6_0 : decode jdk_29_method_65_code 0 = .ok (.iload_n 0, 1) := by decide +kernel
theorem d6_1 : decode jdk_29_method_65_code 1 = .ok (.iload_n 1, 1) := by decide +kernel
theorem d6_2 : decode jdk_29_method_65_code 2 = .ok (.if_icmp .lt 7, 3) := by decide +kernel
theorem d6_5 : decode jdk_29_method_65_code 5 = .ok (.iload_n 0, 1) := by decide +kernel
theorem d6_6 : decode jdk_29_method_65_code 6 = .ok (.goto 4, 3) := by decide +kernel
theorem d6_10 : decode jdk_29_method_65_code 10 = .ok (.ireturn, 1) := by decide +kernel
set_option maxRecDepth 65536 in
set_option maxHeartbeats 40000000 in
theorem rm_max (l : Launch) (Z : State) (a0 : Array Value) (hw : HW Z a0) (ws : List Jvm.Cond)  (h0 : Heap) (n0 : Nat) (Z0 : n0 ≤ h0.size) (O0 : Old Z n0 h0)  :
    Ctr l Z my24 jdk_29_method_65_code 2 ((Option.some Jvm.ClassFile.FieldType.int)) ws (⟨0, 0, 0, 0⟩ : Room) #[(.int (0 : Int32)), (.int (0 : Int32))] h0 (fun v h L => v = some (.int (0 : Int32)) ∧ Fr n0 L ∧ h = h0) := by
  refine Ctr.go own_pf1 fun p e s m below meth c s₁ Bd hx hby hml hZ hown hnm X0 e0 => ?_
  have N0 := Fr.nil n0
  have K0 := Keep.refl h0 []
  refine gs (S' := s₁.setTop (mkF m 0 #[iv ((0 : Int32)), iv ((0 : Int32))] [])) (fun tg kg => castTop (ef_68 m (0 : Int32) (0 : Int32)) kg) ?_
  refine gs (fun _ k => o_iloadN X0 hx hby d6_0 rfl (o_iloadN X0 hx hby d6_1 rfl (o_icmpNo X0 hx hby d6_2 (flt (by decide : ¬ ((0 : Int32) < (0 : Int32)))).1 (o_iloadN X0 hx hby d6_5 rfl (o_goto (pc' := 10) X0 hx hby d6_6 k))))) ?_
  refine gout (v := some (.int (0 : Int32))) X0 Bd.notSynchronized (fun h => by rw [Bd.returns] at h; cases h) (by decide) (by decide) ?_ (fun fs hr => retI X0 hx Bd.returns (hb hby d6_10) hr)
  rw [e0]
  exact ⟨rfl, N0, rfl⟩
theorem ef_75 (m : MethodId) (x0 : Int32) (x1 : Int32) : entryFrame m #[(.int x0), (.int x1)] 2 = mkF m 0 #[.val (.int x0), .val (.int x1)] [] := by first | (simp [entryFrame, mkF, argsToLocals, Value.category]; done) | rfl
theorem d7_0 : decode jdk_29_method_69_code 0 = .ok (.iload_n 0, 1) := by decide +kernel
theorem d7_1 : decode jdk_29_method_69_code 1 = .ok (.iload_n 1, 1) := by decide +kernel
theorem d7_2 : decode jdk_29_method_69_code 2 = .ok (.if_icmp .gt 7, 3) := by decide +kernel
theorem d7_5 : decode jdk_29_method_69_code 5 = .ok (.iload_n 0, 1) := by decide +kernel
theorem d7_6 : decode jdk_29_method_69_code 6 = .ok (.goto 4, 3) := by decide +kernel
theorem d7_10 : decode jdk_29_method_69_code 10 = .ok (.ireturn, 1) := by decide +kernel
set_option maxRecDepth 65536 in
set_option maxHeartbeats 40000000 in
theorem rm_min0 (l : Launch) (Z : State) (a0 : Array Value) (hw : HW Z a0) (ws : List Jvm.Cond)  (h0 : Heap) (n0 : Nat) (Z0 : n0 ≤ h0.size) (O0 : Old Z n0 h0)  :
    Ctr l Z my10 jdk_29_method_69_code 2 ((Option.some Jvm.ClassFile.FieldType.int)) ws (⟨0, 0, 0, 0⟩ : Room) #[(.int (0 : Int32)), (.int (0 : Int32))] h0 (fun v h L => v = some (.int (0 : Int32)) ∧ Fr n0 L ∧ h = h0) := by
  refine Ctr.go own_pf2 fun p e s m below meth c s₁ Bd hx hby hml hZ hown hnm X0 e0 => ?_
  have N0 := Fr.nil n0
  have K0 := Keep.refl h0 []
  refine gs (S' := s₁.setTop (mkF m 0 #[iv ((0 : Int32)), iv ((0 : Int32))] [])) (fun tg kg => castTop (ef_75 m (0 : Int32) (0 : Int32)) kg) ?_
  refine gs (fun _ k => o_iloadN X0 hx hby d7_0 rfl (o_iloadN X0 hx hby d7_1 rfl (o_icmpNo X0 hx hby d7_2 (flt (by decide : ¬ ((0 : Int32) < (0 : Int32)))).2.2.1 (o_iloadN X0 hx hby d7_5 rfl (o_goto (pc' := 10) X0 hx hby d7_6 k))))) ?_
  refine gout (v := some (.int (0 : Int32))) X0 Bd.notSynchronized (fun h => by rw [Bd.returns] at h; cases h) (by decide) (by decide) ?_ (fun fs hr => retI X0 hx Bd.returns (hb hby d7_10) hr)
  rw [e0]
  exact ⟨rfl, N0, rfl⟩
theorem ef_82 (m : MethodId) (x0 : Int32) (x1 : Int32) : entryFrame m #[(.int x0), (.int x1)] 2 = mkF m 0 #[.val (.int x0), .val (.int x1)] [] := by first | (simp [entryFrame, mkF, argsToLocals, Value.category]; done) | rfl
set_option maxRecDepth 65536 in
set_option maxHeartbeats 40000000 in
theorem rm_min1 (l : Launch) (Z : State) (a0 : Array Value) (hw : HW Z a0) (ws : List Jvm.Cond)  (h0 : Heap) (n0 : Nat) (Z0 : n0 ≤ h0.size) (O0 : Old Z n0 h0)  :
    Ctr l Z my10 jdk_29_method_69_code 2 ((Option.some Jvm.ClassFile.FieldType.int)) ws (⟨0, 0, 0, 0⟩ : Room) #[(.int (1 : Int32)), (.int (1 : Int32))] h0 (fun v h L => v = some (.int (1 : Int32)) ∧ Fr n0 L ∧ h = h0) := by
  refine Ctr.go own_pf2 fun p e s m below meth c s₁ Bd hx hby hml hZ hown hnm X0 e0 => ?_
  have N0 := Fr.nil n0
  have K0 := Keep.refl h0 []
  refine gs (S' := s₁.setTop (mkF m 0 #[iv ((1 : Int32)), iv ((1 : Int32))] [])) (fun tg kg => castTop (ef_82 m (1 : Int32) (1 : Int32)) kg) ?_
  refine gs (fun _ k => o_iloadN X0 hx hby d7_0 rfl (o_iloadN X0 hx hby d7_1 rfl (o_icmpNo X0 hx hby d7_2 (flt (by decide : ¬ ((1 : Int32) < (1 : Int32)))).2.2.1 (o_iloadN X0 hx hby d7_5 rfl (o_goto (pc' := 10) X0 hx hby d7_6 k))))) ?_
  refine gout (v := some (.int (1 : Int32))) X0 Bd.notSynchronized (fun h => by rw [Bd.returns] at h; cases h) (by decide) (by decide) ?_ (fun fs hr => retI X0 hx Bd.returns (hb hby d7_10) hr)
  rw [e0]
  exact ⟨rfl, N0, rfl⟩
theorem ef_83 (m : MethodId) (x0 : Int32) (x1 : Int32) : entryFrame m #[(.int x0), (.int x1)] 2 = mkF m 0 #[.val (.int x0), .val (.int x1)] [] := by first | (simp [entryFrame, mkF, argsToLocals, Value.category]; done) | rfl
set_option maxRecDepth 65536 in
set_option maxHeartbeats 40000000 in
theorem rm_min2 (l : Launch) (Z : State) (a0 : Array Value) (hw : HW Z a0) (ws : List Jvm.Cond)  (h0 : Heap) (n0 : Nat) (Z0 : n0 ≤ h0.size) (O0 : Old Z n0 h0)  :
    Ctr l Z my10 jdk_29_method_69_code 2 ((Option.some Jvm.ClassFile.FieldType.int)) ws (⟨0, 0, 0, 0⟩ : Room) #[(.int (2 : Int32)), (.int (2 : Int32))] h0 (fun v h L => v = some (.int (2 : Int32)) ∧ Fr n0 L ∧ h = h0) := by
  refine Ctr.go own_pf2 fun p e s m below meth c s₁ Bd hx hby hml hZ hown hnm X0 e0 => ?_
  have N0 := Fr.nil n0
  have K0 := Keep.refl h0 []
  refine gs (S' := s₁.setTop (mkF m 0 #[iv ((2 : Int32)), iv ((2 : Int32))] [])) (fun tg kg => castTop (ef_83 m (2 : Int32) (2 : Int32)) kg) ?_
  refine gs (fun _ k => o_iloadN X0 hx hby d7_0 rfl (o_iloadN X0 hx hby d7_1 rfl (o_icmpNo X0 hx hby d7_2 (flt (by decide : ¬ ((2 : Int32) < (2 : Int32)))).2.2.1 (o_iloadN X0 hx hby d7_5 rfl (o_goto (pc' := 10) X0 hx hby d7_6 k))))) ?_
  refine gout (v := some (.int (2 : Int32))) X0 Bd.notSynchronized (fun h => by rw [Bd.returns] at h; cases h) (by decide) (by decide) ?_ (fun fs hr => retI X0 hx Bd.returns (hb hby d7_10) hr)
  rw [e0]
  exact ⟨rfl, N0, rfl⟩
theorem ef_84 (m : MethodId) (x0 : Int32) (x1 : Int32) : entryFrame m #[(.int x0), (.int x1)] 2 = mkF m 0 #[.val (.int x0), .val (.int x1)] [] := by first | (simp [entryFrame, mkF, argsToLocals, Value.category]; done) | rfl
set_option maxRecDepth 65536 in
set_option maxHeartbeats 40000000 in
theorem rm_min3 (l : Launch) (Z : State) (a0 : Array Value) (hw : HW Z a0) (ws : List Jvm.Cond)  (h0 : Heap) (n0 : Nat) (Z0 : n0 ≤ h0.size) (O0 : Old Z n0 h0)  :
    Ctr l Z my10 jdk_29_method_69_code 2 ((Option.some Jvm.ClassFile.FieldType.int)) ws (⟨0, 0, 0, 0⟩ : Room) #[(.int (3 : Int32)), (.int (3 : Int32))] h0 (fun v h L => v = some (.int (3 : Int32)) ∧ Fr n0 L ∧ h = h0) := by
  refine Ctr.go own_pf2 fun p e s m below meth c s₁ Bd hx hby hml hZ hown hnm X0 e0 => ?_
  have N0 := Fr.nil n0
  have K0 := Keep.refl h0 []
  refine gs (S' := s₁.setTop (mkF m 0 #[iv ((3 : Int32)), iv ((3 : Int32))] [])) (fun tg kg => castTop (ef_84 m (3 : Int32) (3 : Int32)) kg) ?_
  refine gs (fun _ k => o_iloadN X0 hx hby d7_0 rfl (o_iloadN X0 hx hby d7_1 rfl (o_icmpNo X0 hx hby d7_2 (flt (by decide : ¬ ((3 : Int32) < (3 : Int32)))).2.2.1 (o_iloadN X0 hx hby d7_5 rfl (o_goto (pc' := 10) X0 hx hby d7_6 k))))) ?_
  refine gout (v := some (.int (3 : Int32))) X0 Bd.notSynchronized (fun h => by rw [Bd.returns] at h; cases h) (by decide) (by decide) ?_ (fun fs hr => retI X0 hx Bd.returns (hb hby d7_10) hr)
  rw [e0]
  exact ⟨rfl, N0, rfl⟩
theorem ef_85 (m : MethodId) (x0 : Int32) : entryFrame m #[(.int x0)] 1 = mkF m 0 #[.val (.int x0)] [] := by first | (simp [entryFrame, mkF, argsToLocals, Value.category]; done) | rfl
theorem d8_0 : decode jdk_43_method_4_code 0 = .ok (.iload_n 0, 1) := by decide +kernel
theorem d8_1 : decode jdk_43_method_4_code 1 = .ok (.ifCond .lt 14, 3) := by decide +kernel
theorem d8_4 : decode jdk_43_method_4_code 4 = .ok (.iload_n 0, 1) := by decide +kernel
theorem d8_5 : decode jdk_43_method_4_code 5 = .ok (.sipush 255, 3) := by decide +kernel
theorem d8_8 : decode jdk_43_method_4_code 8 = .ok (.if_icmp .gt 7, 3) := by decide +kernel
theorem d8_11 : decode jdk_43_method_4_code 11 = .ok (.iconst 1, 1) := by decide +kernel
theorem d8_12 : decode jdk_43_method_4_code 12 = .ok (.goto 4, 3) := by decide +kernel
theorem d8_16 : decode jdk_43_method_4_code 16 = .ok (.ireturn, 1) := by decide +kernel
set_option maxRecDepth 65536 in
set_option maxHeartbeats 40000000 in
theorem rm_cei (l : Launch) (Z : State) (a0 : Array Value) (hw : HW Z a0) (ws : List Jvm.Cond)  (h0 : Heap) (n0 : Nat) (Z0 : n0 ≤ h0.size) (O0 : Old Z n0 h0)  :
    Ctr l Z (⟨"java/lang/StringLatin1", "canEncode", "(I)Z"⟩ : MethodName) jdk_43_method_4_code 1 ((Option.some Jvm.ClassFile.FieldType.boolean)) ws (⟨0, 0, 0, 0⟩ : Room) #[(.int (58 : Int32))] h0 (fun v h L => v = some (.int (1 : Int32)) ∧ Fr n0 L ∧ h = h0) := by
  refine Ctr.go (plainFor_of_name pn_32) fun p e s m below meth c s₁ Bd hx hby hml hZ hown hnm X0 e0 => ?_
  have N0 := Fr.nil n0
  have K0 := Keep.refl h0 []
  refine gs (S' := s₁.setTop (mkF m 0 #[iv ((58 : Int32))] [])) (fun tg kg => castTop (ef_85 m (58 : Int32)) kg) ?_
  refine gs (fun _ k => o_iloadN X0 hx hby d8_0 rfl (o_ifNo X0 hx hby d8_1 ((if0 _ _).trans (flt (by decide : ¬ ((58 : Int32) < (0 : Int32)))).1) (o_iloadN X0 hx hby d8_4 rfl (XS.sipush X0.here hx rfl (hb hby d8_5) (o_icmpNo X0 hx hby d8_8 (flt (by decide : ¬ ((255 : Int32) < (58 : Int32)))).2.2.1 (o_iconst (v := (1 : Int32)) X0 hx hby d8_11 (o_goto (pc' := 16) X0 hx hby d8_12 k))))))) ?_
  refine gout (v := some (.int (1 : Int32))) X0 Bd.notSynchronized (fun h => by rw [Bd.returns] at h; cases h) (by decide) (by decide) ?_ (fun fs hr => retN X0 hx (t := .boolean) Bd.returns (by simp) (hb hby d8_16) hr)
  rw [e0]
  exact ⟨rfl, N0, rfl⟩
theorem ef_94 (m : MethodId) (x0 : Addr) (x1 : Int32) (x2 : Int32) : entryFrame m #[(.ref x0), (.int x1), (.int x2)] 3 = mkF m 0 #[.val (.ref x0), .val (.int x1), .val (.int x2)] [] := by first | (simp [entryFrame, mkF, argsToLocals, Value.category]; done) | rfl
theorem d9_0 : decode jdk_52_method_4_code 0 = .ok (.getstatic 44, 3) := by decide +kernel
theorem d9_3 : decode jdk_52_method_4_code 3 = .ok (.ifCond .ne 25, 3) := by decide +kernel
theorem d9_28 : decode jdk_52_method_4_code 28 = .ok (.iload_n 1, 1) := by decide +kernel
theorem d9_29 : decode jdk_52_method_4_code 29 = .ok (.iconst 1, 1) := by decide +kernel
theorem d9_30 : decode jdk_52_method_4_code 30 = .ok (.ishl, 1) := by decide +kernel
theorem d9_31 : decode jdk_52_method_4_code 31 = .ok (.istore_n 1, 1) := by decide +kernel
theorem d9_32 : decode jdk_52_method_4_code 32 = .ok (.aload_n 0, 1) := by decide +kernel
theorem d9_33 : decode jdk_52_method_4_code 33 = .ok (.iload_n 1, 1) := by decide +kernel
theorem d9_34 : decode jdk_52_method_4_code 34 = .ok (.iinc 1 1, 3) := by decide +kernel
theorem d9_37 : decode jdk_52_method_4_code 37 = .ok (.iload_n 2, 1) := by decide +kernel
theorem d9_38 : decode jdk_52_method_4_code 38 = .ok (.getstatic 59, 3) := by decide +kernel
theorem d9_41 : decode jdk_52_method_4_code 41 = .ok (.ishr, 1) := by decide +kernel
theorem d9_42 : decode jdk_52_method_4_code 42 = .ok (.i2b, 1) := by decide +kernel
theorem d9_43 : decode jdk_52_method_4_code 43 = .ok (.bastore, 1) := by decide +kernel
theorem d9_44 : decode jdk_52_method_4_code 44 = .ok (.aload_n 0, 1) := by decide +kernel
theorem d9_45 : decode jdk_52_method_4_code 45 = .ok (.iload_n 1, 1) := by decide +kernel
theorem d9_46 : decode jdk_52_method_4_code 46 = .ok (.iload_n 2, 1) := by decide +kernel
theorem d9_47 : decode jdk_52_method_4_code 47 = .ok (.getstatic 63, 3) := by decide +kernel
theorem d9_50 : decode jdk_52_method_4_code 50 = .ok (.ishr, 1) := by decide +kernel
theorem d9_51 : decode jdk_52_method_4_code 51 = .ok (.i2b, 1) := by decide +kernel
theorem d9_52 : decode jdk_52_method_4_code 52 = .ok (.bastore, 1) := by decide +kernel
theorem d9_53 : decode jdk_52_method_4_code 53 = .ok (.return_, 1) := by decide +kernel
theorem pn_117 : plainName "java/lang/StringUTF16" = true := by first | (simp [plainName, overriddenIn]; done) | decide +kernel
set_option maxRecDepth 65536 in
set_option maxHeartbeats 40000000 in
theorem rm_pc10 (l : Launch) (Z : State) (a0 : Array Value) (hw : HW Z a0) (ws : List Jvm.Cond) (t : Addr) (kb : ClassId) (cc : Int32) (v0 : Int32) (v1 : Int32) (h0 : Heap) (n0 : Nat) (Z0 : n0 ≤ h0.size) (O0 : Old Z n0 h0) (V_t : Arv Z h0 t kb .byte (2 : Int32) [(.int v0), (.int v1)] (.int (0 : Int32))) (g_t : n0 ≤ t) (S_ad : PS0 Z (.int (1 : Int32))) (S_hi : PS1 Z (.int (0 : Int32))) (S_lo : PS2 Z (.int (8 : Int32))) :
    Ctr l Z my6 jdk_52_method_4_code 3 ((Option.none : Option Jvm.ClassFile.FieldType)) ws (⟨0, 0, 0, 0⟩ : Room) #[(.ref t), (.int (0 : Int32)), (.int cc)] h0 (fun v h L => v = none ∧ Fr n0 L ∧ Keep h0 h [t] ∧ Arv Z h t kb .byte (2 : Int32) [(.int (own_b0 cc)), (.int (own_b1 cc))] (.int (0 : Int32))) := by
  refine Ctr.go (plainFor_of_name pn_117) fun p e s m below meth c s₁ Bd hx hby hml hZ hown hnm X0 e0 => ?_
  have N0 := Fr.nil n0
  have K0 := Keep.refl h0 [t]
  refine gs (S' := s₁.setTop (mkF m 0 #[rv (t), iv ((0 : Int32)), iv (cc)] [])) (fun tg kg => castTop (ef_94 m t (0 : Int32) cc) kg) ?_
  refine gS X0 hx hZ hown (host := "") (Or.inl (ow hw 111 rfl)) Via.refl e0 (S_ad.ext O0.2) hby d9_0 fun T1 X1 e1 => ?_
  refine gs (fun _ k => o_ifYes (pc' := 28) X1 hx hby d9_3 ((if0 _ _).trans (feq (by decide : ¬ ((1 : Int32) = (0 : Int32)))).2) (o_iloadN X1 hx hby d9_28 rfl (o_iconst (v := (1 : Int32)) X1 hx hby d9_29 (o_ishl X1 hx hby d9_30 (o_istoreN X1 hx hby d9_31 rfl (o_aloadN X1 hx hby d9_32 rfl rfl (o_iloadN X1 hx hby d9_33 rfl (o_iinc X1 hx hby d9_34 rfl rfl (o_iloadN X1 hx hby d9_37 rfl k))))))))) ?_
  refine gS X1 hx hZ hown (host := "") (Or.inl (ow hw 112 rfl)) Via.refl e1 (S_hi.ext O0.2) hby d9_38 fun T2 X2 e2 => ?_
  refine gs (fun _ k => o_ishr X2 hx hby d9_41 (o_i2b X2 hx hby d9_42 k)) ?_
  obtain ⟨cl3, A3, a3q, a3S, a3N, a3H, a3G⟩ := id V_t
  obtain ⟨T3, h3, X3, e3, W3, st3⟩ := stB X2 hx hZ e2 A3 (j := (0 : Int32)) (inb_of a3S ⟨by decide, by decide⟩) (g := (mkF m 43 #[rv (t), iv ((1 : Int32)), iv (cc)] [(.int ((cc >>> ((0 : Int32) &&& 31)).toInt8.toInt32)), (.int (0 : Int32)), (.ref t)])) rfl rfl (hb hby d9_43)
  have V3 : Arv Z h3 t kb .byte (2 : Int32) [(.int (nar .byte ((cc >>> ((0 : Int32) &&& 31)).toInt8.toInt32))), (.int v1)] (.int (0 : Int32)) := Arv.set A3 a3q a3S a3N a3H a3G (fits_nar_byte _) W3 0 rfl (nb rfl)
  have N3 := Fr.snoc X3 N0 g_t
  have Z4 := nt Z0 (Keep.of_wr W3).1
  have O4 := O0.wr W3 g_t
  have K4 := K0.wr W3 (Or.inl (List.mem_of_getElem? (i := 0) rfl))
  refine gs (S' := T3.setTop (mkF m 44 #[rv (t), iv ((1 : Int32)), iv (cc)] [])) st3 ?_
  refine gs (fun _ k => o_aloadN X3 hx hby d9_44 rfl rfl (o_iloadN X3 hx hby d9_45 rfl (o_iloadN X3 hx hby d9_46 rfl k))) ?_
  refine gS X3 hx hZ hown (host := "") (Or.inl (ow hw 113 rfl)) Via.refl e3 (S_lo.ext O4.2) hby d9_47 fun T5 X5 e5 => ?_
  refine gs (fun _ k => o_ishr X5 hx hby d9_50 (o_i2b X5 hx hby d9_51 k)) ?_
  obtain ⟨cl6, A6, a6q, a6S, a6N, a6H, a6G⟩ := id V3
  obtain ⟨T6, h6, X6, e6, W6, st6⟩ := stB X5 hx hZ e5 A6 (j := (1 : Int32)) (inb_of a6S ⟨by decide, by decide⟩) (g := (mkF m 52 #[rv (t), iv ((1 : Int32)), iv (cc)] [(.int ((cc >>> ((8 : Int32) &&& 31)).toInt8.toInt32)), (.int (1 : Int32)), (.ref t)])) rfl rfl (hb hby d9_52)
  have V6 : Arv Z h6 t kb .byte (2 : Int32) [(.int (nar .byte ((cc >>> ((0 : Int32) &&& 31)).toInt8.toInt32))), (.int (nar .byte ((cc >>> ((8 : Int32) &&& 31)).toInt8.toInt32)))] (.int (0 : Int32)) := Arv.set A6 a6q a6S a6N a6H a6G (fits_nar_byte _) W6 1 rfl (nb rfl)
  have N6 := Fr.snoc X6 N3 g_t
  have Z7 := nt Z4 (Keep.of_wr W6).1
  have O7 := O4.wr W6 g_t
  have K7 := K4.wr W6 (Or.inl (List.mem_of_getElem? (i := 0) rfl))
  refine gs (S' := T6.setTop (mkF m 53 #[rv (t), iv ((1 : Int32)), iv (cc)] [])) st6 ?_
  refine gout (v := none) X6 Bd.notSynchronized (fun _ => rfl) (by decide) (by decide) ?_ (fun fs hr => X6.returnOut hx Bd.returns (hb hby d9_53) hr)
  rw [e6]
  exact ⟨rfl, N6, K7, V6⟩
theorem ef_118 (m : MethodId) (x0 : Addr) (x1 : Int32) : entryFrame m #[(.ref x0), (.int x1)] 2 = mkF m 0 #[.val (.ref x0), .val (.int x1)] [] := by first | (simp [entryFrame, mkF, argsToLocals, Value.category]; done) | rfl
theorem d10_0 : decode jdk_52_method_5_code 0 = .ok (.getstatic 44, 3) := by decide +kernel
theorem d10_3 : decode jdk_52_method_5_code 3 = .ok (.ifCond .ne 25, 3) := by decide +kernel
theorem d10_28 : decode jdk_52_method_5_code 28 = .ok (.iload_n 1, 1) := by decide +kernel
theorem d10_29 : decode jdk_52_method_5_code 29 = .ok (.iconst 1, 1) := by decide +kernel
theorem d10_30 : decode jdk_52_method_5_code 30 = .ok (.ishl, 1) := by decide +kernel
theorem d10_31 : decode jdk_52_method_5_code 31 = .ok (.istore_n 1, 1) := by decide +kernel
theorem d10_32 : decode jdk_52_method_5_code 32 = .ok (.aload_n 0, 1) := by decide +kernel
theorem d10_33 : decode jdk_52_method_5_code 33 = .ok (.iload_n 1, 1) := by decide +kernel
theorem d10_34 : decode jdk_52_method_5_code 34 = .ok (.iinc 1 1, 3) := by decide +kernel
theorem d10_37 : decode jdk_52_method_5_code 37 = .ok (.baload, 1) := by decide +kernel
theorem d10_38 : decode jdk_52_method_5_code 38 = .ok (.sipush 255, 3) := by decide +kernel
theorem d10_41 : decode jdk_52_method_5_code 41 = .ok (.iand, 1) := by decide +kernel
theorem d10_42 : decode jdk_52_method_5_code 42 = .ok (.getstatic 59, 3) := by decide +kernel
theorem d10_45 : decode jdk_52_method_5_code 45 = .ok (.ishl, 1) := by decide +kernel
theorem d10_46 : decode jdk_52_method_5_code 46 = .ok (.aload_n 0, 1) := by decide +kernel
theorem d10_47 : decode jdk_52_method_5_code 47 = .ok (.iload_n 1, 1) := by decide +kernel
theorem d10_48 : decode jdk_52_method_5_code 48 = .ok (.baload, 1) := by decide +kernel
theorem d10_49 : decode jdk_52_method_5_code 49 = .ok (.sipush 255, 3) := by decide +kernel
theorem d10_52 : decode jdk_52_method_5_code 52 = .ok (.iand, 1) := by decide +kernel
theorem d10_53 : decode jdk_52_method_5_code 53 = .ok (.getstatic 63, 3) := by decide +kernel
theorem d10_56 : decode jdk_52_method_5_code 56 = .ok (.ishl, 1) := by decide +kernel
theorem d10_57 : decode jdk_52_method_5_code 57 = .ok (.ior, 1) := by decide +kernel
theorem d10_58 : decode jdk_52_method_5_code 58 = .ok (.i2c, 1) := by decide +kernel
theorem d10_59 : decode jdk_52_method_5_code 59 = .ok (.ireturn, 1) := by decide +kernel
set_option maxRecDepth 65536 in
set_option maxHeartbeats 40000000 in
theorem rm_gc10 (l : Launch) (Z : State) (a0 : Array Value) (hw : HW Z a0) (ws : List Jvm.Cond) (t : Addr) (kb : ClassId) (ch0 : Int32) (h0 : Heap) (n0 : Nat) (Z0 : n0 ≤ h0.size) (O0 : Old Z n0 h0) (V_t : Arv Z h0 t kb .byte (2 : Int32) [(.int (own_b0 ch0)), (.int (own_b1 ch0))] (.int (0 : Int32))) (hc : ¬ ch0 < 0 ∧ ¬ (65535 : Int32) < ch0) (S_ad : PS0 Z (.int (1 : Int32))) (S_hi : PS1 Z (.int (0 : Int32))) (S_lo : PS2 Z (.int (8 : Int32))) :
    Ctr l Z my7 jdk_52_method_5_code 2 ((Option.some Jvm.ClassFile.FieldType.char)) ws (⟨0, 0, 0, 0⟩ : Room) #[(.ref t), (.int (0 : Int32))] h0 (fun v h L => v = some (.int ch0) ∧ Fr n0 L ∧ h = h0) := by
  refine Ctr.go (plainFor_of_name pn_117) fun p e s m below meth c s₁ Bd hx hby hml hZ hown hnm X0 e0 => ?_
  have N0 := Fr.nil n0
  have K0 := Keep.refl h0 []
  refine gs (S' := s₁.setTop (mkF m 0 #[rv (t), iv ((0 : Int32))] [])) (fun tg kg => castTop (ef_118 m t (0 : Int32)) kg) ?_
  refine gS X0 hx hZ hown (host := "") (Or.inl (ow hw 111 rfl)) Via.refl e0 (S_ad.ext O0.2) hby d10_0 fun T1 X1 e1 => ?_
  refine gs (fun _ k => o_ifYes (pc' := 28) X1 hx hby d10_3 ((if0 _ _).trans (feq (by decide : ¬ ((1 : Int32) = (0 : Int32)))).2) (o_iloadN X1 hx hby d10_28 rfl (o_iconst (v := (1 : Int32)) X1 hx hby d10_29 (o_ishl X1 hx hby d10_30 (o_istoreN X1 hx hby d10_31 rfl (o_aloadN X1 hx hby d10_32 rfl rfl (o_iloadN X1 hx hby d10_33 rfl (o_iinc X1 hx hby d10_34 rfl rfl k)))))))) ?_
  obtain ⟨cl2, A2, a2q, a2S, a2N, a2H, a2G⟩ := id V_t
  have hi2 := inb_of a2S (j := (0 : Int32)) ⟨by decide, by decide⟩
  refine gs (fun _ k => X1.baloadBytes hx (j := (0 : Int32)) (v := (.int (own_b0 ch0))) (by rw [e1]; exact A2.1) (State.isArrayOf_alike hZ.alike A2.2.1) A2.2.2 hi2 (Has.at a2H hi2 rfl) (g := (mkF m 37 #[rv (t), iv ((1 : Int32))] [(.int (0 : Int32)), (.ref t)])) rfl rfl (hb hby d10_37) _ (XS.sipush X1.here hx rfl (hb hby d10_38) (o_iand X1 hx hby d10_41 k))) ?_
  refine gS X1 hx hZ hown (host := "") (Or.inl (ow hw 112 rfl)) Via.refl e1 (S_hi.ext O0.2) hby d10_42 fun T3 X3 e3 => ?_
  refine gs (fun _ k => o_ishl X3 hx hby d10_45 (o_aloadN X3 hx hby d10_46 rfl rfl (o_iloadN X3 hx hby d10_47 rfl k))) ?_
  obtain ⟨cl4, A4, a4q, a4S, a4N, a4H, a4G⟩ := id V_t
  have hi4 := inb_of a4S (j := (1 : Int32)) ⟨by decide, by decide⟩
  refine gs (fun _ k => X3.baloadBytes hx (j := (1 : Int32)) (v := (.int (own_b1 ch0))) (by rw [e3]; exact A4.1) (State.isArrayOf_alike hZ.alike A4.2.1) A4.2.2 hi4 (Has.at a4H hi4 rfl) (g := (mkF m 48 #[rv (t), iv ((1 : Int32))] [(.int (1 : Int32)), (.ref t), (.int (((own_b0 ch0) &&& (255 : Int32)) <<< ((0 : Int32) &&& 31)))])) rfl rfl (hb hby d10_48) _ (XS.sipush X3.here hx rfl (hb hby d10_49) (o_iand X3 hx hby d10_52 k))) ?_
  refine gS X3 hx hZ hown (host := "") (Or.inl (ow hw 113 rfl)) Via.refl e3 (S_lo.ext O0.2) hby d10_53 fun T5 X5 e5 => ?_
  refine gs (fun _ k => o_ishl X5 hx hby d10_56 (o_ior X5 hx hby d10_57 (o_i2c X5 hx hby d10_58 k))) ?_
  refine gout (v := some (.int (nar .char (((((own_b0 ch0) &&& (255 : Int32)) <<< ((0 : Int32) &&& 31)) ||| (((own_b1 ch0) &&& (255 : Int32)) <<< ((8 : Int32) &&& 31))).toUInt32.toUInt16.toUInt32.toInt32)))) X5 Bd.notSynchronized (fun h => by rw [Bd.returns] at h; cases h) (by decide) (by decide) ?_ (fun fs hr => retN X5 hx (t := .char) Bd.returns (by simp) (hb hby d10_59) hr)
  rw [e5]
  exact ⟨congrArg (fun q => some (Value.int q)) (own_gc hc), N0, rfl⟩
theorem ef_143 (m : MethodId) (x0 : Int32) : entryFrame m #[(.int x0)] 1 = mkF m 0 #[.val (.int x0)] [] := by first | (simp [entryFrame, mkF, argsToLocals, Value.category]; done) | rfl
theorem d11_0 : decode jdk_52_method_3_code 0 = .ok (.iload_n 0, 1) := by decide +kernel
theorem d11_1 : decode jdk_52_method_3_code 1 = .ok (.ifCond .ge 11, 3) := by decide +kernel
theorem d11_12 : decode jdk_52_method_3_code 12 = .ok (.iload_n 0, 1) := by decide +kernel
theorem d11_13 : decode jdk_52_method_3_code 13 = .ok (.ldc 20, 2) := by decide +kernel
theorem d11_15 : decode jdk_52_method_3_code 15 = .ok (.if_icmp .lt 40, 3) := by decide +kernel
theorem d11_55 : decode jdk_52_method_3_code 55 = .ok (.iload_n 0, 1) := by decide +kernel
theorem d11_56 : decode jdk_52_method_3_code 56 = .ok (.iconst 1, 1) := by decide +kernel
theorem d11_57 : decode jdk_52_method_3_code 57 = .ok (.ishl, 1) := by decide +kernel
theorem d11_58 : decode jdk_52_method_3_code 58 = .ok (.ireturn, 1) := by decide +kernel
set_option maxRecDepth 65536 in
set_option maxHeartbeats 40000000 in
theorem rm_nbl1 (l : Launch) (Z : State) (a0 : Array Value) (hw : HW Z a0) (ws : List Jvm.Cond)  (h0 : Heap) (n0 : Nat) (Z0 : n0 ≤ h0.size) (O0 : Old Z n0 h0)  :
    Ctr l Z my12 jdk_52_method_3_code 1 ((Option.some Jvm.ClassFile.FieldType.int)) ws (⟨0, 0, 0, 0⟩ : Room) #[(.int (1 : Int32))] h0 (fun v h L => v = some (.int (2 : Int32)) ∧ Fr n0 L ∧ h = h0) := by
  refine Ctr.go (plainFor_of_name pn_117) fun p e s m below meth c s₁ Bd hx hby hml hZ hown hnm X0 e0 => ?_
  have N0 := Fr.nil n0
  have K0 := Keep.refl h0 []
  refine gs (S' := s₁.setTop (mkF m 0 #[iv ((1 : Int32))] [])) (fun tg kg => castTop (ef_143 m (1 : Int32)) kg) ?_
  refine gs (fun _ k => o_iloadN X0 hx hby d11_0 rfl (o_ifYes (pc' := 12) X0 hx hby d11_1 ((if0 _ _).trans (flt (by decide : ¬ ((1 : Int32) < (0 : Int32)))).2.1) (o_iloadN X0 hx hby d11_12 rfl (X0.ldcInt hx hown (mvT hZ (ow hw 107 rfl)) (g := (mkF m 13 #[iv ((1 : Int32))] [(.int (1 : Int32))])) rfl (hb hby d11_13) _ (o_icmpYes (pc' := 55) X0 hx hby d11_15 (tlt (by decide : (1 : Int32) < (1073741823 : Int32))).1 (o_iloadN X0 hx hby d11_55 rfl (o_iconst (v := (1 : Int32)) X0 hx hby d11_56 (o_ishl X0 hx hby d11_57 k)))))))) ?_
  refine gout (v := some (.int (2 : Int32))) X0 Bd.notSynchronized (fun h => by rw [Bd.returns] at h; cases h) (by decide) (by decide) ?_ (fun fs hr => retI X0 hx Bd.returns (hb hby d11_58) hr)
  rw [e0]
  exact ⟨rfl, N0, rfl⟩
theorem ef_153 (m : MethodId) (x0 : Int32) : entryFrame m #[(.int x0)] 1 = mkF m 0 #[.val (.int x0)] [] := by first | (simp [entryFrame, mkF, argsToLocals, Value.category]; done) | rfl
theorem d12_0 : decode jdk_52_method_2_code 0 = .ok (.iload_n 0, 1) := by decide +kernel
theorem d12_1 : decode jdk_52_method_2_code 1 = .ok (.invokestatic 11, 3) := by decide +kernel
theorem pd_156 : parseMethodDescriptor "(I)I" = some ⟨[.int], some .int⟩ := by decide +kernel
theorem d12_4 : decode jdk_52_method_2_code 4 = .ok (.newarray .byte, 2) := by decide +kernel
theorem d12_6 : decode jdk_52_method_2_code 6 = .ok (.areturn, 1) := by decide +kernel
set_option maxRecDepth 65536 in
set_option maxHeartbeats 40000000 in
theorem rm_nbf1 (l : Launch) (Z : State) (a0 : Array Value) (hw : HW Z a0) (ws : List Jvm.Cond)  (h0 : Heap) (n0 : Nat) (Z0 : n0 ≤ h0.size) (O0 : Old Z n0 h0)  :
    Ctr l Z my13 jdk_52_method_2_code 1 ((Option.some (Jvm.ClassFile.FieldType.array Jvm.ClassFile.FieldType.byte))) ws (⟨1, 1, 2, 12⟩ : Room) #[(.int (1 : Int32))] h0 (fun v h L => ∃ (t : Addr) (kb : ClassId), v = some (.ref t) ∧ Fr n0 L ∧ Keep h0 h [] ∧ h0.size ≤ t ∧ Arv Z h t kb .byte (2 : Int32) [(.int (0 : Int32)), (.int (0 : Int32))] (.int (0 : Int32))) := by
  refine Ctr.go (plainFor_of_name pn_117) fun p e s m below meth c s₁ Bd hx hby hml hZ hown hnm X0 e0 => ?_
  have N0 := Fr.nil n0
  have K0 := Keep.refl h0 []
  refine gs (S' := s₁.setTop (mkF m 0 #[iv ((1 : Int32))] [])) (fun tg kg => castTop (ef_153 m (1 : Int32)) kg) ?_
  refine gs (fun _ k => o_iloadN X0 hx hby d12_0 rfl k) ?_
  refine cS (rest := []) X0 hx hZ hown (ow hw 104 rfl) (ow hw 105 rfl) (ow hw 87 rfl) (ow hw 106 rfl) (rm_nbl1 l Z a0 hw []  h0 n0 Z0 O0 ) hby d12_1 e0 pd_156 0 (by rw [hml]; rfl) rfl rfl rfl rfl (by decide) (by decide) fun _ T1 Lc1 X1 hQ1 => ?_
  obtain ⟨rfl, N1q, e1q⟩ := hQ1
  have N1 := Fr.app N0 N1q
  obtain ⟨T2, h2, k2, X2, e2, E2, A2, st2⟩ := newP X1 hx hZ (ow hw 20 rfl) e1q (g := (mkF m 4 #[iv ((1 : Int32))] [(.int (2 : Int32))])) rfl (hb hby d12_4) rfl (by decide) (cap := 2) (by decide) (by decide) (by decide) (by decide)
  obtain ⟨b2, q2⟩ : ∃ z, z = h0.size := ⟨_, rfl⟩
  rw [← q2] at A2 st2
  have g_b2 : n0 ≤ b2 := nt Z0 (Nat.le_of_eq q2.symm)
  have sz_b2 : h0.size ≤ b2 := nt K0.1 (Nat.le_of_eq q2.symm)
  have Z3 := nt Z0 E2.1
  have O3 := O0.ext E2
  have K3 := K0.ext E2
  have V2 : Arv Z h2 b2 k2 .byte (2 : Int32) [(.int (0 : Int32)), (.int (0 : Int32))] (.int (0 : Int32)) := (Arv.new A2 (by decide)).pad (pad_rep [] (.int (0 : Int32)) 2)
  refine gs (S' := T2.setTop (mkF m 6 #[iv ((1 : Int32))] [(.ref b2)])) st2 ?_
  refine gout (v := some (.ref b2)) X2 Bd.notSynchronized (fun h => by rw [Bd.returns] at h; cases h) (by decide) (by decide) ?_ (fun fs hr => retOut X2 hx Bd.returns rfl (Or.inr (Or.inr (Or.inr (Or.inr ⟨rfl, rfl, rfl⟩)))) (hb hby d12_6) hr)
  rw [e2]
  exact ⟨_, _, rfl, N1, K3, sz_b2, V2⟩
theorem ef_159 (m : MethodId) (x0 : Addr) (x1 : Int32) (x2 : Int32) : entryFrame m #[(.ref x0), (.int x1), (.int x2)] 5 = mkF m 0 #[.val (.ref x0), .val (.int x1), .val (.int x2), .unset, .unset] [] := by first | (simp [entryFrame, mkF, argsToLocals, Value.category]; done) | rfl
theorem d13_0 : decode jdk_52_method_14_code 0 = .ok (.iload_n 2, 1) := by decide +kernel
theorem d13_1 : decode jdk_52_method_14_code 1 = .ok (.invokestatic 107, 3) := by decide +kernel
theorem pd_162 : parseMethodDescriptor "(I)[B" = some ⟨[.int], some (.array .byte)⟩ := by decide +kernel
theorem d13_4 : decode jdk_52_method_14_code 4 = .ok (.astore_n 3, 1) := by decide +kernel
theorem d13_5 : decode jdk_52_method_14_code 5 = .ok (.iconst 0, 1) := by decide +kernel
theorem d13_6 : decode jdk_52_method_14_code 6 = .ok (.istore 4, 2) := by decide +kernel
theorem d13_8 : decode jdk_52_method_14_code 8 = .ok (.iload 4, 2) := by decide +kernel
theorem d13_10 : decode jdk_52_method_14_code 10 = .ok (.iload_n 2, 1) := by decide +kernel
theorem d13_11 : decode jdk_52_method_14_code 11 = .ok (.if_icmp .ge 21, 3) := by decide +kernel
theorem d13_14 : decode jdk_52_method_14_code 14 = .ok (.aload_n 3, 1) := by decide +kernel
theorem d13_15 : decode jdk_52_method_14_code 15 = .ok (.iload 4, 2) := by decide +kernel
theorem d13_17 : decode jdk_52_method_14_code 17 = .ok (.aload_n 0, 1) := by decide +kernel
theorem d13_18 : decode jdk_52_method_14_code 18 = .ok (.iload_n 1, 1) := by decide +kernel
theorem d13_19 : decode jdk_52_method_14_code 19 = .ok (.caload, 1) := by decide +kernel
theorem d13_20 : decode jdk_52_method_14_code 20 = .ok (.invokestatic 111, 3) := by decide +kernel
theorem pd_175 : parseMethodDescriptor "([BII)V" = some ⟨[(.array .byte), .int, .int], none⟩ := by decide +kernel
theorem d13_23 : decode jdk_52_method_14_code 23 = .ok (.iinc 1 1, 3) := by decide +kernel
theorem d13_26 : decode jdk_52_method_14_code 26 = .ok (.iinc 4 1, 3) := by decide +kernel
theorem d13_29 : decode jdk_52_method_14_code 29 = .ok (.goto (-21), 3) := by decide +kernel
theorem d13_32 : decode jdk_52_method_14_code 32 = .ok (.aload_n 3, 1) := by decide +kernel
theorem d13_33 : decode jdk_52_method_14_code 33 = .ok (.areturn, 1) := by decide +kernel
set_option maxRecDepth 65536 in
set_option maxHeartbeats 40000000 in
theorem rm_tb16_1 (l : Launch) (Z : State) (a0 : Array Value) (hw : HW Z a0) (ws : List Jvm.Cond) (b : Addr) (kc : ClassId) (ch0 : Int32) (h0 : Heap) (n0 : Nat) (Z0 : n0 ≤ h0.size) (O0 : Old Z n0 h0) (V_b : Arv Z h0 b kc .char (1 : Int32) [(.int ch0)] (.int (0 : Int32))) (S_ad : PS0 Z (.int (1 : Int32))) (S_hi : PS1 Z (.int (0 : Int32))) (S_lo : PS2 Z (.int (8 : Int32))) :
    Ctr l Z my14 jdk_52_method_14_code 5 ((Option.some (Jvm.ClassFile.FieldType.array Jvm.ClassFile.FieldType.byte))) ws (⟨2, 1, 2, 24⟩ : Room) #[(.ref b), (.int (0 : Int32)), (.int (1 : Int32))] h0 (fun v h L => ∃ (t : Addr) (kb : ClassId), v = some (.ref t) ∧ Fr n0 L ∧ Keep h0 h [] ∧ h0.size ≤ t ∧ Arv Z h t kb .byte (2 : Int32) [(.int (own_b0 ch0)), (.int (own_b1 ch0))] (.int (0 : Int32))) := by
  refine Ctr.go (plainFor_of_name pn_117) fun p e s m below meth c s₁ Bd hx hby hml hZ hown hnm X0 e0 => ?_
  have N0 := Fr.nil n0
  have K0 := Keep.refl h0 []
  refine gs (S' := s₁.setTop (mkF m 0 #[rv (b), iv ((0 : Int32)), iv ((1 : Int32)), uu, uu] [])) (fun tg kg => castTop (ef_159 m b (0 : Int32) (1 : Int32)) kg) ?_
  refine gs (fun _ k => o_iloadN X0 hx hby d13_0 rfl k) ?_
  refine cS (rest := []) X0 hx hZ hown (ow hw 101 rfl) (ow hw 102 rfl) (ow hw 87 rfl) (ow hw 103 rfl) (rm_nbf1 l Z a0 hw []  h0 n0 Z0 O0 ) hby d13_1 e0 pd_162 0 (by rw [hml]; rfl) rfl rfl rfl rfl (by decide) (by decide) fun _ T1 Lc1 X1 hQ1 => ?_
  obtain ⟨t1, kb1, rfl, N1q, K1q, g1t, V1q⟩ := hQ1
  have N1 := Fr.app N0 N1q
  have g_t1 : n0 ≤ t1 := nt Z0 g1t
  have sz_t1 : h0.size ≤ t1 := nt K0.1 g1t
  have Z2 := nt Z0 K1q.1
  have O2 := O0.keep K1q all0
  have K2 := K0.trans K1q all0
  refine gs (fun _ k => o_astoreN X1 hx hby d13_4 rfl rfl (o_iconst (v := (0 : Int32)) X1 hx hby d13_5 (o_istore X1 hx hby d13_6 rfl (o_iload X1 hx hby d13_8 rfl (o_iloadN X1 hx hby d13_10 rfl (o_icmpNo X1 hx hby d13_11 (tlt (by decide : (0 : Int32) < (1 : Int32))).2.1 (o_aloadN X1 hx hby d13_14 rfl rfl (o_iload X1 hx hby d13_15 rfl (o_aloadN X1 hx hby d13_17 rfl rfl (o_iloadN X1 hx hby d13_18 rfl k)))))))))) ?_
  have f3 := (V_b.keep K1q nin0)
  obtain ⟨cl4, A4, a4q, a4S, a4N, a4H, a4G⟩ := id f3
  have hi4 := inb_of a4S (j := (0 : Int32)) ⟨by decide, by decide⟩
  refine gs (fun _ k => X1.caload hx (j := (0 : Int32)) (v := (.int ch0)) A4.1 (State.isArrayOf_alike hZ.alike A4.2.1) A4.2.2 hi4 (Has.at a4H hi4 rfl) (g := (mkF m 19 #[rv (b), iv ((0 : Int32)), iv ((1 : Int32)), rv (t1), iv ((0 : Int32))] [(.int (0 : Int32)), (.ref b), (.int (0 : Int32)), (.ref t1)])) rfl rfl (hb hby d13_19) _ k) ?_
  refine cS (rest := []) X1 hx hZ hown (ow hw 108 rfl) (ow hw 109 rfl) (ow hw 87 rfl) (ow hw 110 rfl) (rm_pc10 l Z a0 hw [] t1 kb1 ch0 (0 : Int32) (0 : Int32) T1.heap n0 Z2 O2 V1q g_t1 S_ad S_hi S_lo) hby d13_20 rfl pd_175 0 (by rw [hml]; rfl) rfl rfl rfl rfl (by decide) (by decide) fun _ T5 Lc5 X5 hQ5 => ?_
  obtain ⟨rfl, N5q, K5q, V5q⟩ := hQ5
  have N5 := Fr.app N1 N5q
  have Z6 := nt Z2 K5q.1
  have O6 := O2.keep K5q (allS g_t1 all0)
  have K6 := K2.trans K5q (allS (Or.inr sz_t1) all0)
  refine gs (fun _ k => o_iinc X5 hx hby d13_23 rfl rfl (o_iinc X5 hx hby d13_26 rfl rfl (o_goto (pc' := 8) X5 hx hby d13_29 (o_iload X5 hx hby d13_8 rfl (o_iloadN X5 hx hby d13_10 rfl (o_icmpYes (pc' := 32) X5 hx hby d13_11 (flt (by decide : ¬ ((1 : Int32) < (1 : Int32)))).2.1 (o_aloadN X5 hx hby d13_32 rfl rfl k))))))) ?_
  refine gout (v := some (.ref t1)) X5 Bd.notSynchronized (fun h => by rw [Bd.returns] at h; cases h) (by decide) (by decide) ?_ (fun fs hr => retOut X5 hx Bd.returns rfl (Or.inr (Or.inr (Or.inr (Or.inr ⟨rfl, rfl, rfl⟩)))) (hb hby d13_33) hr)
  exact ⟨_, _, rfl, N5, K6, sz_t1, V5q⟩
theorem ef_181 (m : MethodId) (x0 : Addr) (x1 : Int32) : entryFrame m #[(.ref x0), (.int x1)] 2 = mkF m 0 #[.val (.ref x0), .val (.int x1)] [] := by first | (simp [entryFrame, mkF, argsToLocals, Value.category]; done) | rfl
theorem d14_0 : decode jdk_52_method_15_code 0 = .ok (.iload_n 1, 1) := by decide +kernel
theorem d14_1 : decode jdk_52_method_15_code 1 = .ok (.aload_n 0, 1) := by decide +kernel
theorem d14_2 : decode jdk_52_method_15_code 2 = .ok (.arraylength, 1) := by decide +kernel
theorem d14_3 : decode jdk_52_method_15_code 3 = .ok (.isub, 1) := by decide +kernel
theorem d14_4 : decode jdk_52_method_15_code 4 = .ok (.bipush 31, 2) := by decide +kernel
theorem d14_6 : decode jdk_52_method_15_code 6 = .ok (.iushr, 1) := by decide +kernel
theorem d14_7 : decode jdk_52_method_15_code 7 = .ok (.i2b, 1) := by decide +kernel
theorem d14_8 : decode jdk_52_method_15_code 8 = .ok (.ireturn, 1) := by decide +kernel
set_option maxRecDepth 65536 in
set_option maxHeartbeats 40000000 in
theorem rm_cfl1 (l : Launch) (Z : State) (a0 : Array Value) (hw : HW Z a0) (ws : List Jvm.Cond) (t : Addr) (kb : ClassId) (vs : List Value) (h0 : Heap) (n0 : Nat) (Z0 : n0 ≤ h0.size) (O0 : Old Z n0 h0) (V_t : Arv Z h0 t kb .byte (2 : Int32) vs (.int (0 : Int32))) :
    Ctr l Z my15 jdk_52_method_15_code 2 ((Option.some Jvm.ClassFile.FieldType.byte)) ws (⟨0, 0, 0, 0⟩ : Room) #[(.ref t), (.int (1 : Int32))] h0 (fun v h L => v = some (.int (1 : Int32)) ∧ Fr n0 L ∧ h = h0) := by
  refine Ctr.go (plainFor_of_name pn_117) fun p e s m below meth c s₁ Bd hx hby hml hZ hown hnm X0 e0 => ?_
  have N0 := Fr.nil n0
  have K0 := Keep.refl h0 []
  refine gs (S' := s₁.setTop (mkF m 0 #[rv (t), iv ((1 : Int32))] [])) (fun tg kg => castTop (ef_181 m t (1 : Int32)) kg) ?_
  refine gs (fun _ k => o_iloadN X0 hx hby d14_0 rfl (o_aloadN X0 hx hby d14_1 rfl rfl k)) ?_
  obtain ⟨cl1, A1, a1q, a1S, a1N, a1H, a1G⟩ := id V_t
  refine gs (S' := s₁.setTop (mkF m 3 #[rv (t), iv ((1 : Int32))] [(.int (2 : Int32)), (.int (1 : Int32))])) (fun _ k => by refine X0.arraylength hx (by rw [e0]; exact A1.1) (State.isArrayOf_alike hZ.alike A1.2.1) (g := (mkF m 2 #[rv (t), iv ((1 : Int32))] [(.ref t), (.int (1 : Int32))])) rfl rfl (hb hby d14_2) _ ?_; rw [len_of a1S a1N]; exact k) ?_
  refine gs (fun _ k => o_isub X0 hx hby d14_3 (o_bipush (v := (31 : Int32)) X0 hx hby d14_4 (o_iushr X0 hx hby d14_6 (o_i2b X0 hx hby d14_7 k)))) ?_
  refine gout (v := some (.int (1 : Int32))) X0 Bd.notSynchronized (fun h => by rw [Bd.returns] at h; cases h) (by decide) (by decide) ?_ (fun fs hr => retN X0 hx (t := .byte) Bd.returns (by simp) (hb hby d14_8) hr)
  rw [e0]
  exact ⟨rfl, N0, rfl⟩
theorem ef_190 (m : MethodId) (x0 : Addr) (x1 : Int32) (x2 : Addr) (x3 : Int32) (x4 : Int32) : entryFrame m #[(.ref x0), (.int x1), (.ref x2), (.int x3), (.int x4)] 7 = mkF m 0 #[.val (.ref x0), .val (.int x1), .val (.ref x2), .val (.int x3), .val (.int x4), .unset, .unset] [] := by first | (simp [entryFrame, mkF, argsToLocals, Value.category]; done) | rfl
theorem d15_0 : decode jdk_52_method_21_code 0 = .ok (.iconst 0, 1) := by decide +kernel
theorem d15_1 : decode jdk_52_method_21_code 1 = .ok (.istore 5, 2) := by decide +kernel
theorem d15_3 : decode jdk_52_method_21_code 3 = .ok (.iload 5, 2) := by decide +kernel
theorem d15_5 : decode jdk_52_method_21_code 5 = .ok (.iload 4, 2) := by decide +kernel
theorem d15_7 : decode jdk_52_method_21_code 7 = .ok (.if_icmp .ge 37, 3) := by decide +kernel
theorem d15_10 : decode jdk_52_method_21_code 10 = .ok (.aload_n 0, 1) := by decide +kernel
theorem d15_11 : decode jdk_52_method_21_code 11 = .ok (.iload_n 1, 1) := by decide +kernel
theorem d15_12 : decode jdk_52_method_21_code 12 = .ok (.caload, 1) := by decide +kernel
theorem d15_13 : decode jdk_52_method_21_code 13 = .ok (.istore 6, 2) := by decide +kernel
theorem d15_15 : decode jdk_52_method_21_code 15 = .ok (.iload 6, 2) := by decide +kernel
theorem d15_17 : decode jdk_52_method_21_code 17 = .ok (.sipush 255, 3) := by decide +kernel
theorem d15_20 : decode jdk_52_method_21_code 20 = .ok (.if_icmp .le 6, 3) := by decide +kernel
theorem d15_23 : decode jdk_52_method_21_code 23 = .ok (.iload 5, 2) := by decide +kernel
theorem d15_25 : decode jdk_52_method_21_code 25 = .ok (.ireturn, 1) := by decide +kernel
set_option maxRecDepth 65536 in
set_option maxHeartbeats 40000000 in
theorem rm_cp5_10 (l : Launch) (Z : State) (a0 : Array Value) (hw : HW Z a0) (ws : List Jvm.Cond) (b : Addr) (kc : ClassId) (t : Addr) (kb : ClassId) (ch0 : Int32) (h0 : Heap) (n0 : Nat) (Z0 : n0 ≤ h0.size) (O0 : Old Z n0 h0) (V_b : Arv Z h0 b kc .char (1 : Int32) [(.int ch0)] (.int (0 : Int32))) (V_t : Arv Z h0 t kb .byte (1 : Int32) [(.int (0 : Int32))] (.int (0 : Int32))) (g_t : n0 ≤ t) (hbt : b ≠ t) (dq0 : (255 : Int32) < ch0) :
    Ctr l Z my8 jdk_52_method_21_code 7 ((Option.some Jvm.ClassFile.FieldType.int)) ws (⟨0, 0, 0, 0⟩ : Room) #[(.ref b), (.int (0 : Int32)), (.ref t), (.int (0 : Int32)), (.int (1 : Int32))] h0 (fun v h L => v = some (.int (0 : Int32)) ∧ Fr n0 L ∧ Keep h0 h [t]) := by
  refine Ctr.go (plainFor_of_name pn_117) fun p e s m below meth c s₁ Bd hx hby hml hZ hown hnm X0 e0 => ?_
  have N0 := Fr.nil n0
  have K0 := Keep.refl h0 [t]
  refine gs (S' := s₁.setTop (mkF m 0 #[rv (b), iv ((0 : Int32)), rv (t), iv ((0 : Int32)), iv ((1 : Int32)), uu, uu] [])) (fun tg kg => castTop (ef_190 m b (0 : Int32) t (0 : Int32) (1 : Int32)) kg) ?_
  refine gs (fun _ k => o_iconst (v := (0 : Int32)) X0 hx hby d15_0 (o_istore X0 hx hby d15_1 rfl (o_iload X0 hx hby d15_3 rfl (o_iload X0 hx hby d15_5 rfl (o_icmpNo X0 hx hby d15_7 (tlt (by decide : (0 : Int32) < (1 : Int32))).2.1 (o_aloadN X0 hx hby d15_10 rfl rfl (o_iloadN X0 hx hby d15_11 rfl k))))))) ?_
  obtain ⟨cl1, A1, a1q, a1S, a1N, a1H, a1G⟩ := id V_b
  have hi1 := inb_of a1S (j := (0 : Int32)) ⟨by decide, by decide⟩
  refine gs (fun _ k => X0.caload hx (j := (0 : Int32)) (v := (.int ch0)) (by rw [e0]; exact A1.1) (State.isArrayOf_alike hZ.alike A1.2.1) A1.2.2 hi1 (Has.at a1H hi1 rfl) (g := (mkF m 12 #[rv (b), iv ((0 : Int32)), rv (t), iv ((0 : Int32)), iv ((1 : Int32)), iv ((0 : Int32)), uu] [(.int (0 : Int32)), (.ref b)])) rfl rfl (hb hby d15_12) _ (o_istore X0 hx hby d15_13 rfl (o_iload X0 hx hby d15_15 rfl (XS.sipush X0.here hx rfl (hb hby d15_17) (o_icmpNo X0 hx hby d15_20 (tlt dq0).2.2.2 (o_iload X0 hx hby d15_23 rfl k)))))) ?_
  refine gout (v := some (.int (0 : Int32))) X0 Bd.notSynchronized (fun h => by rw [Bd.returns] at h; cases h) (by decide) (by decide) ?_ (fun fs hr => retI X0 hx Bd.returns (hb hby d15_25) hr)
  rw [e0]
  exact ⟨rfl, N0, K0⟩
theorem ef_205 (m : MethodId) (x0 : Addr) (x1 : Int32) (x2 : Int32) : entryFrame m #[(.ref x0), (.int x1), (.int x2)] 6 = mkF m 0 #[.val (.ref x0), .val (.int x1), .val (.int x2), .unset, .unset, .unset] [] := by first | (simp [entryFrame, mkF, argsToLocals, Value.category]; done) | rfl
theorem d16_0 : decode jdk_52_method_16_code 0 = .ok (.iload_n 2, 1) := by decide +kernel
theorem d16_1 : decode jdk_52_method_16_code 1 = .ok (.newarray .byte, 2) := by decide +kernel
theorem d16_3 : decode jdk_52_method_16_code 3 = .ok (.astore_n 3, 1) := by decide +kernel
theorem d16_4 : decode jdk_52_method_16_code 4 = .ok (.aload_n 0, 1) := by decide +kernel
theorem d16_5 : decode jdk_52_method_16_code 5 = .ok (.iload_n 1, 1) := by decide +kernel
theorem d16_6 : decode jdk_52_method_16_code 6 = .ok (.aload_n 3, 1) := by decide +kernel
theorem d16_7 : decode jdk_52_method_16_code 7 = .ok (.iconst 0, 1) := by decide +kernel
theorem d16_8 : decode jdk_52_method_16_code 8 = .ok (.iload_n 2, 1) := by decide +kernel
theorem d16_9 : decode jdk_52_method_16_code 9 = .ok (.invokestatic 115, 3) := by decide +kernel
theorem pd_215 : parseMethodDescriptor "([CI[BII)I" = some ⟨[(.array .char), .int, (.array .byte), .int, .int], some .int⟩ := by decide +kernel
theorem d16_12 : decode jdk_52_method_16_code 12 = .ok (.istore 4, 2) := by decide +kernel
theorem d16_14 : decode jdk_52_method_16_code 14 = .ok (.iload 4, 2) := by decide +kernel
theorem d16_16 : decode jdk_52_method_16_code 16 = .ok (.iload_n 2, 1) := by decide +kernel
theorem d16_17 : decode jdk_52_method_16_code 17 = .ok (.if_icmp .eq 40, 3) := by decide +kernel
theorem d16_20 : decode jdk_52_method_16_code 20 = .ok (.aload_n 0, 1) := by decide +kernel
theorem d16_21 : decode jdk_52_method_16_code 21 = .ok (.iload_n 1, 1) := by decide +kernel
theorem d16_22 : decode jdk_52_method_16_code 22 = .ok (.iload_n 2, 1) := by decide +kernel
theorem d16_23 : decode jdk_52_method_16_code 23 = .ok (.invokestatic 119, 3) := by decide +kernel
theorem pd_224 : parseMethodDescriptor "([CII)[B" = some ⟨[(.array .char), .int, .int], some (.array .byte)⟩ := by decide +kernel
theorem d16_26 : decode jdk_52_method_16_code 26 = .ok (.astore 5, 2) := by decide +kernel
theorem d16_28 : decode jdk_52_method_16_code 28 = .ok (.aload 5, 2) := by decide +kernel
theorem d16_30 : decode jdk_52_method_16_code 30 = .ok (.iload 4, 2) := by decide +kernel
theorem d16_32 : decode jdk_52_method_16_code 32 = .ok (.invokestatic 71, 3) := by decide +kernel
theorem pd_229 : parseMethodDescriptor "([BI)C" = some ⟨[(.array .byte), .int], some .char⟩ := by decide +kernel
theorem d16_35 : decode jdk_52_method_16_code 35 = .ok (.sipush 255, 3) := by decide +kernel
theorem d16_38 : decode jdk_52_method_16_code 38 = .ok (.if_icmp .gt 16, 3) := by decide +kernel
theorem d16_54 : decode jdk_52_method_16_code 54 = .ok (.aload 5, 2) := by decide +kernel
theorem d16_56 : decode jdk_52_method_16_code 56 = .ok (.areturn, 1) := by decide +kernel
set_option maxRecDepth 65536 in
set_option maxHeartbeats 40000000 in
theorem rm_cp3_10 (l : Launch) (Z : State) (a0 : Array Value) (hw : HW Z a0) (ws : List Jvm.Cond) (b : Addr) (kc : ClassId) (ch0 : Int32) (h0 : Heap) (n0 : Nat) (Z0 : n0 ≤ h0.size) (O0 : Old Z n0 h0) (V_b : Arv Z h0 b kc .char (1 : Int32) [(.int ch0)] (.int (0 : Int32))) (dq0 : (255 : Int32) < ch0) (hc0 : ¬ ch0 < 0 ∧ ¬ (65535 : Int32) < ch0) (S_ad : PS0 Z (.int (1 : Int32))) (S_hi : PS1 Z (.int (0 : Int32))) (S_lo : PS2 Z (.int (8 : Int32))) :
    Ctr l Z my9 jdk_52_method_16_code 6 ((Option.some (Jvm.ClassFile.FieldType.array Jvm.ClassFile.FieldType.byte))) ws (⟨3, 2, 3, 40⟩ : Room) #[(.ref b), (.int (0 : Int32)), (.int (1 : Int32))] h0 (fun v h L => ∃ (t : Addr) (kb : ClassId), v = some (.ref t) ∧ Fr n0 L ∧ Keep h0 h [] ∧ h0.size ≤ t ∧ Arv Z h t kb .byte (2 : Int32) [(.int (own_b0 ch0)), (.int (own_b1 ch0))] (.int (0 : Int32))) := by
  refine Ctr.go (plainFor_of_name pn_117) fun p e s m below meth c s₁ Bd hx hby hml hZ hown hnm X0 e0 => ?_
  have N0 := Fr.nil n0
  have K0 := Keep.refl h0 []
  refine gs (S' := s₁.setTop (mkF m 0 #[rv (b), iv ((0 : Int32)), iv ((1 : Int32)), uu, uu, uu] [])) (fun tg kg => castTop (ef_205 m b (0 : Int32) (1 : Int32)) kg) ?_
  refine gs (fun _ k => o_iloadN X0 hx hby d16_0 rfl k) ?_
  obtain ⟨T1, h1, k1, X1, e1, E1, A1, st1⟩ := newP X0 hx hZ (ow hw 20 rfl) e0 (g := (mkF m 1 #[rv (b), iv ((0 : Int32)), iv ((1 : Int32)), uu, uu, uu] [(.int (1 : Int32))])) rfl (hb hby d16_1) rfl (by decide) (cap := 1) (by decide) (by decide) (by decide) (by decide)
  obtain ⟨b1, q1⟩ : ∃ z, z = h0.size := ⟨_, rfl⟩
  rw [← q1] at A1 st1
  have g_b1 : n0 ≤ b1 := nt Z0 (Nat.le_of_eq q1.symm)
  have sz_b1 : h0.size ≤ b1 := nt K0.1 (Nat.le_of_eq q1.symm)
  have Z2 := nt Z0 E1.1
  have O2 := O0.ext E1
  have K2 := K0.ext E1
  have V1 : Arv Z h1 b1 k1 .byte (1 : Int32) [(.int (0 : Int32))] (.int (0 : Int32)) := (Arv.new A1 (by decide)).pad (pad_rep [] (.int (0 : Int32)) 1)
  refine gs (S' := T1.setTop (mkF m 3 #[rv (b), iv ((0 : Int32)), iv ((1 : Int32)), uu, uu, uu] [(.ref b1)])) st1 ?_
  refine gs (fun _ k => o_astoreN X1 hx hby d16_3 rfl rfl (o_aloadN X1 hx hby d16_4 rfl rfl (o_iloadN X1 hx hby d16_5 rfl (o_aloadN X1 hx hby d16_6 rfl rfl (o_iconst (v := (0 : Int32)) X1 hx hby d16_7 (o_iloadN X1 hx hby d16_8 rfl k)))))) ?_
  have f3 := (V_b.ext E1)
  refine cS (rest := []) X1 hx hZ hown (ow hw 89 rfl) (ow hw 90 rfl) (ow hw 87 rfl) (ow hw 91 rfl) (rm_cp5_10 l Z a0 hw [] b kc b1 k1 ch0 h1 n0 Z2 O2 f3 V1 g_b1 (nw (nu (nu V_b.lt (Nat.le_refl _)) (Nat.le_of_eq q1.symm))) dq0) hby d16_9 e1 pd_215 0 (by rw [hml]; rfl) rfl rfl rfl rfl (by decide) (by decide) fun _ T4 Lc4 X4 hQ4 => ?_
  obtain ⟨rfl, N4q, K4q⟩ := hQ4
  have N4 := Fr.app N0 N4q
  have Z5 := nt Z2 K4q.1
  have O5 := O2.keep K4q (allS g_b1 all0)
  have K5 := K2.trans K4q (allS (Or.inr sz_b1) all0)
  refine gs (fun _ k => o_istore X4 hx hby d16_12 rfl (o_iload X4 hx hby d16_14 rfl (o_iloadN X4 hx hby d16_16 rfl (o_icmpNo X4 hx hby d16_17 (feq (by decide : ¬ ((0 : Int32) = (1 : Int32)))).1 (o_aloadN X4 hx hby d16_20 rfl rfl (o_iloadN X4 hx hby d16_21 rfl (o_iloadN X4 hx hby d16_22 rfl k))))))) ?_
  have f6 := (f3.keep K4q (ninS (nw (nu (nu V_b.lt (Nat.le_refl _)) (Nat.le_of_eq q1.symm))) nin0))
  refine cS (rest := []) X4 hx hZ hown (ow hw 98 rfl) (ow hw 99 rfl) (ow hw 87 rfl) (ow hw 100 rfl) (rm_tb16_1 l Z a0 hw [] b kc ch0 T4.heap n0 Z5 O5 f6 S_ad S_hi S_lo) hby d16_23 rfl pd_224 0 (by rw [hml]; rfl) rfl rfl rfl rfl (by decide) (by decide) fun _ T7 Lc7 X7 hQ7 => ?_
  obtain ⟨t7, kb7, rfl, N7q, K7q, g7t, V7q⟩ := hQ7
  have N7 := Fr.app N4 N7q
  have g_t7 : n0 ≤ t7 := nt Z5 g7t
  have sz_t7 : h0.size ≤ t7 := nt K5.1 g7t
  have Z8 := nt Z5 K7q.1
  have O8 := O5.keep K7q all0
  have K8 := K5.trans K7q all0
  refine gs (fun _ k => o_astore X7 hx hby d16_26 rfl rfl (o_aload X7 hx hby d16_28 rfl rfl (o_iload X7 hx hby d16_30 rfl k))) ?_
  refine cS (rest := []) X7 hx hZ hown (ow hw 114 rfl) (ow hw 115 rfl) (ow hw 87 rfl) (ow hw 116 rfl) (rm_gc10 l Z a0 hw [] t7 kb7 ch0 T7.heap n0 Z8 O8 V7q hc0 S_ad S_hi S_lo) hby d16_32 rfl pd_229 0 (by rw [hml]; rfl) rfl rfl rfl rfl (by decide) (by decide) fun _ T9 Lc9 X9 hQ9 => ?_
  obtain ⟨rfl, N9q, e9q⟩ := hQ9
  have N9 := Fr.app N7 N9q
  refine gs (fun _ k => XS.sipush X9.here hx rfl (hb hby d16_35) (o_icmpYes (pc' := 54) X9 hx hby d16_38 (tlt dq0).2.2.1 (o_aload X9 hx hby d16_54 rfl rfl k))) ?_
  refine gout (v := some (.ref t7)) X9 Bd.notSynchronized (fun h => by rw [Bd.returns] at h; cases h) (by decide) (by decide) ?_ (fun fs hr => retOut X9 hx Bd.returns rfl (Or.inr (Or.inr (Or.inr (Or.inr ⟨rfl, rfl, rfl⟩)))) (hb hby d16_56) hr)
  rw [e9q]
  exact ⟨_, _, rfl, N9, K8, sz_t7, V7q⟩
theorem ef_234 (m : MethodId) (x0 : Addr) (x1 : Addr) (x2 : Int32) (x3 : Int32) : entryFrame m #[(.ref x0), (.ref x1), (.int x2), (.int x3), .null] 6 = mkF m 0 #[.val (.ref x0), .val (.ref x1), .val (.int x2), .val (.int x3), .val .null, .unset] [] := by first | (simp [entryFrame, mkF, argsToLocals, Value.category]; done) | rfl
theorem d0_27 : decode jdk_42_method_149_code 27 = .ok (.getstatic 38, 3) := by decide +kernel
theorem d0_30 : decode jdk_42_method_149_code 30 = .ok (.ifCond .eq 28, 3) := by decide +kernel
theorem d0_33 : decode jdk_42_method_149_code 33 = .ok (.aload_n 1, 1) := by decide +kernel
theorem d0_34 : decode jdk_42_method_149_code 34 = .ok (.iload_n 2, 1) := by decide +kernel
theorem d0_35 : decode jdk_42_method_149_code 35 = .ok (.iload_n 3, 1) := by decide +kernel
theorem d0_36 : decode jdk_42_method_149_code 36 = .ok (.invokestatic 177, 3) := by decide +kernel
theorem d0_39 : decode jdk_42_method_149_code 39 = .ok (.astore 5, 2) := by decide +kernel
theorem d0_41 : decode jdk_42_method_149_code 41 = .ok (.aload_n 0, 1) := by decide +kernel
theorem d0_42 : decode jdk_42_method_149_code 42 = .ok (.aload 5, 2) := by decide +kernel
theorem d0_44 : decode jdk_42_method_149_code 44 = .ok (.iload_n 3, 1) := by decide +kernel
theorem d0_45 : decode jdk_42_method_149_code 45 = .ok (.invokestatic 47, 3) := by decide +kernel
theorem pd_246 : parseMethodDescriptor "([BI)B" = some ⟨[(.array .byte), .int], some .byte⟩ := by decide +kernel
theorem d0_48 : decode jdk_42_method_149_code 48 = .ok (.putfield 15, 3) := by decide +kernel
theorem d0_51 : decode jdk_42_method_149_code 51 = .ok (.aload_n 0, 1) := by decide +kernel
theorem d0_52 : decode jdk_42_method_149_code 52 = .ok (.aload 5, 2) := by decide +kernel
theorem d0_54 : decode jdk_42_method_149_code 54 = .ok (.putfield 9, 3) := by decide +kernel
theorem d0_57 : decode jdk_42_method_149_code 57 = .ok (.return_, 1) := by decide +kernel
set_option maxRecDepth 65536 in
set_option maxHeartbeats 40000000 in
theorem rm_si4_10 (l : Launch) (Z : State) (a0 : Array Value) (hw : HW Z a0) (ws : List Jvm.Cond) (a : Addr) (b : Addr) (kc : ClassId) (ch0 : Int32) (z : Int32) (h0 : Heap) (n0 : Nat) (Z0 : n0 ≤ h0.size) (O0 : Old Z n0 h0) (E_a : Exa Z h0 a "java/lang/String") (F_v : Fld Z h0 a "java/lang/String" "value" "[B" .null) (F_c : Fld Z h0 a "java/lang/String" "coder" "B" (.int (0 : Int32))) (g_a : n0 ≤ a) (V_b : Arv Z h0 b kc .char (1 : Int32) [(.int ch0)] (.int (0 : Int32))) (dq0 : (255 : Int32) < ch0) (hc0 : ¬ ch0 < 0 ∧ ¬ (65535 : Int32) < ch0) (S_ad : PS0 Z (.int (1 : Int32))) (S_hi : PS1 Z (.int (0 : Int32))) (S_lo : PS2 Z (.int (8 : Int32))) (S0 : PS3 Z (.int z)) (hz : ¬ z = 0) :
    Ctr l Z my3 jdk_42_method_149_code 6 ((Option.none : Option Jvm.ClassFile.FieldType)) ws (⟨4, 2, 3, 57⟩ : Room) #[(.ref a), (.ref b), (.int (0 : Int32)), (.int (1 : Int32)), .null] h0 (fun v h L => v = none ∧ Fr n0 L ∧ Keep h0 h [a] ∧ Str16 Z h a [ch0]) := by
  refine Ctr.go (plainFor_of_name pn_14) fun p e s m below meth c s₁ Bd hx hby hml hZ hown hnm X0 e0 => ?_
  have N0 := Fr.nil n0
  have K0 := Keep.refl h0 [a]
  refine gs (S' := s₁.setTop (mkF m 0 #[rv (a), rv (b), iv ((0 : Int32)), iv ((1 : Int32)), .val .null, uu] [])) (fun tg kg => castTop (ef_234 m a b (0 : Int32) (1 : Int32)) kg) ?_
  refine gs (fun _ k => o_aloadN X0 hx hby d0_0 rfl rfl k) ?_
  obtain ⟨T1, X1, e1, st1⟩ := initO X0 hx hZ hown (ow hw 16 rfl) (ow hw 17 rfl) (ow hw 18 rfl) e0 (g := (mkF m 1 #[rv (a), rv (b), iv ((0 : Int32)), iv ((1 : Int32)), .val .null, uu] [(.ref a)])) rfl (by rw [hml]; rfl) rfl (hb hby d0_1) (by decide) (W := 0) (own_w0 rfl) (by decide)
  refine gs (S' := T1.setTop (mkF m 4 #[rv (a), rv (b), iv ((0 : Int32)), iv ((1 : Int32)), .val .null, uu] [])) st1 ?_
  refine gs (fun _ k => o_iloadN X1 hx hby d0_4 rfl (o_ifYes (pc' := 27) X1 hx hby d0_5 ((if0 _ _).trans (feq (by decide : ¬ ((1 : Int32) = (0 : Int32)))).2) k)) ?_
  refine gS X1 hx hZ hown (host := "") (Or.inl (ow hw 30 rfl)) Via.refl e1 (S0.ext O0.2) hby d0_27 fun T2 X2 e2 => ?_
  refine gs (fun _ k => o_ifNo X2 hx hby d0_30 ((if0 _ _).trans (feq hz).1) (o_aloadN X2 hx hby d0_33 rfl rfl (o_iloadN X2 hx hby d0_34 rfl (o_iloadN X2 hx hby d0_35 rfl k)))) ?_
  refine cS (rest := []) X2 hx hZ hown (ow hw 85 rfl) (ow hw 86 rfl) (ow hw 87 rfl) (ow hw 88 rfl) (rm_cp3_10 l Z a0 hw [] b kc ch0 h0 n0 Z0 O0 V_b dq0 hc0 S_ad S_hi S_lo) hby d0_36 e2 pd_224 0 (by rw [hml]; rfl) rfl rfl rfl rfl (by decide) (by decide) fun _ T3 Lc3 X3 hQ3 => ?_
  obtain ⟨t3, kb3, rfl, N3q, K3q, g3t, V3q⟩ := hQ3
  have N3 := Fr.app N0 N3q
  have g_t3 : n0 ≤ t3 := nt Z0 g3t
  have sz_t3 : h0.size ≤ t3 := nt K0.1 g3t
  have Z4 := nt Z0 K3q.1
  have O4 := O0.keep K3q all0
  have K4 := K0.trans K3q all0
  refine gs (fun _ k => o_astore X3 hx hby d0_39 rfl rfl (o_aloadN X3 hx hby d0_41 rfl rfl (o_aload X3 hx hby d0_42 rfl rfl (o_iloadN X3 hx hby d0_44 rfl k)))) ?_
  refine cS (rest := [(.ref a)]) X3 hx hZ hown (ow hw 92 rfl) (ow hw 93 rfl) (ow hw 87 rfl) (ow hw 94 rfl) (rm_cfl1 l Z a0 hw [] t3 kb3 _ T3.heap n0 Z4 O4 V3q) hby d0_45 rfl pd_246 1 (by rw [hml]; rfl) rfl rfl rfl rfl (by decide) (by decide) fun _ T5 Lc5 X5 hQ5 => ?_
  obtain ⟨rfl, N5q, e5q⟩ := hQ5
  have N5 := Fr.app N3 N5q
  have f6 := (F_c.keep K3q nin0)
  have f7 := (E_a.keep K3q)
  obtain ⟨T8, h8, X8, e8, W8, st8⟩ := putFN X5 hx hZ hown (ow hw 26 rfl) Via.refl e5q f6 f7 (Or.inr ⟨(ow hw 22 rfl), rfl, hnm⟩) (ow hw 6 rfl) (ty := .byte) (v' := (.int (1 : Int32))) (by decide) rfl rfl (g := (mkF m 48 #[rv (a), rv (b), iv ((0 : Int32)), iv ((1 : Int32)), .val .null, rv (t3)] [(.int (1 : Int32)), (.ref a)])) rfl rfl (hb hby d0_48)
  have N8 := Fr.snoc X8 N5 g_a
  have Fw8 := f6.same W8
  have Z9 := nt Z4 (Keep.of_wr W8).1
  have O9 := O4.wr W8 g_a
  have K9 := K4.wr W8 (Or.inl (List.mem_of_getElem? (i := 0) rfl))
  refine gs (S' := T8.setTop (mkF m 51 #[rv (a), rv (b), iv ((0 : Int32)), iv ((1 : Int32)), .val .null, rv (t3)] [])) st8 ?_
  refine gs (fun _ k => o_aloadN X8 hx hby d0_51 rfl rfl (o_aload X8 hx hby d0_52 rfl rfl k)) ?_
  have f10 := ((F_v.keep K3q nin0).other W8 (Or.inr (slot_ne (Or.inr (ow hw 21 rfl)) (Or.inr (ow hw 22 rfl)) (by decide) (t := (.array .byte)) (t' := .byte) (by decide) (by decide))))
  have f11 := (f7.wr W8)
  obtain ⟨T12, h12, X12, e12, W12, st12⟩ := putF X8 hx hZ hown (host := "") (Or.inl (ow hw 25 rfl)) Via.refl e8 f10 f11 (Or.inr ⟨(ow hw 21 rfl), rfl, hnm⟩) (ow hw 6 rfl) (ty := (.array .byte)) (by decide) rfl rfl (g := (mkF m 54 #[rv (a), rv (b), iv ((0 : Int32)), iv ((1 : Int32)), .val .null, rv (t3)] [(.ref t3), (.ref a)])) rfl rfl (hb hby d0_54)
  have N12 := Fr.snoc X12 N8 g_a
  have Fw12 := f10.same W12
  have Z13 := nt Z9 (Keep.of_wr W12).1
  have O13 := O9.wr W12 g_a
  have K13 := K9.wr W12 (Or.inl (List.mem_of_getElem? (i := 0) rfl))
  refine gs (S' := T12.setTop (mkF m 57 #[rv (a), rv (b), iv ((0 : Int32)), iv ((1 : Int32)), .val .null, rv (t3)] [])) st12 ?_
  have f14 := (f11.wr W12)
  have f15 := (Fw8.other W12 (Or.inr (slot_ne (Or.inr (ow hw 22 rfl)) (Or.inr (ow hw 21 rfl)) (by decide) (t := .byte) (t' := (.array .byte)) (by decide) (by decide))))
  have f16 := ((V3q.other W8 (Ne.symm (nw (nu (nu E_a.lt (Nat.le_refl _)) g3t)))).other W12 (Ne.symm (nw (nu (nu E_a.lt (Nat.le_refl _)) g3t))))
  refine gout (v := none) X12 Bd.notSynchronized (fun _ => rfl) (by decide) (by decide) ?_ (fun fs hr => X12.returnOut hx Bd.returns (hb hby d0_57) hr)
  rw [e12]
  exact ⟨rfl, N12, K13, _, _, f14, f15, Fw12, f16⟩
theorem ef_252 (m : MethodId) (x0 : Addr) (x1 : Addr) : entryFrame m #[(.ref x0), (.ref x1)] 2 = mkF m 0 #[.val (.ref x0), .val (.ref x1)] [] := by first | (simp [entryFrame, mkF, argsToLocals, Value.category]; done) | rfl
set_option maxRecDepth 65536 in
set_option maxHeartbeats 40000000 in
theorem rm_si1_10 (l : Launch) (Z : State) (a0 : Array Value) (hw : HW Z a0) (ws : List Jvm.Cond) (a : Addr) (b : Addr) (kc : ClassId) (ch0 : Int32) (z : Int32) (h0 : Heap) (n0 : Nat) (Z0 : n0 ≤ h0.size) (O0 : Old Z n0 h0) (E_a : Exa Z h0 a "java/lang/String") (F_v : Fld Z h0 a "java/lang/String" "value" "[B" .null) (F_c : Fld Z h0 a "java/lang/String" "coder" "B" (.int (0 : Int32))) (g_a : n0 ≤ a) (V_b : Arv Z h0 b kc .char (1 : Int32) [(.int ch0)] (.int (0 : Int32))) (dq0 : (255 : Int32) < ch0) (hc0 : ¬ ch0 < 0 ∧ ¬ (65535 : Int32) < ch0) (S_ad : PS0 Z (.int (1 : Int32))) (S_hi : PS1 Z (.int (0 : Int32))) (S_lo : PS2 Z (.int (8 : Int32))) (S0 : PS3 Z (.int z)) (hz : ¬ z = 0) :
    Ctr l Z my2 jdk_42_method_3_code 2 ((Option.none : Option Jvm.ClassFile.FieldType)) ws (⟨5, 2, 3, 74⟩ : Room) #[(.ref a), (.ref b)] h0 (fun v h L => v = none ∧ Fr n0 L ∧ Keep h0 h [a] ∧ Str16 Z h a [ch0]) := by
  refine Ctr.go (plainFor_of_name pn_14) fun p e s m below meth c s₁ Bd hx hby hml hZ hown hnm X0 e0 => ?_
  have N0 := Fr.nil n0
  have K0 := Keep.refl h0 [a]
  refine gs (S' := s₁.setTop (mkF m 0 #[rv (a), rv (b)] [])) (fun tg kg => castTop (ef_252 m a b) kg) ?_
  refine gs (fun _ k => o_aloadN X0 hx hby d1_0 rfl rfl (o_aloadN X0 hx hby d1_1 rfl rfl (o_iconst (v := (0 : Int32)) X0 hx hby d1_2 (o_aloadN X0 hx hby d1_3 rfl rfl k)))) ?_
  obtain ⟨cl1, A1, a1q, a1S, a1N, a1H, a1G⟩ := id V_b
  refine gs (S' := s₁.setTop (mkF m 5 #[rv (a), rv (b)] [(.int (1 : Int32)), (.int (0 : Int32)), (.ref b), (.ref a)])) (fun _ k => by refine X0.arraylength hx (by rw [e0]; exact A1.1) (State.isArrayOf_alike hZ.alike A1.2.1) (g := (mkF m 4 #[rv (a), rv (b)] [(.ref b), (.int (0 : Int32)), (.ref b), (.ref a)])) rfl rfl (hb hby d1_4) _ ?_; rw [len_of a1S a1N]; exact k) ?_
  refine gs (fun _ k => o_aconstNull X0 hx hby d1_5 k) ?_
  refine cI (rest := []) X0 hx hZ hown rfl (ow hw 12 rfl) (ow hw 13 rfl) (ow hw 7 rfl) (ow hw 15 rfl) (rm_si4_10 l Z a0 hw [] a b kc ch0 z h0 n0 Z0 O0 E_a F_v F_c g_a V_b dq0 hc0 S_ad S_hi S_lo S0 hz) hby d1_6 e0 pd_23 0 (by rw [hml]; rfl) rfl rfl rfl rfl (by decide) (by decide) fun _ T2 Lc2 X2 hQ2 => ?_
  obtain ⟨rfl, N2q, K2q, T2q⟩ := hQ2
  have N2 := Fr.app N0 N2q
  have Z3 := nt Z0 K2q.1
  have O3 := O0.keep K2q (allS g_a all0)
  have K3 := K0.trans K2q (allS (Or.inl (List.mem_of_getElem? (i := 0) rfl)) all0)
  refine gout (v := none) X2 Bd.notSynchronized (fun _ => rfl) (by decide) (by decide) ?_ (fun fs hr => X2.returnOut hx Bd.returns (hb hby d1_9) hr)
  exact ⟨rfl, N2, K3, T2q⟩
theorem ef_253 (m : MethodId) (x0 : Addr) (x1 : Int32) (x2 : Int32) : entryFrame m #[(.ref x0), (.int x1), (.int x2)] 3 = mkF m 0 #[.val (.ref x0), .val (.int x1), .val (.int x2)] [] := by first | (simp [entryFrame, mkF, argsToLocals, Value.category]; done) | rfl
set_option maxRecDepth 65536 in
set_option maxHeartbeats 40000000 in
theorem rm_pc20 (l : Launch) (Z : State) (a0 : Array Value) (hw : HW Z a0) (ws : List Jvm.Cond) (t : Addr) (kb : ClassId) (cc : Int32) (v0 : Int32) (v1 : Int32) (v2 : Int32) (v3 : Int32) (h0 : Heap) (n0 : Nat) (Z0 : n0 ≤ h0.size) (O0 : Old Z n0 h0) (V_t : Arv Z h0 t kb .byte (4 : Int32) [(.int v0), (.int v1), (.int v2), (.int v3)] (.int (0 : Int32))) (g_t : n0 ≤ t) (S_ad : PS0 Z (.int (1 : Int32))) (S_hi : PS1 Z (.int (0 : Int32))) (S_lo : PS2 Z (.int (8 : Int32))) :
    Ctr l Z my6 jdk_52_method_4_code 3 ((Option.none : Option Jvm.ClassFile.FieldType)) ws (⟨0, 0, 0, 0⟩ : Room) #[(.ref t), (.int (0 : Int32)), (.int cc)] h0 (fun v h L => v = none ∧ Fr n0 L ∧ Keep h0 h [t] ∧ Arv Z h t kb .byte (4 : Int32) [(.int (own_b0 cc)), (.int (own_b1 cc)), (.int v2), (.int v3)] (.int (0 : Int32))) := by
  refine Ctr.go (plainFor_of_name pn_117) fun p e s m below meth c s₁ Bd hx hby hml hZ hown hnm X0 e0 => ?_
  have N0 := Fr.nil n0
  have K0 := Keep.refl h0 [t]
  refine gs (S' := s₁.setTop (mkF m 0 #[rv (t), iv ((0 : Int32)), iv (cc)] [])) (fun tg kg => castTop (ef_253 m t (0 : Int32) cc) kg) ?_
  refine gS X0 hx hZ hown (host := "") (Or.inl (ow hw 111 rfl)) Via.refl e0 (S_ad.ext O0.2) hby d9_0 fun T1 X1 e1 => ?_
  refine gs (fun _ k => o_ifYes (pc' := 28) X1 hx hby d9_3 ((if0 _ _).trans (feq (by decide : ¬ ((1 : Int32) = (0 : Int32)))).2) (o_iloadN X1 hx hby d9_28 rfl (o_iconst (v := (1 : Int32)) X1 hx hby d9_29 (o_ishl X1 hx hby d9_30 (o_istoreN X1 hx hby d9_31 rfl (o_aloadN X1 hx hby d9_32 rfl rfl (o_iloadN X1 hx hby d9_33 rfl (o_iinc X1 hx hby d9_34 rfl rfl (o_iloadN X1 hx hby d9_37 rfl k))))))))) ?_
  refine gS X1 hx hZ hown (host := "") (Or.inl (ow hw 112 rfl)) Via.refl e1 (S_hi.ext O0.2) hby d9_38 fun T2 X2 e2 => ?_
  refine gs (fun _ k => o_ishr X2 hx hby d9_41 (o_i2b X2 hx hby d9_42 k)) ?_
  obtain ⟨cl3, A3, a3q, a3S, a3N, a3H, a3G⟩ := id V_t
  obtain ⟨T3, h3, X3, e3, W3, st3⟩ := stB X2 hx hZ e2 A3 (j := (0 : Int32)) (inb_of a3S ⟨by decide, by decide⟩) (g := (mkF m 43 #[rv (t), iv ((1 : Int32)), iv (cc)] [(.int ((cc >>> ((0 : Int32) &&& 31)).toInt8.toInt32)), (.int (0 : Int32)), (.ref t)])) rfl rfl (hb hby d9_43)
  have V3 : Arv Z h3 t kb .byte (4 : Int32) [(.int (nar .byte ((cc >>> ((0 : Int32) &&& 31)).toInt8.toInt32))), (.int v1), (.int v2), (.int v3)] (.int (0 : Int32)) := Arv.set A3 a3q a3S a3N a3H a3G (fits_nar_byte _) W3 0 rfl (nb rfl)
  have N3 := Fr.snoc X3 N0 g_t
  have Z4 := nt Z0 (Keep.of_wr W3).1
  have O4 := O0.wr W3 g_t
  have K4 := K0.wr W3 (Or.inl (List.mem_of_getElem? (i := 0) rfl))
  refine gs (S' := T3.setTop (mkF m 44 #[rv (t), iv ((1 : Int32)), iv (cc)] [])) st3 ?_
  refine gs (fun _ k => o_aloadN X3 hx hby d9_44 rfl rfl (o_iloadN X3 hx hby d9_45 rfl (o_iloadN X3 hx hby d9_46 rfl k))) ?_
  refine gS X3 hx hZ hown (host := "") (Or.inl (ow hw 113 rfl)) Via.refl e3 (S_lo.ext O4.2) hby d9_47 fun T5 X5 e5 => ?_
  refine gs (fun _ k => o_ishr X5 hx hby d9_50 (o_i2b X5 hx hby d9_51 k)) ?_
  obtain ⟨cl6, A6, a6q, a6S, a6N, a6H, a6G⟩ := id V3
  obtain ⟨T6, h6, X6, e6, W6, st6⟩ := stB X5 hx hZ e5 A6 (j := (1 : Int32)) (inb_of a6S ⟨by decide, by decide⟩) (g := (mkF m 52 #[rv (t), iv ((1 : Int32)), iv (cc)] [(.int ((cc >>> ((8 : Int32) &&& 31)).toInt8.toInt32)), (.int (1 : Int32)), (.ref t)])) rfl rfl (hb hby d9_52)
  have V6 : Arv Z h6 t kb .byte (4 : Int32) [(.int (nar .byte ((cc >>> ((0 : Int32) &&& 31)).toInt8.toInt32))), (.int (nar .byte ((cc >>> ((8 : Int32) &&& 31)).toInt8.toInt32))), (.int v2), (.int v3)] (.int (0 : Int32)) := Arv.set A6 a6q a6S a6N a6H a6G (fits_nar_byte _) W6 1 rfl (nb rfl)
  have N6 := Fr.snoc X6 N3 g_t
  have Z7 := nt Z4 (Keep.of_wr W6).1
  have O7 := O4.wr W6 g_t
  have K7 := K4.wr W6 (Or.inl (List.mem_of_getElem? (i := 0) rfl))
  refine gs (S' := T6.setTop (mkF m 53 #[rv (t), iv ((1 : Int32)), iv (cc)] [])) st6 ?_
  refine gout (v := none) X6 Bd.notSynchronized (fun _ => rfl) (by decide) (by decide) ?_ (fun fs hr => X6.returnOut hx Bd.returns (hb hby d9_53) hr)
  rw [e6]
  exact ⟨rfl, N6, K7, V6⟩
theorem ef_254 (m : MethodId) (x0 : Addr) (x1 : Int32) : entryFrame m #[(.ref x0), (.int x1)] 2 = mkF m 0 #[.val (.ref x0), .val (.int x1)] [] := by first | (simp [entryFrame, mkF, argsToLocals, Value.category]; done) | rfl
set_option maxRecDepth 65536 in
set_option maxHeartbeats 40000000 in
theorem rm_gc20 (l : Launch) (Z : State) (a0 : Array Value) (hw : HW Z a0) (ws : List Jvm.Cond) (t : Addr) (kb : ClassId) (ch0 : Int32) (ch1 : Int32) (h0 : Heap) (n0 : Nat) (Z0 : n0 ≤ h0.size) (O0 : Old Z n0 h0) (V_t : Arv Z h0 t kb .byte (4 : Int32) [(.int (own_b0 ch0)), (.int (own_b1 ch0)), (.int (own_b0 ch1)), (.int (own_b1 ch1))] (.int (0 : Int32))) (hc : ¬ ch0 < 0 ∧ ¬ (65535 : Int32) < ch0) (S_ad : PS0 Z (.int (1 : Int32))) (S_hi : PS1 Z (.int (0 : Int32))) (S_lo : PS2 Z (.int (8 : Int32))) :
    Ctr l Z my7 jdk_52_method_5_code 2 ((Option.some Jvm.ClassFile.FieldType.char)) ws (⟨0, 0, 0, 0⟩ : Room) #[(.ref t), (.int (0 : Int32))] h0 (fun v h L => v = some (.int ch0) ∧ Fr n0 L ∧ h = h0) := by
  refine Ctr.go (plainFor_of_name pn_117) fun p e s m below meth c s₁ Bd hx hby hml hZ hown hnm X0 e0 => ?_
  have N0 := Fr.nil n0
  have K0 := Keep.refl h0 []
  refine gs (S' := s₁.setTop (mkF m 0 #[rv (t), iv ((0 : Int32))] [])) (fun tg kg => castTop (ef_254 m t (0 : Int32)) kg) ?_
  refine gS X0 hx hZ hown (host := "") (Or.inl (ow hw 111 rfl)) Via.refl e0 (S_ad.ext O0.2) hby d10_0 fun T1 X1 e1 => ?_
  refine gs (fun _ k => o_ifYes (pc' := 28) X1 hx hby d10_3 ((if0 _ _).trans (feq (by decide : ¬ ((1 : Int32) = (0 : Int32)))).2) (o_iloadN X1 hx hby d10_28 rfl (o_iconst (v := (1 : Int32)) X1 hx hby d10_29 (o_ishl X1 hx hby d10_30 (o_istoreN X1 hx hby d10_31 rfl (o_aloadN X1 hx hby d10_32 rfl rfl (o_iloadN X1 hx hby d10_33 rfl (o_iinc X1 hx hby d10_34 rfl rfl k)))))))) ?_
  obtain ⟨cl2, A2, a2q, a2S, a2N, a2H, a2G⟩ := id V_t
  have hi2 := inb_of a2S (j := (0 : Int32)) ⟨by decide, by decide⟩
  refine gs (fun _ k => X1.baloadBytes hx (j := (0 : Int32)) (v := (.int (own_b0 ch0))) (by rw [e1]; exact A2.1) (State.isArrayOf_alike hZ.alike A2.2.1) A2.2.2 hi2 (Has.at a2H hi2 rfl) (g := (mkF m 37 #[rv (t), iv ((1 : Int32))] [(.int (0 : Int32)), (.ref t)])) rfl rfl (hb hby d10_37) _ (XS.sipush X1.here hx rfl (hb hby d10_38) (o_iand X1 hx hby d10_41 k))) ?_
  refine gS X1 hx hZ hown (host := "") (Or.inl (ow hw 112 rfl)) Via.refl e1 (S_hi.ext O0.2) hby d10_42 fun T3 X3 e3 => ?_
  refine gs (fun _ k => o_ishl X3 hx hby d10_45 (o_aloadN X3 hx hby d10_46 rfl rfl (o_iloadN X3 hx hby d10_47 rfl k))) ?_
  obtain ⟨cl4, A4, a4q, a4S, a4N, a4H, a4G⟩ := id V_t
  have hi4 := inb_of a4S (j := (1 : Int32)) ⟨by decide, by decide⟩
  refine gs (fun _ k => X3.baloadBytes hx (j := (1 : Int32)) (v := (.int (own_b1 ch0))) (by rw [e3]; exact A4.1) (State.isArrayOf_alike hZ.alike A4.2.1) A4.2.2 hi4 (Has.at a4H hi4 rfl) (g := (mkF m 48 #[rv (t), iv ((1 : Int32))] [(.int (1 : Int32)), (.ref t), (.int (((own_b0 ch0) &&& (255 : Int32)) <<< ((0 : Int32) &&& 31)))])) rfl rfl (hb hby d10_48) _ (XS.sipush X3.here hx rfl (hb hby d10_49) (o_iand X3 hx hby d10_52 k))) ?_
  refine gS X3 hx hZ hown (host := "") (Or.inl (ow hw 113 rfl)) Via.refl e3 (S_lo.ext O0.2) hby d10_53 fun T5 X5 e5 => ?_
  refine gs (fun _ k => o_ishl X5 hx hby d10_56 (o_ior X5 hx hby d10_57 (o_i2c X5 hx hby d10_58 k))) ?_
  refine gout (v := some (.int (nar .char (((((own_b0 ch0) &&& (255 : Int32)) <<< ((0 : Int32) &&& 31)) ||| (((own_b1 ch0) &&& (255 : Int32)) <<< ((8 : Int32) &&& 31))).toUInt32.toUInt16.toUInt32.toInt32)))) X5 Bd.notSynchronized (fun h => by rw [Bd.returns] at h; cases h) (by decide) (by decide) ?_ (fun fs hr => retN X5 hx (t := .char) Bd.returns (by simp) (hb hby d10_59) hr)
  rw [e5]
  exact ⟨congrArg (fun q => some (Value.int q)) (own_gc hc), N0, rfl⟩
theorem ef_255 (m : MethodId) (x0 : Addr) (x1 : Int32) (x2 : Int32) : entryFrame m #[(.ref x0), (.int x1), (.int x2)] 3 = mkF m 0 #[.val (.ref x0), .val (.int x1), .val (.int x2)] [] := by first | (simp [entryFrame, mkF, argsToLocals, Value.category]; done) | rfl
set_option maxRecDepth 65536 in
set_option maxHeartbeats 40000000 in
theorem rm_pc21 (l : Launch) (Z : State) (a0 : Array Value) (hw : HW Z a0) (ws : List Jvm.Cond) (t : Addr) (kb : ClassId) (cc : Int32) (v0 : Int32) (v1 : Int32) (v2 : Int32) (v3 : Int32) (h0 : Heap) (n0 : Nat) (Z0 : n0 ≤ h0.size) (O0 : Old Z n0 h0) (V_t : Arv Z h0 t kb .byte (4 : Int32) [(.int v0), (.int v1), (.int v2), (.int v3)] (.int (0 : Int32))) (g_t : n0 ≤ t) (S_ad : PS0 Z (.int (1 : Int32))) (S_hi : PS1 Z (.int (0 : Int32))) (S_lo : PS2 Z (.int (8 : Int32))) :
    Ctr l Z my6 jdk_52_method_4_code 3 ((Option.none : Option Jvm.ClassFile.FieldType)) ws (⟨0, 0, 0, 0⟩ : Room) #[(.ref t), (.int (1 : Int32)), (.int cc)] h0 (fun v h L => v = none ∧ Fr n0 L ∧ Keep h0 h [t] ∧ Arv Z h t kb .byte (4 : Int32) [(.int v0), (.int v1), (.int (own_b0 cc)), (.int (own_b1 cc))] (.int (0 : Int32))) := by
  refine Ctr.go (plainFor_of_name pn_117) fun p e s m below meth c s₁ Bd hx hby hml hZ hown hnm X0 e0 => ?_
  have N0 := Fr.nil n0
  have K0 := Keep.refl h0 [t]
  refine gs (S' := s₁.setTop (mkF m 0 #[rv (t), iv ((1 : Int32)), iv (cc)] [])) (fun tg kg => castTop (ef_255 m t (1 : Int32) cc) kg) ?_
  refine gS X0 hx hZ hown (host := "") (Or.inl (ow hw 111 rfl)) Via.refl e0 (S_ad.ext O0.2) hby d9_0 fun T1 X1 e1 => ?_
  refine gs (fun _ k => o_ifYes (pc' := 28) X1 hx hby d9_3 ((if0 _ _).trans (feq (by decide : ¬ ((1 : Int32) = (0 : Int32)))).2) (o_iloadN X1 hx hby d9_28 rfl (o_iconst (v := (1 : Int32)) X1 hx hby d9_29 (o_ishl X1 hx hby d9_30 (o_istoreN X1 hx hby d9_31 rfl (o_aloadN X1 hx hby d9_32 rfl rfl (o_iloadN X1 hx hby d9_33 rfl (o_iinc X1 hx hby d9_34 rfl rfl (o_iloadN X1 hx hby d9_37 rfl k))))))))) ?_
  refine gS X1 hx hZ hown (host := "") (Or.inl (ow hw 112 rfl)) Via.refl e1 (S_hi.ext O0.2) hby d9_38 fun T2 X2 e2 => ?_
  refine gs (fun _ k => o_ishr X2 hx hby d9_41 (o_i2b X2 hx hby d9_42 k)) ?_
  obtain ⟨cl3, A3, a3q, a3S, a3N, a3H, a3G⟩ := id V_t
  obtain ⟨T3, h3, X3, e3, W3, st3⟩ := stB X2 hx hZ e2 A3 (j := (2 : Int32)) (inb_of a3S ⟨by decide, by decide⟩) (g := (mkF m 43 #[rv (t), iv ((3 : Int32)), iv (cc)] [(.int ((cc >>> ((0 : Int32) &&& 31)).toInt8.toInt32)), (.int (2 : Int32)), (.ref t)])) rfl rfl (hb hby d9_43)
  have V3 : Arv Z h3 t kb .byte (4 : Int32) [(.int v0), (.int v1), (.int (nar .byte ((cc >>> ((0 : Int32) &&& 31)).toInt8.toInt32))), (.int v3)] (.int (0 : Int32)) := Arv.set A3 a3q a3S a3N a3H a3G (fits_nar_byte _) W3 2 rfl (nb rfl)
  have N3 := Fr.snoc X3 N0 g_t
  have Z4 := nt Z0 (Keep.of_wr W3).1
  have O4 := O0.wr W3 g_t
  have K4 := K0.wr W3 (Or.inl (List.mem_of_getElem? (i := 0) rfl))
  refine gs (S' := T3.setTop (mkF m 44 #[rv (t), iv ((3 : Int32)), iv (cc)] [])) st3 ?_
  refine gs (fun _ k => o_aloadN X3 hx hby d9_44 rfl rfl (o_iloadN X3 hx hby d9_45 rfl (o_iloadN X3 hx hby d9_46 rfl k))) ?_
  refine gS X3 hx hZ hown (host := "") (Or.inl (ow hw 113 rfl)) Via.refl e3 (S_lo.ext O4.2) hby d9_47 fun T5 X5 e5 => ?_
  refine gs (fun _ k => o_ishr X5 hx hby d9_50 (o_i2b X5 hx hby d9_51 k)) ?_
  obtain ⟨cl6, A6, a6q, a6S, a6N, a6H, a6G⟩ := id V3
  obtain ⟨T6, h6, X6, e6, W6, st6⟩ := stB X5 hx hZ e5 A6 (j := (3 : Int32)) (inb_of a6S ⟨by decide, by decide⟩) (g := (mkF m 52 #[rv (t), iv ((3 : Int32)), iv (cc)] [(.int ((cc >>> ((8 : Int32) &&& 31)).toInt8.toInt32)), (.int (3 : Int32)), (.ref t)])) rfl rfl (hb hby d9_52)
  have V6 : Arv Z h6 t kb .byte (4 : Int32) [(.int v0), (.int v1), (.int (nar .byte ((cc >>> ((0 : Int32) &&& 31)).toInt8.toInt32))), (.int (nar .byte ((cc >>> ((8 : Int32) &&& 31)).toInt8.toInt32)))] (.int (0 : Int32)) := Arv.set A6 a6q a6S a6N a6H a6G (fits_nar_byte _) W6 3 rfl (nb rfl)
  have N6 := Fr.snoc X6 N3 g_t
  have Z7 := nt Z4 (Keep.of_wr W6).1
  have O7 := O4.wr W6 g_t
  have K7 := K4.wr W6 (Or.inl (List.mem_of_getElem? (i := 0) rfl))
  refine gs (S' := T6.setTop (mkF m 53 #[rv (t), iv ((3 : Int32)), iv (cc)] [])) st6 ?_
  refine gout (v := none) X6 Bd.notSynchronized (fun _ => rfl) (by decide) (by decide) ?_ (fun fs hr => X6.returnOut hx Bd.returns (hb hby d9_53) hr)
  rw [e6]
  exact ⟨rfl, N6, K7, V6⟩
theorem ef_256 (m : MethodId) (x0 : Addr) (x1 : Int32) : entryFrame m #[(.ref x0), (.int x1)] 2 = mkF m 0 #[.val (.ref x0), .val (.int x1)] [] := by first | (simp [entryFrame, mkF, argsToLocals, Value.category]; done) | rfl
set_option maxRecDepth 65536 in
set_option maxHeartbeats 40000000 in
theorem rm_gc21 (l : Launch) (Z : State) (a0 : Array Value) (hw : HW Z a0) (ws : List Jvm.Cond) (t : Addr) (kb : ClassId) (ch0 : Int32) (ch1 : Int32) (h0 : Heap) (n0 : Nat) (Z0 : n0 ≤ h0.size) (O0 : Old Z n0 h0) (V_t : Arv Z h0 t kb .byte (4 : Int32) [(.int (own_b0 ch0)), (.int (own_b1 ch0)), (.int (own_b0 ch1)), (.int (own_b1 ch1))] (.int (0 : Int32))) (hc : ¬ ch1 < 0 ∧ ¬ (65535 : Int32) < ch1) (S_ad : PS0 Z (.int (1 : Int32))) (S_hi : PS1 Z (.int (0 : Int32))) (S_lo : PS2 Z (.int (8 : Int32))) :
    Ctr l Z my7 jdk_52_method_5_code 2 ((Option.some Jvm.ClassFile.FieldType.char)) ws (⟨0, 0, 0, 0⟩ : Room) #[(.ref t), (.int (1 : Int32))] h0 (fun v h L => v = some (.int ch1) ∧ Fr n0 L ∧ h = h0) := by
  refine Ctr.go (plainFor_of_name pn_117) fun p e s m below meth c s₁ Bd hx hby hml hZ hown hnm X0 e0 => ?_
  have N0 := Fr.nil n0
  have K0 := Keep.refl h0 []
  refine gs (S' := s₁.setTop (mkF m 0 #[rv (t), iv ((1 : Int32))] [])) (fun tg kg => castTop (ef_256 m t (1 : Int32)) kg) ?_
  refine gS X0 hx hZ hown (host := "") (Or.inl (ow hw 111 rfl)) Via.refl e0 (S_ad.ext O0.2) hby d10_0 fun T1 X1 e1 => ?_
  refine gs (fun _ k => o_ifYes (pc' := 28) X1 hx hby d10_3 ((if0 _ _).trans (feq (by decide : ¬ ((1 : Int32) = (0 : Int32)))).2) (o_iloadN X1 hx hby d10_28 rfl (o_iconst (v := (1 : Int32)) X1 hx hby d10_29 (o_ishl X1 hx hby d10_30 (o_istoreN X1 hx hby d10_31 rfl (o_aloadN X1 hx hby d10_32 rfl rfl (o_iloadN X1 hx hby d10_33 rfl (o_iinc X1 hx hby d10_34 rfl rfl k)))))))) ?_
  obtain ⟨cl2, A2, a2q, a2S, a2N, a2H, a2G⟩ := id V_t
  have hi2 := inb_of a2S (j := (2 : Int32)) ⟨by decide, by decide⟩
  refine gs (fun _ k => X1.baloadBytes hx (j := (2 : Int32)) (v := (.int (own_b0 ch1))) (by rw [e1]; exact A2.1) (State.isArrayOf_alike hZ.alike A2.2.1) A2.2.2 hi2 (Has.at a2H hi2 rfl) (g := (mkF m 37 #[rv (t), iv ((3 : Int32))] [(.int (2 : Int32)), (.ref t)])) rfl rfl (hb hby d10_37) _ (XS.sipush X1.here hx rfl (hb hby d10_38) (o_iand X1 hx hby d10_41 k))) ?_
  refine gS X1 hx hZ hown (host := "") (Or.inl (ow hw 112 rfl)) Via.refl e1 (S_hi.ext O0.2) hby d10_42 fun T3 X3 e3 => ?_
  refine gs (fun _ k => o_ishl X3 hx hby d10_45 (o_aloadN X3 hx hby d10_46 rfl rfl (o_iloadN X3 hx hby d10_47 rfl k))) ?_
  obtain ⟨cl4, A4, a4q, a4S, a4N, a4H, a4G⟩ := id V_t
  have hi4 := inb_of a4S (j := (3 : Int32)) ⟨by decide, by decide⟩
  refine gs (fun _ k => X3.baloadBytes hx (j := (3 : Int32)) (v := (.int (own_b1 ch1))) (by rw [e3]; exact A4.1) (State.isArrayOf_alike hZ.alike A4.2.1) A4.2.2 hi4 (Has.at a4H hi4 rfl) (g := (mkF m 48 #[rv (t), iv ((3 : Int32))] [(.int (3 : Int32)), (.ref t), (.int (((own_b0 ch1) &&& (255 : Int32)) <<< ((0 : Int32) &&& 31)))])) rfl rfl (hb hby d10_48) _ (XS.sipush X3.here hx rfl (hb hby d10_49) (o_iand X3 hx hby d10_52 k))) ?_
  refine gS X3 hx hZ hown (host := "") (Or.inl (ow hw 113 rfl)) Via.refl e3 (S_lo.ext O0.2) hby d10_53 fun T5 X5 e5 => ?_
  refine gs (fun _ k => o_ishl X5 hx hby d10_56 (o_ior X5 hx hby d10_57 (o_i2c X5 hx hby d10_58 k))) ?_
  refine gout (v := some (.int (nar .char (((((own_b0 ch1) &&& (255 : Int32)) <<< ((0 : Int32) &&& 31)) ||| (((own_b1 ch1) &&& (255 : Int32)) <<< ((8 : Int32) &&& 31))).toUInt32.toUInt16.toUInt32.toInt32)))) X5 Bd.notSynchronized (fun h => by rw [Bd.returns] at h; cases h) (by decide) (by decide) ?_ (fun fs hr => retN X5 hx (t := .char) Bd.returns (by simp) (hb hby d10_59) hr)
  rw [e5]
  exact ⟨congrArg (fun q => some (Value.int q)) (own_gc hc), N0, rfl⟩
theorem ef_257 (m : MethodId) (x0 : Int32) : entryFrame m #[(.int x0)] 1 = mkF m 0 #[.val (.int x0)] [] := by first | (simp [entryFrame, mkF, argsToLocals, Value.category]; done) | rfl
set_option maxRecDepth 65536 in
set_option maxHeartbeats 40000000 in
theorem rm_nbl2 (l : Launch) (Z : State) (a0 : Array Value) (hw : HW Z a0) (ws : List Jvm.Cond)  (h0 : Heap) (n0 : Nat) (Z0 : n0 ≤ h0.size) (O0 : Old Z n0 h0)  :
    Ctr l Z my12 jdk_52_method_3_code 1 ((Option.some Jvm.ClassFile.FieldType.int)) ws (⟨0, 0, 0, 0⟩ : Room) #[(.int (2 : Int32))] h0 (fun v h L => v = some (.int (4 : Int32)) ∧ Fr n0 L ∧ h = h0) := by
  refine Ctr.go (plainFor_of_name pn_117) fun p e s m below meth c s₁ Bd hx hby hml hZ hown hnm X0 e0 => ?_
  have N0 := Fr.nil n0
  have K0 := Keep.refl h0 []
  refine gs (S' := s₁.setTop (mkF m 0 #[iv ((2 : Int32))] [])) (fun tg kg => castTop (ef_257 m (2 : Int32)) kg) ?_
  refine gs (fun _ k => o_iloadN X0 hx hby d11_0 rfl (o_ifYes (pc' := 12) X0 hx hby d11_1 ((if0 _ _).trans (flt (by decide : ¬ ((2 : Int32) < (0 : Int32)))).2.1) (o_iloadN X0 hx hby d11_12 rfl (X0.ldcInt hx hown (mvT hZ (ow hw 107 rfl)) (g := (mkF m 13 #[iv ((2 : Int32))] [(.int (2 : Int32))])) rfl (hb hby d11_13) _ (o_icmpYes (pc' := 55) X0 hx hby d11_15 (tlt (by decide : (2 : Int32) < (1073741823 : Int32))).1 (o_iloadN X0 hx hby d11_55 rfl (o_iconst (v := (1 : Int32)) X0 hx hby d11_56 (o_ishl X0 hx hby d11_57 k)))))))) ?_
  refine gout (v := some (.int (4 : Int32))) X0 Bd.notSynchronized (fun h => by rw [Bd.returns] at h; cases h) (by decide) (by decide) ?_ (fun fs hr => retI X0 hx Bd.returns (hb hby d11_58) hr)
  rw [e0]
  exact ⟨rfl, N0, rfl⟩
theorem ef_258 (m : MethodId) (x0 : Int32) : entryFrame m #[(.int x0)] 1 = mkF m 0 #[.val (.int x0)] [] := by first | (simp [entryFrame, mkF, argsToLocals, Value.category]; done) | rfl
set_option maxRecDepth 65536 in
set_option maxHeartbeats 40000000 in
theorem rm_nbf2 (l : Launch) (Z : State) (a0 : Array Value) (hw : HW Z a0) (ws : List Jvm.Cond)  (h0 : Heap) (n0 : Nat) (Z0 : n0 ≤ h0.size) (O0 : Old Z n0 h0)  :
    Ctr l Z my13 jdk_52_method_2_code 1 ((Option.some (Jvm.ClassFile.FieldType.array Jvm.ClassFile.FieldType.byte))) ws (⟨1, 1, 4, 12⟩ : Room) #[(.int (2 : Int32))] h0 (fun v h L => ∃ (t : Addr) (kb : ClassId), v = some (.ref t) ∧ Fr n0 L ∧ Keep h0 h [] ∧ h0.size ≤ t ∧ Arv Z h t kb .byte (4 : Int32) [(.int (0 : Int32)), (.int (0 : Int32)), (.int (0 : Int32)), (.int (0 : Int32))] (.int (0 : Int32))) := by
  refine Ctr.go (plainFor_of_name pn_117) fun p e s m below meth c s₁ Bd hx hby hml hZ hown hnm X0 e0 => ?_
  have N0 := Fr.nil n0
  have K0 := Keep.refl h0 []
  refine gs (S' := s₁.setTop (mkF m 0 #[iv ((2 : Int32))] [])) (fun tg kg => castTop (ef_258 m (2 : Int32)) kg) ?_
  refine gs (fun _ k => o_iloadN X0 hx hby d12_0 rfl k) ?_
  refine cS (rest := []) X0 hx hZ hown (ow hw 104 rfl) (ow hw 105 rfl) (ow hw 87 rfl) (ow hw 106 rfl) (rm_nbl2 l Z a0 hw []  h0 n0 Z0 O0 ) hby d12_1 e0 pd_156 0 (by rw [hml]; rfl) rfl rfl rfl rfl (by decide) (by decide) fun _ T1 Lc1 X1 hQ1 => ?_
  obtain ⟨rfl, N1q, e1q⟩ := hQ1
  have N1 := Fr.app N0 N1q
  obtain ⟨T2, h2, k2, X2, e2, E2, A2, st2⟩ := newP X1 hx hZ (ow hw 20 rfl) e1q (g := (mkF m 4 #[iv ((2 : Int32))] [(.int (4 : Int32))])) rfl (hb hby d12_4) rfl (by decide) (cap := 4) (by decide) (by decide) (by decide) (by decide)
  obtain ⟨b2, q2⟩ : ∃ z, z = h0.size := ⟨_, rfl⟩
  rw [← q2] at A2 st2
  have g_b2 : n0 ≤ b2 := nt Z0 (Nat.le_of_eq q2.symm)
  have sz_b2 : h0.size ≤ b2 := nt K0.1 (Nat.le_of_eq q2.symm)
  have Z3 := nt Z0 E2.1
  have O3 := O0.ext E2
  have K3 := K0.ext E2
  have V2 : Arv Z h2 b2 k2 .byte (4 : Int32) [(.int (0 : Int32)), (.int (0 : Int32)), (.int (0 : Int32)), (.int (0 : Int32))] (.int (0 : Int32)) := (Arv.new A2 (by decide)).pad (pad_rep [] (.int (0 : Int32)) 4)
  refine gs (S' := T2.setTop (mkF m 6 #[iv ((2 : Int32))] [(.ref b2)])) st2 ?_
  refine gout (v := some (.ref b2)) X2 Bd.notSynchronized (fun h => by rw [Bd.returns] at h; cases h) (by decide) (by decide) ?_ (fun fs hr => retOut X2 hx Bd.returns rfl (Or.inr (Or.inr (Or.inr (Or.inr ⟨rfl, rfl, rfl⟩)))) (hb hby d12_6) hr)
  rw [e2]
  exact ⟨_, _, rfl, N1, K3, sz_b2, V2⟩
theorem ef_259 (m : MethodId) (x0 : Addr) (x1 : Int32) (x2 : Int32) : entryFrame m #[(.ref x0), (.int x1), (.int x2)] 5 = mkF m 0 #[.val (.ref x0), .val (.int x1), .val (.int x2), .unset, .unset] [] := by first | (simp [entryFrame, mkF, argsToLocals, Value.category]; done) | rfl
set_option maxRecDepth 65536 in
set_option maxHeartbeats 40000000 in
theorem rm_tb16_2 (l : Launch) (Z : State) (a0 : Array Value) (hw : HW Z a0) (ws : List Jvm.Cond) (b : Addr) (kc : ClassId) (ch0 : Int32) (ch1 : Int32) (h0 : Heap) (n0 : Nat) (Z0 : n0 ≤ h0.size) (O0 : Old Z n0 h0) (V_b : Arv Z h0 b kc .char (2 : Int32) [(.int ch0), (.int ch1)] (.int (0 : Int32))) (S_ad : PS0 Z (.int (1 : Int32))) (S_hi : PS1 Z (.int (0 : Int32))) (S_lo : PS2 Z (.int (8 : Int32))) :
    Ctr l Z my14 jdk_52_method_14_code 5 ((Option.some (Jvm.ClassFile.FieldType.array Jvm.ClassFile.FieldType.byte))) ws (⟨2, 1, 4, 24⟩ : Room) #[(.ref b), (.int (0 : Int32)), (.int (2 : Int32))] h0 (fun v h L => ∃ (t : Addr) (kb : ClassId), v = some (.ref t) ∧ Fr n0 L ∧ Keep h0 h [] ∧ h0.size ≤ t ∧ Arv Z h t kb .byte (4 : Int32) [(.int (own_b0 ch0)), (.int (own_b1 ch0)), (.int (own_b0 ch1)), (.int (own_b1 ch1))] (.int (0 : Int32))) := by
  refine Ctr.go (plainFor_of_name pn_117) fun p e s m below meth c s₁ Bd hx hby hml hZ hown hnm X0 e0 => ?_
  have N0 := Fr.nil n0
  have K0 := Keep.refl h0 []
  refine gs (S' := s₁.setTop (mkF m 0 #[rv (b), iv ((0 : Int32)), iv ((2 : Int32)), uu, uu] [])) (fun tg kg => castTop (ef_259 m b (0 : Int32) (2 : Int32)) kg) ?_
  refine gs (fun _ k => o_iloadN X0 hx hby d13_0 rfl k) ?_
  refine cS (rest := []) X0 hx hZ hown (ow hw 101 rfl) (ow hw 102 rfl) (ow hw 87 rfl) (ow hw 103 rfl) (rm_nbf2 l Z a0 hw []  h0 n0 Z0 O0 ) hby d13_1 e0 pd_162 0 (by rw [hml]; rfl) rfl rfl rfl rfl (by decide) (by decide) fun _ T1 Lc1 X1 hQ1 => ?_
  obtain ⟨t1, kb1, rfl, N1q, K1q, g1t, V1q⟩ := hQ1
  have N1 := Fr.app N0 N1q
  have g_t1 : n0 ≤ t1 := nt Z0 g1t
  have sz_t1 : h0.size ≤ t1 := nt K0.1 g1t
  have Z2 := nt Z0 K1q.1
  have O2 := O0.keep K1q all0
  have K2 := K0.trans K1q all0
  refine gs (fun _ k => o_astoreN X1 hx hby d13_4 rfl rfl (o_iconst (v := (0 : Int32)) X1 hx hby d13_5 (o_istore X1 hx hby d13_6 rfl (o_iload X1 hx hby d13_8 rfl (o_iloadN X1 hx hby d13_10 rfl (o_icmpNo X1 hx hby d13_11 (tlt (by decide : (0 : Int32) < (2 : Int32))).2.1 (o_aloadN X1 hx hby d13_14 rfl rfl (o_iload X1 hx hby d13_15 rfl (o_aloadN X1 hx hby d13_17 rfl rfl (o_iloadN X1 hx hby d13_18 rfl k)))))))))) ?_
  have f3 := (V_b.keep K1q nin0)
  obtain ⟨cl4, A4, a4q, a4S, a4N, a4H, a4G⟩ := id f3
  have hi4 := inb_of a4S (j := (0 : Int32)) ⟨by decide, by decide⟩
  refine gs (fun _ k => X1.caload hx (j := (0 : Int32)) (v := (.int ch0)) A4.1 (State.isArrayOf_alike hZ.alike A4.2.1) A4.2.2 hi4 (Has.at a4H hi4 rfl) (g := (mkF m 19 #[rv (b), iv ((0 : Int32)), iv ((2 : Int32)), rv (t1), iv ((0 : Int32))] [(.int (0 : Int32)), (.ref b), (.int (0 : Int32)), (.ref t1)])) rfl rfl (hb hby d13_19) _ k) ?_
  refine cS (rest := []) X1 hx hZ hown (ow hw 108 rfl) (ow hw 109 rfl) (ow hw 87 rfl) (ow hw 110 rfl) (rm_pc20 l Z a0 hw [] t1 kb1 ch0 (0 : Int32) (0 : Int32) (0 : Int32) (0 : Int32) T1.heap n0 Z2 O2 V1q g_t1 S_ad S_hi S_lo) hby d13_20 rfl pd_175 0 (by rw [hml]; rfl) rfl rfl rfl rfl (by decide) (by decide) fun _ T5 Lc5 X5 hQ5 => ?_
  obtain ⟨rfl, N5q, K5q, V5q⟩ := hQ5
  have N5 := Fr.app N1 N5q
  have Z6 := nt Z2 K5q.1
  have O6 := O2.keep K5q (allS g_t1 all0)
  have K6 := K2.trans K5q (allS (Or.inr sz_t1) all0)
  refine gs (fun _ k => o_iinc X5 hx hby d13_23 rfl rfl (o_iinc X5 hx hby d13_26 rfl rfl (o_goto (pc' := 8) X5 hx hby d13_29 (o_iload X5 hx hby d13_8 rfl (o_iloadN X5 hx hby d13_10 rfl (o_icmpNo X5 hx hby d13_11 (tlt (by decide : (1 : Int32) < (2 : Int32))).2.1 (o_aloadN X5 hx hby d13_14 rfl rfl (o_iload X5 hx hby d13_15 rfl (o_aloadN X5 hx hby d13_17 rfl rfl (o_iloadN X5 hx hby d13_18 rfl k)))))))))) ?_
  have f7 := (f3.keep K5q (ninS (nw (nu (nu V_b.lt (Nat.le_refl _)) g1t)) nin0))
  obtain ⟨cl8, A8, a8q, a8S, a8N, a8H, a8G⟩ := id f7
  have hi8 := inb_of a8S (j := (1 : Int32)) ⟨by decide, by decide⟩
  refine gs (fun _ k => X5.caload hx (j := (1 : Int32)) (v := (.int ch1)) A8.1 (State.isArrayOf_alike hZ.alike A8.2.1) A8.2.2 hi8 (Has.at a8H hi8 rfl) (g := (mkF m 19 #[rv (b), iv ((1 : Int32)), iv ((2 : Int32)), rv (t1), iv ((1 : Int32))] [(.int (1 : Int32)), (.ref b), (.int (1 : Int32)), (.ref t1)])) rfl rfl (hb hby d13_19) _ k) ?_
  refine cS (rest := []) X5 hx hZ hown (ow hw 108 rfl) (ow hw 109 rfl) (ow hw 87 rfl) (ow hw 110 rfl) (rm_pc21 l Z a0 hw [] t1 kb1 ch1 (own_b0 ch0) (own_b1 ch0) (0 : Int32) (0 : Int32) T5.heap n0 Z6 O6 V5q g_t1 S_ad S_hi S_lo) hby d13_20 rfl pd_175 0 (by rw [hml]; rfl) rfl rfl rfl rfl (by decide) (by decide) fun _ T9 Lc9 X9 hQ9 => ?_
  obtain ⟨rfl, N9q, K9q, V9q⟩ := hQ9
  have N9 := Fr.app N5 N9q
  have Z10 := nt Z6 K9q.1
  have O10 := O6.keep K9q (allS g_t1 all0)
  have K10 := K6.trans K9q (allS (Or.inr sz_t1) all0)
  refine gs (fun _ k => o_iinc X9 hx hby d13_23 rfl rfl (o_iinc X9 hx hby d13_26 rfl rfl (o_goto (pc' := 8) X9 hx hby d13_29 (o_iload X9 hx hby d13_8 rfl (o_iloadN X9 hx hby d13_10 rfl (o_icmpYes (pc' := 32) X9 hx hby d13_11 (flt (by decide : ¬ ((2 : Int32) < (2 : Int32)))).2.1 (o_aloadN X9 hx hby d13_32 rfl rfl k))))))) ?_
  refine gout (v := some (.ref t1)) X9 Bd.notSynchronized (fun h => by rw [Bd.returns] at h; cases h) (by decide) (by decide) ?_ (fun fs hr => retOut X9 hx Bd.returns rfl (Or.inr (Or.inr (Or.inr (Or.inr ⟨rfl, rfl, rfl⟩)))) (hb hby d13_33) hr)
  exact ⟨_, _, rfl, N9, K10, sz_t1, V9q⟩
theorem ef_260 (m : MethodId) (x0 : Addr) (x1 : Int32) : entryFrame m #[(.ref x0), (.int x1)] 2 = mkF m 0 #[.val (.ref x0), .val (.int x1)] [] := by first | (simp [entryFrame, mkF, argsToLocals, Value.category]; done) | rfl
set_option maxRecDepth 65536 in
set_option maxHeartbeats 40000000 in
theorem rm_cfl2 (l : Launch) (Z : State) (a0 : Array Value) (hw : HW Z a0) (ws : List Jvm.Cond) (t : Addr) (kb : ClassId) (vs : List Value) (h0 : Heap) (n0 : Nat) (Z0 : n0 ≤ h0.size) (O0 : Old Z n0 h0) (V_t : Arv Z h0 t kb .byte (4 : Int32) vs (.int (0 : Int32))) :
    Ctr l Z my15 jdk_52_method_15_code 2 ((Option.some Jvm.ClassFile.FieldType.byte)) ws (⟨0, 0, 0, 0⟩ : Room) #[(.ref t), (.int (2 : Int32))] h0 (fun v h L => v = some (.int (1 : Int32)) ∧ Fr n0 L ∧ h = h0) := by
  refine Ctr.go (plainFor_of_name pn_117) fun p e s m below meth c s₁ Bd hx hby hml hZ hown hnm X0 e0 => ?_
  have N0 := Fr.nil n0
  have K0 := Keep.refl h0 []
  refine gs (S' := s₁.setTop (mkF m 0 #[rv (t), iv ((2 : Int32))] [])) (fun tg kg => castTop (ef_260 m t (2 : Int32)) kg) ?_
  refine gs (fun _ k => o_iloadN X0 hx hby d14_0 rfl (o_aloadN X0 hx hby d14_1 rfl rfl k)) ?_
  obtain ⟨cl1, A1, a1q, a1S, a1N, a1H, a1G⟩ := id V_t
  refine gs (S' := s₁.setTop (mkF m 3 #[rv (t), iv ((2 : Int32))] [(.int (4 : Int32)), (.int (2 : Int32))])) (fun _ k => by refine X0.arraylength hx (by rw [e0]; exact A1.1) (State.isArrayOf_alike hZ.alike A1.2.1) (g := (mkF m 2 #[rv (t), iv ((2 : Int32))] [(.ref t), (.int (2 : Int32))])) rfl rfl (hb hby d14_2) _ ?_; rw [len_of a1S a1N]; exact k) ?_
  refine gs (fun _ k => o_isub X0 hx hby d14_3 (o_bipush (v := (31 : Int32)) X0 hx hby d14_4 (o_iushr X0 hx hby d14_6 (o_i2b X0 hx hby d14_7 k)))) ?_
  refine gout (v := some (.int (1 : Int32))) X0 Bd.notSynchronized (fun h => by rw [Bd.returns] at h; cases h) (by decide) (by decide) ?_ (fun fs hr => retN X0 hx (t := .byte) Bd.returns (by simp) (hb hby d14_8) hr)
  rw [e0]
  exact ⟨rfl, N0, rfl⟩
theorem ef_261 (m : MethodId) (x0 : Addr) (x1 : Int32) (x2 : Addr) (x3 : Int32) (x4 : Int32) : entryFrame m #[(.ref x0), (.int x1), (.ref x2), (.int x3), (.int x4)] 7 = mkF m 0 #[.val (.ref x0), .val (.int x1), .val (.ref x2), .val (.int x3), .val (.int x4), .unset, .unset] [] := by first | (simp [entryFrame, mkF, argsToLocals, Value.category]; done) | rfl
set_option maxRecDepth 65536 in
set_option maxHeartbeats 40000000 in
theorem rm_cp5_20 (l : Launch) (Z : State) (a0 : Array Value) (hw : HW Z a0) (ws : List Jvm.Cond) (b : Addr) (kc : ClassId) (t : Addr) (kb : ClassId) (ch0 : Int32) (ch1 : Int32) (h0 : Heap) (n0 : Nat) (Z0 : n0 ≤ h0.size) (O0 : Old Z n0 h0) (V_b : Arv Z h0 b kc .char (2 : Int32) [(.int ch0), (.int ch1)] (.int (0 : Int32))) (V_t : Arv Z h0 t kb .byte (2 : Int32) [(.int (0 : Int32)), (.int (0 : Int32))] (.int (0 : Int32))) (g_t : n0 ≤ t) (hbt : b ≠ t) (dq0 : (255 : Int32) < ch0) :
    Ctr l Z my8 jdk_52_method_21_code 7 ((Option.some Jvm.ClassFile.FieldType.int)) ws (⟨0, 0, 0, 0⟩ : Room) #[(.ref b), (.int (0 : Int32)), (.ref t), (.int (0 : Int32)), (.int (2 : Int32))] h0 (fun v h L => v = some (.int (0 : Int32)) ∧ Fr n0 L ∧ Keep h0 h [t]) := by
  refine Ctr.go (plainFor_of_name pn_117) fun p e s m below meth c s₁ Bd hx hby hml hZ hown hnm X0 e0 => ?_
  have N0 := Fr.nil n0
  have K0 := Keep.refl h0 [t]
  refine gs (S' := s₁.setTop (mkF m 0 #[rv (b), iv ((0 : Int32)), rv (t), iv ((0 : Int32)), iv ((2 : Int32)), uu, uu] [])) (fun tg kg => castTop (ef_261 m b (0 : Int32) t (0 : Int32) (2 : Int32)) kg) ?_
  refine gs (fun _ k => o_iconst (v := (0 : Int32)) X0 hx hby d15_0 (o_istore X0 hx hby d15_1 rfl (o_iload X0 hx hby d15_3 rfl (o_iload X0 hx hby d15_5 rfl (o_icmpNo X0 hx hby d15_7 (tlt (by decide : (0 : Int32) < (2 : Int32))).2.1 (o_aloadN X0 hx hby d15_10 rfl rfl (o_iloadN X0 hx hby d15_11 rfl k))))))) ?_
  obtain ⟨cl1, A1, a1q, a1S, a1N, a1H, a1G⟩ := id V_b
  have hi1 := inb_of a1S (j := (0 : Int32)) ⟨by decide, by decide⟩
  refine gs (fun _ k => X0.caload hx (j := (0 : Int32)) (v := (.int ch0)) (by rw [e0]; exact A1.1) (State.isArrayOf_alike hZ.alike A1.2.1) A1.2.2 hi1 (Has.at a1H hi1 rfl) (g := (mkF m 12 #[rv (b), iv ((0 : Int32)), rv (t), iv ((0 : Int32)), iv ((2 : Int32)), iv ((0 : Int32)), uu] [(.int (0 : Int32)), (.ref b)])) rfl rfl (hb hby d15_12) _ (o_istore X0 hx hby d15_13 rfl (o_iload X0 hx hby d15_15 rfl (XS.sipush X0.here hx rfl (hb hby d15_17) (o_icmpNo X0 hx hby d15_20 (tlt dq0).2.2.2 (o_iload X0 hx hby d15_23 rfl k)))))) ?_
  refine gout (v := some (.int (0 : Int32))) X0 Bd.notSynchronized (fun h => by rw [Bd.returns] at h; cases h) (by decide) (by decide) ?_ (fun fs hr => retI X0 hx Bd.returns (hb hby d15_25) hr)
  rw [e0]
  exact ⟨rfl, N0, K0⟩
theorem ef_262 (m : MethodId) (x0 : Addr) (x1 : Int32) (x2 : Int32) : entryFrame m #[(.ref x0), (.int x1), (.int x2)] 6 = mkF m 0 #[.val (.ref x0), .val (.int x1), .val (.int x2), .unset, .unset, .unset] [] := by first | (simp [entryFrame, mkF, argsToLocals, Value.category]; done) | rfl
set_option maxRecDepth 65536 in
set_option maxHeartbeats 40000000 in
theorem rm_cp3_20 (l : Launch) (Z : State) (a0 : Array Value) (hw : HW Z a0) (ws : List Jvm.Cond) (b : Addr) (kc : ClassId) (ch0 : Int32) (ch1 : Int32) (h0 : Heap) (n0 : Nat) (Z0 : n0 ≤ h0.size) (O0 : Old Z n0 h0) (V_b : Arv Z h0 b kc .char (2 : Int32) [(.int ch0), (.int ch1)] (.int (0 : Int32))) (dq0 : (255 : Int32) < ch0) (hc0 : ¬ ch0 < 0 ∧ ¬ (65535 : Int32) < ch0) (hc1 : ¬ ch1 < 0 ∧ ¬ (65535 : Int32) < ch1) (S_ad : PS0 Z (.int (1 : Int32))) (S_hi : PS1 Z (.int (0 : Int32))) (S_lo : PS2 Z (.int (8 : Int32))) :
    Ctr l Z my9 jdk_52_method_16_code 6 ((Option.some (Jvm.ClassFile.FieldType.array Jvm.ClassFile.FieldType.byte))) ws (⟨3, 2, 6, 40⟩ : Room) #[(.ref b), (.int (0 : Int32)), (.int (2 : Int32))] h0 (fun v h L => ∃ (t : Addr) (kb : ClassId), v = some (.ref t) ∧ Fr n0 L ∧ Keep h0 h [] ∧ h0.size ≤ t ∧ Arv Z h t kb .byte (4 : Int32) [(.int (own_b0 ch0)), (.int (own_b1 ch0)), (.int (own_b0 ch1)), (.int (own_b1 ch1))] (.int (0 : Int32))) := by
  refine Ctr.go (plainFor_of_name pn_117) fun p e s m below meth c s₁ Bd hx hby hml hZ hown hnm X0 e0 => ?_
  have N0 := Fr.nil n0
  have K0 := Keep.refl h0 []
  refine gs (S' := s₁.setTop (mkF m 0 #[rv (b), iv ((0 : Int32)), iv ((2 : Int32)), uu, uu, uu] [])) (fun tg kg => castTop (ef_262 m b (0 : Int32) (2 : Int32)) kg) ?_
  refine gs (fun _ k => o_iloadN X0 hx hby d16_0 rfl k) ?_
  obtain ⟨T1, h1, k1, X1, e1, E1, A1, st1⟩ := newP X0 hx hZ (ow hw 20 rfl) e0 (g := (mkF m 1 #[rv (b), iv ((0 : Int32)), iv ((2 : Int32)), uu, uu, uu] [(.int (2 : Int32))])) rfl (hb hby d16_1) rfl (by decide) (cap := 2) (by decide) (by decide) (by decide) (by decide)
  obtain ⟨b1, q1⟩ : ∃ z, z = h0.size := ⟨_, rfl⟩
  rw [← q1] at A1 st1
  have g_b1 : n0 ≤ b1 := nt Z0 (Nat.le_of_eq q1.symm)
  have sz_b1 : h0.size ≤ b1 := nt K0.1 (Nat.le_of_eq q1.symm)
  have Z2 := nt Z0 E1.1
  have O2 := O0.ext E1
  have K2 := K0.ext E1
  have V1 : Arv Z h1 b1 k1 .byte (2 : Int32) [(.int (0 : Int32)), (.int (0 : Int32))] (.int (0 : Int32)) := (Arv.new A1 (by decide)).pad (pad_rep [] (.int (0 : Int32)) 2)
  refine gs (S' := T1.setTop (mkF m 3 #[rv (b), iv ((0 : Int32)), iv ((2 : Int32)), uu, uu, uu] [(.ref b1)])) st1 ?_
  refine gs (fun _ k => o_astoreN X1 hx hby d16_3 rfl rfl (o_aloadN X1 hx hby d16_4 rfl rfl (o_iloadN X1 hx hby d16_5 rfl (o_aloadN X1 hx hby d16_6 rfl rfl (o_iconst (v := (0 : Int32)) X1 hx hby d16_7 (o_iloadN X1 hx hby d16_8 rfl k)))))) ?_
  have f3 := (V_b.ext E1)
  refine cS (rest := []) X1 hx hZ hown (ow hw 89 rfl) (ow hw 90 rfl) (ow hw 87 rfl) (ow hw 91 rfl) (rm_cp5_20 l Z a0 hw [] b kc b1 k1 ch0 ch1 h1 n0 Z2 O2 f3 V1 g_b1 (nw (nu (nu V_b.lt (Nat.le_refl _)) (Nat.le_of_eq q1.symm))) dq0) hby d16_9 e1 pd_215 0 (by rw [hml]; rfl) rfl rfl rfl rfl (by decide) (by decide) fun _ T4 Lc4 X4 hQ4 => ?_
  obtain ⟨rfl, N4q, K4q⟩ := hQ4
  have N4 := Fr.app N0 N4q
  have Z5 := nt Z2 K4q.1
  have O5 := O2.keep K4q (allS g_b1 all0)
  have K5 := K2.trans K4q (allS (Or.inr sz_b1) all0)
  refine gs (fun _ k => o_istore X4 hx hby d16_12 rfl (o_iload X4 hx hby d16_14 rfl (o_iloadN X4 hx hby d16_16 rfl (o_icmpNo X4 hx hby d16_17 (feq (by decide : ¬ ((0 : Int32) = (2 : Int32)))).1 (o_aloadN X4 hx hby d16_20 rfl rfl (o_iloadN X4 hx hby d16_21 rfl (o_iloadN X4 hx hby d16_22 rfl k))))))) ?_
  have f6 := (f3.keep K4q (ninS (nw (nu (nu V_b.lt (Nat.le_refl _)) (Nat.le_of_eq q1.symm))) nin0))
  refine cS (rest := []) X4 hx hZ hown (ow hw 98 rfl) (ow hw 99 rfl) (ow hw 87 rfl) (ow hw 100 rfl) (rm_tb16_2 l Z a0 hw [] b kc ch0 ch1 T4.heap n0 Z5 O5 f6 S_ad S_hi S_lo) hby d16_23 rfl pd_224 0 (by rw [hml]; rfl) rfl rfl rfl rfl (by decide) (by decide) fun _ T7 Lc7 X7 hQ7 => ?_
  obtain ⟨t7, kb7, rfl, N7q, K7q, g7t, V7q⟩ := hQ7
  have N7 := Fr.app N4 N7q
  have g_t7 : n0 ≤ t7 := nt Z5 g7t
  have sz_t7 : h0.size ≤ t7 := nt K5.1 g7t
  have Z8 := nt Z5 K7q.1
  have O8 := O5.keep K7q all0
  have K8 := K5.trans K7q all0
  refine gs (fun _ k => o_astore X7 hx hby d16_26 rfl rfl (o_aload X7 hx hby d16_28 rfl rfl (o_iload X7 hx hby d16_30 rfl k))) ?_
  refine cS (rest := []) X7 hx hZ hown (ow hw 114 rfl) (ow hw 115 rfl) (ow hw 87 rfl) (ow hw 116 rfl) (rm_gc20 l Z a0 hw [] t7 kb7 ch0 ch1 T7.heap n0 Z8 O8 V7q hc0 S_ad S_hi S_lo) hby d16_32 rfl pd_229 0 (by rw [hml]; rfl) rfl rfl rfl rfl (by decide) (by decide) fun _ T9 Lc9 X9 hQ9 => ?_
  obtain ⟨rfl, N9q, e9q⟩ := hQ9
  have N9 := Fr.app N7 N9q
  refine gs (fun _ k => XS.sipush X9.here hx rfl (hb hby d16_35) (o_icmpYes (pc' := 54) X9 hx hby d16_38 (tlt dq0).2.2.1 (o_aload X9 hx hby d16_54 rfl rfl k))) ?_
  refine gout (v := some (.ref t7)) X9 Bd.notSynchronized (fun h => by rw [Bd.returns] at h; cases h) (by decide) (by decide) ?_ (fun fs hr => retOut X9 hx Bd.returns rfl (Or.inr (Or.inr (Or.inr (Or.inr ⟨rfl, rfl, rfl⟩)))) (hb hby d16_56) hr)
  rw [e9q]
  exact ⟨_, _, rfl, N9, K8, sz_t7, V7q⟩
theorem ef_263 (m : MethodId) (x0 : Addr) (x1 : Addr) (x2 : Int32) (x3 : Int32) : entryFrame m #[(.ref x0), (.ref x1), (.int x2), (.int x3), .null] 6 = mkF m 0 #[.val (.ref x0), .val (.ref x1), .val (.int x2), .val (.int x3), .val .null, .unset] [] := by first | (simp [entryFrame, mkF, argsToLocals, Value.category]; done) | rfl
set_option maxRecDepth 65536 in
set_option maxHeartbeats 40000000 in
theorem rm_si4_20 (l : Launch) (Z : State) (a0 : Array Value) (hw : HW Z a0) (ws : List Jvm.Cond) (a : Addr) (b : Addr) (kc : ClassId) (ch0 : Int32) (ch1 : Int32) (z : Int32) (h0 : Heap) (n0 : Nat) (Z0 : n0 ≤ h0.size) (O0 : Old Z n0 h0) (E_a : Exa Z h0 a "java/lang/String") (F_v : Fld Z h0 a "java/lang/String" "value" "[B" .null) (F_c : Fld Z h0 a "java/lang/String" "coder" "B" (.int (0 : Int32))) (g_a : n0 ≤ a) (V_b : Arv Z h0 b kc .char (2 : Int32) [(.int ch0), (.int ch1)] (.int (0 : Int32))) (dq0 : (255 : Int32) < ch0) (hc0 : ¬ ch0 < 0 ∧ ¬ (65535 : Int32) < ch0) (hc1 : ¬ ch1 < 0 ∧ ¬ (65535 : Int32) < ch1) (S_ad : PS0 Z (.int (1 : Int32))) (S_hi : PS1 Z (.int (0 : Int32))) (S_lo : PS2 Z (.int (8 : Int32))) (S0 : PS3 Z (.int z)) (hz : ¬ z = 0) :
    Ctr l Z my3 jdk_42_method_149_code 6 ((Option.none : Option Jvm.ClassFile.FieldType)) ws (⟨4, 2, 6, 57⟩ : Room) #[(.ref a), (.ref b), (.int (0 : Int32)), (.int (2 : Int32)), .null] h0 (fun v h L => v = none ∧ Fr n0 L ∧ Keep h0 h [a] ∧ Str16 Z h a [ch0, ch1]) := by
  refine Ctr.go (plainFor_of_name pn_14) fun p e s m below meth c s₁ Bd hx hby hml hZ hown hnm X0 e0 => ?_
  have N0 := Fr.nil n0
  have K0 := Keep.refl h0 [a]
  refine gs (S' := s₁.setTop (mkF m 0 #[rv (a), rv (b), iv ((0 : Int32)), iv ((2 : Int32)), .val .null, uu] [])) (fun tg kg => castTop (ef_263 m a b (0 : Int32) (2 : Int32)) kg) ?_
  refine gs (fun _ k => o_aloadN X0 hx hby d0_0 rfl rfl k) ?_
  obtain ⟨T1, X1, e1, st1⟩ := initO X0 hx hZ hown (ow hw 16 rfl) (ow hw 17 rfl) (ow hw 18 rfl) e0 (g := (mkF m 1 #[rv (a), rv (b), iv ((0 : Int32)), iv ((2 : Int32)), .val .null, uu] [(.ref a)])) rfl (by rw [hml]; rfl) rfl (hb hby d0_1) (by decide) (W := 0) (own_w0 rfl) (by decide)
  refine gs (S' := T1.setTop (mkF m 4 #[rv (a), rv (b), iv ((0 : Int32)), iv ((2 : Int32)), .val .null, uu] [])) st1 ?_
  refine gs (fun _ k => o_iloadN X1 hx hby d0_4 rfl (o_ifYes (pc' := 27) X1 hx hby d0_5 ((if0 _ _).trans (feq (by decide : ¬ ((2 : Int32) = (0 : Int32)))).2) k)) ?_
  refine gS X1 hx hZ hown (host := "") (Or.inl (ow hw 30 rfl)) Via.refl e1 (S0.ext O0.2) hby d0_27 fun T2 X2 e2 => ?_
  refine gs (fun _ k => o_ifNo X2 hx hby d0_30 ((if0 _ _).trans (feq hz).1) (o_aloadN X2 hx hby d0_33 rfl rfl (o_iloadN X2 hx hby d0_34 rfl (o_iloadN X2 hx hby d0_35 rfl k)))) ?_
  refine cS (rest := []) X2 hx hZ hown (ow hw 85 rfl) (ow hw 86 rfl) (ow hw 87 rfl) (ow hw 88 rfl) (rm_cp3_20 l Z a0 hw [] b kc ch0 ch1 h0 n0 Z0 O0 V_b dq0 hc0 hc1 S_ad S_hi S_lo) hby d0_36 e2 pd_224 0 (by rw [hml]; rfl) rfl rfl rfl rfl (by decide) (by decide) fun _ T3 Lc3 X3 hQ3 => ?_
  obtain ⟨t3, kb3, rfl, N3q, K3q, g3t, V3q⟩ := hQ3
  have N3 := Fr.app N0 N3q
  have g_t3 : n0 ≤ t3 := nt Z0 g3t
  have sz_t3 : h0.size ≤ t3 := nt K0.1 g3t
  have Z4 := nt Z0 K3q.1
  have O4 := O0.keep K3q all0
  have K4 := K0.trans K3q all0
  refine gs (fun _ k => o_astore X3 hx hby d0_39 rfl rfl (o_aloadN X3 hx hby d0_41 rfl rfl (o_aload X3 hx hby d0_42 rfl rfl (o_iloadN X3 hx hby d0_44 rfl k)))) ?_
  refine cS (rest := [(.ref a)]) X3 hx hZ hown (ow hw 92 rfl) (ow hw 93 rfl) (ow hw 87 rfl) (ow hw 94 rfl) (rm_cfl2 l Z a0 hw [] t3 kb3 _ T3.heap n0 Z4 O4 V3q) hby d0_45 rfl pd_246 1 (by rw [hml]; rfl) rfl rfl rfl rfl (by decide) (by decide) fun _ T5 Lc5 X5 hQ5 => ?_
  obtain ⟨rfl, N5q, e5q⟩ := hQ5
  have N5 := Fr.app N3 N5q
  have f6 := (F_c.keep K3q nin0)
  have f7 := (E_a.keep K3q)
  obtain ⟨T8, h8, X8, e8, W8, st8⟩ := putFN X5 hx hZ hown (ow hw 26 rfl) Via.refl e5q f6 f7 (Or.inr ⟨(ow hw 22 rfl), rfl, hnm⟩) (ow hw 6 rfl) (ty := .byte) (v' := (.int (1 : Int32))) (by decide) rfl rfl (g := (mkF m 48 #[rv (a), rv (b), iv ((0 : Int32)), iv ((2 : Int32)), .val .null, rv (t3)] [(.int (1 : Int32)), (.ref a)])) rfl rfl (hb hby d0_48)
  have N8 := Fr.snoc X8 N5 g_a
  have Fw8 := f6.same W8
  have Z9 := nt Z4 (Keep.of_wr W8).1
  have O9 := O4.wr W8 g_a
  have K9 := K4.wr W8 (Or.inl (List.mem_of_getElem? (i := 0) rfl))
  refine gs (S' := T8.setTop (mkF m 51 #[rv (a), rv (b), iv ((0 : Int32)), iv ((2 : Int32)), .val .null, rv (t3)] [])) st8 ?_
  refine gs (fun _ k => o_aloadN X8 hx hby d0_51 rfl rfl (o_aload X8 hx hby d0_52 rfl rfl k)) ?_
  have f10 := ((F_v.keep K3q nin0).other W8 (Or.inr (slot_ne (Or.inr (ow hw 21 rfl)) (Or.inr (ow hw 22 rfl)) (by decide) (t := (.array .byte)) (t' := .byte) (by decide) (by decide))))
  have f11 := (f7.wr W8)
  obtain ⟨T12, h12, X12, e12, W12, st12⟩ := putF X8 hx hZ hown (host := "") (Or.inl (ow hw 25 rfl)) Via.refl e8 f10 f11 (Or.inr ⟨(ow hw 21 rfl), rfl, hnm⟩) (ow hw 6 rfl) (ty := (.array .byte)) (by decide) rfl rfl (g := (mkF m 54 #[rv (a), rv (b), iv ((0 : Int32)), iv ((2 : Int32)), .val .null, rv (t3)] [(.ref t3), (.ref a)])) rfl rfl (hb hby d0_54)
  have N12 := Fr.snoc X12 N8 g_a
  have Fw12 := f10.same W12
  have Z13 := nt Z9 (Keep.of_wr W12).1
  have O13 := O9.wr W12 g_a
  have K13 := K9.wr W12 (Or.inl (List.mem_of_getElem? (i := 0) rfl))
  refine gs (S' := T12.setTop (mkF m 57 #[rv (a), rv (b), iv ((0 : Int32)), iv ((2 : Int32)), .val .null, rv (t3)] [])) st12 ?_
  have f14 := (f11.wr W12)
  have f15 := (Fw8.other W12 (Or.inr (slot_ne (Or.inr (ow hw 22 rfl)) (Or.inr (ow hw 21 rfl)) (by decide) (t := .byte) (t' := (.array .byte)) (by decide) (by decide))))
  have f16 := ((V3q.other W8 (Ne.symm (nw (nu (nu E_a.lt (Nat.le_refl _)) g3t)))).other W12 (Ne.symm (nw (nu (nu E_a.lt (Nat.le_refl _)) g3t))))
  refine gout (v := none) X12 Bd.notSynchronized (fun _ => rfl) (by decide) (by decide) ?_ (fun fs hr => X12.returnOut hx Bd.returns (hb hby d0_57) hr)
  rw [e12]
  exact ⟨rfl, N12, K13, _, _, f14, f15, Fw12, f16⟩
theorem ef_264 (m : MethodId) (x0 : Addr) (x1 : Addr) : entryFrame m #[(.ref x0), (.ref x1)] 2 = mkF m 0 #[.val (.ref x0), .val (.ref x1)] [] := by first | (simp [entryFrame, mkF, argsToLocals, Value.category]; done) | rfl
set_option maxRecDepth 65536 in
set_option maxHeartbeats 40000000 in
theorem rm_si1_20 (l : Launch) (Z : State) (a0 : Array Value) (hw : HW Z a0) (ws : List Jvm.Cond) (a : Addr) (b : Addr) (kc : ClassId) (ch0 : Int32) (ch1 : Int32) (z : Int32) (h0 : Heap) (n0 : Nat) (Z0 : n0 ≤ h0.size) (O0 : Old Z n0 h0) (E_a : Exa Z h0 a "java/lang/String") (F_v : Fld Z h0 a "java/lang/String" "value" "[B" .null) (F_c : Fld Z h0 a "java/lang/String" "coder" "B" (.int (0 : Int32))) (g_a : n0 ≤ a) (V_b : Arv Z h0 b kc .char (2 : Int32) [(.int ch0), (.int ch1)] (.int (0 : Int32))) (dq0 : (255 : Int32) < ch0) (hc0 : ¬ ch0 < 0 ∧ ¬ (65535 : Int32) < ch0) (hc1 : ¬ ch1 < 0 ∧ ¬ (65535 : Int32) < ch1) (S_ad : PS0 Z (.int (1 : Int32))) (S_hi : PS1 Z (.int (0 : Int32))) (S_lo : PS2 Z (.int (8 : Int32))) (S0 : PS3 Z (.int z)) (hz : ¬ z = 0) :
    Ctr l Z my2 jdk_42_method_3_code 2 ((Option.none : Option Jvm.ClassFile.FieldType)) ws (⟨5, 2, 6, 74⟩ : Room) #[(.ref a), (.ref b)] h0 (fun v h L => v = none ∧ Fr n0 L ∧ Keep h0 h [a] ∧ Str16 Z h a [ch0, ch1]) := by
  refine Ctr.go (plainFor_of_name pn_14) fun p e s m below meth c s₁ Bd hx hby hml hZ hown hnm X0 e0 => ?_
  have N0 := Fr.nil n0
  have K0 := Keep.refl h0 [a]
  refine gs (S' := s₁.setTop (mkF m 0 #[rv (a), rv (b)] [])) (fun tg kg => castTop (ef_264 m a b) kg) ?_
  refine gs (fun _ k => o_aloadN X0 hx hby d1_0 rfl rfl (o_aloadN X0 hx hby d1_1 rfl rfl (o_iconst (v := (0 : Int32)) X0 hx hby d1_2 (o_aloadN X0 hx hby d1_3 rfl rfl k)))) ?_
  obtain ⟨cl1, A1, a1q, a1S, a1N, a1H, a1G⟩ := id V_b
  refine gs (S' := s₁.setTop (mkF m 5 #[rv (a), rv (b)] [(.int (2 : Int32)), (.int (0 : Int32)), (.ref b), (.ref a)])) (fun _ k => by refine X0.arraylength hx (by rw [e0]; exact A1.1) (State.isArrayOf_alike hZ.alike A1.2.1) (g := (mkF m 4 #[rv (a), rv (b)] [(.ref b), (.int (0 : Int32)), (.ref b), (.ref a)])) rfl rfl (hb hby d1_4) _ ?_; rw [len_of a1S a1N]; exact k) ?_
  refine gs (fun _ k => o_aconstNull X0 hx hby d1_5 k) ?_
  refine cI (rest := []) X0 hx hZ hown rfl (ow hw 12 rfl) (ow hw 13 rfl) (ow hw 7 rfl) (ow hw 15 rfl) (rm_si4_20 l Z a0 hw [] a b kc ch0 ch1 z h0 n0 Z0 O0 E_a F_v F_c g_a V_b dq0 hc0 hc1 S_ad S_hi S_lo S0 hz) hby d1_6 e0 pd_23 0 (by rw [hml]; rfl) rfl rfl rfl rfl (by decide) (by decide) fun _ T2 Lc2 X2 hQ2 => ?_
  obtain ⟨rfl, N2q, K2q, T2q⟩ := hQ2
  have N2 := Fr.app N0 N2q
  have Z3 := nt Z0 K2q.1
  have O3 := O0.keep K2q (allS g_a all0)
  have K3 := K0.trans K2q (allS (Or.inl (List.mem_of_getElem? (i := 0) rfl)) all0)
  refine gout (v := none) X2 Bd.notSynchronized (fun _ => rfl) (by decide) (by decide) ?_ (fun fs hr => X2.returnOut hx Bd.returns (hb hby d1_9) hr)
  exact ⟨rfl, N2, K3, T2q⟩
theorem ef_265 (m : MethodId) (x0 : Addr) (x1 : Int32) (x2 : Addr) (x3 : Int32) (x4 : Int32) : entryFrame m #[(.ref x0), (.int x1), (.ref x2), (.int x3), (.int x4)] 7 = mkF m 0 #[.val (.ref x0), .val (.int x1), .val (.ref x2), .val (.int x3), .val (.int x4), .unset, .unset] [] := by first | (simp [entryFrame, mkF, argsToLocals, Value.category]; done) | rfl
theorem d15_26 : decode jdk_52_method_21_code 26 = .ok (.aload_n 2, 1) := by decide +kernel
theorem d15_27 : decode jdk_52_method_21_code 27 = .ok (.iload_n 3, 1) := by decide +kernel
theorem d15_28 : decode jdk_52_method_21_code 28 = .ok (.iload 6, 2) := by decide +kernel
theorem d15_30 : decode jdk_52_method_21_code 30 = .ok (.i2b, 1) := by decide +kernel
theorem d15_31 : decode jdk_52_method_21_code 31 = .ok (.bastore, 1) := by decide +kernel
theorem d15_32 : decode jdk_52_method_21_code 32 = .ok (.iinc 1 1, 3) := by decide +kernel
theorem d15_35 : decode jdk_52_method_21_code 35 = .ok (.iinc 3 1, 3) := by decide +kernel
theorem d15_38 : decode jdk_52_method_21_code 38 = .ok (.iinc 5 1, 3) := by decide +kernel
theorem d15_41 : decode jdk_52_method_21_code 41 = .ok (.goto (-38), 3) := by decide +kernel
set_option maxRecDepth 65536 in
set_option maxHeartbeats 40000000 in
theorem rm_cp5_21 (l : Launch) (Z : State) (a0 : Array Value) (hw : HW Z a0) (ws : List Jvm.Cond) (b : Addr) (kc : ClassId) (t : Addr) (kb : ClassId) (ch0 : Int32) (ch1 : Int32) (h0 : Heap) (n0 : Nat) (Z0 : n0 ≤ h0.size) (O0 : Old Z n0 h0) (V_b : Arv Z h0 b kc .char (2 : Int32) [(.int ch0), (.int ch1)] (.int (0 : Int32))) (V_t : Arv Z h0 t kb .byte (2 : Int32) [(.int (0 : Int32)), (.int (0 : Int32))] (.int (0 : Int32))) (g_t : n0 ≤ t) (hbt : b ≠ t) (dq0 : ¬ (255 : Int32) < ch0) (dq1 : (255 : Int32) < ch1) :
    Ctr l Z my8 jdk_52_method_21_code 7 ((Option.some Jvm.ClassFile.FieldType.int)) ws (⟨0, 0, 0, 0⟩ : Room) #[(.ref b), (.int (0 : Int32)), (.ref t), (.int (0 : Int32)), (.int (2 : Int32))] h0 (fun v h L => v = some (.int (1 : Int32)) ∧ Fr n0 L ∧ Keep h0 h [t]) := by
  refine Ctr.go (plainFor_of_name pn_117) fun p e s m below meth c s₁ Bd hx hby hml hZ hown hnm X0 e0 => ?_
  have N0 := Fr.nil n0
  have K0 := Keep.refl h0 [t]
  refine gs (S' := s₁.setTop (mkF m 0 #[rv (b), iv ((0 : Int32)), rv (t), iv ((0 : Int32)), iv ((2 : Int32)), uu, uu] [])) (fun tg kg => castTop (ef_265 m b (0 : Int32) t (0 : Int32) (2 : Int32)) kg) ?_
  refine gs (fun _ k => o_iconst (v := (0 : Int32)) X0 hx hby d15_0 (o_istore X0 hx hby d15_1 rfl (o_iload X0 hx hby d15_3 rfl (o_iload X0 hx hby d15_5 rfl (o_icmpNo X0 hx hby d15_7 (tlt (by decide : (0 : Int32) < (2 : Int32))).2.1 (o_aloadN X0 hx hby d15_10 rfl rfl (o_iloadN X0 hx hby d15_11 rfl k))))))) ?_
  obtain ⟨cl1, A1, a1q, a1S, a1N, a1H, a1G⟩ := id V_b
  have hi1 := inb_of a1S (j := (0 : Int32)) ⟨by decide, by decide⟩
  refine gs (fun _ k => X0.caload hx (j := (0 : Int32)) (v := (.int ch0)) (by rw [e0]; exact A1.1) (State.isArrayOf_alike hZ.alike A1.2.1) A1.2.2 hi1 (Has.at a1H hi1 rfl) (g := (mkF m 12 #[rv (b), iv ((0 : Int32)), rv (t), iv ((0 : Int32)), iv ((2 : Int32)), iv ((0 : Int32)), uu] [(.int (0 : Int32)), (.ref b)])) rfl rfl (hb hby d15_12) _ (o_istore X0 hx hby d15_13 rfl (o_iload X0 hx hby d15_15 rfl (XS.sipush X0.here hx rfl (hb hby d15_17) (o_icmpYes (pc' := 26) X0 hx hby d15_20 (flt dq0).2.2.2 (o_aloadN X0 hx hby d15_26 rfl rfl (o_iloadN X0 hx hby d15_27 rfl (o_iload X0 hx hby d15_28 rfl (o_i2b X0 hx hby d15_30 k))))))))) ?_
  obtain ⟨cl2, A2, a2q, a2S, a2N, a2H, a2G⟩ := id V_t
  obtain ⟨T2, h2, X2, e2, W2, st2⟩ := stB X0 hx hZ e0 A2 (j := (0 : Int32)) (inb_of a2S ⟨by decide, by decide⟩) (g := (mkF m 31 #[rv (b), iv ((0 : Int32)), rv (t), iv ((0 : Int32)), iv ((2 : Int32)), iv ((0 : Int32)), iv (ch0)] [(.int (ch0.toInt8.toInt32)), (.int (0 : Int32)), (.ref t)])) rfl rfl (hb hby d15_31)
  have V2 : Arv Z h2 t kb .byte (2 : Int32) [(.int (nar .byte (ch0.toInt8.toInt32))), (.int (0 : Int32))] (.int (0 : Int32)) := Arv.set A2 a2q a2S a2N a2H a2G (fits_nar_byte _) W2 0 rfl (nb rfl)
  have N2 := Fr.snoc X2 N0 g_t
  have Z3 := nt Z0 (Keep.of_wr W2).1
  have O3 := O0.wr W2 g_t
  have K3 := K0.wr W2 (Or.inl (List.mem_of_getElem? (i := 0) rfl))
  refine gs (S' := T2.setTop (mkF m 32 #[rv (b), iv ((0 : Int32)), rv (t), iv ((0 : Int32)), iv ((2 : Int32)), iv ((0 : Int32)), iv (ch0)] [])) st2 ?_
  refine gs (fun _ k => o_iinc X2 hx hby d15_32 rfl rfl (o_iinc X2 hx hby d15_35 rfl rfl (o_iinc X2 hx hby d15_38 rfl rfl (o_goto (pc' := 3) X2 hx hby d15_41 (o_iload X2 hx hby d15_3 rfl (o_iload X2 hx hby d15_5 rfl (o_icmpNo X2 hx hby d15_7 (tlt (by decide : (1 : Int32) < (2 : Int32))).2.1 (o_aloadN X2 hx hby d15_10 rfl rfl (o_iloadN X2 hx hby d15_11 rfl k))))))))) ?_
  have f4 := (V_b.other W2 hbt)
  obtain ⟨cl5, A5, a5q, a5S, a5N, a5H, a5G⟩ := id f4
  have hi5 := inb_of a5S (j := (1 : Int32)) ⟨by decide, by decide⟩
  refine gs (fun _ k => X2.caload hx (j := (1 : Int32)) (v := (.int ch1)) (by rw [e2]; exact A5.1) (State.isArrayOf_alike hZ.alike A5.2.1) A5.2.2 hi5 (Has.at a5H hi5 rfl) (g := (mkF m 12 #[rv (b), iv ((1 : Int32)), rv (t), iv ((1 : Int32)), iv ((2 : Int32)), iv ((1 : Int32)), iv (ch0)] [(.int (1 : Int32)), (.ref b)])) rfl rfl (hb hby d15_12) _ (o_istore X2 hx hby d15_13 rfl (o_iload X2 hx hby d15_15 rfl (XS.sipush X2.here hx rfl (hb hby d15_17) (o_icmpNo X2 hx hby d15_20 (tlt dq1).2.2.2 (o_iload X2 hx hby d15_23 rfl k)))))) ?_
  refine gout (v := some (.int (1 : Int32))) X2 Bd.notSynchronized (fun h => by rw [Bd.returns] at h; cases h) (by decide) (by decide) ?_ (fun fs hr => retI X2 hx Bd.returns (hb hby d15_25) hr)
  rw [e2]
  exact ⟨rfl, N2, K3⟩
theorem ef_275 (m : MethodId) (x0 : Addr) (x1 : Int32) (x2 : Int32) : entryFrame m #[(.ref x0), (.int x1), (.int x2)] 6 = mkF m 0 #[.val (.ref x0), .val (.int x1), .val (.int x2), .unset, .unset, .unset] [] := by first | (simp [entryFrame, mkF, argsToLocals, Value.category]; done) | rfl
set_option maxRecDepth 65536 in
set_option maxHeartbeats 40000000 in
theorem rm_cp3_21 (l : Launch) (Z : State) (a0 : Array Value) (hw : HW Z a0) (ws : List Jvm.Cond) (b : Addr) (kc : ClassId) (ch0 : Int32) (ch1 : Int32) (h0 : Heap) (n0 : Nat) (Z0 : n0 ≤ h0.size) (O0 : Old Z n0 h0) (V_b : Arv Z h0 b kc .char (2 : Int32) [(.int ch0), (.int ch1)] (.int (0 : Int32))) (dq0 : ¬ (255 : Int32) < ch0) (dq1 : (255 : Int32) < ch1) (hc0 : ¬ ch0 < 0 ∧ ¬ (65535 : Int32) < ch0) (hc1 : ¬ ch1 < 0 ∧ ¬ (65535 : Int32) < ch1) (S_ad : PS0 Z (.int (1 : Int32))) (S_hi : PS1 Z (.int (0 : Int32))) (S_lo : PS2 Z (.int (8 : Int32))) :
    Ctr l Z my9 jdk_52_method_16_code 6 ((Option.some (Jvm.ClassFile.FieldType.array Jvm.ClassFile.FieldType.byte))) ws (⟨3, 2, 6, 40⟩ : Room) #[(.ref b), (.int (0 : Int32)), (.int (2 : Int32))] h0 (fun v h L => ∃ (t : Addr) (kb : ClassId), v = some (.ref t) ∧ Fr n0 L ∧ Keep h0 h [] ∧ h0.size ≤ t ∧ Arv Z h t kb .byte (4 : Int32) [(.int (own_b0 ch0)), (.int (own_b1 ch0)), (.int (own_b0 ch1)), (.int (own_b1 ch1))] (.int (0 : Int32))) := by
  refine Ctr.go (plainFor_of_name pn_117) fun p e s m below meth c s₁ Bd hx hby hml hZ hown hnm X0 e0 => ?_
  have N0 := Fr.nil n0
  have K0 := Keep.refl h0 []
  refine gs (S' := s₁.setTop (mkF m 0 #[rv (b), iv ((0 : Int32)), iv ((2 : Int32)), uu, uu, uu] [])) (fun tg kg => castTop (ef_275 m b (0 : Int32) (2 : Int32)) kg) ?_
  refine gs (fun _ k => o_iloadN X0 hx hby d16_0 rfl k) ?_
  obtain ⟨T1, h1, k1, X1, e1, E1, A1, st1⟩ := newP X0 hx hZ (ow hw 20 rfl) e0 (g := (mkF m 1 #[rv (b), iv ((0 : Int32)), iv ((2 : Int32)), uu, uu, uu] [(.int (2 : Int32))])) rfl (hb hby d16_1) rfl (by decide) (cap := 2) (by decide) (by decide) (by decide) (by decide)
  obtain ⟨b1, q1⟩ : ∃ z, z = h0.size := ⟨_, rfl⟩
  rw [← q1] at A1 st1
  have g_b1 : n0 ≤ b1 := nt Z0 (Nat.le_of_eq q1.symm)
  have sz_b1 : h0.size ≤ b1 := nt K0.1 (Nat.le_of_eq q1.symm)
  have Z2 := nt Z0 E1.1
  have O2 := O0.ext E1
  have K2 := K0.ext E1
  have V1 : Arv Z h1 b1 k1 .byte (2 : Int32) [(.int (0 : Int32)), (.int (0 : Int32))] (.int (0 : Int32)) := (Arv.new A1 (by decide)).pad (pad_rep [] (.int (0 : Int32)) 2)
  refine gs (S' := T1.setTop (mkF m 3 #[rv (b), iv ((0 : Int32)), iv ((2 : Int32)), uu, uu, uu] [(.ref b1)])) st1 ?_
  refine gs (fun _ k => o_astoreN X1 hx hby d16_3 rfl rfl (o_aloadN X1 hx hby d16_4 rfl rfl (o_iloadN X1 hx hby d16_5 rfl (o_aloadN X1 hx hby d16_6 rfl rfl (o_iconst (v := (0 : Int32)) X1 hx hby d16_7 (o_iloadN X1 hx hby d16_8 rfl k)))))) ?_
  have f3 := (V_b.ext E1)
  refine cS (rest := []) X1 hx hZ hown (ow hw 89 rfl) (ow hw 90 rfl) (ow hw 87 rfl) (ow hw 91 rfl) (rm_cp5_21 l Z a0 hw [] b kc b1 k1 ch0 ch1 h1 n0 Z2 O2 f3 V1 g_b1 (nw (nu (nu V_b.lt (Nat.le_refl _)) (Nat.le_of_eq q1.symm))) dq0 dq1) hby d16_9 e1 pd_215 0 (by rw [hml]; rfl) rfl rfl rfl rfl (by decide) (by decide) fun _ T4 Lc4 X4 hQ4 => ?_
  obtain ⟨rfl, N4q, K4q⟩ := hQ4
  have N4 := Fr.app N0 N4q
  have Z5 := nt Z2 K4q.1
  have O5 := O2.keep K4q (allS g_b1 all0)
  have K5 := K2.trans K4q (allS (Or.inr sz_b1) all0)
  refine gs (fun _ k => o_istore X4 hx hby d16_12 rfl (o_iload X4 hx hby d16_14 rfl (o_iloadN X4 hx hby d16_16 rfl (o_icmpNo X4 hx hby d16_17 (feq (by decide : ¬ ((1 : Int32) = (2 : Int32)))).1 (o_aloadN X4 hx hby d16_20 rfl rfl (o_iloadN X4 hx hby d16_21 rfl (o_iloadN X4 hx hby d16_22 rfl k))))))) ?_
  have f6 := (f3.keep K4q (ninS (nw (nu (nu V_b.lt (Nat.le_refl _)) (Nat.le_of_eq q1.symm))) nin0))
  refine cS (rest := []) X4 hx hZ hown (ow hw 98 rfl) (ow hw 99 rfl) (ow hw 87 rfl) (ow hw 100 rfl) (rm_tb16_2 l Z a0 hw [] b kc ch0 ch1 T4.heap n0 Z5 O5 f6 S_ad S_hi S_lo) hby d16_23 rfl pd_224 0 (by rw [hml]; rfl) rfl rfl rfl rfl (by decide) (by decide) fun _ T7 Lc7 X7 hQ7 => ?_
  obtain ⟨t7, kb7, rfl, N7q, K7q, g7t, V7q⟩ := hQ7
  have N7 := Fr.app N4 N7q
  have g_t7 : n0 ≤ t7 := nt Z5 g7t
  have sz_t7 : h0.size ≤ t7 := nt K5.1 g7t
  have Z8 := nt Z5 K7q.1
  have O8 := O5.keep K7q all0
  have K8 := K5.trans K7q all0
  refine gs (fun _ k => o_astore X7 hx hby d16_26 rfl rfl (o_aload X7 hx hby d16_28 rfl rfl (o_iload X7 hx hby d16_30 rfl k))) ?_
  refine cS (rest := []) X7 hx hZ hown (ow hw 114 rfl) (ow hw 115 rfl) (ow hw 87 rfl) (ow hw 116 rfl) (rm_gc21 l Z a0 hw [] t7 kb7 ch0 ch1 T7.heap n0 Z8 O8 V7q hc1 S_ad S_hi S_lo) hby d16_32 rfl pd_229 0 (by rw [hml]; rfl) rfl rfl rfl rfl (by decide) (by decide) fun _ T9 Lc9 X9 hQ9 => ?_
  obtain ⟨rfl, N9q, e9q⟩ := hQ9
  have N9 := Fr.app N7 N9q
  refine gs (fun _ k => XS.sipush X9.here hx rfl (hb hby d16_35) (o_icmpYes (pc' := 54) X9 hx hby d16_38 (tlt dq1).2.2.1 (o_aload X9 hx hby d16_54 rfl rfl k))) ?_
  refine gout (v := some (.ref t7)) X9 Bd.notSynchronized (fun h => by rw [Bd.returns] at h; cases h) (by decide) (by decide) ?_ (fun fs hr => retOut X9 hx Bd.returns rfl (Or.inr (Or.inr (Or.inr (Or.inr ⟨rfl, rfl, rfl⟩)))) (hb hby d16_56) hr)
  rw [e9q]
  exact ⟨_, _, rfl, N9, K8, sz_t7, V7q⟩
theorem ef_276 (m : MethodId) (x0 : Addr) (x1 : Addr) (x2 : Int32) (x3 : Int32) : entryFrame m #[(.ref x0), (.ref x1), (.int x2), (.int x3), .null] 6 = mkF m 0 #[.val (.ref x0), .val (.ref x1), .val (.int x2), .val (.int x3), .val .null, .unset] [] := by first | (simp [entryFrame, mkF, argsToLocals, Value.category]; done) | rfl
set_option maxRecDepth 65536 in
set_option maxHeartbeats 40000000 in
theorem rm_si4_21 (l : Launch) (Z : State) (a0 : Array Value) (hw : HW Z a0) (ws : List Jvm.Cond) (a : Addr) (b : Addr) (kc : ClassId) (ch0 : Int32) (ch1 : Int32) (z : Int32) (h0 : Heap) (n0 : Nat) (Z0 : n0 ≤ h0.size) (O0 : Old Z n0 h0) (E_a : Exa Z h0 a "java/lang/String") (F_v : Fld Z h0 a "java/lang/String" "value" "[B" .null) (F_c : Fld Z h0 a "java/lang/String" "coder" "B" (.int (0 : Int32))) (g_a : n0 ≤ a) (V_b : Arv Z h0 b kc .char (2 : Int32) [(.int ch0), (.int ch1)] (.int (0 : Int32))) (dq0 : ¬ (255 : Int32) < ch0) (dq1 : (255 : Int32) < ch1) (hc0 : ¬ ch0 < 0 ∧ ¬ (65535 : Int32) < ch0) (hc1 : ¬ ch1 < 0 ∧ ¬ (65535 : Int32) < ch1) (S_ad : PS0 Z (.int (1 : Int32))) (S_hi : PS1 Z (.int (0 : Int32))) (S_lo : PS2 Z (.int (8 : Int32))) (S0 : PS3 Z (.int z)) (hz : ¬ z = 0) :
    Ctr l Z my3 jdk_42_method_149_code 6 ((Option.none : Option Jvm.ClassFile.FieldType)) ws (⟨4, 2, 6, 57⟩ : Room) #[(.ref a), (.ref b), (.int (0 : Int32)), (.int (2 : Int32)), .null] h0 (fun v h L => v = none ∧ Fr n0 L ∧ Keep h0 h [a] ∧ Str16 Z h a [ch0, ch1]) := by
  refine Ctr.go (plainFor_of_name pn_14) fun p e s m below meth c s₁ Bd hx hby hml hZ hown hnm X0 e0 => ?_
  have N0 := Fr.nil n0
  have K0 := Keep.refl h0 [a]
  refine gs (S' := s₁.setTop (mkF m 0 #[rv (a), rv (b), iv ((0 : Int32)), iv ((2 : Int32)), .val .null, uu] [])) (fun tg kg => castTop (ef_276 m a b (0 : Int32) (2 : Int32)) kg) ?_
  refine gs (fun _ k => o_aloadN X0 hx hby d0_0 rfl rfl k) ?_
  obtain ⟨T1, X1, e1, st1⟩ := initO X0 hx hZ hown (ow hw 16 rfl) (ow hw 17 rfl) (ow hw 18 rfl) e0 (g := (mkF m 1 #[rv (a), rv (b), iv ((0 : Int32)), iv ((2 : Int32)), .val .null, uu] [(.ref a)])) rfl (by rw [hml]; rfl) rfl (hb hby d0_1) (by decide) (W := 0) (own_w0 rfl) (by decide)
  refine gs (S' := T1.setTop (mkF m 4 #[rv (a), rv (b), iv ((0 : Int32)), iv ((2 : Int32)), .val .null, uu] [])) st1 ?_
  refine gs (fun _ k => o_iloadN X1 hx hby d0_4 rfl (o_ifYes (pc' := 27) X1 hx hby d0_5 ((if0 _ _).trans (feq (by decide : ¬ ((2 : Int32) = (0 : Int32)))).2) k)) ?_
  refine gS X1 hx hZ hown (host := "") (Or.inl (ow hw 30 rfl)) Via.refl e1 (S0.ext O0.2) hby d0_27 fun T2 X2 e2 => ?_
  refine gs (fun _ k => o_ifNo X2 hx hby d0_30 ((if0 _ _).trans (feq hz).1) (o_aloadN X2 hx hby d0_33 rfl rfl (o_iloadN X2 hx hby d0_34 rfl (o_iloadN X2 hx hby d0_35 rfl k)))) ?_
  refine cS (rest := []) X2 hx hZ hown (ow hw 85 rfl) (ow hw 86 rfl) (ow hw 87 rfl) (ow hw 88 rfl) (rm_cp3_21 l Z a0 hw [] b kc ch0 ch1 h0 n0 Z0 O0 V_b dq0 dq1 hc0 hc1 S_ad S_hi S_lo) hby d0_36 e2 pd_224 0 (by rw [hml]; rfl) rfl rfl rfl rfl (by decide) (by decide) fun _ T3 Lc3 X3 hQ3 => ?_
  obtain ⟨t3, kb3, rfl, N3q, K3q, g3t, V3q⟩ := hQ3
  have N3 := Fr.app N0 N3q
  have g_t3 : n0 ≤ t3 := nt Z0 g3t
  have sz_t3 : h0.size ≤ t3 := nt K0.1 g3t
  have Z4 := nt Z0 K3q.1
  have O4 := O0.keep K3q all0
  have K4 := K0.trans K3q all0
  refine gs (fun _ k => o_astore X3 hx hby d0_39 rfl rfl (o_aloadN X3 hx hby d0_41 rfl rfl (o_aload X3 hx hby d0_42 rfl rfl (o_iloadN X3 hx hby d0_44 rfl k)))) ?_
  refine cS (rest := [(.ref a)]) X3 hx hZ hown (ow hw 92 rfl) (ow hw 93 rfl) (ow hw 87 rfl) (ow hw 94 rfl) (rm_cfl2 l Z a0 hw [] t3 kb3 _ T3.heap n0 Z4 O4 V3q) hby d0_45 rfl pd_246 1 (by rw [hml]; rfl) rfl rfl rfl rfl (by decide) (by decide) fun _ T5 Lc5 X5 hQ5 => ?_
  obtain ⟨rfl, N5q, e5q⟩ := hQ5
  have N5 := Fr.app N3 N5q
  have f6 := (F_c.keep K3q nin0)
  have f7 := (E_a.keep K3q)
  obtain ⟨T8, h8, X8, e8, W8, st8⟩ := putFN X5 hx hZ hown (ow hw 26 rfl) Via.refl e5q f6 f7 (Or.inr ⟨(ow hw 22 rfl), rfl, hnm⟩) (ow hw 6 rfl) (ty := .byte) (v' := (.int (1 : Int32))) (by decide) rfl rfl (g := (mkF m 48 #[rv (a), rv (b), iv ((0 : Int32)), iv ((2 : Int32)), .val .null, rv (t3)] [(.int (1 : Int32)), (.ref a)])) rfl rfl (hb hby d0_48)
  have N8 := Fr.snoc X8 N5 g_a
  have Fw8 := f6.same W8
  have Z9 := nt Z4 (Keep.of_wr W8).1
  have O9 := O4.wr W8 g_a
  have K9 := K4.wr W8 (Or.inl (List.mem_of_getElem? (i := 0) rfl))
  refine gs (S' := T8.setTop (mkF m 51 #[rv (a), rv (b), iv ((0 : Int32)), iv ((2 : Int32)), .val .null, rv (t3)] [])) st8 ?_
  refine gs (fun _ k => o_aloadN X8 hx hby d0_51 rfl rfl (o_aload X8 hx hby d0_52 rfl rfl k)) ?_
  have f10 := ((F_v.keep K3q nin0).other W8 (Or.inr (slot_ne (Or.inr (ow hw 21 rfl)) (Or.inr (ow hw 22 rfl)) (by decide) (t := (.array .byte)) (t' := .byte) (by decide) (by decide))))
  have f11 := (f7.wr W8)
  obtain ⟨T12, h12, X12, e12, W12, st12⟩ := putF X8 hx hZ hown (host := "") (Or.inl (ow hw 25 rfl)) Via.refl e8 f10 f11 (Or.inr ⟨(ow hw 21 rfl), rfl, hnm⟩) (ow hw 6 rfl) (ty := (.array .byte)) (by decide) rfl rfl (g := (mkF m 54 #[rv (a), rv (b), iv ((0 : Int32)), iv ((2 : Int32)), .val .null, rv (t3)] [(.ref t3), (.ref a)])) rfl rfl (hb hby d0_54)
  have N12 := Fr.snoc X12 N8 g_a
  have Fw12 := f10.same W12
  have Z13 := nt Z9 (Keep.of_wr W12).1
  have O13 := O9.wr W12 g_a
  have K13 := K9.wr W12 (Or.inl (List.mem_of_getElem? (i := 0) rfl))
  refine gs (S' := T12.setTop (mkF m 57 #[rv (a), rv (b), iv ((0 : Int32)), iv ((2 : Int32)), .val .null, rv (t3)] [])) st12 ?_
  have f14 := (f11.wr W12)
  have f15 := (Fw8.other W12 (Or.inr (slot_ne (Or.inr (ow hw 22 rfl)) (Or.inr (ow hw 21 rfl)) (by decide) (t := .byte) (t' := (.array .byte)) (by decide) (by decide))))
  have f16 := ((V3q.other W8 (Ne.symm (nw (nu (nu E_a.lt (Nat.le_refl _)) g3t)))).other W12 (Ne.symm (nw (nu (nu E_a.lt (Nat.le_refl _)) g3t))))
  refine gout (v := none) X12 Bd.notSynchronized (fun _ => rfl) (by decide) (by decide) ?_ (fun fs hr => X12.returnOut hx Bd.returns (hb hby d0_57) hr)
  rw [e12]
  exact ⟨rfl, N12, K13, _, _, f14, f15, Fw12, f16⟩
theorem ef_277 (m : MethodId) (x0 : Addr) (x1 : Addr) : entryFrame m #[(.ref x0), (.ref x1)] 2 = mkF m 0 #[.val (.ref x0), .val (.ref x1)] [] := by first | (simp [entryFrame, mkF, argsToLocals, Value.category]; done) | rfl
set_option maxRecDepth 65536 in
set_option maxHeartbeats 40000000 in
theorem rm_si1_21 (l : Launch) (Z : State) (a0 : Array Value) (hw : HW Z a0) (ws : List Jvm.Cond) (a : Addr) (b : Addr) (kc : ClassId) (ch0 : Int32) (ch1 : Int32) (z : Int32) (h0 : Heap) (n0 : Nat) (Z0 : n0 ≤ h0.size) (O0 : Old Z n0 h0) (E_a : Exa Z h0 a "java/lang/String") (F_v : Fld Z h0 a "java/lang/String" "value" "[B" .null) (F_c : Fld Z h0 a "java/lang/String" "coder" "B" (.int (0 : Int32))) (g_a : n0 ≤ a) (V_b : Arv Z h0 b kc .char (2 : Int32) [(.int ch0), (.int ch1)] (.int (0 : Int32))) (dq0 : ¬ (255 : Int32) < ch0) (dq1 : (255 : Int32) < ch1) (hc0 : ¬ ch0 < 0 ∧ ¬ (65535 : Int32) < ch0) (hc1 : ¬ ch1 < 0 ∧ ¬ (65535 : Int32) < ch1) (S_ad : PS0 Z (.int (1 : Int32))) (S_hi : PS1 Z (.int (0 : Int32))) (S_lo : PS2 Z (.int (8 : Int32))) (S0 : PS3 Z (.int z)) (hz : ¬ z = 0) :
    Ctr l Z my2 jdk_42_method_3_code 2 ((Option.none : Option Jvm.ClassFile.FieldType)) ws (⟨5, 2, 6, 74⟩ : Room) #[(.ref a), (.ref b)] h0 (fun v h L => v = none ∧ Fr n0 L ∧ Keep h0 h [a] ∧ Str16 Z h a [ch0, ch1]) := by
  refine Ctr.go (plainFor_of_name pn_14) fun p e s m below meth c s₁ Bd hx hby hml hZ hown hnm X0 e0 => ?_
  have N0 := Fr.nil n0
  have K0 := Keep.refl h0 [a]
  refine gs (S' := s₁.setTop (mkF m 0 #[rv (a), rv (b)] [])) (fun tg kg => castTop (ef_277 m a b) kg) ?_
  refine gs (fun _ k => o_aloadN X0 hx hby d1_0 rfl rfl (o_aloadN X0 hx hby d1_1 rfl rfl (o_iconst (v := (0 : Int32)) X0 hx hby d1_2 (o_aloadN X0 hx hby d1_3 rfl rfl k)))) ?_
  obtain ⟨cl1, A1, a1q, a1S, a1N, a1H, a1G⟩ := id V_b
  refine gs (S' := s₁.setTop (mkF m 5 #[rv (a), rv (b)] [(.int (2 : Int32)), (.int (0 : Int32)), (.ref b), (.ref a)])) (fun _ k => by refine X0.arraylength hx (by rw [e0]; exact A1.1) (State.isArrayOf_alike hZ.alike A1.2.1) (g := (mkF m 4 #[rv (a), rv (b)] [(.ref b), (.int (0 : Int32)), (.ref b), (.ref a)])) rfl rfl (hb hby d1_4) _ ?_; rw [len_of a1S a1N]; exact k) ?_
  refine gs (fun _ k => o_aconstNull X0 hx hby d1_5 k) ?_
  refine cI (rest := []) X0 hx hZ hown rfl (ow hw 12 rfl) (ow hw 13 rfl) (ow hw 7 rfl) (ow hw 15 rfl) (rm_si4_21 l Z a0 hw [] a b kc ch0 ch1 z h0 n0 Z0 O0 E_a F_v F_c g_a V_b dq0 dq1 hc0 hc1 S_ad S_hi S_lo S0 hz) hby d1_6 e0 pd_23 0 (by rw [hml]; rfl) rfl rfl rfl rfl (by decide) (by decide) fun _ T2 Lc2 X2 hQ2 => ?_
  obtain ⟨rfl, N2q, K2q, T2q⟩ := hQ2
  have N2 := Fr.app N0 N2q
  have Z3 := nt Z0 K2q.1
  have O3 := O0.keep K2q (allS g_a all0)
  have K3 := K0.trans K2q (allS (Or.inl (List.mem_of_getElem? (i := 0) rfl)) all0)
  refine gout (v := none) X2 Bd.notSynchronized (fun _ => rfl) (by decide) (by decide) ?_ (fun fs hr => X2.returnOut hx Bd.returns (hb hby d1_9) hr)
  exact ⟨rfl, N2, K3, T2q⟩
theorem ef_278 (m : MethodId) (x0 : Addr) (x1 : Int32) (x2 : Int32) : entryFrame m #[(.ref x0), (.int x1), (.int x2)] 3 = mkF m 0 #[.val (.ref x0), .val (.int x1), .val (.int x2)] [] := by first | (simp [entryFrame, mkF, argsToLocals, Value.category]; done) | rfl
set_option maxRecDepth 65536 in
set_option maxHeartbeats 40000000 in
theorem rm_pc30 (l : Launch) (Z : State) (a0 : Array Value) (hw : HW Z a0) (ws : List Jvm.Cond) (t : Addr) (kb : ClassId) (cc : Int32) (v0 : Int32) (v1 : Int32) (v2 : Int32) (v3 : Int32) (v4 : Int32) (v5 : Int32) (h0 : Heap) (n0 : Nat) (Z0 : n0 ≤ h0.size) (O0 : Old Z n0 h0) (V_t : Arv Z h0 t kb .byte (6 : Int32) [(.int v0), (.int v1), (.int v2), (.int v3), (.int v4), (.int v5)] (.int (0 : Int32))) (g_t : n0 ≤ t) (S_ad : PS0 Z (.int (1 : Int32))) (S_hi : PS1 Z (.int (0 : Int32))) (S_lo : PS2 Z (.int (8 : Int32))) :
    Ctr l Z my6 jdk_52_method_4_code 3 ((Option.none : Option Jvm.ClassFile.FieldType)) ws (⟨0, 0, 0, 0⟩ : Room) #[(.ref t), (.int (0 : Int32)), (.int cc)] h0 (fun v h L => v = none ∧ Fr n0 L ∧ Keep h0 h [t] ∧ Arv Z h t kb .byte (6 : Int32) [(.int (own_b0 cc)), (.int (own_b1 cc)), (.int v2), (.int v3), (.int v4), (.int v5)] (.int (0 : Int32))) := by
  refine Ctr.go (plainFor_of_name pn_117) fun p e s m below meth c s₁ Bd hx hby hml hZ hown hnm X0 e0 => ?_
  have N0 := Fr.nil n0
  have K0 := Keep.refl h0 [t]
  refine gs (S' := s₁.setTop (mkF m 0 #[rv (t), iv ((0 : Int32)), iv (cc)] [])) (fun tg kg => castTop (ef_278 m t (0 : Int32) cc) kg) ?_
  refine gS X0 hx hZ hown (host := "") (Or.inl (ow hw 111 rfl)) Via.refl e0 (S_ad.ext O0.2) hby d9_0 fun T1 X1 e1 => ?_
  refine gs (fun _ k => o_ifYes (pc' := 28) X1 hx hby d9_3 ((if0 _ _).trans (feq (by decide : ¬ ((1 : Int32) = (0 : Int32)))).2) (o_iloadN X1 hx hby d9_28 rfl (o_iconst (v := (1 : Int32)) X1 hx hby d9_29 (o_ishl X1 hx hby d9_30 (o_istoreN X1 hx hby d9_31 rfl (o_aloadN X1 hx hby d9_32 rfl rfl (o_iloadN X1 hx hby d9_33 rfl (o_iinc X1 hx hby d9_34 rfl rfl (o_iloadN X1 hx hby d9_37 rfl k))))))))) ?_
  refine gS X1 hx hZ hown (host := "") (Or.inl (ow hw 112 rfl)) Via.refl e1 (S_hi.ext O0.2) hby d9_38 fun T2 X2 e2 => ?_
  refine gs (fun _ k => o_ishr X2 hx hby d9_41 (o_i2b X2 hx hby d9_42 k)) ?_
  obtain ⟨cl3, A3, a3q, a3S, a3N, a3H, a3G⟩ := id V_t
  obtain ⟨T3, h3, X3, e3, W3, st3⟩ := stB X2 hx hZ e2 A3 (j := (0 : Int32)) (inb_of a3S ⟨by decide, by decide⟩) (g := (mkF m 43 #[rv (t), iv ((1 : Int32)), iv (cc)] [(.int ((cc >>> ((0 : Int32) &&& 31)).toInt8.toInt32)), (.int (0 : Int32)), (.ref t)])) rfl rfl (hb hby d9_43)
  have V3 : Arv Z h3 t kb .byte (6 : Int32) [(.int (nar .byte ((cc >>> ((0 : Int32) &&& 31)).toInt8.toInt32))), (.int v1), (.int v2), (.int v3), (.int v4), (.int v5)] (.int (0 : Int32)) := Arv.set A3 a3q a3S a3N a3H a3G (fits_nar_byte _) W3 0 rfl (nb rfl)
  have N3 := Fr.snoc X3 N0 g_t
  have Z4 := nt Z0 (Keep.of_wr W3).1
  have O4 := O0.wr W3 g_t
  have K4 := K0.wr W3 (Or.inl (List.mem_of_getElem? (i := 0) rfl))
  refine gs (S' := T3.setTop (mkF m 44 #[rv (t), iv ((1 : Int32)), iv (cc)] [])) st3 ?_
  refine gs (fun _ k => o_aloadN X3 hx hby d9_44 rfl rfl (o_iloadN X3 hx hby d9_45 rfl (o_iloadN X3 hx hby d9_46 rfl k))) ?_
  refine gS X3 hx hZ hown (host := "") (Or.inl (ow hw 113 rfl)) Via.refl e3 (S_lo.ext O4.2) hby d9_47 fun T5 X5 e5 => ?_
  refine gs (fun _ k => o_ishr X5 hx hby d9_50 (o_i2b X5 hx hby d9_51 k)) ?_
  obtain ⟨cl6, A6, a6q, a6S, a6N, a6H, a6G⟩ := id V3
  obtain ⟨T6, h6, X6, e6, W6, st6⟩ := stB X5 hx hZ e5 A6 (j := (1 : Int32)) (inb_of a6S ⟨by decide, by decide⟩) (g := (mkF m 52 #[rv (t), iv ((1 : Int32)), iv (cc)] [(.int ((cc >>> ((8 : Int32) &&& 31)).toInt8.toInt32)), (.int (1 : Int32)), (.ref t)])) rfl rfl (hb hby d9_52)
  have V6 : Arv Z h6 t kb .byte (6 : Int32) [(.int (nar .byte ((cc >>> ((0 : Int32) &&& 31)).toInt8.toInt32))), (.int (nar .byte ((cc >>> ((8 : Int32) &&& 31)).toInt8.toInt32))), (.int v2), (.int v3), (.int v4), (.int v5)] (.int (0 : Int32)) := Arv.set A6 a6q a6S a6N a6H a6G (fits_nar_byte _) W6 1 rfl (nb rfl)
  have N6 := Fr.snoc X6 N3 g_t
  have Z7 := nt Z4 (Keep.of_wr W6).1
  have O7 := O4.wr W6 g_t
  have K7 := K4.wr W6 (Or.inl (List.mem_of_getElem? (i := 0) rfl))
  refine gs (S' := T6.setTop (mkF m 53 #[rv (t), iv ((1 : Int32)), iv (cc)] [])) st6 ?_
  refine gout (v := none) X6 Bd.notSynchronized (fun _ => rfl) (by decide) (by decide) ?_ (fun fs hr => X6.returnOut hx Bd.returns (hb hby d9_53) hr)
  rw [e6]
  exact ⟨rfl, N6, K7, V6⟩
theorem ef_279 (m : MethodId) (x0 : Addr) (x1 : Int32) : entryFrame m #[(.ref x0), (.int x1)] 2 = mkF m 0 #[.val (.ref x0), .val (.int x1)] [] := by first | (simp [entryFrame, mkF, argsToLocals, Value.category]; done) | rfl
set_option maxRecDepth 65536 in
set_option maxHeartbeats 40000000 in
theorem rm_gc30 (l : Launch) (Z : State) (a0 : Array Value) (hw : HW Z a0) (ws : List Jvm.Cond) (t : Addr) (kb : ClassId) (ch0 : Int32) (ch1 : Int32) (ch2 : Int32) (h0 : Heap) (n0 : Nat) (Z0 : n0 ≤ h0.size) (O0 : Old Z n0 h0) (V_t : Arv Z h0 t kb .byte (6 : Int32) [(.int (own_b0 ch0)), (.int (own_b1 ch0)), (.int (own_b0 ch1)), (.int (own_b1 ch1)), (.int (own_b0 ch2)), (.int (own_b1 ch2))] (.int (0 : Int32))) (hc : ¬ ch0 < 0 ∧ ¬ (65535 : Int32) < ch0) (S_ad : PS0 Z (.int (1 : Int32))) (S_hi : PS1 Z (.int (0 : Int32))) (S_lo : PS2 Z (.int (8 : Int32))) :
    Ctr l Z my7 jdk_52_method_5_code 2 ((Option.some Jvm.ClassFile.FieldType.char)) ws (⟨0, 0, 0, 0⟩ : Room) #[(.ref t), (.int (0 : Int32))] h0 (fun v h L => v = some (.int ch0) ∧ Fr n0 L ∧ h = h0) := by
  refine Ctr.go (plainFor_of_name pn_117) fun p e s m below meth c s₁ Bd hx hby hml hZ hown hnm X0 e0 => ?_
  have N0 := Fr.nil n0
  have K0 := Keep.refl h0 []
  refine gs (S' := s₁.setTop (mkF m 0 #[rv (t), iv ((0 : Int32))] [])) (fun tg kg => castTop (ef_279 m t (0 : Int32)) kg) ?_
  refine gS X0 hx hZ hown (host := "") (Or.inl (ow hw 111 rfl)) Via.refl e0 (S_ad.ext O0.2) hby d10_0 fun T1 X1 e1 => ?_
  refine gs (fun _ k => o_ifYes (pc' := 28) X1 hx hby d10_3 ((if0 _ _).trans (feq (by decide : ¬ ((1 : Int32) = (0 : Int32)))).2) (o_iloadN X1 hx hby d10_28 rfl (o_iconst (v := (1 : Int32)) X1 hx hby d10_29 (o_ishl X1 hx hby d10_30 (o_istoreN X1 hx hby d10_31 rfl (o_aloadN X1 hx hby d10_32 rfl rfl (o_iloadN X1 hx hby d10_33 rfl (o_iinc X1 hx hby d10_34 rfl rfl k)))))))) ?_
  obtain ⟨cl2, A2, a2q, a2S, a2N, a2H, a2G⟩ := id V_t
  have hi2 := inb_of a2S (j := (0 : Int32)) ⟨by decide, by decide⟩
  refine gs (fun _ k => X1.baloadBytes hx (j := (0 : Int32)) (v := (.int (own_b0 ch0))) (by rw [e1]; exact A2.1) (State.isArrayOf_alike hZ.alike A2.2.1) A2.2.2 hi2 (Has.at a2H hi2 rfl) (g := (mkF m 37 #[rv (t), iv ((1 : Int32))] [(.int (0 : Int32)), (.ref t)])) rfl rfl (hb hby d10_37) _ (XS.sipush X1.here hx rfl (hb hby d10_38) (o_iand X1 hx hby d10_41 k))) ?_
  refine gS X1 hx hZ hown (host := "") (Or.inl (ow hw 112 rfl)) Via.refl e1 (S_hi.ext O0.2) hby d10_42 fun T3 X3 e3 => ?_
  refine gs (fun _ k => o_ishl X3 hx hby d10_45 (o_aloadN X3 hx hby d10_46 rfl rfl (o_iloadN X3 hx hby d10_47 rfl k))) ?_
  obtain ⟨cl4, A4, a4q, a4S, a4N, a4H, a4G⟩ := id V_t
  have hi4 := inb_of a4S (j := (1 : Int32)) ⟨by decide, by decide⟩
  refine gs (fun _ k => X3.baloadBytes hx (j := (1 : Int32)) (v := (.int (own_b1 ch0))) (by rw [e3]; exact A4.1) (State.isArrayOf_alike hZ.alike A4.2.1) A4.2.2 hi4 (Has.at a4H hi4 rfl) (g := (mkF m 48 #[rv (t), iv ((1 : Int32))] [(.int (1 : Int32)), (.ref t), (.int (((own_b0 ch0) &&& (255 : Int32)) <<< ((0 : Int32) &&& 31)))])) rfl rfl (hb hby d10_48) _ (XS.sipush X3.here hx rfl (hb hby d10_49) (o_iand X3 hx hby d10_52 k))) ?_
  refine gS X3 hx hZ hown (host := "") (Or.inl (ow hw 113 rfl)) Via.refl e3 (S_lo.ext O0.2) hby d10_53 fun T5 X5 e5 => ?_
  refine gs (fun _ k => o_ishl X5 hx hby d10_56 (o_ior X5 hx hby d10_57 (o_i2c X5 hx hby d10_58 k))) ?_
  refine gout (v := some (.int (nar .char (((((own_b0 ch0) &&& (255 : Int32)) <<< ((0 : Int32) &&& 31)) ||| (((own_b1 ch0) &&& (255 : Int32)) <<< ((8 : Int32) &&& 31))).toUInt32.toUInt16.toUInt32.toInt32)))) X5 Bd.notSynchronized (fun h => by rw [Bd.returns] at h; cases h) (by decide) (by decide) ?_ (fun fs hr => retN X5 hx (t := .char) Bd.returns (by simp) (hb hby d10_59) hr)
  rw [e5]
  exact ⟨congrArg (fun q => some (Value.int q)) (own_gc hc), N0, rfl⟩
theorem ef_280 (m : MethodId) (x0 : Addr) (x1 : Int32) (x2 : Int32) : entryFrame m #[(.ref x0), (.int x1), (.int x2)] 3 = mkF m 0 #[.val (.ref x0), .val (.int x1), .val (.int x2)] [] := by first | (simp [entryFrame, mkF, argsToLocals, Value.category]; done) | rfl
set_option maxRecDepth 65536 in
set_option maxHeartbeats 40000000 in
theorem rm_pc31 (l : Launch) (Z : State) (a0 : Array Value) (hw : HW Z a0) (ws : List Jvm.Cond) (t : Addr) (kb : ClassId) (cc : Int32) (v0 : Int32) (v1 : Int32) (v2 : Int32) (v3 : Int32) (v4 : Int32) (v5 : Int32) (h0 : Heap) (n0 : Nat) (Z0 : n0 ≤ h0.size) (O0 : Old Z n0 h0) (V_t : Arv Z h0 t kb .byte (6 : Int32) [(.int v0), (.int v1), (.int v2), (.int v3), (.int v4), (.int v5)] (.int (0 : Int32))) (g_t : n0 ≤ t) (S_ad : PS0 Z (.int (1 : Int32))) (S_hi : PS1 Z (.int (0 : Int32))) (S_lo : PS2 Z (.int (8 : Int32))) :
    Ctr l Z my6 jdk_52_method_4_code 3 ((Option.none : Option Jvm.ClassFile.FieldType)) ws (⟨0, 0, 0, 0⟩ : Room) #[(.ref t), (.int (1 : Int32)), (.int cc)] h0 (fun v h L => v = none ∧ Fr n0 L ∧ Keep h0 h [t] ∧ Arv Z h t kb .byte (6 : Int32) [(.int v0), (.int v1), (.int (own_b0 cc)), (.int (own_b1 cc)), (.int v4), (.int v5)] (.int (0 : Int32))) := by
  refine Ctr.go (plainFor_of_name pn_117) fun p e s m below meth c s₁ Bd hx hby hml hZ hown hnm X0 e0 => ?_
  have N0 := Fr.nil n0
  have K0 := Keep.refl h0 [t]
  refine gs (S' := s₁.setTop (mkF m 0 #[rv (t), iv ((1 : Int32)), iv (cc)] [])) (fun tg kg => castTop (ef_280 m t (1 : Int32) cc) kg) ?_
  refine gS X0 hx hZ hown (host := "") (Or.inl (ow hw 111 rfl)) Via.refl e0 (S_ad.ext O0.2) hby d9_0 fun T1 X1 e1 => ?_
  refine gs (fun _ k => o_ifYes (pc' := 28) X1 hx hby d9_3 ((if0 _ _).trans (feq (by decide : ¬ ((1 : Int32) = (0 : Int32)))).2) (o_iloadN X1 hx hby d9_28 rfl (o_iconst (v := (1 : Int32)) X1 hx hby d9_29 (o_ishl X1 hx hby d9_30 (o_istoreN X1 hx hby d9_31 rfl (o_aloadN X1 hx hby d9_32 rfl rfl (o_iloadN X1 hx hby d9_33 rfl (o_iinc X1 hx hby d9_34 rfl rfl (o_iloadN X1 hx hby d9_37 rfl k))))))))) ?_
  refine gS X1 hx hZ hown (host := "") (Or.inl (ow hw 112 rfl)) Via.refl e1 (S_hi.ext O0.2) hby d9_38 fun T2 X2 e2 => ?_
  refine gs (fun _ k => o_ishr X2 hx hby d9_41 (o_i2b X2 hx hby d9_42 k)) ?_
  obtain ⟨cl3, A3, a3q, a3S, a3N, a3H, a3G⟩ := id V_t
  obtain ⟨T3, h3, X3, e3, W3, st3⟩ := stB X2 hx hZ e2 A3 (j := (2 : Int32)) (inb_of a3S ⟨by decide, by decide⟩) (g := (mkF m 43 #[rv (t), iv ((3 : Int32)), iv (cc)] [(.int ((cc >>> ((0 : Int32) &&& 31)).toInt8.toInt32)), (.int (2 : Int32)), (.ref t)])) rfl rfl (hb hby d9_43)
  have V3 : Arv Z h3 t kb .byte (6 : Int32) [(.int v0), (.int v1), (.int (nar .byte ((cc >>> ((0 : Int32) &&& 31)).toInt8.toInt32))), (.int v3), (.int v4), (.int v5)] (.int (0 : Int32)) := Arv.set A3 a3q a3S a3N a3H a3G (fits_nar_byte _) W3 2 rfl (nb rfl)
  have N3 := Fr.snoc X3 N0 g_t
  have Z4 := nt Z0 (Keep.of_wr W3).1
  have O4 := O0.wr W3 g_t
  have K4 := K0.wr W3 (Or.inl (List.mem_of_getElem? (i := 0) rfl))
  refine gs (S' := T3.setTop (mkF m 44 #[rv (t), iv ((3 : Int32)), iv (cc)] [])) st3 ?_
  refine gs (fun _ k => o_aloadN X3 hx hby d9_44 rfl rfl (o_iloadN X3 hx hby d9_45 rfl (o_iloadN X3 hx hby d9_46 rfl k))) ?_
  refine gS X3 hx hZ hown (host := "") (Or.inl (ow hw 113 rfl)) Via.refl e3 (S_lo.ext O4.2) hby d9_47 fun T5 X5 e5 => ?_
  refine gs (fun _ k => o_ishr X5 hx hby d9_50 (o_i2b X5 hx hby d9_51 k)) ?_
  obtain ⟨cl6, A6, a6q, a6S, a6N, a6H, a6G⟩ := id V3
  obtain ⟨T6, h6, X6, e6, W6, st6⟩ := stB X5 hx hZ e5 A6 (j := (3 : Int32)) (inb_of a6S ⟨by decide, by decide⟩) (g := (mkF m 52 #[rv (t), iv ((3 : Int32)), iv (cc)] [(.int ((cc >>> ((8 : Int32) &&& 31)).toInt8.toInt32)), (.int (3 : Int32)), (.ref t)])) rfl rfl (hb hby d9_52)
  have V6 : Arv Z h6 t kb .byte (6 : Int32) [(.int v0), (.int v1), (.int (nar .byte ((cc >>> ((0 : Int32) &&& 31)).toInt8.toInt32))), (.int (nar .byte ((cc >>> ((8 : Int32) &&& 31)).toInt8.toInt32))), (.int v4), (.int v5)] (.int (0 : Int32)) := Arv.set A6 a6q a6S a6N a6H a6G (fits_nar_byte _) W6 3 rfl (nb rfl)
  have N6 := Fr.snoc X6 N3 g_t
  have Z7 := nt Z4 (Keep.of_wr W6).1
  have O7 := O4.wr W6 g_t
  have K7 := K4.wr W6 (Or.inl (List.mem_of_getElem? (i := 0) rfl))
  refine gs (S' := T6.setTop (mkF m 53 #[rv (t), iv ((3 : Int32)), iv (cc)] [])) st6 ?_
  refine gout (v := none) X6 Bd.notSynchronized (fun _ => rfl) (by decide) (by decide) ?_ (fun fs hr => X6.returnOut hx Bd.returns (hb hby d9_53) hr)
  rw [e6]
  exact ⟨rfl, N6, K7, V6⟩
theorem ef_281 (m : MethodId) (x0 : Addr) (x1 : Int32) : entryFrame m #[(.ref x0), (.int x1)] 2 = mkF m 0 #[.val (.ref x0), .val (.int x1)] [] := by first | (simp [entryFrame, mkF, argsToLocals, Value.category]; done) | rfl
set_option maxRecDepth 65536 in
set_option maxHeartbeats 40000000 in
theorem rm_gc31 (l : Launch) (Z : State) (a0 : Array Value) (hw : HW Z a0) (ws : List Jvm.Cond) (t : Addr) (kb : ClassId) (ch0 : Int32) (ch1 : Int32) (ch2 : Int32) (h0 : Heap) (n0 : Nat) (Z0 : n0 ≤ h0.size) (O0 : Old Z n0 h0) (V_t : Arv Z h0 t kb .byte (6 : Int32) [(.int (own_b0 ch0)), (.int (own_b1 ch0)), (.int (own_b0 ch1)), (.int (own_b1 ch1)), (.int (own_b0 ch2)), (.int (own_b1 ch2))] (.int (0 : Int32))) (hc : ¬ ch1 < 0 ∧ ¬ (65535 : Int32) < ch1) (S_ad : PS0 Z (.int (1 : Int32))) (S_hi : PS1 Z (.int (0 : Int32))) (S_lo : PS2 Z (.int (8 : Int32))) :
    Ctr l Z my7 jdk_52_method_5_code 2 ((Option.some Jvm.ClassFile.FieldType.char)) ws (⟨0, 0, 0, 0⟩ : Room) #[(.ref t), (.int (1 : Int32))] h0 (fun v h L => v = some (.int ch1) ∧ Fr n0 L ∧ h = h0) := by
  refine Ctr.go (plainFor_of_name pn_117) fun p e s m below meth c s₁ Bd hx hby hml hZ hown hnm X0 e0 => ?_
  have N0 := Fr.nil n0
  have K0 := Keep.refl h0 []
  refine gs (S' := s₁.setTop (mkF m 0 #[rv (t), iv ((1 : Int32))] [])) (fun tg kg => castTop (ef_281 m t (1 : Int32)) kg) ?_
  refine gS X0 hx hZ hown (host := "") (Or.inl (ow hw 111 rfl)) Via.refl e0 (S_ad.ext O0.2) hby d10_0 fun T1 X1 e1 => ?_
  refine gs (fun _ k => o_ifYes (pc' := 28) X1 hx hby d10_3 ((if0 _ _).trans (feq (by decide : ¬ ((1 : Int32) = (0 : Int32)))).2) (o_iloadN X1 hx hby d10_28 rfl (o_iconst (v := (1 : Int32)) X1 hx hby d10_29 (o_ishl X1 hx hby d10_30 (o_istoreN X1 hx hby d10_31 rfl (o_aloadN X1 hx hby d10_32 rfl rfl (o_iloadN X1 hx hby d10_33 rfl (o_iinc X1 hx hby d10_34 rfl rfl k)))))))) ?_
  obtain ⟨cl2, A2, a2q, a2S, a2N, a2H, a2G⟩ := id V_t
  have hi2 := inb_of a2S (j := (2 : Int32)) ⟨by decide, by decide⟩
  refine gs (fun _ k => X1.baloadBytes hx (j := (2 : Int32)) (v := (.int (own_b0 ch1))) (by rw [e1]; exact A2.1) (State.isArrayOf_alike hZ.alike A2.2.1) A2.2.2 hi2 (Has.at a2H hi2 rfl) (g := (mkF m 37 #[rv (t), iv ((3 : Int32))] [(.int (2 : Int32)), (.ref t)])) rfl rfl (hb hby d10_37) _ (XS.sipush X1.here hx rfl (hb hby d10_38) (o_iand X1 hx hby d10_41 k))) ?_
  refine gS X1 hx hZ hown (host := "") (Or.inl (ow hw 112 rfl)) Via.refl e1 (S_hi.ext O0.2) hby d10_42 fun T3 X3 e3 => ?_
  refine gs (fun _ k => o_ishl X3 hx hby d10_45 (o_aloadN X3 hx hby d10_46 rfl rfl (o_iloadN X3 hx hby d10_47 rfl k))) ?_
  obtain ⟨cl4, A4, a4q, a4S, a4N, a4H, a4G⟩ := id V_t
  have hi4 := inb_of a4S (j := (3 : Int32)) ⟨by decide, by decide⟩
  refine gs (fun _ k => X3.baloadBytes hx (j := (3 : Int32)) (v := (.int (own_b1 ch1))) (by rw [e3]; exact A4.1) (State.isArrayOf_alike hZ.alike A4.2.1) A4.2.2 hi4 (Has.at a4H hi4 rfl) (g := (mkF m 48 #[rv (t), iv ((3 : Int32))] [(.int (3 : Int32)), (.ref t), (.int (((own_b0 ch1) &&& (255 : Int32)) <<< ((0 : Int32) &&& 31)))])) rfl rfl (hb hby d10_48) _ (XS.sipush X3.here hx rfl (hb hby d10_49) (o_iand X3 hx hby d10_52 k))) ?_
  refine gS X3 hx hZ hown (host := "") (Or.inl (ow hw 113 rfl)) Via.refl e3 (S_lo.ext O0.2) hby d10_53 fun T5 X5 e5 => ?_
  refine gs (fun _ k => o_ishl X5 hx hby d10_56 (o_ior X5 hx hby d10_57 (o_i2c X5 hx hby d10_58 k))) ?_
  refine gout (v := some (.int (nar .char (((((own_b0 ch1) &&& (255 : Int32)) <<< ((0 : Int32) &&& 31)) ||| (((own_b1 ch1) &&& (255 : Int32)) <<< ((8 : Int32) &&& 31))).toUInt32.toUInt16.toUInt32.toInt32)))) X5 Bd.notSynchronized (fun h => by rw [Bd.returns] at h; cases h) (by decide) (by decide) ?_ (fun fs hr => retN X5 hx (t := .char) Bd.returns (by simp) (hb hby d10_59) hr)
  rw [e5]
  exact ⟨congrArg (fun q => some (Value.int q)) (own_gc hc), N0, rfl⟩
theorem ef_282 (m : MethodId) (x0 : Addr) (x1 : Int32) (x2 : Int32) : entryFrame m #[(.ref x0), (.int x1), (.int x2)] 3 = mkF m 0 #[.val (.ref x0), .val (.int x1), .val (.int x2)] [] := by first | (simp [entryFrame, mkF, argsToLocals, Value.category]; done) | rfl
set_option maxRecDepth 65536 in
set_option maxHeartbeats 40000000 in
theorem rm_pc32 (l : Launch) (Z : State) (a0 : Array Value) (hw : HW Z a0) (ws : List Jvm.Cond) (t : Addr) (kb : ClassId) (cc : Int32) (v0 : Int32) (v1 : Int32) (v2 : Int32) (v3 : Int32) (v4 : Int32) (v5 : Int32) (h0 : Heap) (n0 : Nat) (Z0 : n0 ≤ h0.size) (O0 : Old Z n0 h0) (V_t : Arv Z h0 t kb .byte (6 : Int32) [(.int v0), (.int v1), (.int v2), (.int v3), (.int v4), (.int v5)] (.int (0 : Int32))) (g_t : n0 ≤ t) (S_ad : PS0 Z (.int (1 : Int32))) (S_hi : PS1 Z (.int (0 : Int32))) (S_lo : PS2 Z (.int (8 : Int32))) :
    Ctr l Z my6 jdk_52_method_4_code 3 ((Option.none : Option Jvm.ClassFile.FieldType)) ws (⟨0, 0, 0, 0⟩ : Room) #[(.ref t), (.int (2 : Int32)), (.int cc)] h0 (fun v h L => v = none ∧ Fr n0 L ∧ Keep h0 h [t] ∧ Arv Z h t kb .byte (6 : Int32) [(.int v0), (.int v1), (.int v2), (.int v3), (.int (own_b0 cc)), (.int (own_b1 cc))] (.int (0 : Int32))) := by
  refine Ctr.go (plainFor_of_name pn_117) fun p e s m below meth c s₁ Bd hx hby hml hZ hown hnm X0 e0 => ?_
  have N0 := Fr.nil n0
  have K0 := Keep.refl h0 [t]
  refine gs (S' := s₁.setTop (mkF m 0 #[rv (t), iv ((2 : Int32)), iv (cc)] [])) (fun tg kg => castTop (ef_282 m t (2 : Int32) cc) kg) ?_
  refine gS X0 hx hZ hown (host := "") (Or.inl (ow hw 111 rfl)) Via.refl e0 (S_ad.ext O0.2) hby d9_0 fun T1 X1 e1 => ?_
  refine gs (fun _ k => o_ifYes (pc' := 28) X1 hx hby d9_3 ((if0 _ _).trans (feq (by decide : ¬ ((1 : Int32) = (0 : Int32)))).2) (o_iloadN X1 hx hby d9_28 rfl (o_iconst (v := (1 : Int32)) X1 hx hby d9_29 (o_ishl X1 hx hby d9_30 (o_istoreN X1 hx hby d9_31 rfl (o_aloadN X1 hx hby d9_32 rfl rfl (o_iloadN X1 hx hby d9_33 rfl (o_iinc X1 hx hby d9_34 rfl rfl (o_iloadN X1 hx hby d9_37 rfl k))))))))) ?_
  refine gS X1 hx hZ hown (host := "") (Or.inl (ow hw 112 rfl)) Via.refl e1 (S_hi.ext O0.2) hby d9_38 fun T2 X2 e2 => ?_
  refine gs (fun _ k => o_ishr X2 hx hby d9_41 (o_i2b X2 hx hby d9_42 k)) ?_
  obtain ⟨cl3, A3, a3q, a3S, a3N, a3H, a3G⟩ := id V_t
  obtain ⟨T3, h3, X3, e3, W3, st3⟩ := stB X2 hx hZ e2 A3 (j := (4 : Int32)) (inb_of a3S ⟨by decide, by decide⟩) (g := (mkF m 43 #[rv (t), iv ((5 : Int32)), iv (cc)] [(.int ((cc >>> ((0 : Int32) &&& 31)).toInt8.toInt32)), (.int (4 : Int32)), (.ref t)])) rfl rfl (hb hby d9_43)
  have V3 : Arv Z h3 t kb .byte (6 : Int32) [(.int v0), (.int v1), (.int v2), (.int v3), (.int (nar .byte ((cc >>> ((0 : Int32) &&& 31)).toInt8.toInt32))), (.int v5)] (.int (0 : Int32)) := Arv.set A3 a3q a3S a3N a3H a3G (fits_nar_byte _) W3 4 rfl (nb rfl)
  have N3 := Fr.snoc X3 N0 g_t
  have Z4 := nt Z0 (Keep.of_wr W3).1
  have O4 := O0.wr W3 g_t
  have K4 := K0.wr W3 (Or.inl (List.mem_of_getElem? (i := 0) rfl))
  refine gs (S' := T3.setTop (mkF m 44 #[rv (t), iv ((5 : Int32)), iv (cc)] [])) st3 ?_
  refine gs (fun _ k => o_aloadN X3 hx hby d9_44 rfl rfl (o_iloadN X3 hx hby d9_45 rfl (o_iloadN X3 hx hby d9_46 rfl k))) ?_
  refine gS X3 hx hZ hown (host := "") (Or.inl (ow hw 113 rfl)) Via.refl e3 (S_lo.ext O4.2) hby d9_47 fun T5 X5 e5 => ?_
  refine gs (fun _ k => o_ishr X5 hx hby d9_50 (o_i2b X5 hx hby d9_51 k)) ?_
  obtain ⟨cl6, A6, a6q, a6S, a6N, a6H, a6G⟩ := id V3
  obtain ⟨T6, h6, X6, e6, W6, st6⟩ := stB X5 hx hZ e5 A6 (j := (5 : Int32)) (inb_of a6S ⟨by decide, by decide⟩) (g := (mkF m 52 #[rv (t), iv ((5 : Int32)), iv (cc)] [(.int ((cc >>> ((8 : Int32) &&& 31)).toInt8.toInt32)), (.int (5 : Int32)), (.ref t)])) rfl rfl (hb hby d9_52)
  have V6 : Arv Z h6 t kb .byte (6 : Int32) [(.int v0), (.int v1), (.int v2), (.int v3), (.int (nar .byte ((cc >>> ((0 : Int32) &&& 31)).toInt8.toInt32))), (.int (nar .byte ((cc >>> ((8 : Int32) &&& 31)).toInt8.toInt32)))] (.int (0 : Int32)) := Arv.set A6 a6q a6S a6N a6H a6G (fits_nar_byte _) W6 5 rfl (nb rfl)
  have N6 := Fr.snoc X6 N3 g_t
  have Z7 := nt Z4 (Keep.of_wr W6).1
  have O7 := O4.wr W6 g_t
  have K7 := K4.wr W6 (Or.inl (List.mem_of_getElem? (i := 0) rfl))
  refine gs (S' := T6.setTop (mkF m 53 #[rv (t), iv ((5 : Int32)), iv (cc)] [])) st6 ?_
  refine gout (v := none) X6 Bd.notSynchronized (fun _ => rfl) (by decide) (by decide) ?_ (fun fs hr => X6.returnOut hx Bd.returns (hb hby d9_53) hr)
  rw [e6]
  exact ⟨rfl, N6, K7, V6⟩
theorem ef_283 (m : MethodId) (x0 : Addr) (x1 : Int32) : entryFrame m #[(.ref x0), (.int x1)] 2 = mkF m 0 #[.val (.ref x0), .val (.int x1)] [] := by first | (simp [entryFrame, mkF, argsToLocals, Value.category]; done) | rfl
set_option maxRecDepth 65536 in
set_option maxHeartbeats 40000000 in
theorem rm_gc32 (l : Launch) (Z : State) (a0 : Array Value) (hw : HW Z a0) (ws : List Jvm.Cond) (t : Addr) (kb : ClassId) (ch0 : Int32) (ch1 : Int32) (ch2 : Int32) (h0 : Heap) (n0 : Nat) (Z0 : n0 ≤ h0.size) (O0 : Old Z n0 h0) (V_t : Arv Z h0 t kb .byte (6 : Int32) [(.int (own_b0 ch0)), (.int (own_b1 ch0)), (.int (own_b0 ch1)), (.int (own_b1 ch1)), (.int (own_b0 ch2)), (.int (own_b1 ch2))] (.int (0 : Int32))) (hc : ¬ ch2 < 0 ∧ ¬ (65535 : Int32) < ch2) (S_ad : PS0 Z (.int (1 : Int32))) (S_hi : PS1 Z (.int (0 : Int32))) (S_lo : PS2 Z (.int (8 : Int32))) :
    Ctr l Z my7 jdk_52_method_5_code 2 ((Option.some Jvm.ClassFile.FieldType.char)) ws (⟨0, 0, 0, 0⟩ : Room) #[(.ref t), (.int (2 : Int32))] h0 (fun v h L => v = some (.int ch2) ∧ Fr n0 L ∧ h = h0) := by
  refine Ctr.go (plainFor_of_name pn_117) fun p e s m below meth c s₁ Bd hx hby hml hZ hown hnm X0 e0 => ?_
  have N0 := Fr.nil n0
  have K0 := Keep.refl h0 []
  refine gs (S' := s₁.setTop (mkF m 0 #[rv (t), iv ((2 : Int32))] [])) (fun tg kg => castTop (ef_283 m t (2 : Int32)) kg) ?_
  refine gS X0 hx hZ hown (host := "") (Or.inl (ow hw 111 rfl)) Via.refl e0 (S_ad.ext O0.2) hby d10_0 fun T1 X1 e1 => ?_
  refine gs (fun _ k => o_ifYes (pc' := 28) X1 hx hby d10_3 ((if0 _ _).trans (feq (by decide : ¬ ((1 : Int32) = (0 : Int32)))).2) (o_iloadN X1 hx hby d10_28 rfl (o_iconst (v := (1 : Int32)) X1 hx hby d10_29 (o_ishl X1 hx hby d10_30 (o_istoreN X1 hx hby d10_31 rfl (o_aloadN X1 hx hby d10_32 rfl rfl (o_iloadN X1 hx hby d10_33 rfl (o_iinc X1 hx hby d10_34 rfl rfl k)))))))) ?_
  obtain ⟨cl2, A2, a2q, a2S, a2N, a2H, a2G⟩ := id V_t
  have hi2 := inb_of a2S (j := (4 : Int32)) ⟨by decide, by decide⟩
  refine gs (fun _ k => X1.baloadBytes hx (j := (4 : Int32)) (v := (.int (own_b0 ch2))) (by rw [e1]; exact A2.1) (State.isArrayOf_alike hZ.alike A2.2.1) A2.2.2 hi2 (Has.at a2H hi2 rfl) (g := (mkF m 37 #[rv (t), iv ((5 : Int32))] [(.int (4 : Int32)), (.ref t)])) rfl rfl (hb hby d10_37) _ (XS.sipush X1.here hx rfl (hb hby d10_38) (o_iand X1 hx hby d10_41 k))) ?_
  refine gS X1 hx hZ hown (host := "") (Or.inl (ow hw 112 rfl)) Via.refl e1 (S_hi.ext O0.2) hby d10_42 fun T3 X3 e3 => ?_
  refine gs (fun _ k => o_ishl X3 hx hby d10_45 (o_aloadN X3 hx hby d10_46 rfl rfl (o_iloadN X3 hx hby d10_47 rfl k))) ?_
  obtain ⟨cl4, A4, a4q, a4S, a4N, a4H, a4G⟩ := id V_t
  have hi4 := inb_of a4S (j := (5 : Int32)) ⟨by decide, by decide⟩
  refine gs (fun _ k => X3.baloadBytes hx (j := (5 : Int32)) (v := (.int (own_b1 ch2))) (by rw [e3]; exact A4.1) (State.isArrayOf_alike hZ.alike A4.2.1) A4.2.2 hi4 (Has.at a4H hi4 rfl) (g := (mkF m 48 #[rv (t), iv ((5 : Int32))] [(.int (5 : Int32)), (.ref t), (.int (((own_b0 ch2) &&& (255 : Int32)) <<< ((0 : Int32) &&& 31)))])) rfl rfl (hb hby d10_48) _ (XS.sipush X3.here hx rfl (hb hby d10_49) (o_iand X3 hx hby d10_52 k))) ?_
  refine gS X3 hx hZ hown (host := "") (Or.inl (ow hw 113 rfl)) Via.refl e3 (S_lo.ext O0.2) hby d10_53 fun T5 X5 e5 => ?_
  refine gs (fun _ k => o_ishl X5 hx hby d10_56 (o_ior X5 hx hby d10_57 (o_i2c X5 hx hby d10_58 k))) ?_
  refine gout (v := some (.int (nar .char (((((own_b0 ch2) &&& (255 : Int32)) <<< ((0 : Int32) &&& 31)) ||| (((own_b1 ch2) &&& (255 : Int32)) <<< ((8 : Int32) &&& 31))).toUInt32.toUInt16.toUInt32.toInt32)))) X5 Bd.notSynchronized (fun h => by rw [Bd.returns] at h; cases h) (by decide) (by decide) ?_ (fun fs hr => retN X5 hx (t := .char) Bd.returns (by simp) (hb hby d10_59) hr)
  rw [e5]
  exact ⟨congrArg (fun q => some (Value.int q)) (own_gc hc), N0, rfl⟩
theorem ef_284 (m : MethodId) (x0 : Int32) : entryFrame m #[(.int x0)] 1 = mkF m 0 #[.val (.int x0)] [] := by first | (simp [entryFrame, mkF, argsToLocals, Value.category]; done) | rfl
set_option maxRecDepth 65536 in
set_option maxHeartbeats 40000000 in
theorem rm_nbl3 (l : Launch) (Z : State) (a0 : Array Value) (hw : HW Z a0) (ws : List Jvm.Cond)  (h0 : Heap) (n0 : Nat) (Z0 : n0 ≤ h0.size) (O0 : Old Z n0 h0)  :
    Ctr l Z my12 jdk_52_method_3_code 1 ((Option.some Jvm.ClassFile.FieldType.int)) ws (⟨0, 0, 0, 0⟩ : Room) #[(.int (3 : Int32))] h0 (fun v h L => v = some (.int (6 : Int32)) ∧ Fr n0 L ∧ h = h0) := by
  refine Ctr.go (plainFor_of_name pn_117) fun p e s m below meth c s₁ Bd hx hby hml hZ hown hnm X0 e0 => ?_
  have N0 := Fr.nil n0
  have K0 := Keep.refl h0 []
  refine gs (S' := s₁.setTop (mkF m 0 #[iv ((3 : Int32))] [])) (fun tg kg => castTop (ef_284 m (3 : Int32)) kg) ?_
  refine gs (fun _ k => o_iloadN X0 hx hby d11_0 rfl (o_ifYes (pc' := 12) X0 hx hby d11_1 ((if0 _ _).trans (flt (by decide : ¬ ((3 : Int32) < (0 : Int32)))).2.1) (o_iloadN X0 hx hby d11_12 rfl (X0.ldcInt hx hown (mvT hZ (ow hw 107 rfl)) (g := (mkF m 13 #[iv ((3 : Int32))] [(.int (3 : Int32))])) rfl (hb hby d11_13) _ (o_icmpYes (pc' := 55) X0 hx hby d11_15 (tlt (by decide : (3 : Int32) < (1073741823 : Int32))).1 (o_iloadN X0 hx hby d11_55 rfl (o_iconst (v := (1 : Int32)) X0 hx hby d11_56 (o_ishl X0 hx hby d11_57 k)))))))) ?_
  refine gout (v := some (.int (6 : Int32))) X0 Bd.notSynchronized (fun h => by rw [Bd.returns] at h; cases h) (by decide) (by decide) ?_ (fun fs hr => retI X0 hx Bd.returns (hb hby d11_58) hr)
  rw [e0]
  exact ⟨rfl, N0, rfl⟩
theorem ef_285 (m : MethodId) (x0 : Int32) : entryFrame m #[(.int x0)] 1 = mkF m 0 #[.val (.int x0)] [] := by first | (simp [entryFrame, mkF, argsToLocals, Value.category]; done) | rfl
set_option maxRecDepth 65536 in
set_option maxHeartbeats 40000000 in
theorem rm_nbf3 (l : Launch) (Z : State) (a0 : Array Value) (hw : HW Z a0) (ws : List Jvm.Cond)  (h0 : Heap) (n0 : Nat) (Z0 : n0 ≤ h0.size) (O0 : Old Z n0 h0)  :
    Ctr l Z my13 jdk_52_method_2_code 1 ((Option.some (Jvm.ClassFile.FieldType.array Jvm.ClassFile.FieldType.byte))) ws (⟨1, 1, 6, 12⟩ : Room) #[(.int (3 : Int32))] h0 (fun v h L => ∃ (t : Addr) (kb : ClassId), v = some (.ref t) ∧ Fr n0 L ∧ Keep h0 h [] ∧ h0.size ≤ t ∧ Arv Z h t kb .byte (6 : Int32) [(.int (0 : Int32)), (.int (0 : Int32)), (.int (0 : Int32)), (.int (0 : Int32)), (.int (0 : Int32)), (.int (0 : Int32))] (.int (0 : Int32))) := by
  refine Ctr.go (plainFor_of_name pn_117) fun p e s m below meth c s₁ Bd hx hby hml hZ hown hnm X0 e0 => ?_
  have N0 := Fr.nil n0
  have K0 := Keep.refl h0 []
  refine gs (S' := s₁.setTop (mkF m 0 #[iv ((3 : Int32))] [])) (fun tg kg => castTop (ef_285 m (3 : Int32)) kg) ?_
  refine gs (fun _ k => o_iloadN X0 hx hby d12_0 rfl k) ?_
  refine cS (rest := []) X0 hx hZ hown (ow hw 104 rfl) (ow hw 105 rfl) (ow hw 87 rfl) (ow hw 106 rfl) (rm_nbl3 l Z a0 hw []  h0 n0 Z0 O0 ) hby d12_1 e0 pd_156 0 (by rw [hml]; rfl) rfl rfl rfl rfl (by decide) (by decide) fun _ T1 Lc1 X1 hQ1 => ?_
  obtain ⟨rfl, N1q, e1q⟩ := hQ1
  have N1 := Fr.app N0 N1q
  obtain ⟨T2, h2, k2, X2, e2, E2, A2, st2⟩ := newP X1 hx hZ (ow hw 20 rfl) e1q (g := (mkF m 4 #[iv ((3 : Int32))] [(.int (6 : Int32))])) rfl (hb hby d12_4) rfl (by decide) (cap := 6) (by decide) (by decide) (by decide) (by decide)
  obtain ⟨b2, q2⟩ : ∃ z, z = h0.size := ⟨_, rfl⟩
  rw [← q2] at A2 st2
  have g_b2 : n0 ≤ b2 := nt Z0 (Nat.le_of_eq q2.symm)
  have sz_b2 : h0.size ≤ b2 := nt K0.1 (Nat.le_of_eq q2.symm)
  have Z3 := nt Z0 E2.1
  have O3 := O0.ext E2
  have K3 := K0.ext E2
  have V2 : Arv Z h2 b2 k2 .byte (6 : Int32) [(.int (0 : Int32)), (.int (0 : Int32)), (.int (0 : Int32)), (.int (0 : Int32)), (.int (0 : Int32)), (.int (0 : Int32))] (.int (0 : Int32)) := (Arv.new A2 (by decide)).pad (pad_rep [] (.int (0 : Int32)) 6)
  refine gs (S' := T2.setTop (mkF m 6 #[iv ((3 : Int32))] [(.ref b2)])) st2 ?_
  refine gout (v := some (.ref b2)) X2 Bd.notSynchronized (fun h => by rw [Bd.returns] at h; cases h) (by decide) (by decide) ?_ (fun fs hr => retOut X2 hx Bd.returns rfl (Or.inr (Or.inr (Or.inr (Or.inr ⟨rfl, rfl, rfl⟩)))) (hb hby d12_6) hr)
  rw [e2]
  exact ⟨_, _, rfl, N1, K3, sz_b2, V2⟩
theorem ef_286 (m : MethodId) (x0 : Addr) (x1 : Int32) (x2 : Int32) : entryFrame m #[(.ref x0), (.int x1), (.int x2)] 5 = mkF m 0 #[.val (.ref x0), .val (.int x1), .val (.int x2), .unset, .unset] [] := by first | (simp [entryFrame, mkF, argsToLocals, Value.category]; done) | rfl
set_option maxRecDepth 65536 in
set_option maxHeartbeats 40000000 in
theorem rm_tb16_3 (l : Launch) (Z : State) (a0 : Array Value) (hw : HW Z a0) (ws : List Jvm.Cond) (b : Addr) (kc : ClassId) (ch0 : Int32) (ch1 : Int32) (ch2 : Int32) (h0 : Heap) (n0 : Nat) (Z0 : n0 ≤ h0.size) (O0 : Old Z n0 h0) (V_b : Arv Z h0 b kc .char (3 : Int32) [(.int ch0), (.int ch1), (.int ch2)] (.int (0 : Int32))) (S_ad : PS0 Z (.int (1 : Int32))) (S_hi : PS1 Z (.int (0 : Int32))) (S_lo : PS2 Z (.int (8 : Int32))) :
    Ctr l Z my14 jdk_52_method_14_code 5 ((Option.some (Jvm.ClassFile.FieldType.array Jvm.ClassFile.FieldType.byte))) ws (⟨2, 1, 6, 24⟩ : Room) #[(.ref b), (.int (0 : Int32)), (.int (3 : Int32))] h0 (fun v h L => ∃ (t : Addr) (kb : ClassId), v = some (.ref t) ∧ Fr n0 L ∧ Keep h0 h [] ∧ h0.size ≤ t ∧ Arv Z h t kb .byte (6 : Int32) [(.int (own_b0 ch0)), (.int (own_b1 ch0)), (.int (own_b0 ch1)), (.int (own_b1 ch1)), (.int (own_b0 ch2)), (.int (own_b1 ch2))] (.int (0 : Int32))) := by
  refine Ctr.go (plainFor_of_name pn_117) fun p e s m below meth c s₁ Bd hx hby hml hZ hown hnm X0 e0 => ?_
  have N0 := Fr.nil n0
  have K0 := Keep.refl h0 []
  refine gs (S' := s₁.setTop (mkF m 0 #[rv (b), iv ((0 : Int32)), iv ((3 : Int32)), uu, uu] [])) (fun tg kg => castTop (ef_286 m b (0 : Int32) (3 : Int32)) kg) ?_
  refine gs (fun _ k => o_iloadN X0 hx hby d13_0 rfl k) ?_
  refine cS (rest := []) X0 hx hZ hown (ow hw 101 rfl) (ow hw 102 rfl) (ow hw 87 rfl) (ow hw 103 rfl) (rm_nbf3 l Z a0 hw []  h0 n0 Z0 O0 ) hby d13_1 e0 pd_162 0 (by rw [hml]; rfl) rfl rfl rfl rfl (by decide) (by decide) fun _ T1 Lc1 X1 hQ1 => ?_
  obtain ⟨t1, kb1, rfl, N1q, K1q, g1t, V1q⟩ := hQ1
  have N1 := Fr.app N0 N1q
  have g_t1 : n0 ≤ t1 := nt Z0 g1t
  have sz_t1 : h0.size ≤ t1 := nt K0.1 g1t
  have Z2 := nt Z0 K1q.1
  have O2 := O0.keep K1q all0
  have K2 := K0.trans K1q all0
  refine gs (fun _ k => o_astoreN X1 hx hby d13_4 rfl rfl (o_iconst (v := (0 : Int32)) X1 hx hby d13_5 (o_istore X1 hx hby d13_6 rfl (o_iload X1 hx hby d13_8 rfl (o_iloadN X1 hx hby d13_10 rfl (o_icmpNo X1 hx hby d13_11 (tlt (by decide : (0 : Int32) < (3 : Int32))).2.1 (o_aloadN X1 hx hby d13_14 rfl rfl (o_iload X1 hx hby d13_15 rfl (o_aloadN X1 hx hby d13_17 rfl rfl (o_iloadN X1 hx hby d13_18 rfl k)))))))))) ?_
  have f3 := (V_b.keep K1q nin0)
  obtain ⟨cl4, A4, a4q, a4S, a4N, a4H, a4G⟩ := id f3
  have hi4 := inb_of a4S (j := (0 : Int32)) ⟨by decide, by decide⟩
  refine gs (fun _ k => X1.caload hx (j := (0 : Int32)) (v := (.int ch0)) A4.1 (State.isArrayOf_alike hZ.alike A4.2.1) A4.2.2 hi4 (Has.at a4H hi4 rfl) (g := (mkF m 19 #[rv (b), iv ((0 : Int32)), iv ((3 : Int32)), rv (t1), iv ((0 : Int32))] [(.int (0 : Int32)), (.ref b), (.int (0 : Int32)), (.ref t1)])) rfl rfl (hb hby d13_19) _ k) ?_
  refine cS (rest := []) X1 hx hZ hown (ow hw 108 rfl) (ow hw 109 rfl) (ow hw 87 rfl) (ow hw 110 rfl) (rm_pc30 l Z a0 hw [] t1 kb1 ch0 (0 : Int32) (0 : Int32) (0 : Int32) (0 : Int32) (0 : Int32) (0 : Int32) T1.heap n0 Z2 O2 V1q g_t1 S_ad S_hi S_lo) hby d13_20 rfl pd_175 0 (by rw [hml]; rfl) rfl rfl rfl rfl (by decide) (by decide) fun _ T5 Lc5 X5 hQ5 => ?_
  obtain ⟨rfl, N5q, K5q, V5q⟩ := hQ5
  have N5 := Fr.app N1 N5q
  have Z6 := nt Z2 K5q.1
  have O6 := O2.keep K5q (allS g_t1 all0)
  have K6 := K2.trans K5q (allS (Or.inr sz_t1) all0)
  refine gs (fun _ k => o_iinc X5 hx hby d13_23 rfl rfl (o_iinc X5 hx hby d13_26 rfl rfl (o_goto (pc' := 8) X5 hx hby d13_29 (o_iload X5 hx hby d13_8 rfl (o_iloadN X5 hx hby d13_10 rfl (o_icmpNo X5 hx hby d13_11 (tlt (by decide : (1 : Int32) < (3 : Int32))).2.1 (o_aloadN X5 hx hby d13_14 rfl rfl (o_iload X5 hx hby d13_15 rfl (o_aloadN X5 hx hby d13_17 rfl rfl (o_iloadN X5 hx hby d13_18 rfl k)))))))))) ?_
  have f7 := (f3.keep K5q (ninS (nw (nu (nu V_b.lt (Nat.le_refl _)) g1t)) nin0))
  obtain ⟨cl8, A8, a8q, a8S, a8N, a8H, a8G⟩ := id f7
  have hi8 := inb_of a8S (j := (1 : Int32)) ⟨by decide, by decide⟩
  refine gs (fun _ k => X5.caload hx (j := (1 : Int32)) (v := (.int ch1)) A8.1 (State.isArrayOf_alike hZ.alike A8.2.1) A8.2.2 hi8 (Has.at a8H hi8 rfl) (g := (mkF m 19 #[rv (b), iv ((1 : Int32)), iv ((3 : Int32)), rv (t1), iv ((1 : Int32))] [(.int (1 : Int32)), (.ref b), (.int (1 : Int32)), (.ref t1)])) rfl rfl (hb hby d13_19) _ k) ?_
  refine cS (rest := []) X5 hx hZ hown (ow hw 108 rfl) (ow hw 109 rfl) (ow hw 87 rfl) (ow hw 110 rfl) (rm_pc31 l Z a0 hw [] t1 kb1 ch1 (own_b0 ch0) (own_b1 ch0) (0 : Int32) (0 : Int32) (0 : Int32) (0 : Int32) T5.heap n0 Z6 O6 V5q g_t1 S_ad S_hi S_lo) hby d13_20 rfl pd_175 0 (by rw [hml]; rfl) rfl rfl rfl rfl (by decide) (by decide) fun _ T9 Lc9 X9 hQ9 => ?_
  obtain ⟨rfl, N9q, K9q, V9q⟩ := hQ9
  have N9 := Fr.app N5 N9q
  have Z10 := nt Z6 K9q.1
  have O10 := O6.keep K9q (allS g_t1 all0)
  have K10 := K6.trans K9q (allS (Or.inr sz_t1) all0)
  refine gs (fun _ k => o_iinc X9 hx hby d13_23 rfl rfl (o_iinc X9 hx hby d13_26 rfl rfl (o_goto (pc' := 8) X9 hx hby d13_29 (o_iload X9 hx hby d13_8 rfl (o_iloadN X9 hx hby d13_10 rfl (o_icmpNo X9 hx hby d13_11 (tlt (by decide : (2 : Int32) < (3 : Int32))).2.1 (o_aloadN X9 hx hby d13_14 rfl rfl (o_iload X9 hx hby d13_15 rfl (o_aloadN X9 hx hby d13_17 rfl rfl (o_iloadN X9 hx hby d13_18 rfl k)))))))))) ?_
  have f11 := (f7.keep K9q (ninS (nw (nu (nu V_b.lt (Nat.le_refl _)) g1t)) nin0))
  obtain ⟨cl12, A12, a12q, a12S, a12N, a12H, a12G⟩ := id f11
  have hi12 := inb_of a12S (j := (2 : Int32)) ⟨by decide, by decide⟩
  refine gs (fun _ k => X9.caload hx (j := (2 : Int32)) (v := (.int ch2)) A12.1 (State.isArrayOf_alike hZ.alike A12.2.1) A12.2.2 hi12 (Has.at a12H hi12 rfl) (g := (mkF m 19 #[rv (b), iv ((2 : Int32)), iv ((3 : Int32)), rv (t1), iv ((2 : Int32))] [(.int (2 : Int32)), (.ref b), (.int (2 : Int32)), (.ref t1)])) rfl rfl (hb hby d13_19) _ k) ?_
  refine cS (rest := []) X9 hx hZ hown (ow hw 108 rfl) (ow hw 109 rfl) (ow hw 87 rfl) (ow hw 110 rfl) (rm_pc32 l Z a0 hw [] t1 kb1 ch2 (own_b0 ch0) (own_b1 ch0) (own_b0 ch1) (own_b1 ch1) (0 : Int32) (0 : Int32) T9.heap n0 Z10 O10 V9q g_t1 S_ad S_hi S_lo) hby d13_20 rfl pd_175 0 (by rw [hml]; rfl) rfl rfl rfl rfl (by decide) (by decide) fun _ T13 Lc13 X13 hQ13 => ?_
  obtain ⟨rfl, N13q, K13q, V13q⟩ := hQ13
  have N13 := Fr.app N9 N13q
  have Z14 := nt Z10 K13q.1
  have O14 := O10.keep K13q (allS g_t1 all0)
  have K14 := K10.trans K13q (allS (Or.inr sz_t1) all0)
  refine gs (fun _ k => o_iinc X13 hx hby d13_23 rfl rfl (o_iinc X13 hx hby d13_26 rfl rfl (o_goto (pc' := 8) X13 hx hby d13_29 (o_iload X13 hx hby d13_8 rfl (o_iloadN X13 hx hby d13_10 rfl (o_icmpYes (pc' := 32) X13 hx hby d13_11 (flt (by decide : ¬ ((3 : Int32) < (3 : Int32)))).2.1 (o_aloadN X13 hx hby d13_32 rfl rfl k))))))) ?_
  refine gout (v := some (.ref t1)) X13 Bd.notSynchronized (fun h => by rw [Bd.returns] at h; cases h) (by decide) (by decide) ?_ (fun fs hr => retOut X13 hx Bd.returns rfl (Or.inr (Or.inr (Or.inr (Or.inr ⟨rfl, rfl, rfl⟩)))) (hb hby d13_33) hr)
  exact ⟨_, _, rfl, N13, K14, sz_t1, V13q⟩
theorem ef_287 (m : MethodId) (x0 : Addr) (x1 : Int32) : entryFrame m #[(.ref x0), (.int x1)] 2 = mkF m 0 #[.val (.ref x0), .val (.int x1)] [] := by first | (simp [entryFrame, mkF, argsToLocals, Value.category]; done) | rfl
set_option maxRecDepth 65536 in
set_option maxHeartbeats 40000000 in
theorem rm_cfl3 (l : Launch) (Z : State) (a0 : Array Value) (hw : HW Z a0) (ws : List Jvm.Cond) (t : Addr) (kb : ClassId) (vs : List Value) (h0 : Heap) (n0 : Nat) (Z0 : n0 ≤ h0.size) (O0 : Old Z n0 h0) (V_t : Arv Z h0 t kb .byte (6 : Int32) vs (.int (0 : Int32))) :
    Ctr l Z my15 jdk_52_method_15_code 2 ((Option.some Jvm.ClassFile.FieldType.byte)) ws (⟨0, 0, 0, 0⟩ : Room) #[(.ref t), (.int (3 : Int32))] h0 (fun v h L => v = some (.int (1 : Int32)) ∧ Fr n0 L ∧ h = h0) := by
  refine Ctr.go (plainFor_of_name pn_117) fun p e s m below meth c s₁ Bd hx hby hml hZ hown hnm X0 e0 => ?_
  have N0 := Fr.nil n0
  have K0 := Keep.refl h0 []
  refine gs (S' := s₁.setTop (mkF m 0 #[rv (t), iv ((3 : Int32))] [])) (fun tg kg => castTop (ef_287 m t (3 : Int32)) kg) ?_
  refine gs (fun _ k => o_iloadN X0 hx hby d14_0 rfl (o_aloadN X0 hx hby d14_1 rfl rfl k)) ?_
  obtain ⟨cl1, A1, a1q, a1S, a1N, a1H, a1G⟩ := id V_t
  refine gs (S' := s₁.setTop (mkF m 3 #[rv (t), iv ((3 : Int32))] [(.int (6 : Int32)), (.int (3 : Int32))])) (fun _ k => by refine X0.arraylength hx (by rw [e0]; exact A1.1) (State.isArrayOf_alike hZ.alike A1.2.1) (g := (mkF m 2 #[rv (t), iv ((3 : Int32))] [(.ref t), (.int (3 : Int32))])) rfl rfl (hb hby d14_2) _ ?_; rw [len_of a1S a1N]; exact k) ?_
  refine gs (fun _ k => o_isub X0 hx hby d14_3 (o_bipush (v := (31 : Int32)) X0 hx hby d14_4 (o_iushr X0 hx hby d14_6 (o_i2b X0 hx hby d14_7 k)))) ?_
  refine gout (v := some (.int (1 : Int32))) X0 Bd.notSynchronized (fun h => by rw [Bd.returns] at h; cases h) (by decide) (by decide) ?_ (fun fs hr => retN X0 hx (t := .byte) Bd.returns (by simp) (hb hby d14_8) hr)
  rw [e0]
  exact ⟨rfl, N0, rfl⟩
theorem ef_288 (m : MethodId) (x0 : Addr) (x1 : Int32) (x2 : Addr) (x3 : Int32) (x4 : Int32) : entryFrame m #[(.ref x0), (.int x1), (.ref x2), (.int x3), (.int x4)] 7 = mkF m 0 #[.val (.ref x0), .val (.int x1), .val (.ref x2), .val (.int x3), .val (.int x4), .unset, .unset] [] := by first | (simp [entryFrame, mkF, argsToLocals, Value.category]; done) | rfl
set_option maxRecDepth 65536 in
set_option maxHeartbeats 40000000 in
theorem rm_cp5_30 (l : Launch) (Z : State) (a0 : Array Value) (hw : HW Z a0) (ws : List Jvm.Cond) (b : Addr) (kc : ClassId) (t : Addr) (kb : ClassId) (ch0 : Int32) (ch1 : Int32) (ch2 : Int32) (h0 : Heap) (n0 : Nat) (Z0 : n0 ≤ h0.size) (O0 : Old Z n0 h0) (V_b : Arv Z h0 b kc .char (3 : Int32) [(.int ch0), (.int ch1), (.int ch2)] (.int (0 : Int32))) (V_t : Arv Z h0 t kb .byte (3 : Int32) [(.int (0 : Int32)), (.int (0 : Int32)), (.int (0 : Int32))] (.int (0 : Int32))) (g_t : n0 ≤ t) (hbt : b ≠ t) (dq0 : (255 : Int32) < ch0) :
    Ctr l Z my8 jdk_52_method_21_code 7 ((Option.some Jvm.ClassFile.FieldType.int)) ws (⟨0, 0, 0, 0⟩ : Room) #[(.ref b), (.int (0 : Int32)), (.ref t), (.int (0 : Int32)), (.int (3 : Int32))] h0 (fun v h L => v = some (.int (0 : Int32)) ∧ Fr n0 L ∧ Keep h0 h [t]) := by
  refine Ctr.go (plainFor_of_name pn_117) fun p e s m below meth c s₁ Bd hx hby hml hZ hown hnm X0 e0 => ?_
  have N0 := Fr.nil n0
  have K0 := Keep.refl h0 [t]
  refine gs (S' := s₁.setTop (mkF m 0 #[rv (b), iv ((0 : Int32)), rv (t), iv ((0 : Int32)), iv ((3 : Int32)), uu, uu] [])) (fun tg kg => castTop (ef_288 m b (0 : Int32) t (0 : Int32) (3 : Int32)) kg) ?_
  refine gs (fun _ k => o_iconst (v := (0 : Int32)) X0 hx hby d15_0 (o_istore X0 hx hby d15_1 rfl (o_iload X0 hx hby d15_3 rfl (o_iload X0 hx hby d15_5 rfl (o_icmpNo X0 hx hby d15_7 (tlt (by decide : (0 : Int32) < (3 : Int32))).2.1 (o_aloadN X0 hx hby d15_10 rfl rfl (o_iloadN X0 hx hby d15_11 rfl k))))))) ?_
  obtain ⟨cl1, A1, a1q, a1S, a1N, a1H, a1G⟩ := id V_b
  have hi1 := inb_of a1S (j := (0 : Int32)) ⟨by decide, by decide⟩
  refine gs (fun _ k => X0.caload hx (j := (0 : Int32)) (v := (.int ch0)) (by rw [e0]; exact A1.1) (State.isArrayOf_alike hZ.alike A1.2.1) A1.2.2 hi1 (Has.at a1H hi1 rfl) (g := (mkF m 12 #[rv (b), iv ((0 : Int32)), rv (t), iv ((0 : Int32)), iv ((3 : Int32)), iv ((0 : Int32)), uu] [(.int (0 : Int32)), (.ref b)])) rfl rfl (hb hby d15_12) _ (o_istore X0 hx hby d15_13 rfl (o_iload X0 hx hby d15_15 rfl (XS.sipush X0.here hx rfl (hb hby d15_17) (o_icmpNo X0 hx hby d15_20 (tlt dq0).2.2.2 (o_iload X0 hx hby d15_23 rfl k)))))) ?_
  refine gout (v := some (.int (0 : Int32))) X0 Bd.notSynchronized (fun h => by rw [Bd.returns] at h; cases h) (by decide) (by decide) ?_ (fun fs hr => retI X0 hx Bd.returns (hb hby d15_25) hr)
  rw [e0]
  exact ⟨rfl, N0, K0⟩
theorem ef_289 (m : MethodId) (x0 : Addr) (x1 : Int32) (x2 : Int32) : entryFrame m #[(.ref x0), (.int x1), (.int x2)] 6 = mkF m 0 #[.val (.ref x0), .val (.int x1), .val (.int x2), .unset, .unset, .unset] [] := by first | (simp [entryFrame, mkF, argsToLocals, Value.category]; done) | rfl
set_option maxRecDepth 65536 in
set_option maxHeartbeats 40000000 in
theorem rm_cp3_30 (l : Launch) (Z : State) (a0 : Array Value) (hw : HW Z a0) (ws : List Jvm.Cond) (b : Addr) (kc : ClassId) (ch0 : Int32) (ch1 : Int32) (ch2 : Int32) (h0 : Heap) (n0 : Nat) (Z0 : n0 ≤ h0.size) (O0 : Old Z n0 h0) (V_b : Arv Z h0 b kc .char (3 : Int32) [(.int ch0), (.int ch1), (.int ch2)] (.int (0 : Int32))) (dq0 : (255 : Int32) < ch0) (hc0 : ¬ ch0 < 0 ∧ ¬ (65535 : Int32) < ch0) (hc1 : ¬ ch1 < 0 ∧ ¬ (65535 : Int32) < ch1) (hc2 : ¬ ch2 < 0 ∧ ¬ (65535 : Int32) < ch2) (S_ad : PS0 Z (.int (1 : Int32))) (S_hi : PS1 Z (.int (0 : Int32))) (S_lo : PS2 Z (.int (8 : Int32))) :
    Ctr l Z my9 jdk_52_method_16_code 6 ((Option.some (Jvm.ClassFile.FieldType.array Jvm.ClassFile.FieldType.byte))) ws (⟨3, 2, 9, 40⟩ : Room) #[(.ref b), (.int (0 : Int32)), (.int (3 : Int32))] h0 (fun v h L => ∃ (t : Addr) (kb : ClassId), v = some (.ref t) ∧ Fr n0 L ∧ Keep h0 h [] ∧ h0.size ≤ t ∧ Arv Z h t kb .byte (6 : Int32) [(.int (own_b0 ch0)), (.int (own_b1 ch0)), (.int (own_b0 ch1)), (.int (own_b1 ch1)), (.int (own_b0 ch2)), (.int (own_b1 ch2))] (.int (0 : Int32))) := by
  refine Ctr.go (plainFor_of_name pn_117) fun p e s m below meth c s₁ Bd hx hby hml hZ hown hnm X0 e0 => ?_
  have N0 := Fr.nil n0
  have K0 := Keep.refl h0 []
  refine gs (S' := s₁.setTop (mkF m 0 #[rv (b), iv ((0 : Int32)), iv ((3 : Int32)), uu, uu, uu] [])) (fun tg kg => castTop (ef_289 m b (0 : Int32) (3 : Int32)) kg) ?_
  refine gs (fun _ k => o_iloadN X0 hx hby d16_0 rfl k) ?_
  obtain ⟨T1, h1, k1, X1, e1, E1, A1, st1⟩ := newP X0 hx hZ (ow hw 20 rfl) e0 (g := (mkF m 1 #[rv (b), iv ((0 : Int32)), iv ((3 : Int32)), uu, uu, uu] [(.int (3 : Int32))])) rfl (hb hby d16_1) rfl (by decide) (cap := 3) (by decide) (by decide) (by decide) (by decide)
  obtain ⟨b1, q1⟩ : ∃ z, z = h0.size := ⟨_, rfl⟩
  rw [← q1] at A1 st1
  have g_b1 : n0 ≤ b1 := nt Z0 (Nat.le_of_eq q1.symm)
  have sz_b1 : h0.size ≤ b1 := nt K0.1 (Nat.le_of_eq q1.symm)
  have Z2 := nt Z0 E1.1
  have O2 := O0.ext E1
  have K2 := K0.ext E1
  have V1 : Arv Z h1 b1 k1 .byte (3 : Int32) [(.int (0 : Int32)), (.int (0 : Int32)), (.int (0 : Int32))] (.int (0 : Int32)) := (Arv.new A1 (by decide)).pad (pad_rep [] (.int (0 : Int32)) 3)
  refine gs (S' := T1.setTop (mkF m 3 #[rv (b), iv ((0 : Int32)), iv ((3 : Int32)), uu, uu, uu] [(.ref b1)])) st1 ?_
  refine gs (fun _ k => o_astoreN X1 hx hby d16_3 rfl rfl (o_aloadN X1 hx hby d16_4 rfl rfl (o_iloadN X1 hx hby d16_5 rfl (o_aloadN X1 hx hby d16_6 rfl rfl (o_iconst (v := (0 : Int32)) X1 hx hby d16_7 (o_iloadN X1 hx hby d16_8 rfl k)))))) ?_
  have f3 := (V_b.ext E1)
  refine cS (rest := []) X1 hx hZ hown (ow hw 89 rfl) (ow hw 90 rfl) (ow hw 87 rfl) (ow hw 91 rfl) (rm_cp5_30 l Z a0 hw [] b kc b1 k1 ch0 ch1 ch2 h1 n0 Z2 O2 f3 V1 g_b1 (nw (nu (nu V_b.lt (Nat.le_refl _)) (Nat.le_of_eq q1.symm))) dq0) hby d16_9 e1 pd_215 0 (by rw [hml]; rfl) rfl rfl rfl rfl (by decide) (by decide) fun _ T4 Lc4 X4 hQ4 => ?_
  obtain ⟨rfl, N4q, K4q⟩ := hQ4
  have N4 := Fr.app N0 N4q
  have Z5 := nt Z2 K4q.1
  have O5 := O2.keep K4q (allS g_b1 all0)
  have K5 := K2.trans K4q (allS (Or.inr sz_b1) all0)
  refine gs (fun _ k => o_istore X4 hx hby d16_12 rfl (o_iload X4 hx hby d16_14 rfl (o_iloadN X4 hx hby d16_16 rfl (o_icmpNo X4 hx hby d16_17 (feq (by decide : ¬ ((0 : Int32) = (3 : Int32)))).1 (o_aloadN X4 hx hby d16_20 rfl rfl (o_iloadN X4 hx hby d16_21 rfl (o_iloadN X4 hx hby d16_22 rfl k))))))) ?_
  have f6 := (f3.keep K4q (ninS (nw (nu (nu V_b.lt (Nat.le_refl _)) (Nat.le_of_eq q1.symm))) nin0))
  refine cS (rest := []) X4 hx hZ hown (ow hw 98 rfl) (ow hw 99 rfl) (ow hw 87 rfl) (ow hw 100 rfl) (rm_tb16_3 l Z a0 hw [] b kc ch0 ch1 ch2 T4.heap n0 Z5 O5 f6 S_ad S_hi S_lo) hby d16_23 rfl pd_224 0 (by rw [hml]; rfl) rfl rfl rfl rfl (by decide) (by decide) fun _ T7 Lc7 X7 hQ7 => ?_
  obtain ⟨t7, kb7, rfl, N7q, K7q, g7t, V7q⟩ := hQ7
  have N7 := Fr.app N4 N7q
  have g_t7 : n0 ≤ t7 := nt Z5 g7t
  have sz_t7 : h0.size ≤ t7 := nt K5.1 g7t
  have Z8 := nt Z5 K7q.1
  have O8 := O5.keep K7q all0
  have K8 := K5.trans K7q all0
  refine gs (fun _ k => o_astore X7 hx hby d16_26 rfl rfl (o_aload X7 hx hby d16_28 rfl rfl (o_iload X7 hx hby d16_30 rfl k))) ?_
  refine cS (rest := []) X7 hx hZ hown (ow hw 114 rfl) (ow hw 115 rfl) (ow hw 87 rfl) (ow hw 116 rfl) (rm_gc30 l Z a0 hw [] t7 kb7 ch0 ch1 ch2 T7.heap n0 Z8 O8 V7q hc0 S_ad S_hi S_lo) hby d16_32 rfl pd_229 0 (by rw [hml]; rfl) rfl rfl rfl rfl (by decide) (by decide) fun _ T9 Lc9 X9 hQ9 => ?_
  obtain ⟨rfl, N9q, e9q⟩ := hQ9
  have N9 := Fr.app N7 N9q
  refine gs (fun _ k => XS.sipush X9.here hx rfl (hb hby d16_35) (o_icmpYes (pc' := 54) X9 hx hby d16_38 (tlt dq0).2.2.1 (o_aload X9 hx hby d16_54 rfl rfl k))) ?_
  refine gout (v := some (.ref t7)) X9 Bd.notSynchronized (fun h => by rw [Bd.returns] at h; cases h) (by decide) (by decide) ?_ (fun fs hr => retOut X9 hx Bd.returns rfl (Or.inr (Or.inr (Or.inr (Or.inr ⟨rfl, rfl, rfl⟩)))) (hb hby d16_56) hr)
  rw [e9q]
  exact ⟨_, _, rfl, N9, K8, sz_t7, V7q⟩
theorem ef_290 (m : MethodId) (x0 : Addr) (x1 : Addr) (x2 : Int32) (x3 : Int32) : entryFrame m #[(.ref x0), (.ref x1), (.int x2), (.int x3), .null] 6 = mkF m 0 #[.val (.ref x0), .val (.ref x1), .val (.int x2), .val (.int x3), .val .null, .unset] [] := by first | (simp [entryFrame, mkF, argsToLocals, Value.category]; done) | rfl
set_option maxRecDepth 65536 in
set_option maxHeartbeats 40000000 in
theorem rm_si4_30 (l : Launch) (Z : State) (a0 : Array Value) (hw : HW Z a0) (ws : List Jvm.Cond) (a : Addr) (b : Addr) (kc : ClassId) (ch0 : Int32) (ch1 : Int32) (ch2 : Int32) (z : Int32) (h0 : Heap) (n0 : Nat) (Z0 : n0 ≤ h0.size) (O0 : Old Z n0 h0) (E_a : Exa Z h0 a "java/lang/String") (F_v : Fld Z h0 a "java/lang/String" "value" "[B" .null) (F_c : Fld Z h0 a "java/lang/String" "coder" "B" (.int (0 : Int32))) (g_a : n0 ≤ a) (V_b : Arv Z h0 b kc .char (3 : Int32) [(.int ch0), (.int ch1), (.int ch2)] (.int (0 : Int32))) (dq0 : (255 : Int32) < ch0) (hc0 : ¬ ch0 < 0 ∧ ¬ (65535 : Int32) < ch0) (hc1 : ¬ ch1 < 0 ∧ ¬ (65535 : Int32) < ch1) (hc2 : ¬ ch2 < 0 ∧ ¬ (65535 : Int32) < ch2) (S_ad : PS0 Z (.int (1 : Int32))) (S_hi : PS1 Z (.int (0 : Int32))) (S_lo : PS2 Z (.int (8 : Int32))) (S0 : PS3 Z (.int z)) (hz : ¬ z = 0) :
    Ctr l Z my3 jdk_42_method_149_code 6 ((Option.none : Option Jvm.ClassFile.FieldType)) ws (⟨4, 2, 9, 57⟩ : Room) #[(.ref a), (.ref b), (.int (0 : Int32)), (.int (3 : Int32)), .null] h0 (fun v h L => v = none ∧ Fr n0 L ∧ Keep h0 h [a] ∧ Str16 Z h a [ch0, ch1, ch2]) := by
  refine Ctr.go (plainFor_of_name pn_14) fun p e s m below meth c s₁ Bd hx hby hml hZ hown hnm X0 e0 => ?_
  have N0 := Fr.nil n0
  have K0 := Keep.refl h0 [a]
  refine gs (S' := s₁.setTop (mkF m 0 #[rv (a), rv (b), iv ((0 : Int32)), iv ((3 : Int32)), .val .null, uu] [])) (fun tg kg => castTop (ef_290 m a b (0 : Int32) (3 : Int32)) kg) ?_
  refine gs (fun _ k => o_aloadN X0 hx hby d0_0 rfl rfl k) ?_
  obtain ⟨T1, X1, e1, st1⟩ := initO X0 hx hZ hown (ow hw 16 rfl) (ow hw 17 rfl) (ow hw 18 rfl) e0 (g := (mkF m 1 #[rv (a), rv (b), iv ((0 : Int32)), iv ((3 : Int32)), .val .null, uu] [(.ref a)])) rfl (by rw [hml]; rfl) rfl (hb hby d0_1) (by decide) (W := 0) (own_w0 rfl) (by decide)
  refine gs (S' := T1.setTop (mkF m 4 #[rv (a), rv (b), iv ((0 : Int32)), iv ((3 : Int32)), .val .null, uu] [])) st1 ?_
  refine gs (fun _ k => o_iloadN X1 hx hby d0_4 rfl (o_ifYes (pc' := 27) X1 hx hby d0_5 ((if0 _ _).trans (feq (by decide : ¬ ((3 : Int32) = (0 : Int32)))).2) k)) ?_
  refine gS X1 hx hZ hown (host := "") (Or.inl (ow hw 30 rfl)) Via.refl e1 (S0.ext O0.2) hby d0_27 fun T2 X2 e2 => ?_
  refine gs (fun _ k => o_ifNo X2 hx hby d0_30 ((if0 _ _).trans (feq hz).1) (o_aloadN X2 hx hby d0_33 rfl rfl (o_iloadN X2 hx hby d0_34 rfl (o_iloadN X2 hx hby d0_35 rfl k)))) ?_
  refine cS (rest := []) X2 hx hZ hown (ow hw 85 rfl) (ow hw 86 rfl) (ow hw 87 rfl) (ow hw 88 rfl) (rm_cp3_30 l Z a0 hw [] b kc ch0 ch1 ch2 h0 n0 Z0 O0 V_b dq0 hc0 hc1 hc2 S_ad S_hi S_lo) hby d0_36 e2 pd_224 0 (by rw [hml]; rfl) rfl rfl rfl rfl (by decide) (by decide) fun _ T3 Lc3 X3 hQ3 => ?_
  obtain ⟨t3, kb3, rfl, N3q, K3q, g3t, V3q⟩ := hQ3
  have N3 := Fr.app N0 N3q
  have g_t3 : n0 ≤ t3 := nt Z0 g3t
  have sz_t3 : h0.size ≤ t3 := nt K0.1 g3t
  have Z4 := nt Z0 K3q.1
  have O4 := O0.keep K3q all0
  have K4 := K0.trans K3q all0
  refine gs (fun _ k => o_astore X3 hx hby d0_39 rfl rfl (o_aloadN X3 hx hby d0_41 rfl rfl (o_aload X3 hx hby d0_42 rfl rfl (o_iloadN X3 hx hby d0_44 rfl k)))) ?_
  refine cS (rest := [(.ref a)]) X3 hx hZ hown (ow hw 92 rfl) (ow hw 93 rfl) (ow hw 87 rfl) (ow hw 94 rfl) (rm_cfl3 l Z a0 hw [] t3 kb3 _ T3.heap n0 Z4 O4 V3q) hby d0_45 rfl pd_246 1 (by rw [hml]; rfl) rfl rfl rfl rfl (by decide) (by decide) fun _ T5 Lc5 X5 hQ5 => ?_
  obtain ⟨rfl, N5q, e5q⟩ := hQ5
  have N5 := Fr.app N3 N5q
  have f6 := (F_c.keep K3q nin0)
  have f7 := (E_a.keep K3q)
  obtain ⟨T8, h8, X8, e8, W8, st8⟩ := putFN X5 hx hZ hown (ow hw 26 rfl) Via.refl e5q f6 f7 (Or.inr ⟨(ow hw 22 rfl), rfl, hnm⟩) (ow hw 6 rfl) (ty := .byte) (v' := (.int (1 : Int32))) (by decide) rfl rfl (g := (mkF m 48 #[rv (a), rv (b), iv ((0 : Int32)), iv ((3 : Int32)), .val .null, rv (t3)] [(.int (1 : Int32)), (.ref a)])) rfl rfl (hb hby d0_48)
  have N8 := Fr.snoc X8 N5 g_a
  have Fw8 := f6.same W8
  have Z9 := nt Z4 (Keep.of_wr W8).1
  have O9 := O4.wr W8 g_a
  have K9 := K4.wr W8 (Or.inl (List.mem_of_getElem? (i := 0) rfl))
  refine gs (S' := T8.setTop (mkF m 51 #[rv (a), rv (b), iv ((0 : Int32)), iv ((3 : Int32)), .val .null, rv (t3)] [])) st8 ?_
  refine gs (fun _ k => o_aloadN X8 hx hby d0_51 rfl rfl (o_aload X8 hx hby d0_52 rfl rfl k)) ?_
  have f10 := ((F_v.keep K3q nin0).other W8 (Or.inr (slot_ne (Or.inr (ow hw 21 rfl)) (Or.inr (ow hw 22 rfl)) (by decide) (t := (.array .byte)) (t' := .byte) (by decide) (by decide))))
  have f11 := (f7.wr W8)
  obtain ⟨T12, h12, X12, e12, W12, st12⟩ := putF X8 hx hZ hown (host := "") (Or.inl (ow hw 25 rfl)) Via.refl e8 f10 f11 (Or.inr ⟨(ow hw 21 rfl), rfl, hnm⟩) (ow hw 6 rfl) (ty := (.array .byte)) (by decide) rfl rfl (g := (mkF m 54 #[rv (a), rv (b), iv ((0 : Int32)), iv ((3 : Int32)), .val .null, rv (t3)] [(.ref t3), (.ref a)])) rfl rfl (hb hby d0_54)
  have N12 := Fr.snoc X12 N8 g_a
  have Fw12 := f10.same W12
  have Z13 := nt Z9 (Keep.of_wr W12).1
  have O13 := O9.wr W12 g_a
  have K13 := K9.wr W12 (Or.inl (List.mem_of_getElem? (i := 0) rfl))
  refine gs (S' := T12.setTop (mkF m 57 #[rv (a), rv (b), iv ((0 : Int32)), iv ((3 : Int32)), .val .null, rv (t3)] [])) st12 ?_
  have f14 := (f11.wr W12)
  have f15 := (Fw8.other W12 (Or.inr (slot_ne (Or.inr (ow hw 22 rfl)) (Or.inr (ow hw 21 rfl)) (by decide) (t := .byte) (t' := (.array .byte)) (by decide) (by decide))))
  have f16 := ((V3q.other W8 (Ne.symm (nw (nu (nu E_a.lt (Nat.le_refl _)) g3t)))).other W12 (Ne.symm (nw (nu (nu E_a.lt (Nat.le_refl _)) g3t))))
  refine gout (v := none) X12 Bd.notSynchronized (fun _ => rfl) (by decide) (by decide) ?_ (fun fs hr => X12.returnOut hx Bd.returns (hb hby d0_57) hr)
  rw [e12]
  exact ⟨rfl, N12, K13, _, _, f14, f15, Fw12, f16⟩
theorem ef_291 (m : MethodId) (x0 : Addr) (x1 : Addr) : entryFrame m #[(.ref x0), (.ref x1)] 2 = mkF m 0 #[.val (.ref x0), .val (.ref x1)] [] := by first | (simp [entryFrame, mkF, argsToLocals, Value.category]; done) | rfl
set_option maxRecDepth 65536 in
set_option maxHeartbeats 40000000 in
theorem rm_si1_30 (l : Launch) (Z : State) (a0 : Array Value) (hw : HW Z a0) (ws : List Jvm.Cond) (a : Addr) (b : Addr) (kc : ClassId) (ch0 : Int32) (ch1 : Int32) (ch2 : Int32) (z : Int32) (h0 : Heap) (n0 : Nat) (Z0 : n0 ≤ h0.size) (O0 : Old Z n0 h0) (E_a : Exa Z h0 a "java/lang/String") (F_v : Fld Z h0 a "java/lang/String" "value" "[B" .null) (F_c : Fld Z h0 a "java/lang/String" "coder" "B" (.int (0 : Int32))) (g_a : n0 ≤ a) (V_b : Arv Z h0 b kc .char (3 : Int32) [(.int ch0), (.int ch1), (.int ch2)] (.int (0 : Int32))) (dq0 : (255 : Int32) < ch0) (hc0 : ¬ ch0 < 0 ∧ ¬ (65535 : Int32) < ch0) (hc1 : ¬ ch1 < 0 ∧ ¬ (65535 : Int32) < ch1) (hc2 : ¬ ch2 < 0 ∧ ¬ (65535 : Int32) < ch2) (S_ad : PS0 Z (.int (1 : Int32))) (S_hi : PS1 Z (.int (0 : Int32))) (S_lo : PS2 Z (.int (8 : Int32))) (S0 : PS3 Z (.int z)) (hz : ¬ z = 0) :
    Ctr l Z my2 jdk_42_method_3_code 2 ((Option.none : Option Jvm.ClassFile.FieldType)) ws (⟨5, 2, 9, 74⟩ : Room) #[(.ref a), (.ref b)] h0 (fun v h L => v = none ∧ Fr n0 L ∧ Keep h0 h [a] ∧ Str16 Z h a [ch0, ch1, ch2]) := by
  refine Ctr.go (plainFor_of_name pn_14) fun p e s m below meth c s₁ Bd hx hby hml hZ hown hnm X0 e0 => ?_
  have N0 := Fr.nil n0
  have K0 := Keep.refl h0 [a]
  refine gs (S' := s₁.setTop (mkF m 0 #[rv (a), rv (b)] [])) (fun tg kg => castTop (ef_291 m a b) kg) ?_
  refine gs (fun _ k => o_aloadN X0 hx hby d1_0 rfl rfl (o_aloadN X0 hx hby d1_1 rfl rfl (o_iconst (v := (0 : Int32)) X0 hx hby d1_2 (o_aloadN X0 hx hby d1_3 rfl rfl k)))) ?_
  obtain ⟨cl1, A1, a1q, a1S, a1N, a1H, a1G⟩ := id V_b
  refine gs (S' := s₁.setTop (mkF m 5 #[rv (a), rv (b)] [(.int (3 : Int32)), (.int (0 : Int32)), (.ref b), (.ref a)])) (fun _ k => by refine X0.arraylength hx (by rw [e0]; exact A1.1) (State.isArrayOf_alike hZ.alike A1.2.1) (g := (mkF m 4 #[rv (a), rv (b)] [(.ref b), (.int (0 : Int32)), (.ref b), (.ref a)])) rfl rfl (hb hby d1_4) _ ?_; rw [len_of a1S a1N]; exact k) ?_
  refine gs (fun _ k => o_aconstNull X0 hx hby d1_5 k) ?_
  refine cI (rest := []) X0 hx hZ hown rfl (ow hw 12 rfl) (ow hw 13 rfl) (ow hw 7 rfl) (ow hw 15 rfl) (rm_si4_30 l Z a0 hw [] a b kc ch0 ch1 ch2 z h0 n0 Z0 O0 E_a F_v F_c g_a V_b dq0 hc0 hc1 hc2 S_ad S_hi S_lo S0 hz) hby d1_6 e0 pd_23 0 (by rw [hml]; rfl) rfl rfl rfl rfl (by decide) (by decide) fun _ T2 Lc2 X2 hQ2 => ?_
  obtain ⟨rfl, N2q, K2q, T2q⟩ := hQ2
  have N2 := Fr.app N0 N2q
  have Z3 := nt Z0 K2q.1
  have O3 := O0.keep K2q (allS g_a all0)
  have K3 := K0.trans K2q (allS (Or.inl (List.mem_of_getElem? (i := 0) rfl)) all0)
  refine gout (v := none) X2 Bd.notSynchronized (fun _ => rfl) (by decide) (by decide) ?_ (fun fs hr => X2.returnOut hx Bd.returns (hb hby d1_9) hr)
  exact ⟨rfl, N2, K3, T2q⟩
theorem ef_292 (m : MethodId) (x0 : Addr) (x1 : Int32) (x2 : Addr) (x3 : Int32) (x4 : Int32) : entryFrame m #[(.ref x0), (.int x1), (.ref x2), (.int x3), (.int x4)] 7 = mkF m 0 #[.val (.ref x0), .val (.int x1), .val (.ref x2), .val (.int x3), .val (.int x4), .unset, .unset] [] := by first | (simp [entryFrame, mkF, argsToLocals, Value.category]; done) | rfl
set_option maxRecDepth 65536 in
set_option maxHeartbeats 40000000 in
theorem rm_cp5_31 (l : Launch) (Z : State) (a0 : Array Value) (hw : HW Z a0) (ws : List Jvm.Cond) (b : Addr) (kc : ClassId) (t : Addr) (kb : ClassId) (ch0 : Int32) (ch1 : Int32) (ch2 : Int32) (h0 : Heap) (n0 : Nat) (Z0 : n0 ≤ h0.size) (O0 : Old Z n0 h0) (V_b : Arv Z h0 b kc .char (3 : Int32) [(.int ch0), (.int ch1), (.int ch2)] (.int (0 : Int32))) (V_t : Arv Z h0 t kb .byte (3 : Int32) [(.int (0 : Int32)), (.int (0 : Int32)), (.int (0 : Int32))] (.int (0 : Int32))) (g_t : n0 ≤ t) (hbt : b ≠ t) (dq0 : ¬ (255 : Int32) < ch0) (dq1 : (255 : Int32) < ch1) :
    Ctr l Z my8 jdk_52_method_21_code 7 ((Option.some Jvm.ClassFile.FieldType.int)) ws (⟨0, 0, 0, 0⟩ : Room) #[(.ref b), (.int (0 : Int32)), (.ref t), (.int (0 : Int32)), (.int (3 : Int32))] h0 (fun v h L => v = some (.int (1 : Int32)) ∧ Fr n0 L ∧ Keep h0 h [t]) := by
  refine Ctr.go (plainFor_of_name pn_117) fun p e s m below meth c s₁ Bd hx hby hml hZ hown hnm X0 e0 => ?_
  have N0 := Fr.nil n0
  have K0 := Keep.refl h0 [t]
  refine gs (S' := s₁.setTop (mkF m 0 #[rv (b), iv ((0 : Int32)), rv (t), iv ((0 : Int32)), iv ((3 : Int32)), uu, uu] [])) (fun tg kg => castTop (ef_292 m b (0 : Int32) t (0 : Int32) (3 : Int32)) kg) ?_
  refine gs (fun _ k => o_iconst (v := (0 : Int32)) X0 hx hby d15_0 (o_istore X0 hx hby d15_1 rfl (o_iload X0 hx hby d15_3 rfl (o_iload X0 hx hby d15_5 rfl (o_icmpNo X0 hx hby d15_7 (tlt (by decide : (0 : Int32) < (3 : Int32))).2.1 (o_aloadN X0 hx hby d15_10 rfl rfl (o_iloadN X0 hx hby d15_11 rfl k))))))) ?_
  obtain ⟨cl1, A1, a1q, a1S, a1N, a1H, a1G⟩ := id V_b
  have hi1 := inb_of a1S (j := (0 : Int32)) ⟨by decide, by decide⟩
  refine gs (fun _ k => X0.caload hx (j := (0 : Int32)) (v := (.int ch0)) (by rw [e0]; exact A1.1) (State.isArrayOf_alike hZ.alike A1.2.1) A1.2.2 hi1 (Has.at a1H hi1 rfl) (g := (mkF m 12 #[rv (b), iv ((0 : Int32)), rv (t), iv ((0 : Int32)), iv ((3 : Int32)), iv ((0 : Int32)), uu] [(.int (0 : Int32)), (.ref b)])) rfl rfl (hb hby d15_12) _ (o_istore X0 hx hby d15_13 rfl (o_iload X0 hx hby d15_15 rfl (XS.sipush X0.here hx rfl (hb hby d15_17) (o_icmpYes (pc' := 26) X0 hx hby d15_20 (flt dq0).2.2.2 (o_aloadN X0 hx hby d15_26 rfl rfl (o_iloadN X0 hx hby d15_27 rfl (o_iload X0 hx hby d15_28 rfl (o_i2b X0 hx hby d15_30 k))))))))) ?_
  obtain ⟨cl2, A2, a2q, a2S, a2N, a2H, a2G⟩ := id V_t
  obtain ⟨T2, h2, X2, e2, W2, st2⟩ := stB X0 hx hZ e0 A2 (j := (0 : Int32)) (inb_of a2S ⟨by decide, by decide⟩) (g := (mkF m 31 #[rv (b), iv ((0 : Int32)), rv (t), iv ((0 : Int32)), iv ((3 : Int32)), iv ((0 : Int32)), iv (ch0)] [(.int (ch0.toInt8.toInt32)), (.int (0 : Int32)), (.ref t)])) rfl rfl (hb hby d15_31)
  have V2 : Arv Z h2 t kb .byte (3 : Int32) [(.int (nar .byte (ch0.toInt8.toInt32))), (.int (0 : Int32)), (.int (0 : Int32))] (.int (0 : Int32)) := Arv.set A2 a2q a2S a2N a2H a2G (fits_nar_byte _) W2 0 rfl (nb rfl)
  have N2 := Fr.snoc X2 N0 g_t
  have Z3 := nt Z0 (Keep.of_wr W2).1
  have O3 := O0.wr W2 g_t
  have K3 := K0.wr W2 (Or.inl (List.mem_of_getElem? (i := 0) rfl))
  refine gs (S' := T2.setTop (mkF m 32 #[rv (b), iv ((0 : Int32)), rv (t), iv ((0 : Int32)), iv ((3 : Int32)), iv ((0 : Int32)), iv (ch0)] [])) st2 ?_
  refine gs (fun _ k => o_iinc X2 hx hby d15_32 rfl rfl (o_iinc X2 hx hby d15_35 rfl rfl (o_iinc X2 hx hby d15_38 rfl rfl (o_goto (pc' := 3) X2 hx hby d15_41 (o_iload X2 hx hby d15_3 rfl (o_iload X2 hx hby d15_5 rfl (o_icmpNo X2 hx hby d15_7 (tlt (by decide : (1 : Int32) < (3 : Int32))).2.1 (o_aloadN X2 hx hby d15_10 rfl rfl (o_iloadN X2 hx hby d15_11 rfl k))))))))) ?_
  have f4 := (V_b.other W2 hbt)
  obtain ⟨cl5, A5, a5q, a5S, a5N, a5H, a5G⟩ := id f4
  have hi5 := inb_of a5S (j := (1 : Int32)) ⟨by decide, by decide⟩
  refine gs (fun _ k => X2.caload hx (j := (1 : Int32)) (v := (.int ch1)) (by rw [e2]; exact A5.1) (State.isArrayOf_alike hZ.alike A5.2.1) A5.2.2 hi5 (Has.at a5H hi5 rfl) (g := (mkF m 12 #[rv (b), iv ((1 : Int32)), rv (t), iv ((1 : Int32)), iv ((3 : Int32)), iv ((1 : Int32)), iv (ch0)] [(.int (1 : Int32)), (.ref b)])) rfl rfl (hb hby d15_12) _ (o_istore X2 hx hby d15_13 rfl (o_iload X2 hx hby d15_15 rfl (XS.sipush X2.here hx rfl (hb hby d15_17) (o_icmpNo X2 hx hby d15_20 (tlt dq1).2.2.2 (o_iload X2 hx hby d15_23 rfl k)))))) ?_
  refine gout (v := some (.int (1 : Int32))) X2 Bd.notSynchronized (fun h => by rw [Bd.returns] at h; cases h) (by decide) (by decide) ?_ (fun fs hr => retI X2 hx Bd.returns (hb hby d15_25) hr)
  rw [e2]
  exact ⟨rfl, N2, K3⟩
theorem ef_293 (m : MethodId) (x0 : Addr) (x1 : Int32) (x2 : Int32) : entryFrame m #[(.ref x0), (.int x1), (.int x2)] 6 = mkF m 0 #[.val (.ref x0), .val (.int x1), .val (.int x2), .unset, .unset, .unset] [] := by first | (simp [entryFrame, mkF, argsToLocals, Value.category]; done) | rfl
set_option maxRecDepth 65536 in
set_option maxHeartbeats 40000000 in
theorem rm_cp3_31 (l : Launch) (Z : State) (a0 : Array Value) (hw : HW Z a0) (ws : List Jvm.Cond) (b : Addr) (kc : ClassId) (ch0 : Int32) (ch1 : Int32) (ch2 : Int32) (h0 : Heap) (n0 : Nat) (Z0 : n0 ≤ h0.size) (O0 : Old Z n0 h0) (V_b : Arv Z h0 b kc .char (3 : Int32) [(.int ch0), (.int ch1), (.int ch2)] (.int (0 : Int32))) (dq0 : ¬ (255 : Int32) < ch0) (dq1 : (255 : Int32) < ch1) (hc0 : ¬ ch0 < 0 ∧ ¬ (65535 : Int32) < ch0) (hc1 : ¬ ch1 < 0 ∧ ¬ (65535 : Int32) < ch1) (hc2 : ¬ ch2 < 0 ∧ ¬ (65535 : Int32) < ch2) (S_ad : PS0 Z (.int (1 : Int32))) (S_hi : PS1 Z (.int (0 : Int32))) (S_lo : PS2 Z (.int (8 : Int32))) :
    Ctr l Z my9 jdk_52_method_16_code 6 ((Option.some (Jvm.ClassFile.FieldType.array Jvm.ClassFile.FieldType.byte))) ws (⟨3, 2, 9, 40⟩ : Room) #[(.ref b), (.int (0 : Int32)), (.int (3 : Int32))] h0 (fun v h L => ∃ (t : Addr) (kb : ClassId), v = some (.ref t) ∧ Fr n0 L ∧ Keep h0 h [] ∧ h0.size ≤ t ∧ Arv Z h t kb .byte (6 : Int32) [(.int (own_b0 ch0)), (.int (own_b1 ch0)), (.int (own_b0 ch1)), (.int (own_b1 ch1)), (.int (own_b0 ch2)), (.int (own_b1 ch2))] (.int (0 : Int32))) := by
  refine Ctr.go (plainFor_of_name pn_117) fun p e s m below meth c s₁ Bd hx hby hml hZ hown hnm X0 e0 => ?_
  have N0 := Fr.nil n0
  have K0 := Keep.refl h0 []
  refine gs (S' := s₁.setTop (mkF m 0 #[rv (b), iv ((0 : Int32)), iv ((3 : Int32)), uu, uu, uu] [])) (fun tg kg => castTop (ef_293 m b (0 : Int32) (3 : Int32)) kg) ?_
  refine gs (fun _ k => o_iloadN X0 hx hby d16_0 rfl k) ?_
  obtain ⟨T1, h1, k1, X1, e1, E1, A1, st1⟩ := newP X0 hx hZ (ow hw 20 rfl) e0 (g := (mkF m 1 #[rv (b), iv ((0 : Int32)), iv ((3 : Int32)), uu, uu, uu] [(.int (3 : Int32))])) rfl (hb hby d16_1) rfl (by decide) (cap := 3) (by decide) (by decide) (by decide) (by decide)
  obtain ⟨b1, q1⟩ : ∃ z, z = h0.size := ⟨_, rfl⟩
  rw [← q1] at A1 st1
  have g_b1 : n0 ≤ b1 := nt Z0 (Nat.le_of_eq q1.symm)
  have sz_b1 : h0.size ≤ b1 := nt K0.1 (Nat.le_of_eq q1.symm)
  have Z2 := nt Z0 E1.1
  have O2 := O0.ext E1
  have K2 := K0.ext E1
  have V1 : Arv Z h1 b1 k1 .byte (3 : Int32) [(.int (0 : Int32)), (.int (0 : Int32)), (.int (0 : Int32))] (.int (0 : Int32)) := (Arv.new A1 (by decide)).pad (pad_rep [] (.int (0 : Int32)) 3)
  refine gs (S' := T1.setTop (mkF m 3 #[rv (b), iv ((0 : Int32)), iv ((3 : Int32)), uu, uu, uu] [(.ref b1)])) st1 ?_
  refine gs (fun _ k => o_astoreN X1 hx hby d16_3 rfl rfl (o_aloadN X1 hx hby d16_4 rfl rfl (o_iloadN X1 hx hby d16_5 rfl (o_aloadN X1 hx hby d16_6 rfl rfl (o_iconst (v := (0 : Int32)) X1 hx hby d16_7 (o_iloadN X1 hx hby d16_8 rfl k)))))) ?_
  have f3 := (V_b.ext E1)
  refine cS (rest := []) X1 hx hZ hown (ow hw 89 rfl) (ow hw 90 rfl) (ow hw 87 rfl) (ow hw 91 rfl) (rm_cp5_31 l Z a0 hw [] b kc b1 k1 ch0 ch1 ch2 h1 n0 Z2 O2 f3 V1 g_b1 (nw (nu (nu V_b.lt (Nat.le_refl _)) (Nat.le_of_eq q1.symm))) dq0 dq1) hby d16_9 e1 pd_215 0 (by rw [hml]; rfl) rfl rfl rfl rfl (by decide) (by decide) fun _ T4 Lc4 X4 hQ4 => ?_
  obtain ⟨rfl, N4q, K4q⟩ := hQ4
  have N4 := Fr.app N0 N4q
  have Z5 := nt Z2 K4q.1
  have O5 := O2.keep K4q (allS g_b1 all0)
  have K5 := K2.trans K4q (allS (Or.inr sz_b1) all0)
  refine gs (fun _ k => o_istore X4 hx hby d16_12 rfl (o_iload X4 hx hby d16_14 rfl (o_iloadN X4 hx hby d16_16 rfl (o_icmpNo X4 hx hby d16_17 (feq (by decide : ¬ ((1 : Int32) = (3 : Int32)))).1 (o_aloadN X4 hx hby d16_20 rfl rfl (o_iloadN X4 hx hby d16_21 rfl (o_iloadN X4 hx hby d16_22 rfl k))))))) ?_
  have f6 := (f3.keep K4q (ninS (nw (nu (nu V_b.lt (Nat.le_refl _)) (Nat.le_of_eq q1.symm))) nin0))
  refine cS (rest := []) X4 hx hZ hown (ow hw 98 rfl) (ow hw 99 rfl) (ow hw 87 rfl) (ow hw 100 rfl) (rm_tb16_3 l Z a0 hw [] b kc ch0 ch1 ch2 T4.heap n0 Z5 O5 f6 S_ad S_hi S_lo) hby d16_23 rfl pd_224 0 (by rw [hml]; rfl) rfl rfl rfl rfl (by decide) (by decide) fun _ T7 Lc7 X7 hQ7 => ?_
  obtain ⟨t7, kb7, rfl, N7q, K7q, g7t, V7q⟩ := hQ7
  have N7 := Fr.app N4 N7q
  have g_t7 : n0 ≤ t7 := nt Z5 g7t
  have sz_t7 : h0.size ≤ t7 := nt K5.1 g7t
  have Z8 := nt Z5 K7q.1
  have O8 := O5.keep K7q all0
  have K8 := K5.trans K7q all0
  refine gs (fun _ k => o_astore X7 hx hby d16_26 rfl rfl (o_aload X7 hx hby d16_28 rfl rfl (o_iload X7 hx hby d16_30 rfl k))) ?_
  refine cS (rest := []) X7 hx hZ hown (ow hw 114 rfl) (ow hw 115 rfl) (ow hw 87 rfl) (ow hw 116 rfl) (rm_gc31 l Z a0 hw [] t7 kb7 ch0 ch1 ch2 T7.heap n0 Z8 O8 V7q hc1 S_ad S_hi S_lo) hby d16_32 rfl pd_229 0 (by rw [hml]; rfl) rfl rfl rfl rfl (by decide) (by decide) fun _ T9 Lc9 X9 hQ9 => ?_
  obtain ⟨rfl, N9q, e9q⟩ := hQ9
  have N9 := Fr.app N7 N9q
  refine gs (fun _ k => XS.sipush X9.here hx rfl (hb hby d16_35) (o_icmpYes (pc' := 54) X9 hx hby d16_38 (tlt dq1).2.2.1 (o_aload X9 hx hby d16_54 rfl rfl k))) ?_
  refine gout (v := some (.ref t7)) X9 Bd.notSynchronized (fun h => by rw [Bd.returns] at h; cases h) (by decide) (by decide) ?_ (fun fs hr => retOut X9 hx Bd.returns rfl (Or.inr (Or.inr (Or.inr (Or.inr ⟨rfl, rfl, rfl⟩)))) (hb hby d16_56) hr)
  rw [e9q]
  exact ⟨_, _, rfl, N9, K8, sz_t7, V7q⟩
theorem ef_294 (m : MethodId) (x0 : Addr) (x1 : Addr) (x2 : Int32) (x3 : Int32) : entryFrame m #[(.ref x0), (.ref x1), (.int x2), (.int x3), .null] 6 = mkF m 0 #[.val (.ref x0), .val (.ref x1), .val (.int x2), .val (.int x3), .val .null, .unset] [] := by first | (simp [entryFrame, mkF, argsToLocals, Value.category]; done) | rfl
set_option maxRecDepth 65536 in
set_option maxHeartbeats 40000000 in
theorem rm_si4_31 (l : Launch) (Z : State) (a0 : Array Value) (hw : HW Z a0) (ws : List Jvm.Cond) (a : Addr) (b : Addr) (kc : ClassId) (ch0 : Int32) (ch1 : Int32) (ch2 : Int32) (z : Int32) (h0 : Heap) (n0 : Nat) (Z0 : n0 ≤ h0.size) (O0 : Old Z n0 h0) (E_a : Exa Z h0 a "java/lang/String") (F_v : Fld Z h0 a "java/lang/String" "value" "[B" .null) (F_c : Fld Z h0 a "java/lang/String" "coder" "B" (.int (0 : Int32))) (g_a : n0 ≤ a) (V_b : Arv Z h0 b kc .char (3 : Int32) [(.int ch0), (.int ch1), (.int ch2)] (.int (0 : Int32))) (dq0 : ¬ (255 : Int32) < ch0) (dq1 : (255 : Int32) < ch1) (hc0 : ¬ ch0 < 0 ∧ ¬ (65535 : Int32) < ch0) (hc1 : ¬ ch1 < 0 ∧ ¬ (65535 : Int32) < ch1) (hc2 : ¬ ch2 < 0 ∧ ¬ (65535 : Int32) < ch2) (S_ad : PS0 Z (.int (1 : Int32))) (S_hi : PS1 Z (.int (0 : Int32))) (S_lo : PS2 Z (.int (8 : Int32))) (S0 : PS3 Z (.int z)) (hz : ¬ z = 0) :
    Ctr l Z my3 jdk_42_method_149_code 6 ((Option.none : Option Jvm.ClassFile.FieldType)) ws (⟨4, 2, 9, 57⟩ : Room) #[(.ref a), (.ref b), (.int (0 : Int32)), (.int (3 : Int32)), .null] h0 (fun v h L => v = none ∧ Fr n0 L ∧ Keep h0 h [a] ∧ Str16 Z h a [ch0, ch1, ch2]) := by
  refine Ctr.go (plainFor_of_name pn_14) fun p e s m below meth c s₁ Bd hx hby hml hZ hown hnm X0 e0 => ?_
  have N0 := Fr.nil n0
  have K0 := Keep.refl h0 [a]
  refine gs (S' := s₁.setTop (mkF m 0 #[rv (a), rv (b), iv ((0 : Int32)), iv ((3 : Int32)), .val .null, uu] [])) (fun tg kg => castTop (ef_294 m a b (0 : Int32) (3 : Int32)) kg) ?_
  refine gs (fun _ k => o_aloadN X0 hx hby d0_0 rfl rfl k) ?_
  obtain ⟨T1, X1, e1, st1⟩ := initO X0 hx hZ hown (ow hw 16 rfl) (ow hw 17 rfl) (ow hw 18 rfl) e0 (g := (mkF m 1 #[rv (a), rv (b), iv ((0 : Int32)), iv ((3 : Int32)), .val .null, uu] [(.ref a)])) rfl (by rw [hml]; rfl) rfl (hb hby d0_1) (by decide) (W := 0) (own_w0 rfl) (by decide)
  refine gs (S' := T1.setTop (mkF m 4 #[rv (a), rv (b), iv ((0 : Int32)), iv ((3 : Int32)), .val .null, uu] [])) st1 ?_
  refine gs (fun _ k => o_iloadN X1 hx hby d0_4 rfl (o_ifYes (pc' := 27) X1 hx hby d0_5 ((if0 _ _).trans (feq (by decide : ¬ ((3 : Int32) = (0 : Int32)))).2) k)) ?_
  refine gS X1 hx hZ hown (host := "") (Or.inl (ow hw 30 rfl)) Via.refl e1 (S0.ext O0.2) hby d0_27 fun T2 X2 e2 => ?_
  refine gs (fun _ k => o_ifNo X2 hx hby d0_30 ((if0 _ _).trans (feq hz).1) (o_aloadN X2 hx hby d0_33 rfl rfl (o_iloadN X2 hx hby d0_34 rfl (o_iloadN X2 hx hby d0_35 rfl k)))) ?_
  refine cS (rest := []) X2 hx hZ hown (ow hw 85 rfl) (ow hw 86 rfl) (ow hw 87 rfl) (ow hw 88 rfl) (rm_cp3_31 l Z a0 hw [] b kc ch0 ch1 ch2 h0 n0 Z0 O0 V_b dq0 dq1 hc0 hc1 hc2 S_ad S_hi S_lo) hby d0_36 e2 pd_224 0 (by rw [hml]; rfl) rfl rfl rfl rfl (by decide) (by decide) fun _ T3 Lc3 X3 hQ3 => ?_
  obtain ⟨t3, kb3, rfl, N3q, K3q, g3t, V3q⟩ := hQ3
  have N3 := Fr.app N0 N3q
  have g_t3 : n0 ≤ t3 := nt Z0 g3t
  have sz_t3 : h0.size ≤ t3 := nt K0.1 g3t
  have Z4 := nt Z0 K3q.1
  have O4 := O0.keep K3q all0
  have K4 := K0.trans K3q all0
  refine gs (fun _ k => o_astore X3 hx hby d0_39 rfl rfl (o_aloadN X3 hx hby d0_41 rfl rfl (o_aload X3 hx hby d0_42 rfl rfl (o_iloadN X3 hx hby d0_44 rfl k)))) ?_
  refine cS (rest := [(.ref a)]) X3 hx hZ hown (ow hw 92 rfl) (ow hw 93 rfl) (ow hw 87 rfl) (ow hw 94 rfl) (rm_cfl3 l Z a0 hw [] t3 kb3 _ T3.heap n0 Z4 O4 V3q) hby d0_45 rfl pd_246 1 (by rw [hml]; rfl) rfl rfl rfl rfl (by decide) (by decide) fun _ T5 Lc5 X5 hQ5 => ?_
  obtain ⟨rfl, N5q, e5q⟩ := hQ5
  have N5 := Fr.app N3 N5q
  have f6 := (F_c.keep K3q nin0)
  have f7 := (E_a.keep K3q)
  obtain ⟨T8, h8, X8, e8, W8, st8⟩ := putFN X5 hx hZ hown (ow hw 26 rfl) Via.refl e5q f6 f7 (Or.inr ⟨(ow hw 22 rfl), rfl, hnm⟩) (ow hw 6 rfl) (ty := .byte) (v' := (.int (1 : Int32))) (by decide) rfl rfl (g := (mkF m 48 #[rv (a), rv (b), iv ((0 : Int32)), iv ((3 : Int32)), .val .null, rv (t3)] [(.int (1 : Int32)), (.ref a)])) rfl rfl (hb hby d0_48)
  have N8 := Fr.snoc X8 N5 g_a
  have Fw8 := f6.same W8
  have Z9 := nt Z4 (Keep.of_wr W8).1
  have O9 := O4.wr W8 g_a
  have K9 := K4.wr W8 (Or.inl (List.mem_of_getElem? (i := 0) rfl))
  refine gs (S' := T8.setTop (mkF m 51 #[rv (a), rv (b), iv ((0 : Int32)), iv ((3 : Int32)), .val .null, rv (t3)] [])) st8 ?_
  refine gs (fun _ k => o_aloadN X8 hx hby d0_51 rfl rfl (o_aload X8 hx hby d0_52 rfl rfl k)) ?_
  have f10 := ((F_v.keep K3q nin0).other W8 (Or.inr (slot_ne (Or.inr (ow hw 21 rfl)) (Or.inr (ow hw 22 rfl)) (by decide) (t := (.array .byte)) (t' := .byte) (by decide) (by decide))))
  have f11 := (f7.wr W8)
  obtain ⟨T12, h12, X12, e12, W12, st12⟩ := putF X8 hx hZ hown (host := "") (Or.inl (ow hw 25 rfl)) Via.refl e8 f10 f11 (Or.inr ⟨(ow hw 21 rfl), rfl, hnm⟩) (ow hw 6 rfl) (ty := (.array .byte)) (by decide) rfl rfl (g := (mkF m 54 #[rv (a), rv (b), iv ((0 : Int32)), iv ((3 : Int32)), .val .null, rv (t3)] [(.ref t3), (.ref a)])) rfl rfl (hb hby d0_54)
  have N12 := Fr.snoc X12 N8 g_a
  have Fw12 := f10.same W12
  have Z13 := nt Z9 (Keep.of_wr W12).1
  have O13 := O9.wr W12 g_a
  have K13 := K9.wr W12 (Or.inl (List.mem_of_getElem? (i := 0) rfl))
  refine gs (S' := T12.setTop (mkF m 57 #[rv (a), rv (b), iv ((0 : Int32)), iv ((3 : Int32)), .val .null, rv (t3)] [])) st12 ?_
  have f14 := (f11.wr W12)
  have f15 := (Fw8.other W12 (Or.inr (slot_ne (Or.inr (ow hw 22 rfl)) (Or.inr (ow hw 21 rfl)) (by decide) (t := .byte) (t' := (.array .byte)) (by decide) (by decide))))
  have f16 := ((V3q.other W8 (Ne.symm (nw (nu (nu E_a.lt (Nat.le_refl _)) g3t)))).other W12 (Ne.symm (nw (nu (nu E_a.lt (Nat.le_refl _)) g3t))))
  refine gout (v := none) X12 Bd.notSynchronized (fun _ => rfl) (by decide) (by decide) ?_ (fun fs hr => X12.returnOut hx Bd.returns (hb hby d0_57) hr)
  rw [e12]
  exact ⟨rfl, N12, K13, _, _, f14, f15, Fw12, f16⟩
theorem ef_295 (m : MethodId) (x0 : Addr) (x1 : Addr) : entryFrame m #[(.ref x0), (.ref x1)] 2 = mkF m 0 #[.val (.ref x0), .val (.ref x1)] [] := by first | (simp [entryFrame, mkF, argsToLocals, Value.category]; done) | rfl
set_option maxRecDepth 65536 in
set_option maxHeartbeats 40000000 in
theorem rm_si1_31 (l : Launch) (Z : State) (a0 : Array Value) (hw : HW Z a0) (ws : List Jvm.Cond) (a : Addr) (b : Addr) (kc : ClassId) (ch0 : Int32) (ch1 : Int32) (ch2 : Int32) (z : Int32) (h0 : Heap) (n0 : Nat) (Z0 : n0 ≤ h0.size) (O0 : Old Z n0 h0) (E_a : Exa Z h0 a "java/lang/String") (F_v : Fld Z h0 a "java/lang/String" "value" "[B" .null) (F_c : Fld Z h0 a "java/lang/String" "coder" "B" (.int (0 : Int32))) (g_a : n0 ≤ a) (V_b : Arv Z h0 b kc .char (3 : Int32) [(.int ch0), (.int ch1), (.int ch2)] (.int (0 : Int32))) (dq0 : ¬ (255 : Int32) < ch0) (dq1 : (255 : Int32) < ch1) (hc0 : ¬ ch0 < 0 ∧ ¬ (65535 : Int32) < ch0) (hc1 : ¬ ch1 < 0 ∧ ¬ (65535 : Int32) < ch1) (hc2 : ¬ ch2 < 0 ∧ ¬ (65535 : Int32) < ch2) (S_ad : PS0 Z (.int (1 : Int32))) (S_hi : PS1 Z (.int (0 : Int32))) (S_lo : PS2 Z (.int (8 : Int32))) (S0 : PS3 Z (.int z)) (hz : ¬ z = 0) :
    Ctr l Z my2 jdk_42_method_3_code 2 ((Option.none : Option Jvm.ClassFile.FieldType)) ws (⟨5, 2, 9, 74⟩ : Room) #[(.ref a), (.ref b)] h0 (fun v h L => v = none ∧ Fr n0 L ∧ Keep h0 h [a] ∧ Str16 Z h a [ch0, ch1, ch2]) := by
  refine Ctr.go (plainFor_of_name pn_14) fun p e s m below meth c s₁ Bd hx hby hml hZ hown hnm X0 e0 => ?_
  have N0 := Fr.nil n0
  have K0 := Keep.refl h0 [a]
  refine gs (S' := s₁.setTop (mkF m 0 #[rv (a), rv (b)] [])) (fun tg kg => castTop (ef_295 m a b) kg) ?_
  refine gs (fun _ k => o_aloadN X0 hx hby d1_0 rfl rfl (o_aloadN X0 hx hby d1_1 rfl rfl (o_iconst (v := (0 : Int32)) X0 hx hby d1_2 (o_aloadN X0 hx hby d1_3 rfl rfl k)))) ?_
  obtain ⟨cl1, A1, a1q, a1S, a1N, a1H, a1G⟩ := id V_b
  refine gs (S' := s₁.setTop (mkF m 5 #[rv (a), rv (b)] [(.int (3 : Int32)), (.int (0 : Int32)), (.ref b), (.ref a)])) (fun _ k => by refine X0.arraylength hx (by rw [e0]; exact A1.1) (State.isArrayOf_alike hZ.alike A1.2.1) (g := (mkF m 4 #[rv (a), rv (b)] [(.ref b), (.int (0 : Int32)), (.ref b), (.ref a)])) rfl rfl (hb hby d1_4) _ ?_; rw [len_of a1S a1N]; exact k) ?_
  refine gs (fun _ k => o_aconstNull X0 hx hby d1_5 k) ?_
  refine cI (rest := []) X0 hx hZ hown rfl (ow hw 12 rfl) (ow hw 13 rfl) (ow hw 7 rfl) (ow hw 15 rfl) (rm_si4_31 l Z a0 hw [] a b kc ch0 ch1 ch2 z h0 n0 Z0 O0 E_a F_v F_c g_a V_b dq0 dq1 hc0 hc1 hc2 S_ad S_hi S_lo S0 hz) hby d1_6 e0 pd_23 0 (by rw [hml]; rfl) rfl rfl rfl rfl (by decide) (by decide) fun _ T2 Lc2 X2 hQ2 => ?_
  obtain ⟨rfl, N2q, K2q, T2q⟩ := hQ2
  have N2 := Fr.app N0 N2q
  have Z3 := nt Z0 K2q.1
  have O3 := O0.keep K2q (allS g_a all0)
  have K3 := K0.trans K2q (allS (Or.inl (List.mem_of_getElem? (i := 0) rfl)) all0)
  refine gout (v := none) X2 Bd.notSynchronized (fun _ => rfl) (by decide) (by decide) ?_ (fun fs hr => X2.returnOut hx Bd.returns (hb hby d1_9) hr)
  exact ⟨rfl, N2, K3, T2q⟩
theorem ef_296 (m : MethodId) (x0 : Addr) (x1 : Int32) (x2 : Addr) (x3 : Int32) (x4 : Int32) : entryFrame m #[(.ref x0), (.int x1), (.ref x2), (.int x3), (.int x4)] 7 = mkF m 0 #[.val (.ref x0), .val (.int x1), .val (.ref x2), .val (.int x3), .val (.int x4), .unset, .unset] [] := by first | (simp [entryFrame, mkF, argsToLocals, Value.category]; done) | rfl
set_option maxRecDepth 65536 in
set_option maxHeartbeats 40000000 in
theorem rm_cp5_32 (l : Launch) (Z : State) (a0 : Array Value) (hw : HW Z a0) (ws : List Jvm.Cond) (b : Addr) (kc : ClassId) (t : Addr) (kb : ClassId) (ch0 : Int32) (ch1 : Int32) (ch2 : Int32) (h0 : Heap) (n0 : Nat) (Z0 : n0 ≤ h0.size) (O0 : Old Z n0 h0) (V_b : Arv Z h0 b kc .char (3 : Int32) [(.int ch0), (.int ch1), (.int ch2)] (.int (0 : Int32))) (V_t : Arv Z h0 t kb .byte (3 : Int32) [(.int (0 : Int32)), (.int (0 : Int32)), (.int (0 : Int32))] (.int (0 : Int32))) (g_t : n0 ≤ t) (hbt : b ≠ t) (dq0 : ¬ (255 : Int32) < ch0) (dq1 : ¬ (255 : Int32) < ch1) (dq2 : (255 : Int32) < ch2) :
    Ctr l Z my8 jdk_52_method_21_code 7 ((Option.some Jvm.ClassFile.FieldType.int)) ws (⟨0, 0, 0, 0⟩ : Room) #[(.ref b), (.int (0 : Int32)), (.ref t), (.int (0 : Int32)), (.int (3 : Int32))] h0 (fun v h L => v = some (.int (2 : Int32)) ∧ Fr n0 L ∧ Keep h0 h [t]) := by
  refine Ctr.go (plainFor_of_name pn_117) fun p e s m below meth c s₁ Bd hx hby hml hZ hown hnm X0 e0 => ?_
  have N0 := Fr.nil n0
  have K0 := Keep.refl h0 [t]
  refine gs (S' := s₁.setTop (mkF m 0 #[rv (b), iv ((0 : Int32)), rv (t), iv ((0 : Int32)), iv ((3 : Int32)), uu, uu] [])) (fun tg kg => castTop (ef_296 m b (0 : Int32) t (0 : Int32) (3 : Int32)) kg) ?_
  refine gs (fun _ k => o_iconst (v := (0 : Int32)) X0 hx hby d15_0 (o_istore X0 hx hby d15_1 rfl (o_iload X0 hx hby d15_3 rfl (o_iload X0 hx hby d15_5 rfl (o_icmpNo X0 hx hby d15_7 (tlt (by decide : (0 : Int32) < (3 : Int32))).2.1 (o_aloadN X0 hx hby d15_10 rfl rfl (o_iloadN X0 hx hby d15_11 rfl k))))))) ?_
  obtain ⟨cl1, A1, a1q, a1S, a1N, a1H, a1G⟩ := id V_b
  have hi1 := inb_of a1S (j := (0 : Int32)) ⟨by decide, by decide⟩
  refine gs (fun _ k => X0.caload hx (j := (0 : Int32)) (v := (.int ch0)) (by rw [e0]; exact A1.1) (State.isArrayOf_alike hZ.alike A1.2.1) A1.2.2 hi1 (Has.at a1H hi1 rfl) (g := (mkF m 12 #[rv (b), iv ((0 : Int32)), rv (t), iv ((0 : Int32)), iv ((3 : Int32)), iv ((0 : Int32)), uu] [(.int (0 : Int32)), (.ref b)])) rfl rfl (hb hby d15_12) _ (o_istore X0 hx hby d15_13 rfl (o_iload X0 hx hby d15_15 rfl (XS.sipush X0.here hx rfl (hb hby d15_17) (o_icmpYes (pc' := 26) X0 hx hby d15_20 (flt dq0).2.2.2 (o_aloadN X0 hx hby d15_26 rfl rfl (o_iloadN X0 hx hby d15_27 rfl (o_iload X0 hx hby d15_28 rfl (o_i2b X0 hx hby d15_30 k))))))))) ?_
  obtain ⟨cl2, A2, a2q, a2S, a2N, a2H, a2G⟩ := id V_t
  obtain ⟨T2, h2, X2, e2, W2, st2⟩ := stB X0 hx hZ e0 A2 (j := (0 : Int32)) (inb_of a2S ⟨by decide, by decide⟩) (g := (mkF m 31 #[rv (b), iv ((0 : Int32)), rv (t), iv ((0 : Int32)), iv ((3 : Int32)), iv ((0 : Int32)), iv (ch0)] [(.int (ch0.toInt8.toInt32)), (.int (0 : Int32)), (.ref t)])) rfl rfl (hb hby d15_31)
  have V2 : Arv Z h2 t kb .byte (3 : Int32) [(.int (nar .byte (ch0.toInt8.toInt32))), (.int (0 : Int32)), (.int (0 : Int32))] (.int (0 : Int32)) := Arv.set A2 a2q a2S a2N a2H a2G (fits_nar_byte _) W2 0 rfl (nb rfl)
  have N2 := Fr.snoc X2 N0 g_t
  have Z3 := nt Z0 (Keep.of_wr W2).1
  have O3 := O0.wr W2 g_t
  have K3 := K0.wr W2 (Or.inl (List.mem_of_getElem? (i := 0) rfl))
  refine gs (S' := T2.setTop (mkF m 32 #[rv (b), iv ((0 : Int32)), rv (t), iv ((0 : Int32)), iv ((3 : Int32)), iv ((0 : Int32)), iv (ch0)] [])) st2 ?_
  refine gs (fun _ k => o_iinc X2 hx hby d15_32 rfl rfl (o_iinc X2 hx hby d15_35 rfl rfl (o_iinc X2 hx hby d15_38 rfl rfl (o_goto (pc' := 3) X2 hx hby d15_41 (o_iload X2 hx hby d15_3 rfl (o_iload X2 hx hby d15_5 rfl (o_icmpNo X2 hx hby d15_7 (tlt (by decide : (1 : Int32) < (3 : Int32))).2.1 (o_aloadN X2 hx hby d15_10 rfl rfl (o_iloadN X2 hx hby d15_11 rfl k))))))))) ?_
  have f4 := (V_b.other W2 hbt)
  obtain ⟨cl5, A5, a5q, a5S, a5N, a5H, a5G⟩ := id f4
  have hi5 := inb_of a5S (j := (1 : Int32)) ⟨by decide, by decide⟩
  refine gs (fun _ k => X2.caload hx (j := (1 : Int32)) (v := (.int ch1)) (by rw [e2]; exact A5.1) (State.isArrayOf_alike hZ.alike A5.2.1) A5.2.2 hi5 (Has.at a5H hi5 rfl) (g := (mkF m 12 #[rv (b), iv ((1 : Int32)), rv (t), iv ((1 : Int32)), iv ((3 : Int32)), iv ((1 : Int32)), iv (ch0)] [(.int (1 : Int32)), (.ref b)])) rfl rfl (hb hby d15_12) _ (o_istore X2 hx hby d15_13 rfl (o_iload X2 hx hby d15_15 rfl (XS.sipush X2.here hx rfl (hb hby d15_17) (o_icmpYes (pc' := 26) X2 hx hby d15_20 (flt dq1).2.2.2 (o_aloadN X2 hx hby d15_26 rfl rfl (o_iloadN X2 hx hby d15_27 rfl (o_iload X2 hx hby d15_28 rfl (o_i2b X2 hx hby d15_30 k))))))))) ?_
  obtain ⟨cl6, A6, a6q, a6S, a6N, a6H, a6G⟩ := id V2
  obtain ⟨T6, h6, X6, e6, W6, st6⟩ := stB X2 hx hZ e2 A6 (j := (1 : Int32)) (inb_of a6S ⟨by decide, by decide⟩) (g := (mkF m 31 #[rv (b), iv ((1 : Int32)), rv (t), iv ((1 : Int32)), iv ((3 : Int32)), iv ((1 : Int32)), iv (ch1)] [(.int (ch1.toInt8.toInt32)), (.int (1 : Int32)), (.ref t)])) rfl rfl (hb hby d15_31)
  have V6 : Arv Z h6 t kb .byte (3 : Int32) [(.int (nar .byte (ch0.toInt8.toInt32))), (.int (nar .byte (ch1.toInt8.toInt32))), (.int (0 : Int32))] (.int (0 : Int32)) := Arv.set A6 a6q a6S a6N a6H a6G (fits_nar_byte _) W6 1 rfl (nb rfl)
  have N6 := Fr.snoc X6 N2 g_t
  have Z7 := nt Z3 (Keep.of_wr W6).1
  have O7 := O3.wr W6 g_t
  have K7 := K3.wr W6 (Or.inl (List.mem_of_getElem? (i := 0) rfl))
  refine gs (S' := T6.setTop (mkF m 32 #[rv (b), iv ((1 : Int32)), rv (t), iv ((1 : Int32)), iv ((3 : Int32)), iv ((1 : Int32)), iv (ch1)] [])) st6 ?_
  refine gs (fun _ k => o_iinc X6 hx hby d15_32 rfl rfl (o_iinc X6 hx hby d15_35 rfl rfl (o_iinc X6 hx hby d15_38 rfl rfl (o_goto (pc' := 3) X6 hx hby d15_41 (o_iload X6 hx hby d15_3 rfl (o_iload X6 hx hby d15_5 rfl (o_icmpNo X6 hx hby d15_7 (tlt (by decide : (2 : Int32) < (3 : Int32))).2.1 (o_aloadN X6 hx hby d15_10 rfl rfl (o_iloadN X6 hx hby d15_11 rfl k))))))))) ?_
  have f8 := (f4.other W6 hbt)
  obtain ⟨cl9, A9, a9q, a9S, a9N, a9H, a9G⟩ := id f8
  have hi9 := inb_of a9S (j := (2 : Int32)) ⟨by decide, by decide⟩
  refine gs (fun _ k => X6.caload hx (j := (2 : Int32)) (v := (.int ch2)) (by rw [e6]; exact A9.1) (State.isArrayOf_alike hZ.alike A9.2.1) A9.2.2 hi9 (Has.at a9H hi9 rfl) (g := (mkF m 12 #[rv (b), iv ((2 : Int32)), rv (t), iv ((2 : Int32)), iv ((3 : Int32)), iv ((2 : Int32)), iv (ch1)] [(.int (2 : Int32)), (.ref b)])) rfl rfl (hb hby d15_12) _ (o_istore X6 hx hby d15_13 rfl (o_iload X6 hx hby d15_15 rfl (XS.sipush X6.here hx rfl (hb hby d15_17) (o_icmpNo X6 hx hby d15_20 (tlt dq2).2.2.2 (o_iload X6 hx hby d15_23 rfl k)))))) ?_
  refine gout (v := some (.int (2 : Int32))) X6 Bd.notSynchronized (fun h => by rw [Bd.returns] at h; cases h) (by decide) (by decide) ?_ (fun fs hr => retI X6 hx Bd.returns (hb hby d15_25) hr)
  rw [e6]
  exact ⟨rfl, N6, K7⟩
theorem ef_297 (m : MethodId) (x0 : Addr) (x1 : Int32) (x2 : Int32) : entryFrame m #[(.ref x0), (.int x1), (.int x2)] 6 = mkF m 0 #[.val (.ref x0), .val (.int x1), .val (.int x2), .unset, .unset, .unset] [] := by first | (simp [entryFrame, mkF, argsToLocals, Value.category]; done) | rfl
set_option maxRecDepth 65536 in
set_option maxHeartbeats 40000000 in
theorem rm_cp3_32 (l : Launch) (Z : State) (a0 : Array Value) (hw : HW Z a0) (ws : List Jvm.Cond) (b : Addr) (kc : ClassId) (ch0 : Int32) (ch1 : Int32) (ch2 : Int32) (h0 : Heap) (n0 : Nat) (Z0 : n0 ≤ h0.size) (O0 : Old Z n0 h0) (V_b : Arv Z h0 b kc .char (3 : Int32) [(.int ch0), (.int ch1), (.int ch2)] (.int (0 : Int32))) (dq0 : ¬ (255 : Int32) < ch0) (dq1 : ¬ (255 : Int32) < ch1) (dq2 : (255 : Int32) < ch2) (hc0 : ¬ ch0 < 0 ∧ ¬ (65535 : Int32) < ch0) (hc1 : ¬ ch1 < 0 ∧ ¬ (65535 : Int32) < ch1) (hc2 : ¬ ch2 < 0 ∧ ¬ (65535 : Int32) < ch2) (S_ad : PS0 Z (.int (1 : Int32))) (S_hi : PS1 Z (.int (0 : Int32))) (S_lo : PS2 Z (.int (8 : Int32))) :
    Ctr l Z my9 jdk_52_method_16_code 6 ((Option.some (Jvm.ClassFile.FieldType.array Jvm.ClassFile.FieldType.byte))) ws (⟨3, 2, 9, 40⟩ : Room) #[(.ref b), (.int (0 : Int32)), (.int (3 : Int32))] h0 (fun v h L => ∃ (t : Addr) (kb : ClassId), v = some (.ref t) ∧ Fr n0 L ∧ Keep h0 h [] ∧ h0.size ≤ t ∧ Arv Z h t kb .byte (6 : Int32) [(.int (own_b0 ch0)), (.int (own_b1 ch0)), (.int (own_b0 ch1)), (.int (own_b1 ch1)), (.int (own_b0 ch2)), (.int (own_b1 ch2))] (.int (0 : Int32))) := by
  refine Ctr.go (plainFor_of_name pn_117) fun p e s m below meth c s₁ Bd hx hby hml hZ hown hnm X0 e0 => ?_
  have N0 := Fr.nil n0
  have K0 := Keep.refl h0 []
  refine gs (S' := s₁.setTop (mkF m 0 #[rv (b), iv ((0 : Int32)), iv ((3 : Int32)), uu, uu, uu] [])) (fun tg kg => castTop (ef_297 m b (0 : Int32) (3 : Int32)) kg) ?_
  refine gs (fun _ k => o_iloadN X0 hx hby d16_0 rfl k) ?_
  obtain ⟨T1, h1, k1, X1, e1, E1, A1, st1⟩ := newP X0 hx hZ (ow hw 20 rfl) e0 (g := (mkF m 1 #[rv (b), iv ((0 : Int32)), iv ((3 : Int32)), uu, uu, uu] [(.int (3 : Int32))])) rfl (hb hby d16_1) rfl (by decide) (cap := 3) (by decide) (by decide) (by decide) (by decide)
  obtain ⟨b1, q1⟩ : ∃ z, z = h0.size := ⟨_, rfl⟩
  rw [← q1] at A1 st1
  have g_b1 : n0 ≤ b1 := nt Z0 (Nat.le_of_eq q1.symm)
  have sz_b1 : h0.size ≤ b1 := nt K0.1 (Nat.le_of_eq q1.symm)
  have Z2 := nt Z0 E1.1
  have O2 := O0.ext E1
  have K2 := K0.ext E1
  have V1 : Arv Z h1 b1 k1 .byte (3 : Int32) [(.int (0 : Int32)), (.int (0 : Int32)), (.int (0 : Int32))] (.int (0 : Int32)) := (Arv.new A1 (by decide)).pad (pad_rep [] (.int (0 : Int32)) 3)
  refine gs (S' := T1.setTop (mkF m 3 #[rv (b), iv ((0 : Int32)), iv ((3 : Int32)), uu, uu, uu] [(.ref b1)])) st1 ?_
  refine gs (fun _ k => o_astoreN X1 hx hby d16_3 rfl rfl (o_aloadN X1 hx hby d16_4 rfl rfl (o_iloadN X1 hx hby d16_5 rfl (o_aloadN X1 hx hby d16_6 rfl rfl (o_iconst (v := (0 : Int32)) X1 hx hby d16_7 (o_iloadN X1 hx hby d16_8 rfl k)))))) ?_
  have f3 := (V_b.ext E1)
  refine cS (rest := []) X1 hx hZ hown (ow hw 89 rfl) (ow hw 90 rfl) (ow hw 87 rfl) (ow hw 91 rfl) (rm_cp5_32 l Z a0 hw [] b kc b1 k1 ch0 ch1 ch2 h1 n0 Z2 O2 f3 V1 g_b1 (nw (nu (nu V_b.lt (Nat.le_refl _)) (Nat.le_of_eq q1.symm))) dq0 dq1 dq2) hby d16_9 e1 pd_215 0 (by rw [hml]; rfl) rfl rfl rfl rfl (by decide) (by decide) fun _ T4 Lc4 X4 hQ4 => ?_
  obtain ⟨rfl, N4q, K4q⟩ := hQ4
  have N4 := Fr.app N0 N4q
  have Z5 := nt Z2 K4q.1
  have O5 := O2.keep K4q (allS g_b1 all0)
  have K5 := K2.trans K4q (allS (Or.inr sz_b1) all0)
  refine gs (fun _ k => o_istore X4 hx hby d16_12 rfl (o_iload X4 hx hby d16_14 rfl (o_iloadN X4 hx hby d16_16 rfl (o_icmpNo X4 hx hby d16_17 (feq (by decide : ¬ ((2 : Int32) = (3 : Int32)))).1 (o_aloadN X4 hx hby d16_20 rfl rfl (o_iloadN X4 hx hby d16_21 rfl (o_iloadN X4 hx hby d16_22 rfl k))))))) ?_
  have f6 := (f3.keep K4q (ninS (nw (nu (nu V_b.lt (Nat.le_refl _)) (Nat.le_of_eq q1.symm))) nin0))
  refine cS (rest := []) X4 hx hZ hown (ow hw 98 rfl) (ow hw 99 rfl) (ow hw 87 rfl) (ow hw 100 rfl) (rm_tb16_3 l Z a0 hw [] b kc ch0 ch1 ch2 T4.heap n0 Z5 O5 f6 S_ad S_hi S_lo) hby d16_23 rfl pd_224 0 (by rw [hml]; rfl) rfl rfl rfl rfl (by decide) (by decide) fun _ T7 Lc7 X7 hQ7 => ?_
  obtain ⟨t7, kb7, rfl, N7q, K7q, g7t, V7q⟩ := hQ7
  have N7 := Fr.app N4 N7q
  have g_t7 : n0 ≤ t7 := nt Z5 g7t
  have sz_t7 : h0.size ≤ t7 := nt K5.1 g7t
  have Z8 := nt Z5 K7q.1
  have O8 := O5.keep K7q all0
  have K8 := K5.trans K7q all0
  refine gs (fun _ k => o_astore X7 hx hby d16_26 rfl rfl (o_aload X7 hx hby d16_28 rfl rfl (o_iload X7 hx hby d16_30 rfl k))) ?_
  refine cS (rest := []) X7 hx hZ hown (ow hw 114 rfl) (ow hw 115 rfl) (ow hw 87 rfl) (ow hw 116 rfl) (rm_gc32 l Z a0 hw [] t7 kb7 ch0 ch1 ch2 T7.heap n0 Z8 O8 V7q hc2 S_ad S_hi S_lo) hby d16_32 rfl pd_229 0 (by rw [hml]; rfl) rfl rfl rfl rfl (by decide) (by decide) fun _ T9 Lc9 X9 hQ9 => ?_
  obtain ⟨rfl, N9q, e9q⟩ := hQ9
  have N9 := Fr.app N7 N9q
  refine gs (fun _ k => XS.sipush X9.here hx rfl (hb hby d16_35) (o_icmpYes (pc' := 54) X9 hx hby d16_38 (tlt dq2).2.2.1 (o_aload X9 hx hby d16_54 rfl rfl k))) ?_
  refine gout (v := some (.ref t7)) X9 Bd.notSynchronized (fun h => by rw [Bd.returns] at h; cases h) (by decide) (by decide) ?_ (fun fs hr => retOut X9 hx Bd.returns rfl (Or.inr (Or.inr (Or.inr (Or.inr ⟨rfl, rfl, rfl⟩)))) (hb hby d16_56) hr)
  rw [e9q]
  exact ⟨_, _, rfl, N9, K8, sz_t7, V7q⟩
theorem ef_298 (m : MethodId) (x0 : Addr) (x1 : Addr) (x2 : Int32) (x3 : Int32) : entryFrame m #[(.ref x0), (.ref x1), (.int x2), (.int x3), .null] 6 = mkF m 0 #[.val (.ref x0), .val (.ref x1), .val (.int x2), .val (.int x3), .val .null, .unset] [] := by first | (simp [entryFrame, mkF, argsToLocals, Value.category]; done) | rfl
set_option maxRecDepth 65536 in
set_option maxHeartbeats 40000000 in
theorem rm_si4_32 (l : Launch) (Z : State) (a0 : Array Value) (hw : HW Z a0) (ws : List Jvm.Cond) (a : Addr) (b : Addr) (kc : ClassId) (ch0 : Int32) (ch1 : Int32) (ch2 : Int32) (z : Int32) (h0 : Heap) (n0 : Nat) (Z0 : n0 ≤ h0.size) (O0 : Old Z n0 h0) (E_a : Exa Z h0 a "java/lang/String") (F_v : Fld Z h0 a "java/lang/String" "value" "[B" .null) (F_c : Fld Z h0 a "java/lang/String" "coder" "B" (.int (0 : Int32))) (g_a : n0 ≤ a) (V_b : Arv Z h0 b kc .char (3 : Int32) [(.int ch0), (.int ch1), (.int ch2)] (.int (0 : Int32))) (dq0 : ¬ (255 : Int32) < ch0) (dq1 : ¬ (255 : Int32) < ch1) (dq2 : (255 : Int32) < ch2) (hc0 : ¬ ch0 < 0 ∧ ¬ (65535 : Int32) < ch0) (hc1 : ¬ ch1 < 0 ∧ ¬ (65535 : Int32) < ch1) (hc2 : ¬ ch2 < 0 ∧ ¬ (65535 : Int32) < ch2) (S_ad : PS0 Z (.int (1 : Int32))) (S_hi : PS1 Z (.int (0 : Int32))) (S_lo : PS2 Z (.int (8 : Int32))) (S0 : PS3 Z (.int z)) (hz : ¬ z = 0) :
    Ctr l Z my3 jdk_42_method_149_code 6 ((Option.none : Option Jvm.ClassFile.FieldType)) ws (⟨4, 2, 9, 57⟩ : Room) #[(.ref a), (.ref b), (.int (0 : Int32)), (.int (3 : Int32)), .null] h0 (fun v h L => v = none ∧ Fr n0 L ∧ Keep h0 h [a] ∧ Str16 Z h a [ch0, ch1, ch2]) := by
  refine Ctr.go (plainFor_of_name pn_14) fun p e s m below meth c s₁ Bd hx hby hml hZ hown hnm X0 e0 => ?_
  have N0 := Fr.nil n0
  have K0 := Keep.refl h0 [a]
  refine gs (S' := s₁.setTop (mkF m 0 #[rv (a), rv (b), iv ((0 : Int32)), iv ((3 : Int32)), .val .null, uu] [])) (fun tg kg => castTop (ef_298 m a b (0 : Int32) (3 : Int32)) kg) ?_
  refine gs (fun _ k => o_aloadN X0 hx hby d0_0 rfl rfl k) ?_
  obtain ⟨T1, X1, e1, st1⟩ := initO X0 hx hZ hown (ow hw 16 rfl) (ow hw 17 rfl) (ow hw 18 rfl) e0 (g := (mkF m 1 #[rv (a), rv (b), iv ((0 : Int32)), iv ((3 : Int32)), .val .null, uu] [(.ref a)])) rfl (by rw [hml]; rfl) rfl (hb hby d0_1) (by decide) (W := 0) (own_w0 rfl) (by decide)
  refine gs (S' := T1.setTop (mkF m 4 #[rv (a), rv (b), iv ((0 : Int32)), iv ((3 : Int32)), .val .null, uu] [])) st1 ?_
  refine gs (fun _ k => o_iloadN X1 hx hby d0_4 rfl (o_ifYes (pc' := 27) X1 hx hby d0_5 ((if0 _ _).trans (feq (by decide : ¬ ((3 : Int32) = (0 : Int32)))).2) k)) ?_
  refine gS X1 hx hZ hown (host := "") (Or.inl (ow hw 30 rfl)) Via.refl e1 (S0.ext O0.2) hby d0_27 fun T2 X2 e2 => ?_
  refine gs (fun _ k => o_ifNo X2 hx hby d0_30 ((if0 _ _).trans (feq hz).1) (o_aloadN X2 hx hby d0_33 rfl rfl (o_iloadN X2 hx hby d0_34 rfl (o_iloadN X2 hx hby d0_35 rfl k)))) ?_
  refine cS (rest := []) X2 hx hZ hown (ow hw 85 rfl) (ow hw 86 rfl) (ow hw 87 rfl) (ow hw 88 rfl) (rm_cp3_32 l Z a0 hw [] b kc ch0 ch1 ch2 h0 n0 Z0 O0 V_b dq0 dq1 dq2 hc0 hc1 hc2 S_ad S_hi S_lo) hby d0_36 e2 pd_224 0 (by rw [hml]; rfl) rfl rfl rfl rfl (by decide) (by decide) fun _ T3 Lc3 X3 hQ3 => ?_
  obtain ⟨t3, kb3, rfl, N3q, K3q, g3t, V3q⟩ := hQ3
  have N3 := Fr.app N0 N3q
  have g_t3 : n0 ≤ t3 := nt Z0 g3t
  have sz_t3 : h0.size ≤ t3 := nt K0.1 g3t
  have Z4 := nt Z0 K3q.1
  have O4 := O0.keep K3q all0
  have K4 := K0.trans K3q all0
  refine gs (fun _ k => o_astore X3 hx hby d0_39 rfl rfl (o_aloadN X3 hx hby d0_41 rfl rfl (o_aload X3 hx hby d0_42 rfl rfl (o_iloadN X3 hx hby d0_44 rfl k)))) ?_
  refine cS (rest := [(.ref a)]) X3 hx hZ hown (ow hw 92 rfl) (ow hw 93 rfl) (ow hw 87 rfl) (ow hw 94 rfl) (rm_cfl3 l Z a0 hw [] t3 kb3 _ T3.heap n0 Z4 O4 V3q) hby d0_45 rfl pd_246 1 (by rw [hml]; rfl) rfl rfl rfl rfl (by decide) (by decide) fun _ T5 Lc5 X5 hQ5 => ?_
  obtain ⟨rfl, N5q, e5q⟩ := hQ5
  have N5 := Fr.app N3 N5q
  have f6 := (F_c.keep K3q nin0)
  have f7 := (E_a.keep K3q)
  obtain ⟨T8, h8, X8, e8, W8, st8⟩ := putFN X5 hx hZ hown (ow hw 26 rfl) Via.refl e5q f6 f7 (Or.inr ⟨(ow hw 22 rfl), rfl, hnm⟩) (ow hw 6 rfl) (ty := .byte) (v' := (.int (1 : Int32))) (by decide) rfl rfl (g := (mkF m 48 #[rv (a), rv (b), iv ((0 : Int32)), iv ((3 : Int32)), .val .null, rv (t3)] [(.int (1 : Int32)), (.ref a)])) rfl rfl (hb hby d0_48)
  have N8 := Fr.snoc X8 N5 g_a
  have Fw8 := f6.same W8
  have Z9 := nt Z4 (Keep.of_wr W8).1
  have O9 := O4.wr W8 g_a
  have K9 := K4.wr W8 (Or.inl (List.mem_of_getElem? (i := 0) rfl))
  refine gs (S' := T8.setTop (mkF m 51 #[rv (a), rv (b), iv ((0 : Int32)), iv ((3 : Int32)), .val .null, rv (t3)] [])) st8 ?_
  refine gs (fun _ k => o_aloadN X8 hx hby d0_51 rfl rfl (o_aload X8 hx hby d0_52 rfl rfl k)) ?_
  have f10 := ((F_v.keep K3q nin0).other W8 (Or.inr (slot_ne (Or.inr (ow hw 21 rfl)) (Or.inr (ow hw 22 rfl)) (by decide) (t := (.array .byte)) (t' := .byte) (by decide) (by decide))))
  have f11 := (f7.wr W8)
  obtain ⟨T12, h12, X12, e12, W12, st12⟩ := putF X8 hx hZ hown (host := "") (Or.inl (ow hw 25 rfl)) Via.refl e8 f10 f11 (Or.inr ⟨(ow hw 21 rfl), rfl, hnm⟩) (ow hw 6 rfl) (ty := (.array .byte)) (by decide) rfl rfl (g := (mkF m 54 #[rv (a), rv (b), iv ((0 : Int32)), iv ((3 : Int32)), .val .null, rv (t3)] [(.ref t3), (.ref a)])) rfl rfl (hb hby d0_54)
  have N12 := Fr.snoc X12 N8 g_a
  have Fw12 := f10.same W12
  have Z13 := nt Z9 (Keep.of_wr W12).1
  have O13 := O9.wr W12 g_a
  have K13 := K9.wr W12 (Or.inl (List.mem_of_getElem? (i := 0) rfl))
  refine gs (S' := T12.setTop (mkF m 57 #[rv (a), rv (b), iv ((0 : Int32)), iv ((3 : Int32)), .val .null, rv (t3)] [])) st12 ?_
  have f14 := (f11.wr W12)
  have f15 := (Fw8.other W12 (Or.inr (slot_ne (Or.inr (ow hw 22 rfl)) (Or.inr (ow hw 21 rfl)) (by decide) (t := .byte) (t' := (.array .byte)) (by decide) (by decide))))
  have f16 := ((V3q.other W8 (Ne.symm (nw (nu (nu E_a.lt (Nat.le_refl _)) g3t)))).other W12 (Ne.symm (nw (nu (nu E_a.lt (Nat.le_refl _)) g3t))))
  refine gout (v := none) X12 Bd.notSynchronized (fun _ => rfl) (by decide) (by decide) ?_ (fun fs hr => X12.returnOut hx Bd.returns (hb hby d0_57) hr)
  rw [e12]
  exact ⟨rfl, N12, K13, _, _, f14, f15, Fw12, f16⟩
theorem ef_299 (m : MethodId) (x0 : Addr) (x1 : Addr) : entryFrame m #[(.ref x0), (.ref x1)] 2 = mkF m 0 #[.val (.ref x0), .val (.ref x1)] [] := by first | (simp [entryFrame, mkF, argsToLocals, Value.category]; done) | rfl
set_option maxRecDepth 65536 in
set_option maxHeartbeats 40000000 in
theorem rm_si1_32 (l : Launch) (Z : State) (a0 : Array Value) (hw : HW Z a0) (ws : List Jvm.Cond) (a : Addr) (b : Addr) (kc : ClassId) (ch0 : Int32) (ch1 : Int32) (ch2 : Int32) (z : Int32) (h0 : Heap) (n0 : Nat) (Z0 : n0 ≤ h0.size) (O0 : Old Z n0 h0) (E_a : Exa Z h0 a "java/lang/String") (F_v : Fld Z h0 a "java/lang/String" "value" "[B" .null) (F_c : Fld Z h0 a "java/lang/String" "coder" "B" (.int (0 : Int32))) (g_a : n0 ≤ a) (V_b : Arv Z h0 b kc .char (3 : Int32) [(.int ch0), (.int ch1), (.int ch2)] (.int (0 : Int32))) (dq0 : ¬ (255 : Int32) < ch0) (dq1 : ¬ (255 : Int32) < ch1) (dq2 : (255 : Int32) < ch2) (hc0 : ¬ ch0 < 0 ∧ ¬ (65535 : Int32) < ch0) (hc1 : ¬ ch1 < 0 ∧ ¬ (65535 : Int32) < ch1) (hc2 : ¬ ch2 < 0 ∧ ¬ (65535 : Int32) < ch2) (S_ad : PS0 Z (.int (1 : Int32))) (S_hi : PS1 Z (.int (0 : Int32))) (S_lo : PS2 Z (.int (8 : Int32))) (S0 : PS3 Z (.int z)) (hz : ¬ z = 0) :
    Ctr l Z my2 jdk_42_method_3_code 2 ((Option.none : Option Jvm.ClassFile.FieldType)) ws (⟨5, 2, 9, 74⟩ : Room) #[(.ref a), (.ref b)] h0 (fun v h L => v = none ∧ Fr n0 L ∧ Keep h0 h [a] ∧ Str16 Z h a [ch0, ch1, ch2]) := by
  refine Ctr.go (plainFor_of_name pn_14) fun p e s m below meth c s₁ Bd hx hby hml hZ hown hnm X0 e0 => ?_
  have N0 := Fr.nil n0
  have K0 := Keep.refl h0 [a]
  refine gs (S' := s₁.setTop (mkF m 0 #[rv (a), rv (b)] [])) (fun tg kg => castTop (ef_299 m a b) kg) ?_
  refine gs (fun _ k => o_aloadN X0 hx hby d1_0 rfl rfl (o_aloadN X0 hx hby d1_1 rfl rfl (o_iconst (v := (0 : Int32)) X0 hx hby d1_2 (o_aloadN X0 hx hby d1_3 rfl rfl k)))) ?_
  obtain ⟨cl1, A1, a1q, a1S, a1N, a1H, a1G⟩ := id V_b
  refine gs (S' := s₁.setTop (mkF m 5 #[rv (a), rv (b)] [(.int (3 : Int32)), (.int (0 : Int32)), (.ref b), (.ref a)])) (fun _ k => by refine X0.arraylength hx (by rw [e0]; exact A1.1) (State.isArrayOf_alike hZ.alike A1.2.1) (g := (mkF m 4 #[rv (a), rv (b)] [(.ref b), (.int (0 : Int32)), (.ref b), (.ref a)])) rfl rfl (hb hby d1_4) _ ?_; rw [len_of a1S a1N]; exact k) ?_
  refine gs (fun _ k => o_aconstNull X0 hx hby d1_5 k) ?_
  refine cI (rest := []) X0 hx hZ hown rfl (ow hw 12 rfl) (ow hw 13 rfl) (ow hw 7 rfl) (ow hw 15 rfl) (rm_si4_32 l Z a0 hw [] a b kc ch0 ch1 ch2 z h0 n0 Z0 O0 E_a F_v F_c g_a V_b dq0 dq1 dq2 hc0 hc1 hc2 S_ad S_hi S_lo S0 hz) hby d1_6 e0 pd_23 0 (by rw [hml]; rfl) rfl rfl rfl rfl (by decide) (by decide) fun _ T2 Lc2 X2 hQ2 => ?_
  obtain ⟨rfl, N2q, K2q, T2q⟩ := hQ2
  have N2 := Fr.app N0 N2q
  have Z3 := nt Z0 K2q.1
  have O3 := O0.keep K2q (allS g_a all0)
  have K3 := K0.trans K2q (allS (Or.inl (List.mem_of_getElem? (i := 0) rfl)) all0)
  refine gout (v := none) X2 Bd.notSynchronized (fun _ => rfl) (by decide) (by decide) ?_ (fun fs hr => X2.returnOut hx Bd.returns (hb hby d1_9) hr)
  exact ⟨rfl, N2, K3, T2q⟩
def own_mk (p0 p1 p2 p3 : Int32) : List Int32 := if p0 = (0 : Int32) then [] else if p0 = (1 : Int32) then [p1] else if p0 = (2 : Int32) then [p1, p2] else [p1, p2, p3]
theorem ef_300 (m : MethodId) (x0 : Int32) (x1 : Int32) (x2 : Int32) (x3 : Int32) : entryFrame m #[(.int x0), (.int x1), (.int x2), (.int x3)] 4 = mkF m 0 #[.val (.int x0), .val (.int x1), .val (.int x2), .val (.int x3)] [] := by first | (simp [entryFrame, mkF, argsToLocals, Value.category]; done) | rfl
theorem d17_0 : decode method_2_code 0 = .ok (.iload_n 0, 1) := by decide +kernel
theorem d17_1 : decode method_2_code 1 = .ok (.ifCond .ne 14, 3) := by decide +kernel
theorem d17_4 : decode method_2_code 4 = .ok (.new 7, 3) := by decide +kernel
theorem d17_7 : decode method_2_code 7 = .ok (.dup, 1) := by decide +kernel
theorem d17_8 : decode method_2_code 8 = .ok (.iconst 0, 1) := by decide +kernel
theorem d17_9 : decode method_2_code 9 = .ok (.newarray .char, 2) := by decide +kernel
theorem d17_11 : decode method_2_code 11 = .ok (.invokespecial 9, 3) := by decide +kernel
theorem pd_308 : parseMethodDescriptor "([C)V" = some ⟨[(.array .char)], none⟩ := by decide +kernel
theorem d17_14 : decode method_2_code 14 = .ok (.areturn, 1) := by decide +kernel
theorem d17_15 : decode method_2_code 15 = .ok (.iload_n 0, 1) := by decide +kernel
theorem d17_16 : decode method_2_code 16 = .ok (.iconst 1, 1) := by decide +kernel
theorem d17_17 : decode method_2_code 17 = .ok (.if_icmp .ne 18, 3) := by decide +kernel
theorem d17_20 : decode method_2_code 20 = .ok (.new 7, 3) := by decide +kernel
theorem d17_23 : decode method_2_code 23 = .ok (.dup, 1) := by decide +kernel
theorem d17_24 : decode method_2_code 24 = .ok (.iconst 1, 1) := by decide +kernel
theorem d17_25 : decode method_2_code 25 = .ok (.newarray .char, 2) := by decide +kernel
theorem d17_27 : decode method_2_code 27 = .ok (.dup, 1) := by decide +kernel
theorem d17_28 : decode method_2_code 28 = .ok (.iconst 0, 1) := by decide +kernel
theorem d17_29 : decode method_2_code 29 = .ok (.iload_n 1, 1) := by decide +kernel
theorem d17_30 : decode method_2_code 30 = .ok (.castore, 1) := by decide +kernel
theorem d17_31 : decode method_2_code 31 = .ok (.invokespecial 9, 3) := by decide +kernel
theorem d17_34 : decode method_2_code 34 = .ok (.areturn, 1) := by decide +kernel
theorem d17_35 : decode method_2_code 35 = .ok (.iload_n 0, 1) := by decide +kernel
theorem d17_36 : decode method_2_code 36 = .ok (.iconst 2, 1) := by decide +kernel
theorem d17_37 : decode method_2_code 37 = .ok (.if_icmp .ne 22, 3) := by decide +kernel
theorem d17_40 : decode method_2_code 40 = .ok (.new 7, 3) := by decide +kernel
theorem d17_43 : decode method_2_code 43 = .ok (.dup, 1) := by decide +kernel
theorem d17_44 : decode method_2_code 44 = .ok (.iconst 2, 1) := by decide +kernel
theorem d17_45 : decode method_2_code 45 = .ok (.newarray .char, 2) := by decide +kernel
theorem d17_47 : decode method_2_code 47 = .ok (.dup, 1) := by decide +kernel
theorem d17_48 : decode method_2_code 48 = .ok (.iconst 0, 1) := by decide +kernel
theorem d17_49 : decode method_2_code 49 = .ok (.iload_n 1, 1) := by decide +kernel
theorem d17_50 : decode method_2_code 50 = .ok (.castore, 1) := by decide +kernel
theorem d17_51 : decode method_2_code 51 = .ok (.dup, 1) := by decide +kernel
theorem d17_52 : decode method_2_code 52 = .ok (.iconst 1, 1) := by decide +kernel
theorem d17_53 : decode method_2_code 53 = .ok (.iload_n 2, 1) := by decide +kernel
theorem d17_54 : decode method_2_code 54 = .ok (.castore, 1) := by decide +kernel
theorem d17_55 : decode method_2_code 55 = .ok (.invokespecial 9, 3) := by decide +kernel
theorem d17_58 : decode method_2_code 58 = .ok (.areturn, 1) := by decide +kernel
theorem d17_59 : decode method_2_code 59 = .ok (.new 7, 3) := by decide +kernel
theorem d17_62 : decode method_2_code 62 = .ok (.dup, 1) := by decide +kernel
theorem d17_63 : decode method_2_code 63 = .ok (.iconst 3, 1) := by decide +kernel
theorem d17_64 : decode method_2_code 64 = .ok (.newarray .char, 2) := by decide +kernel
theorem d17_66 : decode method_2_code 66 = .ok (.dup, 1) := by decide +kernel
theorem d17_67 : decode method_2_code 67 = .ok (.iconst 0, 1) := by decide +kernel
theorem d17_68 : decode method_2_code 68 = .ok (.iload_n 1, 1) := by decide +kernel
theorem d17_69 : decode method_2_code 69 = .ok (.castore, 1) := by decide +kernel
theorem d17_70 : decode method_2_code 70 = .ok (.dup, 1) := by decide +kernel
theorem d17_71 : decode method_2_code 71 = .ok (.iconst 1, 1) := by decide +kernel
theorem d17_72 : decode method_2_code 72 = .ok (.iload_n 2, 1) := by decide +kernel
theorem d17_73 : decode method_2_code 73 = .ok (.castore, 1) := by decide +kernel
theorem d17_74 : decode method_2_code 74 = .ok (.dup, 1) := by decide +kernel
theorem d17_75 : decode method_2_code 75 = .ok (.iconst 2, 1) := by decide +kernel
theorem d17_76 : decode method_2_code 76 = .ok (.iload_n 3, 1) := by decide +kernel
theorem d17_77 : decode method_2_code 77 = .ok (.castore, 1) := by decide +kernel
theorem d17_78 : decode method_2_code 78 = .ok (.invokespecial 9, 3) := by decide +kernel
theorem d17_81 : decode method_2_code 81 = .ok (.areturn, 1) := by decide +kernel
theorem pn_358 : plainName "com/example/ledgergate/ledgergate/access/ButtonsWithoutSeparatorPinLaw" = true := by first | (simp [plainName, overriddenIn]; done) | decide +kernel
set_option maxRecDepth 65536 in
set_option maxHeartbeats 40000000 in
theorem rm_mk (l : Launch) (Z : State) (a0 : Array Value) (hw : HW Z a0) (ws : List Jvm.Cond) (p0 : Int32) (p1 : Int32) (p2 : Int32) (p3 : Int32) (z : Int32) (h0 : Heap) (n0 : Nat) (Z0 : n0 ≤ h0.size) (O0 : Old Z n0 h0) (S0 : PS3 Z (.int z)) (hz : ¬ z = 0) (S_ad : PS0 Z (.int (1 : Int32))) (S_hi : PS1 Z (.int (0 : Int32))) (S_lo : PS2 Z (.int (8 : Int32))) (h1 : ¬ p1 < 0 ∧ ¬ (65535 : Int32) < p1) (h2 : ¬ p2 < 0 ∧ ¬ (65535 : Int32) < p2) (h3 : ¬ p3 < 0 ∧ ¬ (65535 : Int32) < p3) :
    CtrW l Z own_EL (⟨"com/example/ledgergate/ledgergate/access/ButtonsWithoutSeparatorPinLaw", "make", "(ICCC)Ljava/lang/String;"⟩ : MethodName) method_2_code 4 ((Option.some (Jvm.ClassFile.FieldType.object "java/lang/String"))) ws (⟨6, 6, 16, 88⟩ : Room) #[(.int p0), (.int p1), (.int p2), (.int p3)] h0 (fun v h L => ∃ a : Addr, v = some (.ref a) ∧ Fr n0 L ∧ Keep h0 h [] ∧ ((Str Z h a (own_mk p0 p1 p2 p3) ∧ ∀ c ∈ own_mk p0 p1 p2 p3, ¬ c < 0 ∧ ¬ (255 : Int32) < c) ∨ (Str16 Z h a (own_mk p0 p1 p2 p3) ∧ ¬ own_mk p0 p1 p2 p3 = []))) := by
  refine CtrW.of (MetFree.of_bodySF (plainFor_of_name pn_358) hisR ?_)
  intro p e s m args below meth c s₁ Bd hml0 hP hK
  obtain ⟨rfl, hZ0, hh, hC⟩ := hP
  have hx := Bd.exec
  have hby := Bd.bytes
  have hml : c.maxLocals = 4 := hml0
  have hZ : Z.Warmed39 (s.setVm s.vm).vm := hZ0
  have hown : (s.setVm s.vm).vm.findClass "com/example/ledgergate/ledgergate/access/ButtonsWithoutSeparatorPinLaw" = some m.cls := findClass_of_methodNamed Bd.named
  have hnm := (name_of_methodNamed Bd.named Bd.method).1
  have X0 : Stand p l e (⟨6, 6, 16, 88⟩ : Room) (s.setVm s.vm) m #[(.int p0), (.int p1), (.int p2), (.int p3)] below meth c s₁ [] 0 0 := Stand.of_body Bd
  have e0 : s₁.heap = h0 := by rw [← hh, Bd.state]; rfl
  have N0 := Fr.nil n0
  have K0 : Keep h0 h0 [] := Keep.refl h0 []
  have hS : s.Since s.vm 0 := (State.WarmedH.refl s).since 0
  have hk : 0 ≤ h0.size := Nat.zero_le _
  have R0 : CHr Z own_EL s.vm h0 s.vm h0 := CHr.refl hC
  show OwnGoW p e below s Z own_EL (fun v h L => ∃ a : Addr, v = some (.ref a) ∧ Fr n0 L ∧ Keep h0 h [] ∧ ((Str Z h a (own_mk p0 p1 p2 p3) ∧ ∀ c ∈ own_mk p0 p1 p2 p3, ¬ c < 0 ∧ ¬ (255 : Int32) < c) ∨ (Str16 Z h a (own_mk p0 p1 p2 p3) ∧ ¬ own_mk p0 p1 p2 p3 = []))) (⟨6, 6, 16, 88⟩ : Room).cells (⟨6, 6, 16, 88⟩ : Room).slots _
  refine gsW (S' := s₁.setTop (mkF m 0 #[iv (p0), iv (p1), iv (p2), iv (p3)] [])) (fun tg kg => castTop (ef_300 m p0 p1 p2 p3) kg) ?_
  have hws : ∀ d ∈ StrChars.Road.words, d.before a0 Z = true := fun d hd => hw d ((by decide +kernel : ∀ d ∈ StrChars.Road.words, d ∈ tables_1) d hd)
  refine gsW (fun _ k => o_iloadN X0 hx hby d17_0 rfl k) ?_
  by_cases hc1 : p0 = (0 : Int32)
  · refine gsW (fun _ k => o_ifNo X0 hx hby d17_1 ((if0 _ _).trans (teq hc1).2) k) ?_
    obtain ⟨T2, h2, X2, e2, E2, A2, D2, -, st2⟩ := newO X0 hx hZ hown (ow hw 5 rfl) (ow hw 6 rfl) (ow hw 7 rfl) e0 (g := (mkF m 4 #[iv (p0), iv (p1), iv (p2), iv (p3)] [])) rfl (hb hby d17_4) (by decide) (by decide)
    obtain ⟨b2, q2⟩ : ∃ z, z = h0.size := ⟨_, rfl⟩
    rw [← q2] at A2 D2 st2
    have g_b2 : n0 ≤ b2 := nt Z0 (Nat.le_of_eq q2.symm)
    have sz_b2 : h0.size ≤ b2 := nt K0.1 (Nat.le_of_eq q2.symm)
    have sfa2 : Safe Z own_EL s.vm h0 b2 := Safe.new (Nat.le_of_eq q2.symm)
    have r3 : CHr Z own_EL s.vm h0 s.vm h2 := CHr.ext E2 R0.1
    have R3 := R0.trans r3
    have Z3 := nt Z0 E2.1
    have O3 := O0.ext E2
    have K3 := K0.ext E2
    have sfb2 := Safe.ext E2 R0.1 sfa2
    have F_value_b2 : Fld Z h2 b2 "java/lang/String" "value" "[B" .null := D2 (Or.inr (ow hw 21 rfl)) (ty := (.array .byte)) (by decide)
    have F_coder_b2 : Fld Z h2 b2 "java/lang/String" "coder" "B" (.int (0 : Int32)) := D2 (Or.inr (ow hw 22 rfl)) (ty := .byte) (by decide)
    refine gsW (S' := T2.setTop (mkF m 7 #[iv (p0), iv (p1), iv (p2), iv (p3)] [(.ref b2)])) st2 ?_
    refine gsW (fun _ k => o_dup X2 hx hby d17_7 rfl (o_iconst (v := (0 : Int32)) X2 hx hby d17_8 k)) ?_
    obtain ⟨T4, h4, k4, X4, e4, E4, A4, st4⟩ := newP X2 hx hZ (ow hw 8 rfl) e2 (g := (mkF m 9 #[iv (p0), iv (p1), iv (p2), iv (p3)] [(.int (0 : Int32)), (.ref b2), (.ref b2)])) rfl (hb hby d17_9) rfl (by decide) (cap := 0) (by decide) (by decide) (by decide) (by decide)
    obtain ⟨b4, q4⟩ : ∃ z, z = h2.size := ⟨_, rfl⟩
    rw [← q4] at A4 st4
    have g_b4 : n0 ≤ b4 := nt Z3 (Nat.le_of_eq q4.symm)
    have sz_b4 : h0.size ≤ b4 := nt K3.1 (Nat.le_of_eq q4.symm)
    have r5 : CHr Z own_EL s.vm h2 s.vm h4 := CHr.ext E4 R3.1
    have R5 := R3.trans r5
    have Z5 := nt Z3 E4.1
    have O5 := O3.ext E4
    have K5 := K3.ext E4
    have V4 : Arv Z h4 b4 k4 .char (0 : Int32) [] (.int (0 : Int32)) := (Arv.new A4 (by decide)).pad (pad_rep [] (.int (0 : Int32)) 0)
    refine gsW (S' := T4.setTop (mkF m 11 #[iv (p0), iv (p1), iv (p2), iv (p3)] [(.ref b4), (.ref b2), (.ref b2)])) st4 ?_
    have f6 := (A2.ext E4)
    have f7 := (F_value_b2.ext E4)
    have f8 := (F_coder_b2.ext E4)
    have zs10 := nt E2.1 E4.1
    refine cIS (rest := [(.ref b2)]) X4 hx hS (nt hk zs10) hZ hown rfl (ow hw 9 rfl) (ow hw 10 rfl) (ow hw 7 rfl) (ow hw 11 rfl) (rm_s0 l Z a0 hw [] b2 b4 k4 h4 n0 Z5 O5 f6 f7 f8 g_b2 V4) (own_EW hw) R5.1 hby d17_11 e4 pd_308 1 (by rw [hml]; rfl) rfl rfl rfl rfl (by decide) (by decide) fun _ T9 Lc9 X9 hS hZ hown hQ9 rq9 => ?_
    obtain ⟨rfl, N9q, K9q, T9q⟩ := hQ9
    have N9 := Fr.app N0 N9q
    have r11 : CHr Z own_EL s.vm h4 T9.vm T9.heap := rq9
    have R11 := R5.trans r11
    have Z11 := nt Z5 K9q.1
    have O11 := O5.keep K9q (allS g_b2 all0)
    have K11 := K5.trans K9q (allS (Or.inr sz_b2) all0)
    refine goutW (v := some (.ref b2)) X9 hS (Nat.le_refl T9.heap.size) hZ (own_EW hw) hh rfl R11 Bd.notSynchronized (fun h => by rw [Bd.returns] at h; cases h) (by decide) (by decide) ?_ (fun fs hr => retOut X9 hx Bd.returns rfl (Or.inr (Or.inr (Or.inr (Or.inr ⟨rfl, rfl, rfl⟩)))) (hb hby d17_14) hr)
    exact ⟨_, rfl, N9, K11, Or.inl (by unfold own_mk; rw [if_pos hc1]; exact ⟨T9q, by simp⟩)⟩
  · refine gsW (fun _ k => o_ifYes (pc' := 15) X0 hx hby d17_1 ((if0 _ _).trans (feq hc1).2) (o_iloadN X0 hx hby d17_15 rfl (o_iconst (v := (1 : Int32)) X0 hx hby d17_16 k))) ?_
    by_cases hc12 : p0 = (1 : Int32)
    · refine gsW (fun _ k => o_icmpNo X0 hx hby d17_17 (teq hc12).2 k) ?_
      obtain ⟨T13, h13, X13, e13, E13, A13, D13, -, st13⟩ := newO X0 hx hZ hown (ow hw 5 rfl) (ow hw 6 rfl) (ow hw 7 rfl) e0 (g := (mkF m 20 #[iv (p0), iv (p1), iv (p2), iv (p3)] [])) rfl (hb hby d17_20) (by decide) (by decide)
      obtain ⟨b13, q13⟩ : ∃ z, z = h0.size := ⟨_, rfl⟩
      rw [← q13] at A13 D13 st13
      have g_b13 : n0 ≤ b13 := nt Z0 (Nat.le_of_eq q13.symm)
      have sz_b13 : h0.size ≤ b13 := nt K0.1 (Nat.le_of_eq q13.symm)
      have sfa13 : Safe Z own_EL s.vm h0 b13 := Safe.new (Nat.le_of_eq q13.symm)
      have r14 : CHr Z own_EL s.vm h0 s.vm h13 := CHr.ext E13 R0.1
      have R14 := R0.trans r14
      have Z14 := nt Z0 E13.1
      have O14 := O0.ext E13
      have K14 := K0.ext E13
      have sfb13 := Safe.ext E13 R0.1 sfa13
      have F_value_b13 : Fld Z h13 b13 "java/lang/String" "value" "[B" .null := D13 (Or.inr (ow hw 21 rfl)) (ty := (.array .byte)) (by decide)
      have F_coder_b13 : Fld Z h13 b13 "java/lang/String" "coder" "B" (.int (0 : Int32)) := D13 (Or.inr (ow hw 22 rfl)) (ty := .byte) (by decide)
      refine gsW (S' := T13.setTop (mkF m 23 #[iv (p0), iv (p1), iv (p2), iv (p3)] [(.ref b13)])) st13 ?_
      refine gsW (fun _ k => o_dup X13 hx hby d17_23 rfl (o_iconst (v := (1 : Int32)) X13 hx hby d17_24 k)) ?_
      obtain ⟨T15, h15, k15, X15, e15, E15, A15, st15⟩ := newP X13 hx hZ (ow hw 8 rfl) e13 (g := (mkF m 25 #[iv (p0), iv (p1), iv (p2), iv (p3)] [(.int (1 : Int32)), (.ref b13), (.ref b13)])) rfl (hb hby d17_25) rfl (by decide) (cap := 1) (by decide) (by decide) (by decide) (by decide)
      obtain ⟨b15, q15⟩ : ∃ z, z = h13.size := ⟨_, rfl⟩
      rw [← q15] at A15 st15
      have g_b15 : n0 ≤ b15 := nt Z14 (Nat.le_of_eq q15.symm)
      have sz_b15 : h0.size ≤ b15 := nt K14.1 (Nat.le_of_eq q15.symm)
      have r16 : CHr Z own_EL s.vm h13 s.vm h15 := CHr.ext E15 R14.1
      have R16 := R14.trans r16
      have Z16 := nt Z14 E15.1
      have O16 := O14.ext E15
      have K16 := K14.ext E15
      have V15 : Arv Z h15 b15 k15 .char (1 : Int32) [(.int (0 : Int32))] (.int (0 : Int32)) := (Arv.new A15 (by decide)).pad (pad_rep [] (.int (0 : Int32)) 1)
      refine gsW (S' := T15.setTop (mkF m 27 #[iv (p0), iv (p1), iv (p2), iv (p3)] [(.ref b15), (.ref b13), (.ref b13)])) st15 ?_
      refine gsW (fun _ k => o_dup X15 hx hby d17_27 rfl (o_iconst (v := (0 : Int32)) X15 hx hby d17_28 (o_iloadN X15 hx hby d17_29 rfl k))) ?_
      obtain ⟨cl17, A17, a17q, a17S, a17N, a17H, a17G⟩ := id V15
      obtain ⟨T17, h17, X17, e17, W17, st17⟩ := stC X15 hx hZ e15 A17 (j := (0 : Int32)) (inb_of a17S ⟨by decide, by decide⟩) (g := (mkF m 30 #[iv (p0), iv (p1), iv (p2), iv (p3)] [(.int p1), (.int (0 : Int32)), (.ref b15), (.ref b15), (.ref b13), (.ref b13)])) rfl rfl (hb hby d17_30)
      have V17 : Arv Z h17 b15 k15 .char (1 : Int32) [(.int (nar .char p1))] (.int (0 : Int32)) := Arv.set A17 a17q a17S a17N a17H a17G (fits_nar_char _) W17 0 rfl (nb rfl)
      have N17 := Fr.snoc X17 N0 g_b15
      have r18 : CHr Z own_EL s.vm h15 s.vm h17 := CHr.wr W17 (Safe.arv hZ.alike V15 (by decide)) R16.1
      have R18 := R16.trans r18
      have Z18 := nt Z16 (Keep.of_wr W17).1
      have O18 := O16.wr W17 g_b15
      have K18 := K16.wr W17 (Or.inr sz_b15)
      refine gsW (S' := T17.setTop (mkF m 31 #[iv (p0), iv (p1), iv (p2), iv (p3)] [(.ref b15), (.ref b13), (.ref b13)])) st17 ?_
      have Vn := V17
      rw [own_nc16 h1] at Vn
      by_cases hc19 : (255 : Int32) < p1
      · have f20 := ((A13.ext E15).wr W17)
        have f21 := ((F_value_b13.ext E15).other W17 (Or.inl (nw (nu (nu A13.lt (Nat.le_refl _)) (Nat.le_of_eq q15.symm)))))
        have f22 := ((F_coder_b13.ext E15).other W17 (Or.inl (nw (nu (nu A13.lt (Nat.le_refl _)) (Nat.le_of_eq q15.symm)))))
        refine cIW (rest := [(.ref b13)]) X17 hx hZ hown rfl (ow hw 9 rfl) (ow hw 10 rfl) (ow hw 7 rfl) (ow hw 11 rfl) (rm_si1_10 l Z a0 hw [] b13 b15 k15 p1 z h17 n0 Z18 O18 f20 f21 f22 g_b13 Vn hc19 h1 S_ad S_hi S_lo S0 hz) hby d17_31 e17 pd_308 1 (by rw [hml]; rfl) rfl rfl rfl rfl (by decide) (by decide) fun _ T23 Lc23 X23 hQ23 => ?_
        obtain ⟨rfl, N23q, K23q, T23q⟩ := hQ23
        have N23 := Fr.app N17 N23q
        have f25 := (r18.safe (nu A13.lt E15.1) (r16.safe (nu A13.lt (Nat.le_refl _)) sfb13))
        have r24 : CHr Z own_EL s.vm h17 s.vm T23.heap := CHr.keep K23q (sfS f25 sf0) R18.1
        have R24 := R18.trans r24
        have Z24 := nt Z18 K23q.1
        have O24 := O18.keep K23q (allS g_b13 all0)
        have K24 := K18.trans K23q (allS (Or.inr sz_b13) all0)
        have zs26 := nt E13.1 E15.1
        have zs27 := nt zs26 (Keep.of_wr W17).1
        have zs28 := nt zs27 K23q.1
        refine goutW (v := some (.ref b13)) X23 hS (nt hk zs28) hZ (own_EW hw) hh rfl R24 Bd.notSynchronized (fun h => by rw [Bd.returns] at h; cases h) (by decide) (by decide) ?_ (fun fs hr => retOut X23 hx Bd.returns rfl (Or.inr (Or.inr (Or.inr (Or.inr ⟨rfl, rfl, rfl⟩)))) (hb hby d17_34) hr)
        exact ⟨_, rfl, N23, K24, Or.inr (by unfold own_mk; rw [if_neg hc1, if_pos hc12]; exact ⟨T23q, by simp⟩)⟩
      · have hp29 : ∀ c ∈ ([p1] : List Int32), ¬ c < 0 ∧ ¬ (255 : Int32) < c := by
          intro c hc
          simp only [List.mem_cons, List.not_mem_nil, or_false] at hc
          rcases hc with rfl
          all_goals first | exact ⟨h1.1, hc19⟩
        have f30 := ((A13.ext E15).wr W17)
        have f31 := ((F_value_b13.ext E15).other W17 (Or.inl (nw (nu (nu A13.lt (Nat.le_refl _)) (Nat.le_of_eq q15.symm)))))
        have f32 := ((F_coder_b13.ext E15).other W17 (Or.inl (nw (nu (nu A13.lt (Nat.le_refl _)) (Nat.le_of_eq q15.symm)))))
        obtain ⟨_, _, ⟨T33, L33, k33, n33⟩, -, X33, ⟨Lc33, hQ33, l33, y33, z33⟩, st33⟩ := X17.specialBack hx (y := my2) rfl hown (mvT hZ (ow hw 9 rfl)) (mvT hZ (ow hw 10 rfl)) (mvT hZ (ow hw 11 rfl)) (by decide) (StrChars.Road.backV (W := 1) hZ hws (kI := 4) (ow hw 6 rfl) (cs := ([p1] : List Int32)) (bs := ([p1] : List Int32).map (fun c => c.toInt8.toInt32)) (n := 1) g_b13 Z18 f30 f31 f32 Vn (S0.ext O18.2) hz rfl rfl (by decide) (by decide) hp29 rfl (by decide) (by decide)) (g := (mkF m 31 #[iv (p0), iv (p1), iv (p2), iv (p3)] [(.ref b15), (.ref b13), (.ref b13)])) rfl (by rw [hml]; rfl) (Steps.refl _) (a := b13) (argsL := [(.ref b15)]) (rest := [(.ref b13)]) (lenOf pd_308 rfl) rfl (own_w0 rfl) (hb hby d17_31) (fun _ _ => ⟨rfl, e17, (by decide : 2 + 1 ≤ _), (by decide : 5 + 1 ≤ _)⟩)
        dsimp only [Pt.U, Pt.locs, Pt.cells, Pt.slots] at X33 l33 y33 z33 st33 hQ33
        subst l33 y33 z33
        obtain ⟨rfl, N33q, K33q, g33e, g33c, t33, kb33, -, g33t, -, g33v, g33a⟩ := hQ33
        have N33 := Fr.app N17 N33q
        have g_t33 : n0 ≤ t33 := nt Z18 g33t
        have sz_t33 : h0.size ≤ t33 := nt K18.1 g33t
        have f35 := (r18.safe (nu A13.lt E15.1) (r16.safe (nu A13.lt (Nat.le_refl _)) sfb13))
        have r34 : CHr Z own_EL s.vm h17 s.vm T33.heap := CHr.keep K33q (sfS f35 sf0) R18.1
        have R34 := R18.trans r34
        have Z34 := nt Z18 K33q.1
        have O34 := O18.keep K33q (allS g_b13 all0)
        have K34 := K18.trans K33q (allS (Or.inr sz_b13) all0)
        refine gsW (S' := T33.setTop (mkF m 34 #[iv (p0), iv (p1), iv (p2), iv (p3)] [(.ref b13)])) (fun _ k => st33.trans k) ?_
        have T36 : Str Z T33.heap b13 ([p1] : List Int32) := ⟨_, _, g33e, g33c, g33v, g33a⟩
        have zs37 := nt E13.1 E15.1
        have zs38 := nt zs37 (Keep.of_wr W17).1
        have zs39 := nt zs38 K33q.1
        refine goutW (v := some (.ref b13)) X33 hS (nt hk zs39) hZ (own_EW hw) hh rfl R34 Bd.notSynchronized (fun h => by rw [Bd.returns] at h; cases h) (by decide) (by decide) ?_ (fun fs hr => retOut X33 hx Bd.returns rfl (Or.inr (Or.inr (Or.inr (Or.inr ⟨rfl, rfl, rfl⟩)))) (hb hby d17_34) hr)
        exact ⟨_, rfl, N33, K34, Or.inl (by unfold own_mk; rw [if_neg hc1, if_pos hc12]; exact ⟨T36, hp29⟩)⟩
    · refine gsW (fun _ k => o_icmpYes (pc' := 35) X0 hx hby d17_17 (feq hc12).2 (o_iloadN X0 hx hby d17_35 rfl (o_iconst (v := (2 : Int32)) X0 hx hby d17_36 k))) ?_
      by_cases hc40 : p0 = (2 : Int32)
      · refine gsW (fun _ k => o_icmpNo X0 hx hby d17_37 (teq hc40).2 k) ?_
        obtain ⟨T41, h41, X41, e41, E41, A41, D41, -, st41⟩ := newO X0 hx hZ hown (ow hw 5 rfl) (ow hw 6 rfl) (ow hw 7 rfl) e0 (g := (mkF m 40 #[iv (p0), iv (p1), iv (p2), iv (p3)] [])) rfl (hb hby d17_40) (by decide) (by decide)
        obtain ⟨b41, q41⟩ : ∃ z, z = h0.size := ⟨_, rfl⟩
        rw [← q41] at A41 D41 st41
        have g_b41 : n0 ≤ b41 := nt Z0 (Nat.le_of_eq q41.symm)
        have sz_b41 : h0.size ≤ b41 := nt K0.1 (Nat.le_of_eq q41.symm)
        have sfa41 : Safe Z own_EL s.vm h0 b41 := Safe.new (Nat.le_of_eq q41.symm)
        have r42 : CHr Z own_EL s.vm h0 s.vm h41 := CHr.ext E41 R0.1
        have R42 := R0.trans r42
        have Z42 := nt Z0 E41.1
        have O42 := O0.ext E41
        have K42 := K0.ext E41
        have sfb41 := Safe.ext E41 R0.1 sfa41
        have F_value_b41 : Fld Z h41 b41 "java/lang/String" "value" "[B" .null := D41 (Or.inr (ow hw 21 rfl)) (ty := (.array .byte)) (by decide)
        have F_coder_b41 : Fld Z h41 b41 "java/lang/String" "coder" "B" (.int (0 : Int32)) := D41 (Or.inr (ow hw 22 rfl)) (ty := .byte) (by decide)
        refine gsW (S' := T41.setTop (mkF m 43 #[iv (p0), iv (p1), iv (p2), iv (p3)] [(.ref b41)])) st41 ?_
        refine gsW (fun _ k => o_dup X41 hx hby d17_43 rfl (o_iconst (v := (2 : Int32)) X41 hx hby d17_44 k)) ?_
        obtain ⟨T43, h43, k43, X43, e43, E43, A43, st43⟩ := newP X41 hx hZ (ow hw 8 rfl) e41 (g := (mkF m 45 #[iv (p0), iv (p1), iv (p2), iv (p3)] [(.int (2 : Int32)), (.ref b41), (.ref b41)])) rfl (hb hby d17_45) rfl (by decide) (cap := 2) (by decide) (by decide) (by decide) (by decide)
        obtain ⟨b43, q43⟩ : ∃ z, z = h41.size := ⟨_, rfl⟩
        rw [← q43] at A43 st43
        have g_b43 : n0 ≤ b43 := nt Z42 (Nat.le_of_eq q43.symm)
        have sz_b43 : h0.size ≤ b43 := nt K42.1 (Nat.le_of_eq q43.symm)
        have r44 : CHr Z own_EL s.vm h41 s.vm h43 := CHr.ext E43 R42.1
        have R44 := R42.trans r44
        have Z44 := nt Z42 E43.1
        have O44 := O42.ext E43
        have K44 := K42.ext E43
        have V43 : Arv Z h43 b43 k43 .char (2 : Int32) [(.int (0 : Int32)), (.int (0 : Int32))] (.int (0 : Int32)) := (Arv.new A43 (by decide)).pad (pad_rep [] (.int (0 : Int32)) 2)
        refine gsW (S' := T43.setTop (mkF m 47 #[iv (p0), iv (p1), iv (p2), iv (p3)] [(.ref b43), (.ref b41), (.ref b41)])) st43 ?_
        refine gsW (fun _ k => o_dup X43 hx hby d17_47 rfl (o_iconst (v := (0 : Int32)) X43 hx hby d17_48 (o_iloadN X43 hx hby d17_49 rfl k))) ?_
        obtain ⟨cl45, A45, a45q, a45S, a45N, a45H, a45G⟩ := id V43
        obtain ⟨T45, h45, X45, e45, W45, st45⟩ := stC X43 hx hZ e43 A45 (j := (0 : Int32)) (inb_of a45S ⟨by decide, by decide⟩) (g := (mkF m 50 #[iv (p0), iv (p1), iv (p2), iv (p3)] [(.int p1), (.int (0 : Int32)), (.ref b43), (.ref b43), (.ref b41), (.ref b41)])) rfl rfl (hb hby d17_50)
        have V45 : Arv Z h45 b43 k43 .char (2 : Int32) [(.int (nar .char p1)), (.int (0 : Int32))] (.int (0 : Int32)) := Arv.set A45 a45q a45S a45N a45H a45G (fits_nar_char _) W45 0 rfl (nb rfl)
        have N45 := Fr.snoc X45 N0 g_b43
        have r46 : CHr Z own_EL s.vm h43 s.vm h45 := CHr.wr W45 (Safe.arv hZ.alike V43 (by decide)) R44.1
        have R46 := R44.trans r46
        have Z46 := nt Z44 (Keep.of_wr W45).1
        have O46 := O44.wr W45 g_b43
        have K46 := K44.wr W45 (Or.inr sz_b43)
        refine gsW (S' := T45.setTop (mkF m 51 #[iv (p0), iv (p1), iv (p2), iv (p3)] [(.ref b43), (.ref b41), (.ref b41)])) st45 ?_
        refine gsW (fun _ k => o_dup X45 hx hby d17_51 rfl (o_iconst (v := (1 : Int32)) X45 hx hby d17_52 (o_iloadN X45 hx hby d17_53 rfl k))) ?_
        obtain ⟨cl47, A47, a47q, a47S, a47N, a47H, a47G⟩ := id V45
        obtain ⟨T47, h47, X47, e47, W47, st47⟩ := stC X45 hx hZ e45 A47 (j := (1 : Int32)) (inb_of a47S ⟨by decide, by decide⟩) (g := (mkF m 54 #[iv (p0), iv (p1), iv (p2), iv (p3)] [(.int p2), (.int (1 : Int32)), (.ref b43), (.ref b43), (.ref b41), (.ref b41)])) rfl rfl (hb hby d17_54)
        have V47 : Arv Z h47 b43 k43 .char (2 : Int32) [(.int (nar .char p1)), (.int (nar .char p2))] (.int (0 : Int32)) := Arv.set A47 a47q a47S a47N a47H a47G (fits_nar_char _) W47 1 rfl (nb rfl)
        have N47 := Fr.snoc X47 N45 g_b43
        have r48 : CHr Z own_EL s.vm h45 s.vm h47 := CHr.wr W47 (Safe.arv hZ.alike V45 (by decide)) R46.1
        have R48 := R46.trans r48
        have Z48 := nt Z46 (Keep.of_wr W47).1
        have O48 := O46.wr W47 g_b43
        have K48 := K46.wr W47 (Or.inr sz_b43)
        refine gsW (S' := T47.setTop (mkF m 55 #[iv (p0), iv (p1), iv (p2), iv (p3)] [(.ref b43), (.ref b41), (.ref b41)])) st47 ?_
        have Vn := V47
        rw [own_nc16 h1, own_nc16 h2] at Vn
        by_cases hc49 : (255 : Int32) < p1
        · have f50 := (((A41.ext E43).wr W45).wr W47)
          have f51 := (((F_value_b41.ext E43).other W45 (Or.inl (nw (nu (nu A41.lt (Nat.le_refl _)) (Nat.le_of_eq q43.symm))))).other W47 (Or.inl (nw (nu (nu A41.lt (Nat.le_refl _)) (Nat.le_of_eq q43.symm)))))
          have f52 := (((F_coder_b41.ext E43).other W45 (Or.inl (nw (nu (nu A41.lt (Nat.le_refl _)) (Nat.le_of_eq q43.symm))))).other W47 (Or.inl (nw (nu (nu A41.lt (Nat.le_refl _)) (Nat.le_of_eq q43.symm)))))
          refine cIW (rest := [(.ref b41)]) X47 hx hZ hown rfl (ow hw 9 rfl) (ow hw 10 rfl) (ow hw 7 rfl) (ow hw 11 rfl) (rm_si1_20 l Z a0 hw [] b41 b43 k43 p1 p2 z h47 n0 Z48 O48 f50 f51 f52 g_b41 Vn hc49 h1 h2 S_ad S_hi S_lo S0 hz) hby d17_55 e47 pd_308 1 (by rw [hml]; rfl) rfl rfl rfl rfl (by decide) (by decide) fun _ T53 Lc53 X53 hQ53 => ?_
          obtain ⟨rfl, N53q, K53q, T53q⟩ := hQ53
          have N53 := Fr.app N47 N53q
          have zs55 := nt E43.1 (Keep.of_wr W45).1
          have f56 := (r48.safe (nu A41.lt zs55) (r46.safe (nu A41.lt E43.1) (r44.safe (nu A41.lt (Nat.le_refl _)) sfb41)))
          have r54 : CHr Z own_EL s.vm h47 s.vm T53.heap := CHr.keep K53q (sfS f56 sf0) R48.1
          have R54 := R48.trans r54
          have Z54 := nt Z48 K53q.1
          have O54 := O48.keep K53q (allS g_b41 all0)
          have K54 := K48.trans K53q (allS (Or.inr sz_b41) all0)
          have zs57 := nt E41.1 E43.1
          have zs58 := nt zs57 (Keep.of_wr W45).1
          have zs59 := nt zs58 (Keep.of_wr W47).1
          have zs60 := nt zs59 K53q.1
          refine goutW (v := some (.ref b41)) X53 hS (nt hk zs60) hZ (own_EW hw) hh rfl R54 Bd.notSynchronized (fun h => by rw [Bd.returns] at h; cases h) (by decide) (by decide) ?_ (fun fs hr => retOut X53 hx Bd.returns rfl (Or.inr (Or.inr (Or.inr (Or.inr ⟨rfl, rfl, rfl⟩)))) (hb hby d17_58) hr)
          exact ⟨_, rfl, N53, K54, Or.inr (by unfold own_mk; rw [if_neg hc1, if_neg hc12, if_pos hc40]; exact ⟨T53q, by simp⟩)⟩
        · by_cases hc61 : (255 : Int32) < p2
          · have f62 := (((A41.ext E43).wr W45).wr W47)
            have f63 := (((F_value_b41.ext E43).other W45 (Or.inl (nw (nu (nu A41.lt (Nat.le_refl _)) (Nat.le_of_eq q43.symm))))).other W47 (Or.inl (nw (nu (nu A41.lt (Nat.le_refl _)) (Nat.le_of_eq q43.symm)))))
            have f64 := (((F_coder_b41.ext E43).other W45 (Or.inl (nw (nu (nu A41.lt (Nat.le_refl _)) (Nat.le_of_eq q43.symm))))).other W47 (Or.inl (nw (nu (nu A41.lt (Nat.le_refl _)) (Nat.le_of_eq q43.symm)))))
            refine cIW (rest := [(.ref b41)]) X47 hx hZ hown rfl (ow hw 9 rfl) (ow hw 10 rfl) (ow hw 7 rfl) (ow hw 11 rfl) (rm_si1_21 l Z a0 hw [] b41 b43 k43 p1 p2 z h47 n0 Z48 O48 f62 f63 f64 g_b41 Vn hc49 hc61 h1 h2 S_ad S_hi S_lo S0 hz) hby d17_55 e47 pd_308 1 (by rw [hml]; rfl) rfl rfl rfl rfl (by decide) (by decide) fun _ T65 Lc65 X65 hQ65 => ?_
            obtain ⟨rfl, N65q, K65q, T65q⟩ := hQ65
            have N65 := Fr.app N47 N65q
            have zs67 := nt E43.1 (Keep.of_wr W45).1
            have f68 := (r48.safe (nu A41.lt zs67) (r46.safe (nu A41.lt E43.1) (r44.safe (nu A41.lt (Nat.le_refl _)) sfb41)))
            have r66 : CHr Z own_EL s.vm h47 s.vm T65.heap := CHr.keep K65q (sfS f68 sf0) R48.1
            have R66 := R48.trans r66
            have Z66 := nt Z48 K65q.1
            have O66 := O48.keep K65q (allS g_b41 all0)
            have K66 := K48.trans K65q (allS (Or.inr sz_b41) all0)
            have zs69 := nt E41.1 E43.1
            have zs70 := nt zs69 (Keep.of_wr W45).1
            have zs71 := nt zs70 (Keep.of_wr W47).1
            have zs72 := nt zs71 K65q.1
            refine goutW (v := some (.ref b41)) X65 hS (nt hk zs72) hZ (own_EW hw) hh rfl R66 Bd.notSynchronized (fun h => by rw [Bd.returns] at h; cases h) (by decide) (by decide) ?_ (fun fs hr => retOut X65 hx Bd.returns rfl (Or.inr (Or.inr (Or.inr (Or.inr ⟨rfl, rfl, rfl⟩)))) (hb hby d17_58) hr)
            exact ⟨_, rfl, N65, K66, Or.inr (by unfold own_mk; rw [if_neg hc1, if_neg hc12, if_pos hc40]; exact ⟨T65q, by simp⟩)⟩
          · have hp73 : ∀ c ∈ ([p1, p2] : List Int32), ¬ c < 0 ∧ ¬ (255 : Int32) < c := by
              intro c hc
              simp only [List.mem_cons, List.not_mem_nil, or_false] at hc
              rcases hc with rfl | rfl
              all_goals first | exact ⟨h1.1, hc49⟩ | exact ⟨h2.1, hc61⟩
            have f74 := (((A41.ext E43).wr W45).wr W47)
            have f75 := (((F_value_b41.ext E43).other W45 (Or.inl (nw (nu (nu A41.lt (Nat.le_refl _)) (Nat.le_of_eq q43.symm))))).other W47 (Or.inl (nw (nu (nu A41.lt (Nat.le_refl _)) (Nat.le_of_eq q43.symm)))))
            have f76 := (((F_coder_b41.ext E43).other W45 (Or.inl (nw (nu (nu A41.lt (Nat.le_refl _)) (Nat.le_of_eq q43.symm))))).other W47 (Or.inl (nw (nu (nu A41.lt (Nat.le_refl _)) (Nat.le_of_eq q43.symm)))))
            obtain ⟨_, _, ⟨T77, L77, k77, n77⟩, -, X77, ⟨Lc77, hQ77, l77, y77, z77⟩, st77⟩ := X47.specialBack hx (y := my2) rfl hown (mvT hZ (ow hw 9 rfl)) (mvT hZ (ow hw 10 rfl)) (mvT hZ (ow hw 11 rfl)) (by decide) (StrChars.Road.backV (W := 1) hZ hws (kI := 4) (ow hw 6 rfl) (cs := ([p1, p2] : List Int32)) (bs := ([p1, p2] : List Int32).map (fun c => c.toInt8.toInt32)) (n := 2) g_b41 Z48 f74 f75 f76 Vn (S0.ext O48.2) hz rfl rfl (by decide) (by decide) hp73 rfl (by decide) (by decide)) (g := (mkF m 55 #[iv (p0), iv (p1), iv (p2), iv (p3)] [(.ref b43), (.ref b41), (.ref b41)])) rfl (by rw [hml]; rfl) (Steps.refl _) (a := b41) (argsL := [(.ref b43)]) (rest := [(.ref b41)]) (lenOf pd_308 rfl) rfl (own_w0 rfl) (hb hby d17_55) (fun _ _ => ⟨rfl, e47, (by decide : 2 + 1 ≤ _), (by decide : 6 + 2 ≤ _)⟩)
            dsimp only [Pt.U, Pt.locs, Pt.cells, Pt.slots] at X77 l77 y77 z77 st77 hQ77
            subst l77 y77 z77
            obtain ⟨rfl, N77q, K77q, g77e, g77c, t77, kb77, -, g77t, -, g77v, g77a⟩ := hQ77
            have N77 := Fr.app N47 N77q
            have g_t77 : n0 ≤ t77 := nt Z48 g77t
            have sz_t77 : h0.size ≤ t77 := nt K48.1 g77t
            have zs79 := nt E43.1 (Keep.of_wr W45).1
            have f80 := (r48.safe (nu A41.lt zs79) (r46.safe (nu A41.lt E43.1) (r44.safe (nu A41.lt (Nat.le_refl _)) sfb41)))
            have r78 : CHr Z own_EL s.vm h47 s.vm T77.heap := CHr.keep K77q (sfS f80 sf0) R48.1
            have R78 := R48.trans r78
            have Z78 := nt Z48 K77q.1
            have O78 := O48.keep K77q (allS g_b41 all0)
            have K78 := K48.trans K77q (allS (Or.inr sz_b41) all0)
            refine gsW (S' := T77.setTop (mkF m 58 #[iv (p0), iv (p1), iv (p2), iv (p3)] [(.ref b41)])) (fun _ k => st77.trans k) ?_
            have T81 : Str Z T77.heap b41 ([p1, p2] : List Int32) := ⟨_, _, g77e, g77c, g77v, g77a⟩
            have zs82 := nt E41.1 E43.1
            have zs83 := nt zs82 (Keep.of_wr W45).1
            have zs84 := nt zs83 (Keep.of_wr W47).1
            have zs85 := nt zs84 K77q.1
            refine goutW (v := some (.ref b41)) X77 hS (nt hk zs85) hZ (own_EW hw) hh rfl R78 Bd.notSynchronized (fun h => by rw [Bd.returns] at h; cases h) (by decide) (by decide) ?_ (fun fs hr => retOut X77 hx Bd.returns rfl (Or.inr (Or.inr (Or.inr (Or.inr ⟨rfl, rfl, rfl⟩)))) (hb hby d17_58) hr)
            exact ⟨_, rfl, N77, K78, Or.inl (by unfold own_mk; rw [if_neg hc1, if_neg hc12, if_pos hc40]; exact ⟨T81, hp73⟩)⟩
      · refine gsW (fun _ k => o_icmpYes (pc' := 59) X0 hx hby d17_37 (feq hc40).2 k) ?_
        obtain ⟨T86, h86, X86, e86, E86, A86, D86, -, st86⟩ := newO X0 hx hZ hown (ow hw 5 rfl) (ow hw 6 rfl) (ow hw 7 rfl) e0 (g := (mkF m 59 #[iv (p0), iv (p1), iv (p2), iv (p3)] [])) rfl (hb hby d17_59) (by decide) (by decide)
        obtain ⟨b86, q86⟩ : ∃ z, z = h0.size := ⟨_, rfl⟩
        rw [← q86] at A86 D86 st86
        have g_b86 : n0 ≤ b86 := nt Z0 (Nat.le_of_eq q86.symm)
        have sz_b86 : h0.size ≤ b86 := nt K0.1 (Nat.le_of_eq q86.symm)
        have sfa86 : Safe Z own_EL s.vm h0 b86 := Safe.new (Nat.le_of_eq q86.symm)
        have r87 : CHr Z own_EL s.vm h0 s.vm h86 := CHr.ext E86 R0.1
        have R87 := R0.trans r87
        have Z87 := nt Z0 E86.1
        have O87 := O0.ext E86
        have K87 := K0.ext E86
        have sfb86 := Safe.ext E86 R0.1 sfa86
        have F_value_b86 : Fld Z h86 b86 "java/lang/String" "value" "[B" .null := D86 (Or.inr (ow hw 21 rfl)) (ty := (.array .byte)) (by decide)
        have F_coder_b86 : Fld Z h86 b86 "java/lang/String" "coder" "B" (.int (0 : Int32)) := D86 (Or.inr (ow hw 22 rfl)) (ty := .byte) (by decide)
        refine gsW (S' := T86.setTop (mkF m 62 #[iv (p0), iv (p1), iv (p2), iv (p3)] [(.ref b86)])) st86 ?_
        refine gsW (fun _ k => o_dup X86 hx hby d17_62 rfl (o_iconst (v := (3 : Int32)) X86 hx hby d17_63 k)) ?_
        obtain ⟨T88, h88, k88, X88, e88, E88, A88, st88⟩ := newP X86 hx hZ (ow hw 8 rfl) e86 (g := (mkF m 64 #[iv (p0), iv (p1), iv (p2), iv (p3)] [(.int (3 : Int32)), (.ref b86), (.ref b86)])) rfl (hb hby d17_64) rfl (by decide) (cap := 3) (by decide) (by decide) (by decide) (by decide)
        obtain ⟨b88, q88⟩ : ∃ z, z = h86.size := ⟨_, rfl⟩
        rw [← q88] at A88 st88
        have g_b88 : n0 ≤ b88 := nt Z87 (Nat.le_of_eq q88.symm)
        have sz_b88 : h0.size ≤ b88 := nt K87.1 (Nat.le_of_eq q88.symm)
        have r89 : CHr Z own_EL s.vm h86 s.vm h88 := CHr.ext E88 R87.1
        have R89 := R87.trans r89
        have Z89 := nt Z87 E88.1
        have O89 := O87.ext E88
        have K89 := K87.ext E88
        have V88 : Arv Z h88 b88 k88 .char (3 : Int32) [(.int (0 : Int32)), (.int (0 : Int32)), (.int (0 : Int32))] (.int (0 : Int32)) := (Arv.new A88 (by decide)).pad (pad_rep [] (.int (0 : Int32)) 3)
        refine gsW (S' := T88.setTop (mkF m 66 #[iv (p0), iv (p1), iv (p2), iv (p3)] [(.ref b88), (.ref b86), (.ref b86)])) st88 ?_
        refine gsW (fun _ k => o_dup X88 hx hby d17_66 rfl (o_iconst (v := (0 : Int32)) X88 hx hby d17_67 (o_iloadN X88 hx hby d17_68 rfl k))) ?_
        obtain ⟨cl90, A90, a90q, a90S, a90N, a90H, a90G⟩ := id V88
        obtain ⟨T90, h90, X90, e90, W90, st90⟩ := stC X88 hx hZ e88 A90 (j := (0 : Int32)) (inb_of a90S ⟨by decide, by decide⟩) (g := (mkF m 69 #[iv (p0), iv (p1), iv (p2), iv (p3)] [(.int p1), (.int (0 : Int32)), (.ref b88), (.ref b88), (.ref b86), (.ref b86)])) rfl rfl (hb hby d17_69)
        have V90 : Arv Z h90 b88 k88 .char (3 : Int32) [(.int (nar .char p1)), (.int (0 : Int32)), (.int (0 : Int32))] (.int (0 : Int32)) := Arv.set A90 a90q a90S a90N a90H a90G (fits_nar_char _) W90 0 rfl (nb rfl)
        have N90 := Fr.snoc X90 N0 g_b88
        have r91 : CHr Z own_EL s.vm h88 s.vm h90 := CHr.wr W90 (Safe.arv hZ.alike V88 (by decide)) R89.1
        have R91 := R89.trans r91
        have Z91 := nt Z89 (Keep.of_wr W90).1
        have O91 := O89.wr W90 g_b88
        have K91 := K89.wr W90 (Or.inr sz_b88)
        refine gsW (S' := T90.setTop (mkF m 70 #[iv (p0), iv (p1), iv (p2), iv (p3)] [(.ref b88), (.ref b86), (.ref b86)])) st90 ?_
        refine gsW (fun _ k => o_dup X90 hx hby d17_70 rfl (o_iconst (v := (1 : Int32)) X90 hx hby d17_71 (o_iloadN X90 hx hby d17_72 rfl k))) ?_
        obtain ⟨cl92, A92, a92q, a92S, a92N, a92H, a92G⟩ := id V90
        obtain ⟨T92, h92, X92, e92, W92, st92⟩ := stC X90 hx hZ e90 A92 (j := (1 : Int32)) (inb_of a92S ⟨by decide, by decide⟩) (g := (mkF m 73 #[iv (p0), iv (p1), iv (p2), iv (p3)] [(.int p2), (.int (1 : Int32)), (.ref b88), (.ref b88), (.ref b86), (.ref b86)])) rfl rfl (hb hby d17_73)
        have V92 : Arv Z h92 b88 k88 .char (3 : Int32) [(.int (nar .char p1)), (.int (nar .char p2)), (.int (0 : Int32))] (.int (0 : Int32)) := Arv.set A92 a92q a92S a92N a92H a92G (fits_nar_char _) W92 1 rfl (nb rfl)
        have N92 := Fr.snoc X92 N90 g_b88
        have r93 : CHr Z own_EL s.vm h90 s.vm h92 := CHr.wr W92 (Safe.arv hZ.alike V90 (by decide)) R91.1
        have R93 := R91.trans r93
        have Z93 := nt Z91 (Keep.of_wr W92).1
        have O93 := O91.wr W92 g_b88
        have K93 := K91.wr W92 (Or.inr sz_b88)
        refine gsW (S' := T92.setTop (mkF m 74 #[iv (p0), iv (p1), iv (p2), iv (p3)] [(.ref b88), (.ref b86), (.ref b86)])) st92 ?_
        refine gsW (fun _ k => o_dup X92 hx hby d17_74 rfl (o_iconst (v := (2 : Int32)) X92 hx hby d17_75 (o_iloadN X92 hx hby d17_76 rfl k))) ?_
        obtain ⟨cl94, A94, a94q, a94S, a94N, a94H, a94G⟩ := id V92
        obtain ⟨T94, h94, X94, e94, W94, st94⟩ := stC X92 hx hZ e92 A94 (j := (2 : Int32)) (inb_of a94S ⟨by decide, by decide⟩) (g := (mkF m 77 #[iv (p0), iv (p1), iv (p2), iv (p3)] [(.int p3), (.int (2 : Int32)), (.ref b88), (.ref b88), (.ref b86), (.ref b86)])) rfl rfl (hb hby d17_77)
        have V94 : Arv Z h94 b88 k88 .char (3 : Int32) [(.int (nar .char p1)), (.int (nar .char p2)), (.int (nar .char p3))] (.int (0 : Int32)) := Arv.set A94 a94q a94S a94N a94H a94G (fits_nar_char _) W94 2 rfl (nb rfl)
        have N94 := Fr.snoc X94 N92 g_b88
        have r95 : CHr Z own_EL s.vm h92 s.vm h94 := CHr.wr W94 (Safe.arv hZ.alike V92 (by decide)) R93.1
        have R95 := R93.trans r95
        have Z95 := nt Z93 (Keep.of_wr W94).1
        have O95 := O93.wr W94 g_b88
        have K95 := K93.wr W94 (Or.inr sz_b88)
        refine gsW (S' := T94.setTop (mkF m 78 #[iv (p0), iv (p1), iv (p2), iv (p3)] [(.ref b88), (.ref b86), (.ref b86)])) st94 ?_
        have Vn := V94
        rw [own_nc16 h1, own_nc16 h2, own_nc16 h3] at Vn
        by_cases hc96 : (255 : Int32) < p1
        · have f97 := ((((A86.ext E88).wr W90).wr W92).wr W94)
          have f98 := ((((F_value_b86.ext E88).other W90 (Or.inl (nw (nu (nu A86.lt (Nat.le_refl _)) (Nat.le_of_eq q88.symm))))).other W92 (Or.inl (nw (nu (nu A86.lt (Nat.le_refl _)) (Nat.le_of_eq q88.symm))))).other W94 (Or.inl (nw (nu (nu A86.lt (Nat.le_refl _)) (Nat.le_of_eq q88.symm)))))
          have f99 := ((((F_coder_b86.ext E88).other W90 (Or.inl (nw (nu (nu A86.lt (Nat.le_refl _)) (Nat.le_of_eq q88.symm))))).other W92 (Or.inl (nw (nu (nu A86.lt (Nat.le_refl _)) (Nat.le_of_eq q88.symm))))).other W94 (Or.inl (nw (nu (nu A86.lt (Nat.le_refl _)) (Nat.le_of_eq q88.symm)))))
          refine cIW (rest := [(.ref b86)]) X94 hx hZ hown rfl (ow hw 9 rfl) (ow hw 10 rfl) (ow hw 7 rfl) (ow hw 11 rfl) (rm_si1_30 l Z a0 hw [] b86 b88 k88 p1 p2 p3 z h94 n0 Z95 O95 f97 f98 f99 g_b86 Vn hc96 h1 h2 h3 S_ad S_hi S_lo S0 hz) hby d17_78 e94 pd_308 1 (by rw [hml]; rfl) rfl rfl rfl rfl (by decide) (by decide) fun _ T100 Lc100 X100 hQ100 => ?_
          obtain ⟨rfl, N100q, K100q, T100q⟩ := hQ100
          have N100 := Fr.app N94 N100q
          have zs102 := nt E88.1 (Keep.of_wr W90).1
          have zs103 := nt zs102 (Keep.of_wr W92).1
          have f104 := (r95.safe (nu A86.lt zs103) (r93.safe (nu A86.lt zs102) (r91.safe (nu A86.lt E88.1) (r89.safe (nu A86.lt (Nat.le_refl _)) sfb86))))
          have r101 : CHr Z own_EL s.vm h94 s.vm T100.heap := CHr.keep K100q (sfS f104 sf0) R95.1
          have R101 := R95.trans r101
          have Z101 := nt Z95 K100q.1
          have O101 := O95.keep K100q (allS g_b86 all0)
          have K101 := K95.trans K100q (allS (Or.inr sz_b86) all0)
          have zs105 := nt E86.1 E88.1
          have zs106 := nt zs105 (Keep.of_wr W90).1
          have zs107 := nt zs106 (Keep.of_wr W92).1
          have zs108 := nt zs107 (Keep.of_wr W94).1
          have zs109 := nt zs108 K100q.1
          refine goutW (v := some (.ref b86)) X100 hS (nt hk zs109) hZ (own_EW hw) hh rfl R101 Bd.notSynchronized (fun h => by rw [Bd.returns] at h; cases h) (by decide) (by decide) ?_ (fun fs hr => retOut X100 hx Bd.returns rfl (Or.inr (Or.inr (Or.inr (Or.inr ⟨rfl, rfl, rfl⟩)))) (hb hby d17_81) hr)
          exact ⟨_, rfl, N100, K101, Or.inr (by unfold own_mk; rw [if_neg hc1, if_neg hc12, if_neg hc40]; exact ⟨T100q, by simp⟩)⟩
        · by_cases hc110 : (255 : Int32) < p2
          · have f111 := ((((A86.ext E88).wr W90).wr W92).wr W94)
            have f112 := ((((F_value_b86.ext E88).other W90 (Or.inl (nw (nu (nu A86.lt (Nat.le_refl _)) (Nat.le_of_eq q88.symm))))).other W92 (Or.inl (nw (nu (nu A86.lt (Nat.le_refl _)) (Nat.le_of_eq q88.symm))))).other W94 (Or.inl (nw (nu (nu A86.lt (Nat.le_refl _)) (Nat.le_of_eq q88.symm)))))
            have f113 := ((((F_coder_b86.ext E88).other W90 (Or.inl (nw (nu (nu A86.lt (Nat.le_refl _)) (Nat.le_of_eq q88.symm))))).other W92 (Or.inl (nw (nu (nu A86.lt (Nat.le_refl _)) (Nat.le_of_eq q88.symm))))).other W94 (Or.inl (nw (nu (nu A86.lt (Nat.le_refl _)) (Nat.le_of_eq q88.symm)))))
            refine cIW (rest := [(.ref b86)]) X94 hx hZ hown rfl (ow hw 9 rfl) (ow hw 10 rfl) (ow hw 7 rfl) (ow hw 11 rfl) (rm_si1_31 l Z a0 hw [] b86 b88 k88 p1 p2 p3 z h94 n0 Z95 O95 f111 f112 f113 g_b86 Vn hc96 hc110 h1 h2 h3 S_ad S_hi S_lo S0 hz) hby d17_78 e94 pd_308 1 (by rw [hml]; rfl) rfl rfl rfl rfl (by decide) (by decide) fun _ T114 Lc114 X114 hQ114 => ?_
            obtain ⟨rfl, N114q, K114q, T114q⟩ := hQ114
            have N114 := Fr.app N94 N114q
            have zs116 := nt E88.1 (Keep.of_wr W90).1
            have zs117 := nt zs116 (Keep.of_wr W92).1
            have f118 := (r95.safe (nu A86.lt zs117) (r93.safe (nu A86.lt zs116) (r91.safe (nu A86.lt E88.1) (r89.safe (nu A86.lt (Nat.le_refl _)) sfb86))))
            have r115 : CHr Z own_EL s.vm h94 s.vm T114.heap := CHr.keep K114q (sfS f118 sf0) R95.1
            have R115 := R95.trans r115
            have Z115 := nt Z95 K114q.1
            have O115 := O95.keep K114q (allS g_b86 all0)
            have K115 := K95.trans K114q (allS (Or.inr sz_b86) all0)
            have zs119 := nt E86.1 E88.1
            have zs120 := nt zs119 (Keep.of_wr W90).1
            have zs121 := nt zs120 (Keep.of_wr W92).1
            have zs122 := nt zs121 (Keep.of_wr W94).1
            have zs123 := nt zs122 K114q.1
            refine goutW (v := some (.ref b86)) X114 hS (nt hk zs123) hZ (own_EW hw) hh rfl R115 Bd.notSynchronized (fun h => by rw [Bd.returns] at h; cases h) (by decide) (by decide) ?_ (fun fs hr => retOut X114 hx Bd.returns rfl (Or.inr (Or.inr (Or.inr (Or.inr ⟨rfl, rfl, rfl⟩)))) (hb hby d17_81) hr)
            exact ⟨_, rfl, N114, K115, Or.inr (by unfold own_mk; rw [if_neg hc1, if_neg hc12, if_neg hc40]; exact ⟨T114q, by simp⟩)⟩
          · by_cases hc124 : (255 : Int32) < p3
            · have f125 := ((((A86.ext E88).wr W90).wr W92).wr W94)
              have f126 := ((((F_value_b86.ext E88).other W90 (Or.inl (nw (nu (nu A86.lt (Nat.le_refl _)) (Nat.le_of_eq q88.symm))))).other W92 (Or.inl (nw (nu (nu A86.lt (Nat.le_refl _)) (Nat.le_of_eq q88.symm))))).other W94 (Or.inl (nw (nu (nu A86.lt (Nat.le_refl _)) (Nat.le_of_eq q88.symm)))))
              have f127 := ((((F_coder_b86.ext E88).other W90 (Or.inl (nw (nu (nu A86.lt (Nat.le_refl _)) (Nat.le_of_eq q88.symm))))).other W92 (Or.inl (nw (nu (nu A86.lt (Nat.le_refl _)) (Nat.le_of_eq q88.symm))))).other W94 (Or.inl (nw (nu (nu A86.lt (Nat.le_refl _)) (Nat.le_of_eq q88.symm)))))
              refine cIW (rest := [(.ref b86)]) X94 hx hZ hown rfl (ow hw 9 rfl) (ow hw 10 rfl) (ow hw 7 rfl) (ow hw 11 rfl) (rm_si1_32 l Z a0 hw [] b86 b88 k88 p1 p2 p3 z h94 n0 Z95 O95 f125 f126 f127 g_b86 Vn hc96 hc110 hc124 h1 h2 h3 S_ad S_hi S_lo S0 hz) hby d17_78 e94 pd_308 1 (by rw [hml]; rfl) rfl rfl rfl rfl (by decide) (by decide) fun _ T128 Lc128 X128 hQ128 => ?_
              obtain ⟨rfl, N128q, K128q, T128q⟩ := hQ128
              have N128 := Fr.app N94 N128q
              have zs130 := nt E88.1 (Keep.of_wr W90).1
              have zs131 := nt zs130 (Keep.of_wr W92).1
              have f132 := (r95.safe (nu A86.lt zs131) (r93.safe (nu A86.lt zs130) (r91.safe (nu A86.lt E88.1) (r89.safe (nu A86.lt (Nat.le_refl _)) sfb86))))
              have r129 : CHr Z own_EL s.vm h94 s.vm T128.heap := CHr.keep K128q (sfS f132 sf0) R95.1
              have R129 := R95.trans r129
              have Z129 := nt Z95 K128q.1
              have O129 := O95.keep K128q (allS g_b86 all0)
              have K129 := K95.trans K128q (allS (Or.inr sz_b86) all0)
              have zs133 := nt E86.1 E88.1
              have zs134 := nt zs133 (Keep.of_wr W90).1
              have zs135 := nt zs134 (Keep.of_wr W92).1
              have zs136 := nt zs135 (Keep.of_wr W94).1
              have zs137 := nt zs136 K128q.1
              refine goutW (v := some (.ref b86)) X128 hS (nt hk zs137) hZ (own_EW hw) hh rfl R129 Bd.notSynchronized (fun h => by rw [Bd.returns] at h; cases h) (by decide) (by decide) ?_ (fun fs hr => retOut X128 hx Bd.returns rfl (Or.inr (Or.inr (Or.inr (Or.inr ⟨rfl, rfl, rfl⟩)))) (hb hby d17_81) hr)
              exact ⟨_, rfl, N128, K129, Or.inr (by unfold own_mk; rw [if_neg hc1, if_neg hc12, if_neg hc40]; exact ⟨T128q, by simp⟩)⟩
            · have hp138 : ∀ c ∈ ([p1, p2, p3] : List Int32), ¬ c < 0 ∧ ¬ (255 : Int32) < c := by
                intro c hc
                simp only [List.mem_cons, List.not_mem_nil, or_false] at hc
                rcases hc with rfl | rfl | rfl
                all_goals first | exact ⟨h1.1, hc96⟩ | exact ⟨h2.1, hc110⟩ | exact ⟨h3.1, hc124⟩
              have f139 := ((((A86.ext E88).wr W90).wr W92).wr W94)
              have f140 := ((((F_value_b86.ext E88).other W90 (Or.inl (nw (nu (nu A86.lt (Nat.le_refl _)) (Nat.le_of_eq q88.symm))))).other W92 (Or.inl (nw (nu (nu A86.lt (Nat.le_refl _)) (Nat.le_of_eq q88.symm))))).other W94 (Or.inl (nw (nu (nu A86.lt (Nat.le_refl _)) (Nat.le_of_eq q88.symm)))))
              have f141 := ((((F_coder_b86.ext E88).other W90 (Or.inl (nw (nu (nu A86.lt (Nat.le_refl _)) (Nat.le_of_eq q88.symm))))).other W92 (Or.inl (nw (nu (nu A86.lt (Nat.le_refl _)) (Nat.le_of_eq q88.symm))))).other W94 (Or.inl (nw (nu (nu A86.lt (Nat.le_refl _)) (Nat.le_of_eq q88.symm)))))
              obtain ⟨_, _, ⟨T142, L142, k142, n142⟩, -, X142, ⟨Lc142, hQ142, l142, y142, z142⟩, st142⟩ := X94.specialBack hx (y := my2) rfl hown (mvT hZ (ow hw 9 rfl)) (mvT hZ (ow hw 10 rfl)) (mvT hZ (ow hw 11 rfl)) (by decide) (StrChars.Road.backV (W := 1) hZ hws (kI := 4) (ow hw 6 rfl) (cs := ([p1, p2, p3] : List Int32)) (bs := ([p1, p2, p3] : List Int32).map (fun c => c.toInt8.toInt32)) (n := 3) g_b86 Z95 f139 f140 f141 Vn (S0.ext O95.2) hz rfl rfl (by decide) (by decide) hp138 rfl (by decide) (by decide)) (g := (mkF m 78 #[iv (p0), iv (p1), iv (p2), iv (p3)] [(.ref b88), (.ref b86), (.ref b86)])) rfl (by rw [hml]; rfl) (Steps.refl _) (a := b86) (argsL := [(.ref b88)]) (rest := [(.ref b86)]) (lenOf pd_308 rfl) rfl (own_w0 rfl) (hb hby d17_78) (fun _ _ => ⟨rfl, e94, (by decide : 2 + 1 ≤ _), (by decide : 7 + 3 ≤ _)⟩)
              dsimp only [Pt.U, Pt.locs, Pt.cells, Pt.slots] at X142 l142 y142 z142 st142 hQ142
              subst l142 y142 z142
              obtain ⟨rfl, N142q, K142q, g142e, g142c, t142, kb142, -, g142t, -, g142v, g142a⟩ := hQ142
              have N142 := Fr.app N94 N142q
              have g_t142 : n0 ≤ t142 := nt Z95 g142t
              have sz_t142 : h0.size ≤ t142 := nt K95.1 g142t
              have zs144 := nt E88.1 (Keep.of_wr W90).1
              have zs145 := nt zs144 (Keep.of_wr W92).1
              have f146 := (r95.safe (nu A86.lt zs145) (r93.safe (nu A86.lt zs144) (r91.safe (nu A86.lt E88.1) (r89.safe (nu A86.lt (Nat.le_refl _)) sfb86))))
              have r143 : CHr Z own_EL s.vm h94 s.vm T142.heap := CHr.keep K142q (sfS f146 sf0) R95.1
              have R143 := R95.trans r143
              have Z143 := nt Z95 K142q.1
              have O143 := O95.keep K142q (allS g_b86 all0)
              have K143 := K95.trans K142q (allS (Or.inr sz_b86) all0)
              refine gsW (S' := T142.setTop (mkF m 81 #[iv (p0), iv (p1), iv (p2), iv (p3)] [(.ref b86)])) (fun _ k => st142.trans k) ?_
              have T147 : Str Z T142.heap b86 ([p1, p2, p3] : List Int32) := ⟨_, _, g142e, g142c, g142v, g142a⟩
              have zs148 := nt E86.1 E88.1
              have zs149 := nt zs148 (Keep.of_wr W90).1
              have zs150 := nt zs149 (Keep.of_wr W92).1
              have zs151 := nt zs150 (Keep.of_wr W94).1
              have zs152 := nt zs151 K142q.1
              refine goutW (v := some (.ref b86)) X142 hS (nt hk zs152) hZ (own_EW hw) hh rfl R143 Bd.notSynchronized (fun h => by rw [Bd.returns] at h; cases h) (by decide) (by decide) ?_ (fun fs hr => retOut X142 hx Bd.returns rfl (Or.inr (Or.inr (Or.inr (Or.inr ⟨rfl, rfl, rfl⟩)))) (hb hby d17_81) hr)
              exact ⟨_, rfl, N142, K143, Or.inl (by unfold own_mk; rw [if_neg hc1, if_neg hc12, if_neg hc40]; exact ⟨T147, hp138⟩)⟩
theorem ef_359 (m : MethodId) (x0 : Addr) : entryFrame m #[(.ref x0)] 1 = mkF m 0 #[.val (.ref x0)] [] := by first | (simp [entryFrame, mkF, argsToLocals, Value.category]; done) | rfl
theorem d18_0 : decode jdk_42_method_154_code 0 = .ok (.getstatic 38, 3) := by decide +kernel
theorem d18_3 : decode jdk_42_method_154_code 3 = .ok (.ifCond .eq 14, 3) := by decide +kernel
theorem d18_6 : decode jdk_42_method_154_code 6 = .ok (.aload_n 0, 1) := by decide +kernel
theorem d18_7 : decode jdk_42_method_154_code 7 = .ok (.getfield 15, 3) := by decide +kernel
theorem d18_10 : decode jdk_42_method_154_code 10 = .ok (.ifCond .ne 7, 3) := by decide +kernel
theorem d18_13 : decode jdk_42_method_154_code 13 = .ok (.iconst 1, 1) := by decide +kernel
theorem d18_14 : decode jdk_42_method_154_code 14 = .ok (.goto 4, 3) := by decide +kernel
theorem d18_18 : decode jdk_42_method_154_code 18 = .ok (.ireturn, 1) := by decide +kernel
set_option maxRecDepth 65536 in
set_option maxHeartbeats 40000000 in
theorem rm_isl0 (l : Launch) (Z : State) (a0 : Array Value) (hw : HW Z a0) (ws : List Jvm.Cond) (a : Addr) (z : Int32) (h0 : Heap) (n0 : Nat) (Z0 : n0 ≤ h0.size) (O0 : Old Z n0 h0) (S0 : PS3 Z (.int z)) (hz : ¬ z = 0) (F_c : Fld Z h0 a "java/lang/String" "coder" "B" (.int (0 : Int32))) :
    Ctr l Z my25 jdk_42_method_154_code 1 ((Option.some Jvm.ClassFile.FieldType.boolean)) ws (⟨0, 0, 0, 0⟩ : Room) #[(.ref a)] h0 (fun v h L => v = some (.int (1 : Int32)) ∧ Fr n0 L ∧ h = h0) := by
  refine Ctr.go (plainFor_of_name pn_14) fun p e s m below meth c s₁ Bd hx hby hml hZ hown hnm X0 e0 => ?_
  have N0 := Fr.nil n0
  have K0 := Keep.refl h0 []
  refine gs (S' := s₁.setTop (mkF m 0 #[rv (a)] [])) (fun tg kg => castTop (ef_359 m a) kg) ?_
  refine gS X0 hx hZ hown (host := "") (Or.inl (ow hw 30 rfl)) Via.refl e0 (S0.ext O0.2) hby d18_0 fun T1 X1 e1 => ?_
  refine gs (fun _ k => o_ifNo X1 hx hby d18_3 ((if0 _ _).trans (feq hz).1) (o_aloadN X1 hx hby d18_6 rfl rfl k)) ?_
  refine gF X1 hx hZ hown (host := "") (Or.inl (ow hw 26 rfl)) Via.refl e1 F_c hby d18_7 fun T2 X2 e2 => ?_
  refine gs (fun _ k => o_ifNo X2 hx hby d18_10 ((if0 _ _).trans (teq (by decide : (0 : Int32) = (0 : Int32))).2) (o_iconst (v := (1 : Int32)) X2 hx hby d18_13 (o_goto (pc' := 18) X2 hx hby d18_14 k))) ?_
  refine gout (v := some (.int (1 : Int32))) X2 Bd.notSynchronized (fun h => by rw [Bd.returns] at h; cases h) (by decide) (by decide) ?_ (fun fs hr => retN X2 hx (t := .boolean) Bd.returns (by simp) (hb hby d18_18) hr)
  rw [e2]
  exact ⟨rfl, N0, rfl⟩
theorem ef_368 (m : MethodId) (x0 : Addr) : entryFrame m #[(.ref x0)] 1 = mkF m 0 #[.val (.ref x0)] [] := by first | (simp [entryFrame, mkF, argsToLocals, Value.category]; done) | rfl
theorem d18_17 : decode jdk_42_method_154_code 17 = .ok (.iconst 0, 1) := by decide +kernel
set_option maxRecDepth 65536 in
set_option maxHeartbeats 40000000 in
theorem rm_isl1 (l : Launch) (Z : State) (a0 : Array Value) (hw : HW Z a0) (ws : List Jvm.Cond) (a : Addr) (z : Int32) (h0 : Heap) (n0 : Nat) (Z0 : n0 ≤ h0.size) (O0 : Old Z n0 h0) (S0 : PS3 Z (.int z)) (hz : ¬ z = 0) (F_c : Fld Z h0 a "java/lang/String" "coder" "B" (.int (1 : Int32))) :
    Ctr l Z my25 jdk_42_method_154_code 1 ((Option.some Jvm.ClassFile.FieldType.boolean)) ws (⟨0, 0, 0, 0⟩ : Room) #[(.ref a)] h0 (fun v h L => v = some (.int (0 : Int32)) ∧ Fr n0 L ∧ h = h0) := by
  refine Ctr.go (plainFor_of_name pn_14) fun p e s m below meth c s₁ Bd hx hby hml hZ hown hnm X0 e0 => ?_
  have N0 := Fr.nil n0
  have K0 := Keep.refl h0 []
  refine gs (S' := s₁.setTop (mkF m 0 #[rv (a)] [])) (fun tg kg => castTop (ef_368 m a) kg) ?_
  refine gS X0 hx hZ hown (host := "") (Or.inl (ow hw 30 rfl)) Via.refl e0 (S0.ext O0.2) hby d18_0 fun T1 X1 e1 => ?_
  refine gs (fun _ k => o_ifNo X1 hx hby d18_3 ((if0 _ _).trans (feq hz).1) (o_aloadN X1 hx hby d18_6 rfl rfl k)) ?_
  refine gF X1 hx hZ hown (host := "") (Or.inl (ow hw 26 rfl)) Via.refl e1 F_c hby d18_7 fun T2 X2 e2 => ?_
  refine gs (fun _ k => o_ifYes (pc' := 17) X2 hx hby d18_10 ((if0 _ _).trans (feq (by decide : ¬ ((1 : Int32) = (0 : Int32)))).2) (o_iconst (v := (0 : Int32)) X2 hx hby d18_17 k)) ?_
  refine gout (v := some (.int (0 : Int32))) X2 Bd.notSynchronized (fun h => by rw [Bd.returns] at h; cases h) (by decide) (by decide) ?_ (fun fs hr => retN X2 hx (t := .boolean) Bd.returns (by simp) (hb hby d18_18) hr)
  rw [e2]
  exact ⟨rfl, N0, rfl⟩
theorem ef_370 (m : MethodId) (x0 : Addr) (x1 : Int32) (x2 : Int32) (x3 : Int32) : entryFrame m #[(.ref x0), (.int x1), (.int x2), (.int x3)] 4 = mkF m 0 #[.val (.ref x0), .val (.int x1), .val (.int x2), .val (.int x3)] [] := by first | (simp [entryFrame, mkF, argsToLocals, Value.category]; done) | rfl
theorem d19_0 : decode jdk_43_method_22_code 0 = .ok (.iload_n 1, 1) := by decide +kernel
theorem d19_1 : decode jdk_43_method_22_code 1 = .ok (.invokestatic 88, 3) := by decide +kernel
theorem pd_373 : parseMethodDescriptor "(I)Z" = some ⟨[.int], some .boolean⟩ := by decide +kernel
theorem d19_4 : decode jdk_43_method_22_code 4 = .ok (.ifCond .ne 5, 3) := by decide +kernel
theorem d19_9 : decode jdk_43_method_22_code 9 = .ok (.iload_n 2, 1) := by decide +kernel
theorem d19_10 : decode jdk_43_method_22_code 10 = .ok (.iconst 0, 1) := by decide +kernel
theorem d19_11 : decode jdk_43_method_22_code 11 = .ok (.invokestatic 92, 3) := by decide +kernel
theorem pd_378 : parseMethodDescriptor "(II)I" = some ⟨[.int, .int], some .int⟩ := by decide +kernel
theorem d19_14 : decode jdk_43_method_22_code 14 = .ok (.istore_n 2, 1) := by decide +kernel
theorem d19_15 : decode jdk_43_method_22_code 15 = .ok (.iload_n 3, 1) := by decide +kernel
theorem d19_16 : decode jdk_43_method_22_code 16 = .ok (.aload_n 0, 1) := by decide +kernel
theorem d19_17 : decode jdk_43_method_22_code 17 = .ok (.arraylength, 1) := by decide +kernel
theorem d19_18 : decode jdk_43_method_22_code 18 = .ok (.invokestatic 38, 3) := by decide +kernel
theorem d19_21 : decode jdk_43_method_22_code 21 = .ok (.istore_n 3, 1) := by decide +kernel
theorem d19_22 : decode jdk_43_method_22_code 22 = .ok (.iload_n 2, 1) := by decide +kernel
theorem d19_23 : decode jdk_43_method_22_code 23 = .ok (.iload_n 3, 1) := by decide +kernel
theorem d19_24 : decode jdk_43_method_22_code 24 = .ok (.if_icmp .lt 5, 3) := by decide +kernel
theorem d19_27 : decode jdk_43_method_22_code 27 = .ok (.iconst (-1), 1) := by decide +kernel
theorem d19_28 : decode jdk_43_method_22_code 28 = .ok (.ireturn, 1) := by decide +kernel
set_option maxRecDepth 65536 in
set_option maxHeartbeats 40000000 in
theorem rm_iol0 (l : Launch) (Z : State) (a0 : Array Value) (hw : HW Z a0) (ws : List Jvm.Cond) (t : Addr) (kb : ClassId) (h0 : Heap) (n0 : Nat) (Z0 : n0 ≤ h0.size) (O0 : Old Z n0 h0) (V_t : Arv Z h0 t kb .byte (0 : Int32) [] (.int (0 : Int32))) :
    Ctr l Z my11 jdk_43_method_22_code 4 ((Option.some Jvm.ClassFile.FieldType.int)) ws (⟨1, 0, 0, 13⟩ : Room) #[(.ref t), (.int (58 : Int32)), (.int (0 : Int32)), (.int (0 : Int32))] h0 (fun v h L => v = some (.int (-1 : Int32)) ∧ Fr n0 L ∧ h = h0) := by
  refine Ctr.go (plainFor_of_name pn_32) fun p e s m below meth c s₁ Bd hx hby hml hZ hown hnm X0 e0 => ?_
  have N0 := Fr.nil n0
  have K0 := Keep.refl h0 []
  refine gs (S' := s₁.setTop (mkF m 0 #[rv (t), iv ((58 : Int32)), iv ((0 : Int32)), iv ((0 : Int32))] [])) (fun tg kg => castTop (ef_370 m t (58 : Int32) (0 : Int32) (0 : Int32)) kg) ?_
  refine gs (fun _ k => o_iloadN X0 hx hby d19_0 rfl k) ?_
  refine cS (rest := []) X0 hx hZ hown (ow hw 74 rfl) (ow hw 75 rfl) (ow hw 33 rfl) (ow hw 76 rfl) (rm_cei l Z a0 hw []  h0 n0 Z0 O0 ) hby d19_1 e0 pd_373 0 (by rw [hml]; rfl) rfl rfl rfl rfl (by decide) (by decide) fun _ T1 Lc1 X1 hQ1 => ?_
  obtain ⟨rfl, N1q, e1q⟩ := hQ1
  have N1 := Fr.app N0 N1q
  refine gs (fun _ k => o_ifYes (pc' := 9) X1 hx hby d19_4 ((if0 _ _).trans (feq (by decide : ¬ ((1 : Int32) = (0 : Int32)))).2) (o_iloadN X1 hx hby d19_9 rfl (o_iconst (v := (0 : Int32)) X1 hx hby d19_10 k))) ?_
  refine cS (rest := []) X1 hx hZ hown (ow hw 77 rfl) (ow hw 78 rfl) (ow hw 79 rfl) (ow hw 80 rfl) (rm_max l Z a0 hw []  h0 n0 Z0 O0 ) hby d19_11 e1q pd_378 0 (by rw [hml]; rfl) rfl rfl rfl rfl (by decide) (by decide) fun _ T2 Lc2 X2 hQ2 => ?_
  obtain ⟨rfl, N2q, e2q⟩ := hQ2
  have N2 := Fr.app N1 N2q
  refine gs (fun _ k => o_istoreN X2 hx hby d19_14 rfl (o_iloadN X2 hx hby d19_15 rfl (o_aloadN X2 hx hby d19_16 rfl rfl k))) ?_
  obtain ⟨cl3, A3, a3q, a3S, a3N, a3H, a3G⟩ := id V_t
  refine gs (S' := T2.setTop (mkF m 18 #[rv (t), iv ((58 : Int32)), iv ((0 : Int32)), iv ((0 : Int32))] [(.int (0 : Int32)), (.int (0 : Int32))])) (fun _ k => by refine X2.arraylength hx (by rw [e2q]; exact A3.1) (State.isArrayOf_alike hZ.alike A3.2.1) (g := (mkF m 17 #[rv (t), iv ((58 : Int32)), iv ((0 : Int32)), iv ((0 : Int32))] [(.ref t), (.int (0 : Int32))])) rfl rfl (hb hby d19_17) _ ?_; rw [len_of a3S a3N]; exact k) ?_
  refine cS (rest := []) X2 hx hZ hown (ow hw 81 rfl) (ow hw 82 rfl) (ow hw 79 rfl) (ow hw 83 rfl) (rm_min0 l Z a0 hw []  h0 n0 Z0 O0 ) hby d19_18 e2q pd_378 0 (by rw [hml]; rfl) rfl rfl rfl rfl (by decide) (by decide) fun _ T4 Lc4 X4 hQ4 => ?_
  obtain ⟨rfl, N4q, e4q⟩ := hQ4
  have N4 := Fr.app N2 N4q
  refine gs (fun _ k => o_istoreN X4 hx hby d19_21 rfl (o_iloadN X4 hx hby d19_22 rfl (o_iloadN X4 hx hby d19_23 rfl (o_icmpNo X4 hx hby d19_24 (flt (by decide : ¬ ((0 : Int32) < (0 : Int32)))).1 (o_iconst (v := (-1 : Int32)) X4 hx hby d19_27 k))))) ?_
  refine gout (v := some (.int (-1 : Int32))) X4 Bd.notSynchronized (fun h => by rw [Bd.returns] at h; cases h) (by decide) (by decide) ?_ (fun fs hr => retI X4 hx Bd.returns (hb hby d19_28) hr)
  rw [e4q]
  exact ⟨rfl, N4, rfl⟩
theorem ef_390 (m : MethodId) (x0 : Addr) (x1 : Int32) (x2 : Int32) : entryFrame m #[(.ref x0), (.int x1), (.int x2)] 3 = mkF m 0 #[.val (.ref x0), .val (.int x1), .val (.int x2)] [] := by first | (simp [entryFrame, mkF, argsToLocals, Value.category]; done) | rfl
theorem d20_0 : decode jdk_42_method_80_code 0 = .ok (.aload_n 0, 1) := by decide +kernel
theorem d20_1 : decode jdk_42_method_80_code 1 = .ok (.invokevirtual 492, 3) := by decide +kernel
theorem pd_393 : parseMethodDescriptor "()Z" = some ⟨[], some .boolean⟩ := by decide +kernel
theorem d20_4 : decode jdk_42_method_80_code 4 = .ok (.ifCond .eq 19, 3) := by decide +kernel
theorem d20_7 : decode jdk_42_method_80_code 7 = .ok (.aload_n 0, 1) := by decide +kernel
theorem d20_8 : decode jdk_42_method_80_code 8 = .ok (.getfield 9, 3) := by decide +kernel
theorem d20_11 : decode jdk_42_method_80_code 11 = .ok (.iload_n 1, 1) := by decide +kernel
theorem d20_12 : decode jdk_42_method_80_code 12 = .ok (.iload_n 2, 1) := by decide +kernel
theorem d20_13 : decode jdk_42_method_80_code 13 = .ok (.aload_n 0, 1) := by decide +kernel
theorem d20_14 : decode jdk_42_method_80_code 14 = .ok (.invokevirtual 505, 3) := by decide +kernel
theorem pd_401 : parseMethodDescriptor "()I" = some ⟨[], some .int⟩ := by decide +kernel
theorem d20_17 : decode jdk_42_method_80_code 17 = .ok (.invokestatic 637, 3) := by decide +kernel
theorem pd_403 : parseMethodDescriptor "([BIII)I" = some ⟨[(.array .byte), .int, .int, .int], some .int⟩ := by decide +kernel
theorem d20_20 : decode jdk_42_method_80_code 20 = .ok (.goto 16, 3) := by decide +kernel
theorem d20_36 : decode jdk_42_method_80_code 36 = .ok (.ireturn, 1) := by decide +kernel
set_option maxRecDepth 65536 in
set_option maxHeartbeats 40000000 in
theorem rm_io2_L0 (l : Launch) (Z : State) (a0 : Array Value) (hw : HW Z a0) (ws : List Jvm.Cond) (a : Addr) (z : Int32) (fm : Value) (h0 : Heap) (n0 : Nat) (Z0 : n0 ≤ h0.size) (O0 : Old Z n0 h0) (S0 : PS3 Z (.int z)) (hz : ¬ z = 0) (S4 : PS4 Z fm) (hfm : fm.isRef = true) (S_ad : PS0 Z (.int (1 : Int32))) (S_hi : PS1 Z (.int (0 : Int32))) (S_lo : PS2 Z (.int (8 : Int32))) (T_a : Str Z h0 a []) (hbd : ∀ c ∈ ([] : List Int32), ¬ c < 0 ∧ ¬ (255 : Int32) < c) :
    Ctr l Z my4 jdk_42_method_80_code 3 ((Option.some Jvm.ClassFile.FieldType.int)) ws (⟨2, 0, 0, 28⟩ : Room) #[(.ref a), (.int (58 : Int32)), (.int (0 : Int32))] h0 (fun v h L => v = some (.int (-1 : Int32)) ∧ Fr n0 L ∧ h = h0) := by
  refine Ctr.go (plainFor_of_name pn_14) fun p e s m below meth c s₁ Bd hx hby hml hZ hown hnm X0 e0 => ?_
  have N0 := Fr.nil n0
  have K0 := Keep.refl h0 []
  refine gs (S' := s₁.setTop (mkF m 0 #[rv (a), iv ((58 : Int32)), iv ((0 : Int32))] [])) (fun tg kg => castTop (ef_390 m a (58 : Int32) (0 : Int32)) kg) ?_
  obtain ⟨t, kb, E_a, F_c, F_v, V_t⟩ := id T_a
  refine gs (fun _ k => o_aloadN X0 hx hby d20_0 rfl rfl k) ?_
  refine cV (rest := []) X0 hx hZ hown (ow hw 56 rfl) (ow hw 57 rfl) (nfs hZ (ow hw 59 rfl)) (ow hw 59 rfl) (ow hw 58 rfl) (ow hw 7 rfl) (ow hw 60 rfl) (rm_isl0 l Z a0 hw [] a z h0 n0 Z0 O0 S0 hz F_c) hby d20_1 e0 pd_393 0 (by rw [hml]; rfl) E_a rfl rfl rfl rfl (by decide) (by decide) fun _ T1 Lc1 X1 hQ1 => ?_
  obtain ⟨rfl, N1q, e1q⟩ := hQ1
  have N1 := Fr.app N0 N1q
  refine gs (fun _ k => o_ifNo X1 hx hby d20_4 ((if0 _ _).trans (feq (by decide : ¬ ((1 : Int32) = (0 : Int32)))).1) (o_aloadN X1 hx hby d20_7 rfl rfl k)) ?_
  refine gF X1 hx hZ hown (host := "") (Or.inl (ow hw 25 rfl)) Via.refl e1q F_v hby d20_8 fun T2 X2 e2 => ?_
  refine gs (fun _ k => o_iloadN X2 hx hby d20_11 rfl (o_iloadN X2 hx hby d20_12 rfl (o_aloadN X2 hx hby d20_13 rfl rfl k))) ?_
  obtain ⟨cq3, kq3, q3a, q3b, q3c⟩ := isOf hZ e2 T_a.exa
  obtain ⟨_, _, ⟨T3, L3, k3, n3⟩, -, X3, ⟨Lc3, hQ3, l3, y3, z3⟩, st3⟩ := X2.virtualBack hx (y := my0) (z := my0) hown (mvT hZ (ow hw 61 rfl)) (mvT hZ (ow hw 62 rfl)) (notFace_of_selects (args := #[]) (mvT hZ (ow hw 64 rfl))) (mvT hZ (ow hw 64 rfl)) (mvT hZ (ow hw 63 rfl)) (by decide) (own_lenB (W := 3) hZ hw T_a hbd (S0.ext O0.2) hz (nb rfl) (by decide) (by decide)) q3a q3c (g := (mkF m 14 #[rv (a), iv ((58 : Int32)), iv ((0 : Int32))] [(.ref a), (.int (0 : Int32)), (.int (58 : Int32)), (.ref t)])) rfl (by rw [hml]; rfl) (Steps.refl _) (argsL := []) (rest := [(.int (0 : Int32)), (.int (58 : Int32)), (.ref t)]) (lenOf pd_401 rfl) rfl (own_w0 rfl) (hb hby d20_14) (fun _ _ => ⟨rfl, e2, (by decide : 0 + 0 ≤ _), (by decide : 0 + 0 ≤ _)⟩)
  dsimp only [Pt.U, Pt.locs, Pt.cells, Pt.slots] at X3 l3 y3 z3 st3 hQ3
  subst l3 y3 z3
  obtain ⟨rfl, rfl, e3q⟩ := hQ3
  have N3 := Fr.app N1 (Fr.nil n0)
  refine gs (S' := T3.setTop (mkF m 17 #[rv (a), iv ((58 : Int32)), iv ((0 : Int32))] [(.int (Int32.ofNat ([] : List Int32).length)), (.int (0 : Int32)), (.int (58 : Int32)), (.ref t)])) (fun _ k => st3.trans k) ?_
  show OwnGo p e below s _ _ _ (T3.setTop (mkF m 17 #[rv (a), iv ((58 : Int32)), iv ((0 : Int32))] [(.int (0 : Int32)), (.int (0 : Int32)), (.int (58 : Int32)), (.ref t)]))
  refine cS (rest := []) X3 hx hZ hown (ow hw 71 rfl) (ow hw 72 rfl) (ow hw 33 rfl) (ow hw 73 rfl) (rm_iol0 l Z a0 hw [] t kb h0 n0 Z0 O0 V_t) hby d20_17 e3q pd_403 0 (by rw [hml]; rfl) rfl rfl rfl rfl (by decide) (by decide) fun _ T4 Lc4 X4 hQ4 => ?_
  obtain ⟨rfl, N4q, e4q⟩ := hQ4
  have N4 := Fr.app N3 N4q
  refine gs (fun _ k => o_goto (pc' := 36) X4 hx hby d20_20 k) ?_
  refine gout (v := some (.int (-1 : Int32))) X4 Bd.notSynchronized (fun h => by rw [Bd.returns] at h; cases h) (by decide) (by decide) ?_ (fun fs hr => retI X4 hx Bd.returns (hb hby d20_36) hr)
  rw [e4q]
  exact ⟨rfl, N4, rfl⟩
theorem ef_406 (m : MethodId) (x0 : Addr) (x1 : Int32) : entryFrame m #[(.ref x0), (.int x1)] 2 = mkF m 0 #[.val (.ref x0), .val (.int x1)] [] := by first | (simp [entryFrame, mkF, argsToLocals, Value.category]; done) | rfl
theorem d21_0 : decode jdk_42_method_79_code 0 = .ok (.aload_n 0, 1) := by decide +kernel
theorem d21_1 : decode jdk_42_method_79_code 1 = .ok (.iload_n 1, 1) := by decide +kernel
theorem d21_2 : decode jdk_42_method_79_code 2 = .ok (.iconst 0, 1) := by decide +kernel
theorem d21_3 : decode jdk_42_method_79_code 3 = .ok (.invokevirtual 633, 3) := by decide +kernel
theorem d21_6 : decode jdk_42_method_79_code 6 = .ok (.ireturn, 1) := by decide +kernel
set_option maxRecDepth 65536 in
set_option maxHeartbeats 40000000 in
theorem rm_io1_L0 (l : Launch) (Z : State) (a0 : Array Value) (hw : HW Z a0) (ws : List Jvm.Cond) (a : Addr) (z : Int32) (fm : Value) (h0 : Heap) (n0 : Nat) (Z0 : n0 ≤ h0.size) (O0 : Old Z n0 h0) (S0 : PS3 Z (.int z)) (hz : ¬ z = 0) (S4 : PS4 Z fm) (hfm : fm.isRef = true) (S_ad : PS0 Z (.int (1 : Int32))) (S_hi : PS1 Z (.int (0 : Int32))) (S_lo : PS2 Z (.int (8 : Int32))) (T_a : Str Z h0 a []) (hbd : ∀ c ∈ ([] : List Int32), ¬ c < 0 ∧ ¬ (255 : Int32) < c) :
    Ctr l Z my5 jdk_42_method_79_code 2 ((Option.some Jvm.ClassFile.FieldType.int)) ws (⟨3, 0, 0, 42⟩ : Room) #[(.ref a), (.int (58 : Int32))] h0 (fun v h L => v = some (.int (-1 : Int32)) ∧ Fr n0 L ∧ h = h0) := by
  refine Ctr.go (plainFor_of_name pn_14) fun p e s m below meth c s₁ Bd hx hby hml hZ hown hnm X0 e0 => ?_
  have N0 := Fr.nil n0
  have K0 := Keep.refl h0 []
  refine gs (S' := s₁.setTop (mkF m 0 #[rv (a), iv ((58 : Int32))] [])) (fun tg kg => castTop (ef_406 m a (58 : Int32)) kg) ?_
  refine gs (fun _ k => o_aloadN X0 hx hby d21_0 rfl rfl (o_iloadN X0 hx hby d21_1 rfl (o_iconst (v := (0 : Int32)) X0 hx hby d21_2 k))) ?_
  refine cV (rest := []) X0 hx hZ hown (ow hw 51 rfl) (ow hw 52 rfl) (nfs hZ (ow hw 54 rfl)) (ow hw 54 rfl) (ow hw 53 rfl) (ow hw 7 rfl) (ow hw 55 rfl) (rm_io2_L0 l Z a0 hw [] a z fm h0 n0 Z0 O0 S0 hz S4 hfm S_ad S_hi S_lo T_a hbd) hby d21_3 e0 pd_378 0 (by rw [hml]; rfl) T_a.exa rfl rfl rfl rfl (by decide) (by decide) fun _ T1 Lc1 X1 hQ1 => ?_
  obtain ⟨rfl, N1q, e1q⟩ := hQ1
  have N1 := Fr.app N0 N1q
  refine gout (v := some (.int (-1 : Int32))) X1 Bd.notSynchronized (fun h => by rw [Bd.returns] at h; cases h) (by decide) (by decide) ?_ (fun fs hr => retI X1 hx Bd.returns (hb hby d21_6) hr)
  rw [e1q]
  exact ⟨rfl, N1, rfl⟩
theorem ef_412 (m : MethodId) (x0 : Addr) (x1 : Addr) : entryFrame m #[(.ref x0), (.ref x1)] 2 = mkF m 0 #[.val (.ref x0), .val (.ref x1)] [] := by first | (simp [entryFrame, mkF, argsToLocals, Value.category]; done) | rfl
theorem d22_0 : decode prog_3_method_3_code 0 = .ok (.aload_n 0, 1) := by decide +kernel
theorem d22_1 : decode prog_3_method_3_code 1 = .ok (.bipush 58, 2) := by decide +kernel
theorem d22_3 : decode prog_3_method_3_code 3 = .ok (.invokevirtual 13, 3) := by decide +kernel
theorem d22_6 : decode prog_3_method_3_code 6 = .ok (.ifCond .lt 17, 3) := by decide +kernel
theorem d22_23 : decode prog_3_method_3_code 23 = .ok (.aload_n 0, 1) := by decide +kernel
theorem d22_24 : decode prog_3_method_3_code 24 = .ok (.areturn, 1) := by decide +kernel
theorem pn_419 : plainName "com/example/ledgergate/ledgergate/access/Buttons" = true := by first | (simp [plainName, overriddenIn]; done) | decide +kernel
set_option maxRecDepth 65536 in
set_option maxHeartbeats 40000000 in
theorem rm_ws_L0 (l : Launch) (Z : State) (a0 : Array Value) (hw : HW Z a0) (ws : List Jvm.Cond) (u : Addr) (a : Addr) (z : Int32) (fm : Value) (h0 : Heap) (n0 : Nat) (Z0 : n0 ≤ h0.size) (O0 : Old Z n0 h0) (S0 : PS3 Z (.int z)) (hz : ¬ z = 0) (S4 : PS4 Z fm) (hfm : fm.isRef = true) (S_ad : PS0 Z (.int (1 : Int32))) (S_hi : PS1 Z (.int (0 : Int32))) (S_lo : PS2 Z (.int (8 : Int32))) (T_a : Str Z h0 a []) (hbd : ∀ c ∈ ([] : List Int32), ¬ c < 0 ∧ ¬ (255 : Int32) < c) :
    Ctr l Z my1 prog_3_method_3_code 2 ((Option.some (Jvm.ClassFile.FieldType.object "java/lang/String"))) ws (⟨9, 0, 0, 190⟩ : Room) #[(.ref a), (.ref u)] h0 (fun v h L => v = some (.ref a) ∧ Fr n0 L ∧ h = h0) := by
  refine Ctr.go (plainFor_of_name pn_419) fun p e s m below meth c s₁ Bd hx hby hml hZ hown hnm X0 e0 => ?_
  have N0 := Fr.nil n0
  have K0 := Keep.refl h0 []
  refine gs (S' := s₁.setTop (mkF m 0 #[rv (a), rv (u)] [])) (fun tg kg => castTop (ef_412 m a u) kg) ?_
  refine gs (fun _ k => o_aloadN X0 hx hby d22_0 rfl rfl (o_bipush (v := (58 : Int32)) X0 hx hby d22_1 k)) ?_
  refine cV (rest := []) X0 hx hZ hown (ow hw 46 rfl) (ow hw 47 rfl) (nfs hZ (ow hw 49 rfl)) (ow hw 49 rfl) (ow hw 48 rfl) (ow hw 7 rfl) (ow hw 50 rfl) (rm_io1_L0 l Z a0 hw [] a z fm h0 n0 Z0 O0 S0 hz S4 hfm S_ad S_hi S_lo T_a hbd) hby d22_3 e0 pd_156 0 (by rw [hml]; rfl) T_a.exa rfl rfl rfl rfl (by decide) (by decide) fun _ T1 Lc1 X1 hQ1 => ?_
  obtain ⟨rfl, N1q, e1q⟩ := hQ1
  have N1 := Fr.app N0 N1q
  refine gs (fun _ k => o_ifYes (pc' := 23) X1 hx hby d22_6 ((if0 _ _).trans (tlt (by decide : (-1 : Int32) < (0 : Int32))).1) (o_aloadN X1 hx hby d22_23 rfl rfl k)) ?_
  refine gout (v := some (.ref a)) X1 Bd.notSynchronized (fun h => by rw [Bd.returns] at h; cases h) (by decide) (by decide) ?_ (fun fs hr => retOut X1 hx Bd.returns rfl (Or.inr (Or.inr (Or.inr (Or.inr ⟨rfl, rfl, rfl⟩)))) (hb hby d22_24) hr)
  rw [e1q]
  exact ⟨rfl, N1, rfl⟩
theorem ef_420 (m : MethodId) (x0 : Addr) (x1 : Int32) (x2 : Int32) (x3 : Int32) : entryFrame m #[(.ref x0), (.int x1), (.int x2), (.int x3)] 6 = mkF m 0 #[.val (.ref x0), .val (.int x1), .val (.int x2), .val (.int x3), .unset, .unset] [] := by first | (simp [entryFrame, mkF, argsToLocals, Value.category]; done) | rfl
theorem d23_0 : decode jdk_43_method_23_code 0 = .ok (.iload_n 1, 1) := by decide +kernel
theorem d23_1 : decode jdk_43_method_23_code 1 = .ok (.i2b, 1) := by decide +kernel
theorem d23_2 : decode jdk_43_method_23_code 2 = .ok (.istore 4, 2) := by decide +kernel
theorem d23_4 : decode jdk_43_method_23_code 4 = .ok (.iload_n 2, 1) := by decide +kernel
theorem d23_5 : decode jdk_43_method_23_code 5 = .ok (.istore 5, 2) := by decide +kernel
theorem d23_7 : decode jdk_43_method_23_code 7 = .ok (.iload 5, 2) := by decide +kernel
theorem d23_9 : decode jdk_43_method_23_code 9 = .ok (.iload_n 3, 1) := by decide +kernel
theorem d23_10 : decode jdk_43_method_23_code 10 = .ok (.if_icmp .ge 21, 3) := by decide +kernel
theorem d23_13 : decode jdk_43_method_23_code 13 = .ok (.aload_n 0, 1) := by decide +kernel
theorem d23_14 : decode jdk_43_method_23_code 14 = .ok (.iload 5, 2) := by decide +kernel
theorem d23_16 : decode jdk_43_method_23_code 16 = .ok (.baload, 1) := by decide +kernel
theorem d23_17 : decode jdk_43_method_23_code 17 = .ok (.iload 4, 2) := by decide +kernel
theorem d23_19 : decode jdk_43_method_23_code 19 = .ok (.if_icmp .ne 6, 3) := by decide +kernel
theorem d23_25 : decode jdk_43_method_23_code 25 = .ok (.iinc 5 1, 3) := by decide +kernel
theorem d23_28 : decode jdk_43_method_23_code 28 = .ok (.goto (-21), 3) := by decide +kernel
theorem d23_31 : decode jdk_43_method_23_code 31 = .ok (.iconst (-1), 1) := by decide +kernel
theorem d23_32 : decode jdk_43_method_23_code 32 = .ok (.ireturn, 1) := by decide +kernel
set_option maxRecDepth 65536 in
set_option maxHeartbeats 40000000 in
theorem rm_iocl1 (l : Launch) (Z : State) (a0 : Array Value) (hw : HW Z a0) (ws : List Jvm.Cond) (t : Addr) (kb : ClassId) (ch0 : Int32) (h0 : Heap) (n0 : Nat) (Z0 : n0 ≤ h0.size) (O0 : Old Z n0 h0) (V_t : Arv Z h0 t kb .byte (1 : Int32) [(.int (ch0.toInt8.toInt32))] (.int (0 : Int32))) (m0 : ¬ (ch0.toInt8.toInt32) = (58 : Int32)) :
    Ctr l Z my16 jdk_43_method_23_code 6 ((Option.some Jvm.ClassFile.FieldType.int)) ws (⟨0, 0, 0, 0⟩ : Room) #[(.ref t), (.int (58 : Int32)), (.int (0 : Int32)), (.int (1 : Int32))] h0 (fun v h L => v = some (.int (-1 : Int32)) ∧ Fr n0 L ∧ h = h0) := by
  refine Ctr.go (plainFor_of_name pn_32) fun p e s m below meth c s₁ Bd hx hby hml hZ hown hnm X0 e0 => ?_
  have N0 := Fr.nil n0
  have K0 := Keep.refl h0 []
  refine gs (S' := s₁.setTop (mkF m 0 #[rv (t), iv ((58 : Int32)), iv ((0 : Int32)), iv ((1 : Int32)), uu, uu] [])) (fun tg kg => castTop (ef_420 m t (58 : Int32) (0 : Int32) (1 : Int32)) kg) ?_
  refine gs (fun _ k => o_iloadN X0 hx hby d23_0 rfl (o_i2b X0 hx hby d23_1 (o_istore X0 hx hby d23_2 rfl (o_iloadN X0 hx hby d23_4 rfl (o_istore X0 hx hby d23_5 rfl (o_iload X0 hx hby d23_7 rfl (o_iloadN X0 hx hby d23_9 rfl (o_icmpNo X0 hx hby d23_10 (tlt (by decide : (0 : Int32) < (1 : Int32))).2.1 (o_aloadN X0 hx hby d23_13 rfl rfl (o_iload X0 hx hby d23_14 rfl k)))))))))) ?_
  obtain ⟨cl1, A1, a1q, a1S, a1N, a1H, a1G⟩ := id V_t
  have hi1 := inb_of a1S (j := (0 : Int32)) ⟨by decide, by decide⟩
  refine gs (fun _ k => X0.baloadBytes hx (j := (0 : Int32)) (v := (.int (ch0.toInt8.toInt32))) (by rw [e0]; exact A1.1) (State.isArrayOf_alike hZ.alike A1.2.1) A1.2.2 hi1 (Has.at a1H hi1 rfl) (g := (mkF m 16 #[rv (t), iv ((58 : Int32)), iv ((0 : Int32)), iv ((1 : Int32)), iv ((58 : Int32)), iv ((0 : Int32))] [(.int (0 : Int32)), (.ref t)])) rfl rfl (hb hby d23_16) _ (o_iload X0 hx hby d23_17 rfl (o_icmpYes (pc' := 25) X0 hx hby d23_19 (feq m0).2 (o_iinc X0 hx hby d23_25 rfl rfl (o_goto (pc' := 7) X0 hx hby d23_28 (o_iload X0 hx hby d23_7 rfl (o_iloadN X0 hx hby d23_9 rfl (o_icmpYes (pc' := 31) X0 hx hby d23_10 (flt (by decide : ¬ ((1 : Int32) < (1 : Int32)))).2.1 (o_iconst (v := (-1 : Int32)) X0 hx hby d23_31 k))))))))) ?_
  refine gout (v := some (.int (-1 : Int32))) X0 Bd.notSynchronized (fun h => by rw [Bd.returns] at h; cases h) (by decide) (by decide) ?_ (fun fs hr => retI X0 hx Bd.returns (hb hby d23_32) hr)
  rw [e0]
  exact ⟨rfl, N0, rfl⟩
theorem ef_438 (m : MethodId) (x0 : Addr) (x1 : Int32) (x2 : Int32) (x3 : Int32) : entryFrame m #[(.ref x0), (.int x1), (.int x2), (.int x3)] 4 = mkF m 0 #[.val (.ref x0), .val (.int x1), .val (.int x2), .val (.int x3)] [] := by first | (simp [entryFrame, mkF, argsToLocals, Value.category]; done) | rfl
theorem d19_29 : decode jdk_43_method_22_code 29 = .ok (.aload_n 0, 1) := by decide +kernel
theorem d19_30 : decode jdk_43_method_22_code 30 = .ok (.iload_n 1, 1) := by decide +kernel
theorem d19_31 : decode jdk_43_method_22_code 31 = .ok (.iload_n 2, 1) := by decide +kernel
theorem d19_32 : decode jdk_43_method_22_code 32 = .ok (.iload_n 3, 1) := by decide +kernel
theorem d19_33 : decode jdk_43_method_22_code 33 = .ok (.invokestatic 95, 3) := by decide +kernel
theorem d19_36 : decode jdk_43_method_22_code 36 = .ok (.ireturn, 1) := by decide +kernel
set_option maxRecDepth 65536 in
set_option maxHeartbeats 40000000 in
theorem rm_iol1 (l : Launch) (Z : State) (a0 : Array Value) (hw : HW Z a0) (ws : List Jvm.Cond) (t : Addr) (kb : ClassId) (ch0 : Int32) (h0 : Heap) (n0 : Nat) (Z0 : n0 ≤ h0.size) (O0 : Old Z n0 h0) (V_t : Arv Z h0 t kb .byte (1 : Int32) [(.int (ch0.toInt8.toInt32))] (.int (0 : Int32))) (m0 : ¬ (ch0.toInt8.toInt32) = (58 : Int32)) :
    Ctr l Z my11 jdk_43_method_22_code 4 ((Option.some Jvm.ClassFile.FieldType.int)) ws (⟨1, 0, 0, 17⟩ : Room) #[(.ref t), (.int (58 : Int32)), (.int (0 : Int32)), (.int (1 : Int32))] h0 (fun v h L => v = some (.int (-1 : Int32)) ∧ Fr n0 L ∧ h = h0) := by
  refine Ctr.go (plainFor_of_name pn_32) fun p e s m below meth c s₁ Bd hx hby hml hZ hown hnm X0 e0 => ?_
  have N0 := Fr.nil n0
  have K0 := Keep.refl h0 []
  refine gs (S' := s₁.setTop (mkF m 0 #[rv (t), iv ((58 : Int32)), iv ((0 : Int32)), iv ((1 : Int32))] [])) (fun tg kg => castTop (ef_438 m t (58 : Int32) (0 : Int32) (1 : Int32)) kg) ?_
  refine gs (fun _ k => o_iloadN X0 hx hby d19_0 rfl k) ?_
  refine cS (rest := []) X0 hx hZ hown (ow hw 74 rfl) (ow hw 75 rfl) (ow hw 33 rfl) (ow hw 76 rfl) (rm_cei l Z a0 hw []  h0 n0 Z0 O0 ) hby d19_1 e0 pd_373 0 (by rw [hml]; rfl) rfl rfl rfl rfl (by decide) (by decide) fun _ T1 Lc1 X1 hQ1 => ?_
  obtain ⟨rfl, N1q, e1q⟩ := hQ1
  have N1 := Fr.app N0 N1q
  refine gs (fun _ k => o_ifYes (pc' := 9) X1 hx hby d19_4 ((if0 _ _).trans (feq (by decide : ¬ ((1 : Int32) = (0 : Int32)))).2) (o_iloadN X1 hx hby d19_9 rfl (o_iconst (v := (0 : Int32)) X1 hx hby d19_10 k))) ?_
  refine cS (rest := []) X1 hx hZ hown (ow hw 77 rfl) (ow hw 78 rfl) (ow hw 79 rfl) (ow hw 80 rfl) (rm_max l Z a0 hw []  h0 n0 Z0 O0 ) hby d19_11 e1q pd_378 0 (by rw [hml]; rfl) rfl rfl rfl rfl (by decide) (by decide) fun _ T2 Lc2 X2 hQ2 => ?_
  obtain ⟨rfl, N2q, e2q⟩ := hQ2
  have N2 := Fr.app N1 N2q
  refine gs (fun _ k => o_istoreN X2 hx hby d19_14 rfl (o_iloadN X2 hx hby d19_15 rfl (o_aloadN X2 hx hby d19_16 rfl rfl k))) ?_
  obtain ⟨cl3, A3, a3q, a3S, a3N, a3H, a3G⟩ := id V_t
  refine gs (S' := T2.setTop (mkF m 18 #[rv (t), iv ((58 : Int32)), iv ((0 : Int32)), iv ((1 : Int32))] [(.int (1 : Int32)), (.int (1 : Int32))])) (fun _ k => by refine X2.arraylength hx (by rw [e2q]; exact A3.1) (State.isArrayOf_alike hZ.alike A3.2.1) (g := (mkF m 17 #[rv (t), iv ((58 : Int32)), iv ((0 : Int32)), iv ((1 : Int32))] [(.ref t), (.int (1 : Int32))])) rfl rfl (hb hby d19_17) _ ?_; rw [len_of a3S a3N]; exact k) ?_
  refine cS (rest := []) X2 hx hZ hown (ow hw 81 rfl) (ow hw 82 rfl) (ow hw 79 rfl) (ow hw 83 rfl) (rm_min1 l Z a0 hw []  h0 n0 Z0 O0 ) hby d19_18 e2q pd_378 0 (by rw [hml]; rfl) rfl rfl rfl rfl (by decide) (by decide) fun _ T4 Lc4 X4 hQ4 => ?_
  obtain ⟨rfl, N4q, e4q⟩ := hQ4
  have N4 := Fr.app N2 N4q
  refine gs (fun _ k => o_istoreN X4 hx hby d19_21 rfl (o_iloadN X4 hx hby d19_22 rfl (o_iloadN X4 hx hby d19_23 rfl (o_icmpYes (pc' := 29) X4 hx hby d19_24 (tlt (by decide : (0 : Int32) < (1 : Int32))).1 (o_aloadN X4 hx hby d19_29 rfl rfl (o_iloadN X4 hx hby d19_30 rfl (o_iloadN X4 hx hby d19_31 rfl (o_iloadN X4 hx hby d19_32 rfl k)))))))) ?_
  refine cS (rest := []) X4 hx hZ hown (ow hw 95 rfl) (ow hw 96 rfl) (ow hw 33 rfl) (ow hw 97 rfl) (rm_iocl1 l Z a0 hw [] t kb ch0 h0 n0 Z0 O0 V_t m0) hby d19_33 e4q pd_403 0 (by rw [hml]; rfl) rfl rfl rfl rfl (by decide) (by decide) fun _ T5 Lc5 X5 hQ5 => ?_
  obtain ⟨rfl, N5q, e5q⟩ := hQ5
  have N5 := Fr.app N4 N5q
  refine gout (v := some (.int (-1 : Int32))) X5 Bd.notSynchronized (fun h => by rw [Bd.returns] at h; cases h) (by decide) (by decide) ?_ (fun fs hr => retI X5 hx Bd.returns (hb hby d19_36) hr)
  rw [e5q]
  exact ⟨rfl, N5, rfl⟩
theorem ef_445 (m : MethodId) (x0 : Addr) (x1 : Int32) (x2 : Int32) : entryFrame m #[(.ref x0), (.int x1), (.int x2)] 3 = mkF m 0 #[.val (.ref x0), .val (.int x1), .val (.int x2)] [] := by first | (simp [entryFrame, mkF, argsToLocals, Value.category]; done) | rfl
set_option maxRecDepth 65536 in
set_option maxHeartbeats 40000000 in
theorem rm_io2_L1 (l : Launch) (Z : State) (a0 : Array Value) (hw : HW Z a0) (ws : List Jvm.Cond) (a : Addr) (ch0 : Int32) (z : Int32) (fm : Value) (h0 : Heap) (n0 : Nat) (Z0 : n0 ≤ h0.size) (O0 : Old Z n0 h0) (S0 : PS3 Z (.int z)) (hz : ¬ z = 0) (S4 : PS4 Z fm) (hfm : fm.isRef = true) (S_ad : PS0 Z (.int (1 : Int32))) (S_hi : PS1 Z (.int (0 : Int32))) (S_lo : PS2 Z (.int (8 : Int32))) (T_a : Str Z h0 a [ch0]) (hbd : ∀ c ∈ ([ch0] : List Int32), ¬ c < 0 ∧ ¬ (255 : Int32) < c) (m0 : ¬ ch0 = (58 : Int32)) :
    Ctr l Z my4 jdk_42_method_80_code 3 ((Option.some Jvm.ClassFile.FieldType.int)) ws (⟨2, 0, 0, 32⟩ : Room) #[(.ref a), (.int (58 : Int32)), (.int (0 : Int32))] h0 (fun v h L => v = some (.int (-1 : Int32)) ∧ Fr n0 L ∧ h = h0) := by
  refine Ctr.go (plainFor_of_name pn_14) fun p e s m below meth c s₁ Bd hx hby hml hZ hown hnm X0 e0 => ?_
  have N0 := Fr.nil n0
  have K0 := Keep.refl h0 []
  refine gs (S' := s₁.setTop (mkF m 0 #[rv (a), iv ((58 : Int32)), iv ((0 : Int32))] [])) (fun tg kg => castTop (ef_445 m a (58 : Int32) (0 : Int32)) kg) ?_
  obtain ⟨t, kb, E_a, F_c, F_v, V_t⟩ := id T_a
  refine gs (fun _ k => o_aloadN X0 hx hby d20_0 rfl rfl k) ?_
  refine cV (rest := []) X0 hx hZ hown (ow hw 56 rfl) (ow hw 57 rfl) (nfs hZ (ow hw 59 rfl)) (ow hw 59 rfl) (ow hw 58 rfl) (ow hw 7 rfl) (ow hw 60 rfl) (rm_isl0 l Z a0 hw [] a z h0 n0 Z0 O0 S0 hz F_c) hby d20_1 e0 pd_393 0 (by rw [hml]; rfl) E_a rfl rfl rfl rfl (by decide) (by decide) fun _ T1 Lc1 X1 hQ1 => ?_
  obtain ⟨rfl, N1q, e1q⟩ := hQ1
  have N1 := Fr.app N0 N1q
  refine gs (fun _ k => o_ifNo X1 hx hby d20_4 ((if0 _ _).trans (feq (by decide : ¬ ((1 : Int32) = (0 : Int32)))).1) (o_aloadN X1 hx hby d20_7 rfl rfl k)) ?_
  refine gF X1 hx hZ hown (host := "") (Or.inl (ow hw 25 rfl)) Via.refl e1q F_v hby d20_8 fun T2 X2 e2 => ?_
  refine gs (fun _ k => o_iloadN X2 hx hby d20_11 rfl (o_iloadN X2 hx hby d20_12 rfl (o_aloadN X2 hx hby d20_13 rfl rfl k))) ?_
  obtain ⟨cq3, kq3, q3a, q3b, q3c⟩ := isOf hZ e2 T_a.exa
  obtain ⟨_, _, ⟨T3, L3, k3, n3⟩, -, X3, ⟨Lc3, hQ3, l3, y3, z3⟩, st3⟩ := X2.virtualBack hx (y := my0) (z := my0) hown (mvT hZ (ow hw 61 rfl)) (mvT hZ (ow hw 62 rfl)) (notFace_of_selects (args := #[]) (mvT hZ (ow hw 64 rfl))) (mvT hZ (ow hw 64 rfl)) (mvT hZ (ow hw 63 rfl)) (by decide) (own_lenB (W := 3) hZ hw T_a hbd (S0.ext O0.2) hz (nb rfl) (by decide) (by decide)) q3a q3c (g := (mkF m 14 #[rv (a), iv ((58 : Int32)), iv ((0 : Int32))] [(.ref a), (.int (0 : Int32)), (.int (58 : Int32)), (.ref t)])) rfl (by rw [hml]; rfl) (Steps.refl _) (argsL := []) (rest := [(.int (0 : Int32)), (.int (58 : Int32)), (.ref t)]) (lenOf pd_401 rfl) rfl (own_w0 rfl) (hb hby d20_14) (fun _ _ => ⟨rfl, e2, (by decide : 0 + 0 ≤ _), (by decide : 0 + 0 ≤ _)⟩)
  dsimp only [Pt.U, Pt.locs, Pt.cells, Pt.slots] at X3 l3 y3 z3 st3 hQ3
  subst l3 y3 z3
  obtain ⟨rfl, rfl, e3q⟩ := hQ3
  have N3 := Fr.app N1 (Fr.nil n0)
  refine gs (S' := T3.setTop (mkF m 17 #[rv (a), iv ((58 : Int32)), iv ((0 : Int32))] [(.int (Int32.ofNat ([ch0] : List Int32).length)), (.int (0 : Int32)), (.int (58 : Int32)), (.ref t)])) (fun _ k => st3.trans k) ?_
  show OwnGo p e below s _ _ _ (T3.setTop (mkF m 17 #[rv (a), iv ((58 : Int32)), iv ((0 : Int32))] [(.int (1 : Int32)), (.int (0 : Int32)), (.int (58 : Int32)), (.ref t)]))
  refine cS (rest := []) X3 hx hZ hown (ow hw 71 rfl) (ow hw 72 rfl) (ow hw 33 rfl) (ow hw 73 rfl) (rm_iol1 l Z a0 hw [] t kb ch0 h0 n0 Z0 O0 V_t (own_b58 (hbd ch0 (by simp)) m0)) hby d20_17 e3q pd_403 0 (by rw [hml]; rfl) rfl rfl rfl rfl (by decide) (by decide) fun _ T4 Lc4 X4 hQ4 => ?_
  obtain ⟨rfl, N4q, e4q⟩ := hQ4
  have N4 := Fr.app N3 N4q
  refine gs (fun _ k => o_goto (pc' := 36) X4 hx hby d20_20 k) ?_
  refine gout (v := some (.int (-1 : Int32))) X4 Bd.notSynchronized (fun h => by rw [Bd.returns] at h; cases h) (by decide) (by decide) ?_ (fun fs hr => retI X4 hx Bd.returns (hb hby d20_36) hr)
  rw [e4q]
  exact ⟨rfl, N4, rfl⟩
theorem ef_446 (m : MethodId) (x0 : Addr) (x1 : Int32) : entryFrame m #[(.ref x0), (.int x1)] 2 = mkF m 0 #[.val (.ref x0), .val (.int x1)] [] := by first | (simp [entryFrame, mkF, argsToLocals, Value.category]; done) | rfl
set_option maxRecDepth 65536 in
set_option maxHeartbeats 40000000 in
theorem rm_io1_L1 (l : Launch) (Z : State) (a0 : Array Value) (hw : HW Z a0) (ws : List Jvm.Cond) (a : Addr) (ch0 : Int32) (z : Int32) (fm : Value) (h0 : Heap) (n0 : Nat) (Z0 : n0 ≤ h0.size) (O0 : Old Z n0 h0) (S0 : PS3 Z (.int z)) (hz : ¬ z = 0) (S4 : PS4 Z fm) (hfm : fm.isRef = true) (S_ad : PS0 Z (.int (1 : Int32))) (S_hi : PS1 Z (.int (0 : Int32))) (S_lo : PS2 Z (.int (8 : Int32))) (T_a : Str Z h0 a [ch0]) (hbd : ∀ c ∈ ([ch0] : List Int32), ¬ c < 0 ∧ ¬ (255 : Int32) < c) (m0 : ¬ ch0 = (58 : Int32)) :
    Ctr l Z my5 jdk_42_method_79_code 2 ((Option.some Jvm.ClassFile.FieldType.int)) ws (⟨3, 0, 0, 46⟩ : Room) #[(.ref a), (.int (58 : Int32))] h0 (fun v h L => v = some (.int (-1 : Int32)) ∧ Fr n0 L ∧ h = h0) := by
  refine Ctr.go (plainFor_of_name pn_14) fun p e s m below meth c s₁ Bd hx hby hml hZ hown hnm X0 e0 => ?_
  have N0 := Fr.nil n0
  have K0 := Keep.refl h0 []
  refine gs (S' := s₁.setTop (mkF m 0 #[rv (a), iv ((58 : Int32))] [])) (fun tg kg => castTop (ef_446 m a (58 : Int32)) kg) ?_
  refine gs (fun _ k => o_aloadN X0 hx hby d21_0 rfl rfl (o_iloadN X0 hx hby d21_1 rfl (o_iconst (v := (0 : Int32)) X0 hx hby d21_2 k))) ?_
  refine cV (rest := []) X0 hx hZ hown (ow hw 51 rfl) (ow hw 52 rfl) (nfs hZ (ow hw 54 rfl)) (ow hw 54 rfl) (ow hw 53 rfl) (ow hw 7 rfl) (ow hw 55 rfl) (rm_io2_L1 l Z a0 hw [] a ch0 z fm h0 n0 Z0 O0 S0 hz S4 hfm S_ad S_hi S_lo T_a hbd m0) hby d21_3 e0 pd_378 0 (by rw [hml]; rfl) T_a.exa rfl rfl rfl rfl (by decide) (by decide) fun _ T1 Lc1 X1 hQ1 => ?_
  obtain ⟨rfl, N1q, e1q⟩ := hQ1
  have N1 := Fr.app N0 N1q
  refine gout (v := some (.int (-1 : Int32))) X1 Bd.notSynchronized (fun h => by rw [Bd.returns] at h; cases h) (by decide) (by decide) ?_ (fun fs hr => retI X1 hx Bd.returns (hb hby d21_6) hr)
  rw [e1q]
  exact ⟨rfl, N1, rfl⟩
theorem ef_447 (m : MethodId) (x0 : Addr) (x1 : Addr) : entryFrame m #[(.ref x0), (.ref x1)] 2 = mkF m 0 #[.val (.ref x0), .val (.ref x1)] [] := by first | (simp [entryFrame, mkF, argsToLocals, Value.category]; done) | rfl
set_option maxRecDepth 65536 in
set_option maxHeartbeats 40000000 in
theorem rm_ws_L1 (l : Launch) (Z : State) (a0 : Array Value) (hw : HW Z a0) (ws : List Jvm.Cond) (u : Addr) (a : Addr) (ch0 : Int32) (z : Int32) (fm : Value) (h0 : Heap) (n0 : Nat) (Z0 : n0 ≤ h0.size) (O0 : Old Z n0 h0) (S0 : PS3 Z (.int z)) (hz : ¬ z = 0) (S4 : PS4 Z fm) (hfm : fm.isRef = true) (S_ad : PS0 Z (.int (1 : Int32))) (S_hi : PS1 Z (.int (0 : Int32))) (S_lo : PS2 Z (.int (8 : Int32))) (T_a : Str Z h0 a [ch0]) (hbd : ∀ c ∈ ([ch0] : List Int32), ¬ c < 0 ∧ ¬ (255 : Int32) < c) (m0 : ¬ ch0 = (58 : Int32)) :
    Ctr l Z my1 prog_3_method_3_code 2 ((Option.some (Jvm.ClassFile.FieldType.object "java/lang/String"))) ws (⟨9, 0, 0, 190⟩ : Room) #[(.ref a), (.ref u)] h0 (fun v h L => v = some (.ref a) ∧ Fr n0 L ∧ h = h0) := by
  refine Ctr.go (plainFor_of_name pn_419) fun p e s m below meth c s₁ Bd hx hby hml hZ hown hnm X0 e0 => ?_
  have N0 := Fr.nil n0
  have K0 := Keep.refl h0 []
  refine gs (S' := s₁.setTop (mkF m 0 #[rv (a), rv (u)] [])) (fun tg kg => castTop (ef_447 m a u) kg) ?_
  refine gs (fun _ k => o_aloadN X0 hx hby d22_0 rfl rfl (o_bipush (v := (58 : Int32)) X0 hx hby d22_1 k)) ?_
  refine cV (rest := []) X0 hx hZ hown (ow hw 46 rfl) (ow hw 47 rfl) (nfs hZ (ow hw 49 rfl)) (ow hw 49 rfl) (ow hw 48 rfl) (ow hw 7 rfl) (ow hw 50 rfl) (rm_io1_L1 l Z a0 hw [] a ch0 z fm h0 n0 Z0 O0 S0 hz S4 hfm S_ad S_hi S_lo T_a hbd m0) hby d22_3 e0 pd_156 0 (by rw [hml]; rfl) T_a.exa rfl rfl rfl rfl (by decide) (by decide) fun _ T1 Lc1 X1 hQ1 => ?_
  obtain ⟨rfl, N1q, e1q⟩ := hQ1
  have N1 := Fr.app N0 N1q
  refine gs (fun _ k => o_ifYes (pc' := 23) X1 hx hby d22_6 ((if0 _ _).trans (tlt (by decide : (-1 : Int32) < (0 : Int32))).1) (o_aloadN X1 hx hby d22_23 rfl rfl k)) ?_
  refine gout (v := some (.ref a)) X1 Bd.notSynchronized (fun h => by rw [Bd.returns] at h; cases h) (by decide) (by decide) ?_ (fun fs hr => retOut X1 hx Bd.returns rfl (Or.inr (Or.inr (Or.inr (Or.inr ⟨rfl, rfl, rfl⟩)))) (hb hby d22_24) hr)
  rw [e1q]
  exact ⟨rfl, N1, rfl⟩
theorem ef_448 (m : MethodId) (x0 : Addr) (x1 : Int32) (x2 : Int32) (x3 : Int32) : entryFrame m #[(.ref x0), (.int x1), (.int x2), (.int x3)] 6 = mkF m 0 #[.val (.ref x0), .val (.int x1), .val (.int x2), .val (.int x3), .unset, .unset] [] := by first | (simp [entryFrame, mkF, argsToLocals, Value.category]; done) | rfl
set_option maxRecDepth 65536 in
set_option maxHeartbeats 40000000 in
theorem rm_iocl2 (l : Launch) (Z : State) (a0 : Array Value) (hw : HW Z a0) (ws : List Jvm.Cond) (t : Addr) (kb : ClassId) (ch0 : Int32) (ch1 : Int32) (h0 : Heap) (n0 : Nat) (Z0 : n0 ≤ h0.size) (O0 : Old Z n0 h0) (V_t : Arv Z h0 t kb .byte (2 : Int32) [(.int (ch0.toInt8.toInt32)), (.int (ch1.toInt8.toInt32))] (.int (0 : Int32))) (m0 : ¬ (ch0.toInt8.toInt32) = (58 : Int32)) (m1 : ¬ (ch1.toInt8.toInt32) = (58 : Int32)) :
    Ctr l Z my16 jdk_43_method_23_code 6 ((Option.some Jvm.ClassFile.FieldType.int)) ws (⟨0, 0, 0, 0⟩ : Room) #[(.ref t), (.int (58 : Int32)), (.int (0 : Int32)), (.int (2 : Int32))] h0 (fun v h L => v = some (.int (-1 : Int32)) ∧ Fr n0 L ∧ h = h0) := by
  refine Ctr.go (plainFor_of_name pn_32) fun p e s m below meth c s₁ Bd hx hby hml hZ hown hnm X0 e0 => ?_
  have N0 := Fr.nil n0
  have K0 := Keep.refl h0 []
  refine gs (S' := s₁.setTop (mkF m 0 #[rv (t), iv ((58 : Int32)), iv ((0 : Int32)), iv ((2 : Int32)), uu, uu] [])) (fun tg kg => castTop (ef_448 m t (58 : Int32) (0 : Int32) (2 : Int32)) kg) ?_
  refine gs (fun _ k => o_iloadN X0 hx hby d23_0 rfl (o_i2b X0 hx hby d23_1 (o_istore X0 hx hby d23_2 rfl (o_iloadN X0 hx hby d23_4 rfl (o_istore X0 hx hby d23_5 rfl (o_iload X0 hx hby d23_7 rfl (o_iloadN X0 hx hby d23_9 rfl (o_icmpNo X0 hx hby d23_10 (tlt (by decide : (0 : Int32) < (2 : Int32))).2.1 (o_aloadN X0 hx hby d23_13 rfl rfl (o_iload X0 hx hby d23_14 rfl k)))))))))) ?_
  obtain ⟨cl1, A1, a1q, a1S, a1N, a1H, a1G⟩ := id V_t
  have hi1 := inb_of a1S (j := (0 : Int32)) ⟨by decide, by decide⟩
  refine gs (fun _ k => X0.baloadBytes hx (j := (0 : Int32)) (v := (.int (ch0.toInt8.toInt32))) (by rw [e0]; exact A1.1) (State.isArrayOf_alike hZ.alike A1.2.1) A1.2.2 hi1 (Has.at a1H hi1 rfl) (g := (mkF m 16 #[rv (t), iv ((58 : Int32)), iv ((0 : Int32)), iv ((2 : Int32)), iv ((58 : Int32)), iv ((0 : Int32))] [(.int (0 : Int32)), (.ref t)])) rfl rfl (hb hby d23_16) _ (o_iload X0 hx hby d23_17 rfl (o_icmpYes (pc' := 25) X0 hx hby d23_19 (feq m0).2 (o_iinc X0 hx hby d23_25 rfl rfl (o_goto (pc' := 7) X0 hx hby d23_28 (o_iload X0 hx hby d23_7 rfl (o_iloadN X0 hx hby d23_9 rfl (o_icmpNo X0 hx hby d23_10 (tlt (by decide : (1 : Int32) < (2 : Int32))).2.1 (o_aloadN X0 hx hby d23_13 rfl rfl (o_iload X0 hx hby d23_14 rfl k)))))))))) ?_
  obtain ⟨cl2, A2, a2q, a2S, a2N, a2H, a2G⟩ := id V_t
  have hi2 := inb_of a2S (j := (1 : Int32)) ⟨by decide, by decide⟩
  refine gs (fun _ k => X0.baloadBytes hx (j := (1 : Int32)) (v := (.int (ch1.toInt8.toInt32))) (by rw [e0]; exact A2.1) (State.isArrayOf_alike hZ.alike A2.2.1) A2.2.2 hi2 (Has.at a2H hi2 rfl) (g := (mkF m 16 #[rv (t), iv ((58 : Int32)), iv ((0 : Int32)), iv ((2 : Int32)), iv ((58 : Int32)), iv ((1 : Int32))] [(.int (1 : Int32)), (.ref t)])) rfl rfl (hb hby d23_16) _ (o_iload X0 hx hby d23_17 rfl (o_icmpYes (pc' := 25) X0 hx hby d23_19 (feq m1).2 (o_iinc X0 hx hby d23_25 rfl rfl (o_goto (pc' := 7) X0 hx hby d23_28 (o_iload X0 hx hby d23_7 rfl (o_iloadN X0 hx hby d23_9 rfl (o_icmpYes (pc' := 31) X0 hx hby d23_10 (flt (by decide : ¬ ((2 : Int32) < (2 : Int32)))).2.1 (o_iconst (v := (-1 : Int32)) X0 hx hby d23_31 k))))))))) ?_
  refine gout (v := some (.int (-1 : Int32))) X0 Bd.notSynchronized (fun h => by rw [Bd.returns] at h; cases h) (by decide) (by decide) ?_ (fun fs hr => retI X0 hx Bd.returns (hb hby d23_32) hr)
  rw [e0]
  exact ⟨rfl, N0, rfl⟩
theorem ef_449 (m : MethodId) (x0 : Addr) (x1 : Int32) (x2 : Int32) (x3 : Int32) : entryFrame m #[(.ref x0), (.int x1), (.int x2), (.int x3)] 4 = mkF m 0 #[.val (.ref x0), .val (.int x1), .val (.int x2), .val (.int x3)] [] := by first | (simp [entryFrame, mkF, argsToLocals, Value.category]; done) | rfl
set_option maxRecDepth 65536 in
set_option maxHeartbeats 40000000 in
theorem rm_iol2 (l : Launch) (Z : State) (a0 : Array Value) (hw : HW Z a0) (ws : List Jvm.Cond) (t : Addr) (kb : ClassId) (ch0 : Int32) (ch1 : Int32) (h0 : Heap) (n0 : Nat) (Z0 : n0 ≤ h0.size) (O0 : Old Z n0 h0) (V_t : Arv Z h0 t kb .byte (2 : Int32) [(.int (ch0.toInt8.toInt32)), (.int (ch1.toInt8.toInt32))] (.int (0 : Int32))) (m0 : ¬ (ch0.toInt8.toInt32) = (58 : Int32)) (m1 : ¬ (ch1.toInt8.toInt32) = (58 : Int32)) :
    Ctr l Z my11 jdk_43_method_22_code 4 ((Option.some Jvm.ClassFile.FieldType.int)) ws (⟨1, 0, 0, 17⟩ : Room) #[(.ref t), (.int (58 : Int32)), (.int (0 : Int32)), (.int (2 : Int32))] h0 (fun v h L => v = some (.int (-1 : Int32)) ∧ Fr n0 L ∧ h = h0) := by
  refine Ctr.go (plainFor_of_name pn_32) fun p e s m below meth c s₁ Bd hx hby hml hZ hown hnm X0 e0 => ?_
  have N0 := Fr.nil n0
  have K0 := Keep.refl h0 []
  refine gs (S' := s₁.setTop (mkF m 0 #[rv (t), iv ((58 : Int32)), iv ((0 : Int32)), iv ((2 : Int32))] [])) (fun tg kg => castTop (ef_449 m t (58 : Int32) (0 : Int32) (2 : Int32)) kg) ?_
  refine gs (fun _ k => o_iloadN X0 hx hby d19_0 rfl k) ?_
  refine cS (rest := []) X0 hx hZ hown (ow hw 74 rfl) (ow hw 75 rfl) (ow hw 33 rfl) (ow hw 76 rfl) (rm_cei l Z a0 hw []  h0 n0 Z0 O0 ) hby d19_1 e0 pd_373 0 (by rw [hml]; rfl) rfl rfl rfl rfl (by decide) (by decide) fun _ T1 Lc1 X1 hQ1 => ?_
  obtain ⟨rfl, N1q, e1q⟩ := hQ1
  have N1 := Fr.app N0 N1q
  refine gs (fun _ k => o_ifYes (pc' := 9) X1 hx hby d19_4 ((if0 _ _).trans (feq (by decide : ¬ ((1 : Int32) = (0 : Int32)))).2) (o_iloadN X1 hx hby d19_9 rfl (o_iconst (v := (0 : Int32)) X1 hx hby d19_10 k))) ?_
  refine cS (rest := []) X1 hx hZ hown (ow hw 77 rfl) (ow hw 78 rfl) (ow hw 79 rfl) (ow hw 80 rfl) (rm_max l Z a0 hw []  h0 n0 Z0 O0 ) hby d19_11 e1q pd_378 0 (by rw [hml]; rfl) rfl rfl rfl rfl (by decide) (by decide) fun _ T2 Lc2 X2 hQ2 => ?_
  obtain ⟨rfl, N2q, e2q⟩ := hQ2
  have N2 := Fr.app N1 N2q
  refine gs (fun _ k => o_istoreN X2 hx hby d19_14 rfl (o_iloadN X2 hx hby d19_15 rfl (o_aloadN X2 hx hby d19_16 rfl rfl k))) ?_
  obtain ⟨cl3, A3, a3q, a3S, a3N, a3H, a3G⟩ := id V_t
  refine gs (S' := T2.setTop (mkF m 18 #[rv (t), iv ((58 : Int32)), iv ((0 : Int32)), iv ((2 : Int32))] [(.int (2 : Int32)), (.int (2 : Int32))])) (fun _ k => by refine X2.arraylength hx (by rw [e2q]; exact A3.1) (State.isArrayOf_alike hZ.alike A3.2.1) (g := (mkF m 17 #[rv (t), iv ((58 : Int32)), iv ((0 : Int32)), iv ((2 : Int32))] [(.ref t), (.int (2 : Int32))])) rfl rfl (hb hby d19_17) _ ?_; rw [len_of a3S a3N]; exact k) ?_
  refine cS (rest := []) X2 hx hZ hown (ow hw 81 rfl) (ow hw 82 rfl) (ow hw 79 rfl) (ow hw 83 rfl) (rm_min2 l Z a0 hw []  h0 n0 Z0 O0 ) hby d19_18 e2q pd_378 0 (by rw [hml]; rfl) rfl rfl rfl rfl (by decide) (by decide) fun _ T4 Lc4 X4 hQ4 => ?_
  obtain ⟨rfl, N4q, e4q⟩ := hQ4
  have N4 := Fr.app N2 N4q
  refine gs (fun _ k => o_istoreN X4 hx hby d19_21 rfl (o_iloadN X4 hx hby d19_22 rfl (o_iloadN X4 hx hby d19_23 rfl (o_icmpYes (pc' := 29) X4 hx hby d19_24 (tlt (by decide : (0 : Int32) < (2 : Int32))).1 (o_aloadN X4 hx hby d19_29 rfl rfl (o_iloadN X4 hx hby d19_30 rfl (o_iloadN X4 hx hby d19_31 rfl (o_iloadN X4 hx hby d19_32 rfl k)))))))) ?_
  refine cS (rest := []) X4 hx hZ hown (ow hw 95 rfl) (ow hw 96 rfl) (ow hw 33 rfl) (ow hw 97 rfl) (rm_iocl2 l Z a0 hw [] t kb ch0 ch1 h0 n0 Z0 O0 V_t m0 m1) hby d19_33 e4q pd_403 0 (by rw [hml]; rfl) rfl rfl rfl rfl (by decide) (by decide) fun _ T5 Lc5 X5 hQ5 => ?_
  obtain ⟨rfl, N5q, e5q⟩ := hQ5
  have N5 := Fr.app N4 N5q
  refine gout (v := some (.int (-1 : Int32))) X5 Bd.notSynchronized (fun h => by rw [Bd.returns] at h; cases h) (by decide) (by decide) ?_ (fun fs hr => retI X5 hx Bd.returns (hb hby d19_36) hr)
  rw [e5q]
  exact ⟨rfl, N5, rfl⟩
theorem ef_450 (m : MethodId) (x0 : Addr) (x1 : Int32) (x2 : Int32) : entryFrame m #[(.ref x0), (.int x1), (.int x2)] 3 = mkF m 0 #[.val (.ref x0), .val (.int x1), .val (.int x2)] [] := by first | (simp [entryFrame, mkF, argsToLocals, Value.category]; done) | rfl
set_option maxRecDepth 65536 in
set_option maxHeartbeats 40000000 in
theorem rm_io2_L2 (l : Launch) (Z : State) (a0 : Array Value) (hw : HW Z a0) (ws : List Jvm.Cond) (a : Addr) (ch0 : Int32) (ch1 : Int32) (z : Int32) (fm : Value) (h0 : Heap) (n0 : Nat) (Z0 : n0 ≤ h0.size) (O0 : Old Z n0 h0) (S0 : PS3 Z (.int z)) (hz : ¬ z = 0) (S4 : PS4 Z fm) (hfm : fm.isRef = true) (S_ad : PS0 Z (.int (1 : Int32))) (S_hi : PS1 Z (.int (0 : Int32))) (S_lo : PS2 Z (.int (8 : Int32))) (T_a : Str Z h0 a [ch0, ch1]) (hbd : ∀ c ∈ ([ch0, ch1] : List Int32), ¬ c < 0 ∧ ¬ (255 : Int32) < c) (m0 : ¬ ch0 = (58 : Int32)) (m1 : ¬ ch1 = (58 : Int32)) :
    Ctr l Z my4 jdk_42_method_80_code 3 ((Option.some Jvm.ClassFile.FieldType.int)) ws (⟨2, 0, 0, 32⟩ : Room) #[(.ref a), (.int (58 : Int32)), (.int (0 : Int32))] h0 (fun v h L => v = some (.int (-1 : Int32)) ∧ Fr n0 L ∧ h = h0) := by
  refine Ctr.go (plainFor_of_name pn_14) fun p e s m below meth c s₁ Bd hx hby hml hZ hown hnm X0 e0 => ?_
  have N0 := Fr.nil n0
  have K0 := Keep.refl h0 []
  refine gs (S' := s₁.setTop (mkF m 0 #[rv (a), iv ((58 : Int32)), iv ((0 : Int32))] [])) (fun tg kg => castTop (ef_450 m a (58 : Int32) (0 : Int32)) kg) ?_
  obtain ⟨t, kb, E_a, F_c, F_v, V_t⟩ := id T_a
  refine gs (fun _ k => o_aloadN X0 hx hby d20_0 rfl rfl k) ?_
  refine cV (rest := []) X0 hx hZ hown (ow hw 56 rfl) (ow hw 57 rfl) (nfs hZ (ow hw 59 rfl)) (ow hw 59 rfl) (ow hw 58 rfl) (ow hw 7 rfl) (ow hw 60 rfl) (rm_isl0 l Z a0 hw [] a z h0 n0 Z0 O0 S0 hz F_c) hby d20_1 e0 pd_393 0 (by rw [hml]; rfl) E_a rfl rfl rfl rfl (by decide) (by decide) fun _ T1 Lc1 X1 hQ1 => ?_
  obtain ⟨rfl, N1q, e1q⟩ := hQ1
  have N1 := Fr.app N0 N1q
  refine gs (fun _ k => o_ifNo X1 hx hby d20_4 ((if0 _ _).trans (feq (by decide : ¬ ((1 : Int32) = (0 : Int32)))).1) (o_aloadN X1 hx hby d20_7 rfl rfl k)) ?_
  refine gF X1 hx hZ hown (host := "") (Or.inl (ow hw 25 rfl)) Via.refl e1q F_v hby d20_8 fun T2 X2 e2 => ?_
  refine gs (fun _ k => o_iloadN X2 hx hby d20_11 rfl (o_iloadN X2 hx hby d20_12 rfl (o_aloadN X2 hx hby d20_13 rfl rfl k))) ?_
  obtain ⟨cq3, kq3, q3a, q3b, q3c⟩ := isOf hZ e2 T_a.exa
  obtain ⟨_, _, ⟨T3, L3, k3, n3⟩, -, X3, ⟨Lc3, hQ3, l3, y3, z3⟩, st3⟩ := X2.virtualBack hx (y := my0) (z := my0) hown (mvT hZ (ow hw 61 rfl)) (mvT hZ (ow hw 62 rfl)) (notFace_of_selects (args := #[]) (mvT hZ (ow hw 64 rfl))) (mvT hZ (ow hw 64 rfl)) (mvT hZ (ow hw 63 rfl)) (by decide) (own_lenB (W := 3) hZ hw T_a hbd (S0.ext O0.2) hz (nb rfl) (by decide) (by decide)) q3a q3c (g := (mkF m 14 #[rv (a), iv ((58 : Int32)), iv ((0 : Int32))] [(.ref a), (.int (0 : Int32)), (.int (58 : Int32)), (.ref t)])) rfl (by rw [hml]; rfl) (Steps.refl _) (argsL := []) (rest := [(.int (0 : Int32)), (.int (58 : Int32)), (.ref t)]) (lenOf pd_401 rfl) rfl (own_w0 rfl) (hb hby d20_14) (fun _ _ => ⟨rfl, e2, (by decide : 0 + 0 ≤ _), (by decide : 0 + 0 ≤ _)⟩)
  dsimp only [Pt.U, Pt.locs, Pt.cells, Pt.slots] at X3 l3 y3 z3 st3 hQ3
  subst l3 y3 z3
  obtain ⟨rfl, rfl, e3q⟩ := hQ3
  have N3 := Fr.app N1 (Fr.nil n0)
  refine gs (S' := T3.setTop (mkF m 17 #[rv (a), iv ((58 : Int32)), iv ((0 : Int32))] [(.int (Int32.ofNat ([ch0, ch1] : List Int32).length)), (.int (0 : Int32)), (.int (58 : Int32)), (.ref t)])) (fun _ k => st3.trans k) ?_
  show OwnGo p e below s _ _ _ (T3.setTop (mkF m 17 #[rv (a), iv ((58 : Int32)), iv ((0 : Int32))] [(.int (2 : Int32)), (.int (0 : Int32)), (.int (58 : Int32)), (.ref t)]))
  refine cS (rest := []) X3 hx hZ hown (ow hw 71 rfl) (ow hw 72 rfl) (ow hw 33 rfl) (ow hw 73 rfl) (rm_iol2 l Z a0 hw [] t kb ch0 ch1 h0 n0 Z0 O0 V_t (own_b58 (hbd ch0 (by simp)) m0) (own_b58 (hbd ch1 (by simp)) m1)) hby d20_17 e3q pd_403 0 (by rw [hml]; rfl) rfl rfl rfl rfl (by decide) (by decide) fun _ T4 Lc4 X4 hQ4 => ?_
  obtain ⟨rfl, N4q, e4q⟩ := hQ4
  have N4 := Fr.app N3 N4q
  refine gs (fun _ k => o_goto (pc' := 36) X4 hx hby d20_20 k) ?_
  refine gout (v := some (.int (-1 : Int32))) X4 Bd.notSynchronized (fun h => by rw [Bd.returns] at h; cases h) (by decide) (by decide) ?_ (fun fs hr => retI X4 hx Bd.returns (hb hby d20_36) hr)
  rw [e4q]
  exact ⟨rfl, N4, rfl⟩
theorem ef_451 (m : MethodId) (x0 : Addr) (x1 : Int32) : entryFrame m #[(.ref x0), (.int x1)] 2 = mkF m 0 #[.val (.ref x0), .val (.int x1)] [] := by first | (simp [entryFrame, mkF, argsToLocals, Value.category]; done) | rfl
set_option maxRecDepth 65536 in
set_option maxHeartbeats 40000000 in
theorem rm_io1_L2 (l : Launch) (Z : State) (a0 : Array Value) (hw : HW Z a0) (ws : List Jvm.Cond) (a : Addr) (ch0 : Int32) (ch1 : Int32) (z : Int32) (fm : Value) (h0 : Heap) (n0 : Nat) (Z0 : n0 ≤ h0.size) (O0 : Old Z n0 h0) (S0 : PS3 Z (.int z)) (hz : ¬ z = 0) (S4 : PS4 Z fm) (hfm : fm.isRef = true) (S_ad : PS0 Z (.int (1 : Int32))) (S_hi : PS1 Z (.int (0 : Int32))) (S_lo : PS2 Z (.int (8 : Int32))) (T_a : Str Z h0 a [ch0, ch1]) (hbd : ∀ c ∈ ([ch0, ch1] : List Int32), ¬ c < 0 ∧ ¬ (255 : Int32) < c) (m0 : ¬ ch0 = (58 : Int32)) (m1 : ¬ ch1 = (58 : Int32)) :
    Ctr l Z my5 jdk_42_method_79_code 2 ((Option.some Jvm.ClassFile.FieldType.int)) ws (⟨3, 0, 0, 46⟩ : Room) #[(.ref a), (.int (58 : Int32))] h0 (fun v h L => v = some (.int (-1 : Int32)) ∧ Fr n0 L ∧ h = h0) := by
  refine Ctr.go (plainFor_of_name pn_14) fun p e s m below meth c s₁ Bd hx hby hml hZ hown hnm X0 e0 => ?_
  have N0 := Fr.nil n0
  have K0 := Keep.refl h0 []
  refine gs (S' := s₁.setTop (mkF m 0 #[rv (a), iv ((58 : Int32))] [])) (fun tg kg => castTop (ef_451 m a (58 : Int32)) kg) ?_
  refine gs (fun _ k => o_aloadN X0 hx hby d21_0 rfl rfl (o_iloadN X0 hx hby d21_1 rfl (o_iconst (v := (0 : Int32)) X0 hx hby d21_2 k))) ?_
  refine cV (rest := []) X0 hx hZ hown (ow hw 51 rfl) (ow hw 52 rfl) (nfs hZ (ow hw 54 rfl)) (ow hw 54 rfl) (ow hw 53 rfl) (ow hw 7 rfl) (ow hw 55 rfl) (rm_io2_L2 l Z a0 hw [] a ch0 ch1 z fm h0 n0 Z0 O0 S0 hz S4 hfm S_ad S_hi S_lo T_a hbd m0 m1) hby d21_3 e0 pd_378 0 (by rw [hml]; rfl) T_a.exa rfl rfl rfl rfl (by decide) (by decide) fun _ T1 Lc1 X1 hQ1 => ?_
  obtain ⟨rfl, N1q, e1q⟩ := hQ1
  have N1 := Fr.app N0 N1q
  refine gout (v := some (.int (-1 : Int32))) X1 Bd.notSynchronized (fun h => by rw [Bd.returns] at h; cases h) (by decide) (by decide) ?_ (fun fs hr => retI X1 hx Bd.returns (hb hby d21_6) hr)
  rw [e1q]
  exact ⟨rfl, N1, rfl⟩
theorem ef_452 (m : MethodId) (x0 : Addr) (x1 : Addr) : entryFrame m #[(.ref x0), (.ref x1)] 2 = mkF m 0 #[.val (.ref x0), .val (.ref x1)] [] := by first | (simp [entryFrame, mkF, argsToLocals, Value.category]; done) | rfl
set_option maxRecDepth 65536 in
set_option maxHeartbeats 40000000 in
theorem rm_ws_L2 (l : Launch) (Z : State) (a0 : Array Value) (hw : HW Z a0) (ws : List Jvm.Cond) (u : Addr) (a : Addr) (ch0 : Int32) (ch1 : Int32) (z : Int32) (fm : Value) (h0 : Heap) (n0 : Nat) (Z0 : n0 ≤ h0.size) (O0 : Old Z n0 h0) (S0 : PS3 Z (.int z)) (hz : ¬ z = 0) (S4 : PS4 Z fm) (hfm : fm.isRef = true) (S_ad : PS0 Z (.int (1 : Int32))) (S_hi : PS1 Z (.int (0 : Int32))) (S_lo : PS2 Z (.int (8 : Int32))) (T_a : Str Z h0 a [ch0, ch1]) (hbd : ∀ c ∈ ([ch0, ch1] : List Int32), ¬ c < 0 ∧ ¬ (255 : Int32) < c) (m0 : ¬ ch0 = (58 : Int32)) (m1 : ¬ ch1 = (58 : Int32)) :
    Ctr l Z my1 prog_3_method_3_code 2 ((Option.some (Jvm.ClassFile.FieldType.object "java/lang/String"))) ws (⟨9, 0, 0, 190⟩ : Room) #[(.ref a), (.ref u)] h0 (fun v h L => v = some (.ref a) ∧ Fr n0 L ∧ h = h0) := by
  refine Ctr.go (plainFor_of_name pn_419) fun p e s m below meth c s₁ Bd hx hby hml hZ hown hnm X0 e0 => ?_
  have N0 := Fr.nil n0
  have K0 := Keep.refl h0 []
  refine gs (S' := s₁.setTop (mkF m 0 #[rv (a), rv (u)] [])) (fun tg kg => castTop (ef_452 m a u) kg) ?_
  refine gs (fun _ k => o_aloadN X0 hx hby d22_0 rfl rfl (o_bipush (v := (58 : Int32)) X0 hx hby d22_1 k)) ?_
  refine cV (rest := []) X0 hx hZ hown (ow hw 46 rfl) (ow hw 47 rfl) (nfs hZ (ow hw 49 rfl)) (ow hw 49 rfl) (ow hw 48 rfl) (ow hw 7 rfl) (ow hw 50 rfl) (rm_io1_L2 l Z a0 hw [] a ch0 ch1 z fm h0 n0 Z0 O0 S0 hz S4 hfm S_ad S_hi S_lo T_a hbd m0 m1) hby d22_3 e0 pd_156 0 (by rw [hml]; rfl) T_a.exa rfl rfl rfl rfl (by decide) (by decide) fun _ T1 Lc1 X1 hQ1 => ?_
  obtain ⟨rfl, N1q, e1q⟩ := hQ1
  have N1 := Fr.app N0 N1q
  refine gs (fun _ k => o_ifYes (pc' := 23) X1 hx hby d22_6 ((if0 _ _).trans (tlt (by decide : (-1 : Int32) < (0 : Int32))).1) (o_aloadN X1 hx hby d22_23 rfl rfl k)) ?_
  refine gout (v := some (.ref a)) X1 Bd.notSynchronized (fun h => by rw [Bd.returns] at h; cases h) (by decide) (by decide) ?_ (fun fs hr => retOut X1 hx Bd.returns rfl (Or.inr (Or.inr (Or.inr (Or.inr ⟨rfl, rfl, rfl⟩)))) (hb hby d22_24) hr)
  rw [e1q]
  exact ⟨rfl, N1, rfl⟩
theorem ef_453 (m : MethodId) (x0 : Addr) (x1 : Int32) (x2 : Int32) (x3 : Int32) : entryFrame m #[(.ref x0), (.int x1), (.int x2), (.int x3)] 6 = mkF m 0 #[.val (.ref x0), .val (.int x1), .val (.int x2), .val (.int x3), .unset, .unset] [] := by first | (simp [entryFrame, mkF, argsToLocals, Value.category]; done) | rfl
set_option maxRecDepth 65536 in
set_option maxHeartbeats 40000000 in
theorem rm_iocl3 (l : Launch) (Z : State) (a0 : Array Value) (hw : HW Z a0) (ws : List Jvm.Cond) (t : Addr) (kb : ClassId) (ch0 : Int32) (ch1 : Int32) (ch2 : Int32) (h0 : Heap) (n0 : Nat) (Z0 : n0 ≤ h0.size) (O0 : Old Z n0 h0) (V_t : Arv Z h0 t kb .byte (3 : Int32) [(.int (ch0.toInt8.toInt32)), (.int (ch1.toInt8.toInt32)), (.int (ch2.toInt8.toInt32))] (.int (0 : Int32))) (m0 : ¬ (ch0.toInt8.toInt32) = (58 : Int32)) (m1 : ¬ (ch1.toInt8.toInt32) = (58 : Int32)) (m2 : ¬ (ch2.toInt8.toInt32) = (58 : Int32)) :
    Ctr l Z my16 jdk_43_method_23_code 6 ((Option.some Jvm.ClassFile.FieldType.int)) ws (⟨0, 0, 0, 0⟩ : Room) #[(.ref t), (.int (58 : Int32)), (.int (0 : Int32)), (.int (3 : Int32))] h0 (fun v h L => v = some (.int (-1 : Int32)) ∧ Fr n0 L ∧ h = h0) := by
  refine Ctr.go (plainFor_of_name pn_32) fun p e s m below meth c s₁ Bd hx hby hml hZ hown hnm X0 e0 => ?_
  have N0 := Fr.nil n0
  have K0 := Keep.refl h0 []
  refine gs (S' := s₁.setTop (mkF m 0 #[rv (t), iv ((58 : Int32)), iv ((0 : Int32)), iv ((3 : Int32)), uu, uu] [])) (fun tg kg => castTop (ef_453 m t (58 : Int32) (0 : Int32) (3 : Int32)) kg) ?_
  refine gs (fun _ k => o_iloadN X0 hx hby d23_0 rfl (o_i2b X0 hx hby d23_1 (o_istore X0 hx hby d23_2 rfl (o_iloadN X0 hx hby d23_4 rfl (o_istore X0 hx hby d23_5 rfl (o_iload X0 hx hby d23_7 rfl (o_iloadN X0 hx hby d23_9 rfl (o_icmpNo X0 hx hby d23_10 (tlt (by decide : (0 : Int32) < (3 : Int32))).2.1 (o_aloadN X0 hx hby d23_13 rfl rfl (o_iload X0 hx hby d23_14 rfl k)))))))))) ?_
  obtain ⟨cl1, A1, a1q, a1S, a1N, a1H, a1G⟩ := id V_t
  have hi1 := inb_of a1S (j := (0 : Int32)) ⟨by decide, by decide⟩
  refine gs (fun _ k => X0.baloadBytes hx (j := (0 : Int32)) (v := (.int (ch0.toInt8.toInt32))) (by rw [e0]; exact A1.1) (State.isArrayOf_alike hZ.alike A1.2.1) A1.2.2 hi1 (Has.at a1H hi1 rfl) (g := (mkF m 16 #[rv (t), iv ((58 : Int32)), iv ((0 : Int32)), iv ((3 : Int32)), iv ((58 : Int32)), iv ((0 : Int32))] [(.int (0 : Int32)), (.ref t)])) rfl rfl (hb hby d23_16) _ (o_iload X0 hx hby d23_17 rfl (o_icmpYes (pc' := 25) X0 hx hby d23_19 (feq m0).2 (o_iinc X0 hx hby d23_25 rfl rfl (o_goto (pc' := 7) X0 hx hby d23_28 (o_iload X0 hx hby d23_7 rfl (o_iloadN X0 hx hby d23_9 rfl (o_icmpNo X0 hx hby d23_10 (tlt (by decide : (1 : Int32) < (3 : Int32))).2.1 (o_aloadN X0 hx hby d23_13 rfl rfl (o_iload X0 hx hby d23_14 rfl k)))))))))) ?_
  obtain ⟨cl2, A2, a2q, a2S, a2N, a2H, a2G⟩ := id V_t
  have hi2 := inb_of a2S (j := (1 : Int32)) ⟨by decide, by decide⟩
  refine gs (fun _ k => X0.baloadBytes hx (j := (1 : Int32)) (v := (.int (ch1.toInt8.toInt32))) (by rw [e0]; exact A2.1) (State.isArrayOf_alike hZ.alike A2.2.1) A2.2.2 hi2 (Has.at a2H hi2 rfl) (g := (mkF m 16 #[rv (t), iv ((58 : Int32)), iv ((0 : Int32)), iv ((3 : Int32)), iv ((58 : Int32)), iv ((1 : Int32))] [(.int (1 : Int32)), (.ref t)])) rfl rfl (hb hby d23_16) _ (o_iload X0 hx hby d23_17 rfl (o_icmpYes (pc' := 25) X0 hx hby d23_19 (feq m1).2 (o_iinc X0 hx hby d23_25 rfl rfl (o_goto (pc' := 7) X0 hx hby d23_28 (o_iload X0 hx hby d23_7 rfl (o_iloadN X0 hx hby d23_9 rfl (o_icmpNo X0 hx hby d23_10 (tlt (by decide : (2 : Int32) < (3 : Int32))).2.1 (o_aloadN X0 hx hby d23_13 rfl rfl (o_iload X0 hx hby d23_14 rfl k)))))))))) ?_
  obtain ⟨cl3, A3, a3q, a3S, a3N, a3H, a3G⟩ := id V_t
  have hi3 := inb_of a3S (j := (2 : Int32)) ⟨by decide, by decide⟩
  refine gs (fun _ k => X0.baloadBytes hx (j := (2 : Int32)) (v := (.int (ch2.toInt8.toInt32))) (by rw [e0]; exact A3.1) (State.isArrayOf_alike hZ.alike A3.2.1) A3.2.2 hi3 (Has.at a3H hi3 rfl) (g := (mkF m 16 #[rv (t), iv ((58 : Int32)), iv ((0 : Int32)), iv ((3 : Int32)), iv ((58 : Int32)), iv ((2 : Int32))] [(.int (2 : Int32)), (.ref t)])) rfl rfl (hb hby d23_16) _ (o_iload X0 hx hby d23_17 rfl (o_icmpYes (pc' := 25) X0 hx hby d23_19 (feq m2).2 (o_iinc X0 hx hby d23_25 rfl rfl (o_goto (pc' := 7) X0 hx hby d23_28 (o_iload X0 hx hby d23_7 rfl (o_iloadN X0 hx hby d23_9 rfl (o_icmpYes (pc' := 31) X0 hx hby d23_10 (flt (by decide : ¬ ((3 : Int32) < (3 : Int32)))).2.1 (o_iconst (v := (-1 : Int32)) X0 hx hby d23_31 k))))))))) ?_
  refine gout (v := some (.int (-1 : Int32))) X0 Bd.notSynchronized (fun h => by rw [Bd.returns] at h; cases h) (by decide) (by decide) ?_ (fun fs hr => retI X0 hx Bd.returns (hb hby d23_32) hr)
  rw [e0]
  exact ⟨rfl, N0, rfl⟩
theorem ef_454 (m : MethodId) (x0 : Addr) (x1 : Int32) (x2 : Int32) (x3 : Int32) : entryFrame m #[(.ref x0), (.int x1), (.int x2), (.int x3)] 4 = mkF m 0 #[.val (.ref x0), .val (.int x1), .val (.int x2), .val (.int x3)] [] := by first | (simp [entryFrame, mkF, argsToLocals, Value.category]; done) | rfl
set_option maxRecDepth 65536 in
set_option maxHeartbeats 40000000 in
theorem rm_iol3 (l : Launch) (Z : State) (a0 : Array Value) (hw : HW Z a0) (ws : List Jvm.Cond) (t : Addr) (kb : ClassId) (ch0 : Int32) (ch1 : Int32) (ch2 : Int32) (h0 : Heap) (n0 : Nat) (Z0 : n0 ≤ h0.size) (O0 : Old Z n0 h0) (V_t : Arv Z h0 t kb .byte (3 : Int32) [(.int (ch0.toInt8.toInt32)), (.int (ch1.toInt8.toInt32)), (.int (ch2.toInt8.toInt32))] (.int (0 : Int32))) (m0 : ¬ (ch0.toInt8.toInt32) = (58 : Int32)) (m1 : ¬ (ch1.toInt8.toInt32) = (58 : Int32)) (m2 : ¬ (ch2.toInt8.toInt32) = (58 : Int32)) :
    Ctr l Z my11 jdk_43_method_22_code 4 ((Option.some Jvm.ClassFile.FieldType.int)) ws (⟨1, 0, 0, 17⟩ : Room) #[(.ref t), (.int (58 : Int32)), (.int (0 : Int32)), (.int (3 : Int32))] h0 (fun v h L => v = some (.int (-1 : Int32)) ∧ Fr n0 L ∧ h = h0) := by
  refine Ctr.go (plainFor_of_name pn_32) fun p e s m below meth c s₁ Bd hx hby hml hZ hown hnm X0 e0 => ?_
  have N0 := Fr.nil n0
  have K0 := Keep.refl h0 []
  refine gs (S' := s₁.setTop (mkF m 0 #[rv (t), iv ((58 : Int32)), iv ((0 : Int32)), iv ((3 : Int32))] [])) (fun tg kg => castTop (ef_454 m t (58 : Int32) (0 : Int32) (3 : Int32)) kg) ?_
  refine gs (fun _ k => o_iloadN X0 hx hby d19_0 rfl k) ?_
  refine cS (rest := []) X0 hx hZ hown (ow hw 74 rfl) (ow hw 75 rfl) (ow hw 33 rfl) (ow hw 76 rfl) (rm_cei l Z a0 hw []  h0 n0 Z0 O0 ) hby d19_1 e0 pd_373 0 (by rw [hml]; rfl) rfl rfl rfl rfl (by decide) (by decide) fun _ T1 Lc1 X1 hQ1 => ?_
  obtain ⟨rfl, N1q, e1q⟩ := hQ1
  have N1 := Fr.app N0 N1q
  refine gs (fun _ k => o_ifYes (pc' := 9) X1 hx hby d19_4 ((if0 _ _).trans (feq (by decide : ¬ ((1 : Int32) = (0 : Int32)))).2) (o_iloadN X1 hx hby d19_9 rfl (o_iconst (v := (0 : Int32)) X1 hx hby d19_10 k))) ?_
  refine cS (rest := []) X1 hx hZ hown (ow hw 77 rfl) (ow hw 78 rfl) (ow hw 79 rfl) (ow hw 80 rfl) (rm_max l Z a0 hw []  h0 n0 Z0 O0 ) hby d19_11 e1q pd_378 0 (by rw [hml]; rfl) rfl rfl rfl rfl (by decide) (by decide) fun _ T2 Lc2 X2 hQ2 => ?_
  obtain ⟨rfl, N2q, e2q⟩ := hQ2
  have N2 := Fr.app N1 N2q
  refine gs (fun _ k => o_istoreN X2 hx hby d19_14 rfl (o_iloadN X2 hx hby d19_15 rfl (o_aloadN X2 hx hby d19_16 rfl rfl k))) ?_
  obtain ⟨cl3, A3, a3q, a3S, a3N, a3H, a3G⟩ := id V_t
  refine gs (S' := T2.setTop (mkF m 18 #[rv (t), iv ((58 : Int32)), iv ((0 : Int32)), iv ((3 : Int32))] [(.int (3 : Int32)), (.int (3 : Int32))])) (fun _ k => by refine X2.arraylength hx (by rw [e2q]; exact A3.1) (State.isArrayOf_alike hZ.alike A3.2.1) (g := (mkF m 17 #[rv (t), iv ((58 : Int32)), iv ((0 : Int32)), iv ((3 : Int32))] [(.ref t), (.int (3 : Int32))])) rfl rfl (hb hby d19_17) _ ?_; rw [len_of a3S a3N]; exact k) ?_
  refine cS (rest := []) X2 hx hZ hown (ow hw 81 rfl) (ow hw 82 rfl) (ow hw 79 rfl) (ow hw 83 rfl) (rm_min3 l Z a0 hw []  h0 n0 Z0 O0 ) hby d19_18 e2q pd_378 0 (by rw [hml]; rfl) rfl rfl rfl rfl (by decide) (by decide) fun _ T4 Lc4 X4 hQ4 => ?_
  obtain ⟨rfl, N4q, e4q⟩ := hQ4
  have N4 := Fr.app N2 N4q
  refine gs (fun _ k => o_istoreN X4 hx hby d19_21 rfl (o_iloadN X4 hx hby d19_22 rfl (o_iloadN X4 hx hby d19_23 rfl (o_icmpYes (pc' := 29) X4 hx hby d19_24 (tlt (by decide : (0 : Int32) < (3 : Int32))).1 (o_aloadN X4 hx hby d19_29 rfl rfl (o_iloadN X4 hx hby d19_30 rfl (o_iloadN X4 hx hby d19_31 rfl (o_iloadN X4 hx hby d19_32 rfl k)))))))) ?_
  refine cS (rest := []) X4 hx hZ hown (ow hw 95 rfl) (ow hw 96 rfl) (ow hw 33 rfl) (ow hw 97 rfl) (rm_iocl3 l Z a0 hw [] t kb ch0 ch1 ch2 h0 n0 Z0 O0 V_t m0 m1 m2) hby d19_33 e4q pd_403 0 (by rw [hml]; rfl) rfl rfl rfl rfl (by decide) (by decide) fun _ T5 Lc5 X5 hQ5 => ?_
  obtain ⟨rfl, N5q, e5q⟩ := hQ5
  have N5 := Fr.app N4 N5q
  refine gout (v := some (.int (-1 : Int32))) X5 Bd.notSynchronized (fun h => by rw [Bd.returns] at h; cases h) (by decide) (by decide) ?_ (fun fs hr => retI X5 hx Bd.returns (hb hby d19_36) hr)
  rw [e5q]
  exact ⟨rfl, N5, rfl⟩
theorem ef_455 (m : MethodId) (x0 : Addr) (x1 : Int32) (x2 : Int32) : entryFrame m #[(.ref x0), (.int x1), (.int x2)] 3 = mkF m 0 #[.val (.ref x0), .val (.int x1), .val (.int x2)] [] := by first | (simp [entryFrame, mkF, argsToLocals, Value.category]; done) | rfl
set_option maxRecDepth 65536 in
set_option maxHeartbeats 40000000 in
theorem rm_io2_L3 (l : Launch) (Z : State) (a0 : Array Value) (hw : HW Z a0) (ws : List Jvm.Cond) (a : Addr) (ch0 : Int32) (ch1 : Int32) (ch2 : Int32) (z : Int32) (fm : Value) (h0 : Heap) (n0 : Nat) (Z0 : n0 ≤ h0.size) (O0 : Old Z n0 h0) (S0 : PS3 Z (.int z)) (hz : ¬ z = 0) (S4 : PS4 Z fm) (hfm : fm.isRef = true) (S_ad : PS0 Z (.int (1 : Int32))) (S_hi : PS1 Z (.int (0 : Int32))) (S_lo : PS2 Z (.int (8 : Int32))) (T_a : Str Z h0 a [ch0, ch1, ch2]) (hbd : ∀ c ∈ ([ch0, ch1, ch2] : List Int32), ¬ c < 0 ∧ ¬ (255 : Int32) < c) (m0 : ¬ ch0 = (58 : Int32)) (m1 : ¬ ch1 = (58 : Int32)) (m2 : ¬ ch2 = (58 : Int32)) :
    Ctr l Z my4 jdk_42_method_80_code 3 ((Option.some Jvm.ClassFile.FieldType.int)) ws (⟨2, 0, 0, 32⟩ : Room) #[(.ref a), (.int (58 : Int32)), (.int (0 : Int32))] h0 (fun v h L => v = some (.int (-1 : Int32)) ∧ Fr n0 L ∧ h = h0) := by
  refine Ctr.go (plainFor_of_name pn_14) fun p e s m below meth c s₁ Bd hx hby hml hZ hown hnm X0 e0 => ?_
  have N0 := Fr.nil n0
  have K0 := Keep.refl h0 []
  refine gs (S' := s₁.setTop (mkF m 0 #[rv (a), iv ((58 : Int32)), iv ((0 : Int32))] [])) (fun tg kg => castTop (ef_455 m a (58 : Int32) (0 : Int32)) kg) ?_
  obtain ⟨t, kb, E_a, F_c, F_v, V_t⟩ := id T_a
  refine gs (fun _ k => o_aloadN X0 hx hby d20_0 rfl rfl k) ?_
  refine cV (rest := []) X0 hx hZ hown (ow hw 56 rfl) (ow hw 57 rfl) (nfs hZ (ow hw 59 rfl)) (ow hw 59 rfl) (ow hw 58 rfl) (ow hw 7 rfl) (ow hw 60 rfl) (rm_isl0 l Z a0 hw [] a z h0 n0 Z0 O0 S0 hz F_c) hby d20_1 e0 pd_393 0 (by rw [hml]; rfl) E_a rfl rfl rfl rfl (by decide) (by decide) fun _ T1 Lc1 X1 hQ1 => ?_
  obtain ⟨rfl, N1q, e1q⟩ := hQ1
  have N1 := Fr.app N0 N1q
  refine gs (fun _ k => o_ifNo X1 hx hby d20_4 ((if0 _ _).trans (feq (by decide : ¬ ((1 : Int32) = (0 : Int32)))).1) (o_aloadN X1 hx hby d20_7 rfl rfl k)) ?_
  refine gF X1 hx hZ hown (host := "") (Or.inl (ow hw 25 rfl)) Via.refl e1q F_v hby d20_8 fun T2 X2 e2 => ?_
  refine gs (fun _ k => o_iloadN X2 hx hby d20_11 rfl (o_iloadN X2 hx hby d20_12 rfl (o_aloadN X2 hx hby d20_13 rfl rfl k))) ?_
  obtain ⟨cq3, kq3, q3a, q3b, q3c⟩ := isOf hZ e2 T_a.exa
  obtain ⟨_, _, ⟨T3, L3, k3, n3⟩, -, X3, ⟨Lc3, hQ3, l3, y3, z3⟩, st3⟩ := X2.virtualBack hx (y := my0) (z := my0) hown (mvT hZ (ow hw 61 rfl)) (mvT hZ (ow hw 62 rfl)) (notFace_of_selects (args := #[]) (mvT hZ (ow hw 64 rfl))) (mvT hZ (ow hw 64 rfl)) (mvT hZ (ow hw 63 rfl)) (by decide) (own_lenB (W := 3) hZ hw T_a hbd (S0.ext O0.2) hz (nb rfl) (by decide) (by decide)) q3a q3c (g := (mkF m 14 #[rv (a), iv ((58 : Int32)), iv ((0 : Int32))] [(.ref a), (.int (0 : Int32)), (.int (58 : Int32)), (.ref t)])) rfl (by rw [hml]; rfl) (Steps.refl _) (argsL := []) (rest := [(.int (0 : Int32)), (.int (58 : Int32)), (.ref t)]) (lenOf pd_401 rfl) rfl (own_w0 rfl) (hb hby d20_14) (fun _ _ => ⟨rfl, e2, (by decide : 0 + 0 ≤ _), (by decide : 0 + 0 ≤ _)⟩)
  dsimp only [Pt.U, Pt.locs, Pt.cells, Pt.slots] at X3 l3 y3 z3 st3 hQ3
  subst l3 y3 z3
  obtain ⟨rfl, rfl, e3q⟩ := hQ3
  have N3 := Fr.app N1 (Fr.nil n0)
  refine gs (S' := T3.setTop (mkF m 17 #[rv (a), iv ((58 : Int32)), iv ((0 : Int32))] [(.int (Int32.ofNat ([ch0, ch1, ch2] : List Int32).length)), (.int (0 : Int32)), (.int (58 : Int32)), (.ref t)])) (fun _ k => st3.trans k) ?_
  show OwnGo p e below s _ _ _ (T3.setTop (mkF m 17 #[rv (a), iv ((58 : Int32)), iv ((0 : Int32))] [(.int (3 : Int32)), (.int (0 : Int32)), (.int (58 : Int32)), (.ref t)]))
  refine cS (rest := []) X3 hx hZ hown (ow hw 71 rfl) (ow hw 72 rfl) (ow hw 33 rfl) (ow hw 73 rfl) (rm_iol3 l Z a0 hw [] t kb ch0 ch1 ch2 h0 n0 Z0 O0 V_t (own_b58 (hbd ch0 (by simp)) m0) (own_b58 (hbd ch1 (by simp)) m1) (own_b58 (hbd ch2 (by simp)) m2)) hby d20_17 e3q pd_403 0 (by rw [hml]; rfl) rfl rfl rfl rfl (by decide) (by decide) fun _ T4 Lc4 X4 hQ4 => ?_
  obtain ⟨rfl, N4q, e4q⟩ := hQ4
  have N4 := Fr.app N3 N4q
  refine gs (fun _ k => o_goto (pc' := 36) X4 hx hby d20_20 k) ?_
  refine gout (v := some (.int (-1 : Int32))) X4 Bd.notSynchronized (fun h => by rw [Bd.returns] at h; cases h) (by decide) (by decide) ?_ (fun fs hr => retI X4 hx Bd.returns (hb hby d20_36) hr)
  rw [e4q]
  exact ⟨rfl, N4, rfl⟩
theorem ef_456 (m : MethodId) (x0 : Addr) (x1 : Int32) : entryFrame m #[(.ref x0), (.int x1)] 2 = mkF m 0 #[.val (.ref x0), .val (.int x1)] [] := by first | (simp [entryFrame, mkF, argsToLocals, Value.category]; done) | rfl
set_option maxRecDepth 65536 in
set_option maxHeartbeats 40000000 in
theorem rm_io1_L3 (l : Launch) (Z : State) (a0 : Array Value) (hw : HW Z a0) (ws : List Jvm.Cond) (a : Addr) (ch0 : Int32) (ch1 : Int32) (ch2 : Int32) (z : Int32) (fm : Value) (h0 : Heap) (n0 : Nat) (Z0 : n0 ≤ h0.size) (O0 : Old Z n0 h0) (S0 : PS3 Z (.int z)) (hz : ¬ z = 0) (S4 : PS4 Z fm) (hfm : fm.isRef = true) (S_ad : PS0 Z (.int (1 : Int32))) (S_hi : PS1 Z (.int (0 : Int32))) (S_lo : PS2 Z (.int (8 : Int32))) (T_a : Str Z h0 a [ch0, ch1, ch2]) (hbd : ∀ c ∈ ([ch0, ch1, ch2] : List Int32), ¬ c < 0 ∧ ¬ (255 : Int32) < c) (m0 : ¬ ch0 = (58 : Int32)) (m1 : ¬ ch1 = (58 : Int32)) (m2 : ¬ ch2 = (58 : Int32)) :
    Ctr l Z my5 jdk_42_method_79_code 2 ((Option.some Jvm.ClassFile.FieldType.int)) ws (⟨3, 0, 0, 46⟩ : Room) #[(.ref a), (.int (58 : Int32))] h0 (fun v h L => v = some (.int (-1 : Int32)) ∧ Fr n0 L ∧ h = h0) := by
  refine Ctr.go (plainFor_of_name pn_14) fun p e s m below meth c s₁ Bd hx hby hml hZ hown hnm X0 e0 => ?_
  have N0 := Fr.nil n0
  have K0 := Keep.refl h0 []
  refine gs (S' := s₁.setTop (mkF m 0 #[rv (a), iv ((58 : Int32))] [])) (fun tg kg => castTop (ef_456 m a (58 : Int32)) kg) ?_
  refine gs (fun _ k => o_aloadN X0 hx hby d21_0 rfl rfl (o_iloadN X0 hx hby d21_1 rfl (o_iconst (v := (0 : Int32)) X0 hx hby d21_2 k))) ?_
  refine cV (rest := []) X0 hx hZ hown (ow hw 51 rfl) (ow hw 52 rfl) (nfs hZ (ow hw 54 rfl)) (ow hw 54 rfl) (ow hw 53 rfl) (ow hw 7 rfl) (ow hw 55 rfl) (rm_io2_L3 l Z a0 hw [] a ch0 ch1 ch2 z fm h0 n0 Z0 O0 S0 hz S4 hfm S_ad S_hi S_lo T_a hbd m0 m1 m2) hby d21_3 e0 pd_378 0 (by rw [hml]; rfl) T_a.exa rfl rfl rfl rfl (by decide) (by decide) fun _ T1 Lc1 X1 hQ1 => ?_
  obtain ⟨rfl, N1q, e1q⟩ := hQ1
  have N1 := Fr.app N0 N1q
  refine gout (v := some (.int (-1 : Int32))) X1 Bd.notSynchronized (fun h => by rw [Bd.returns] at h; cases h) (by decide) (by decide) ?_ (fun fs hr => retI X1 hx Bd.returns (hb hby d21_6) hr)
  rw [e1q]
  exact ⟨rfl, N1, rfl⟩
theorem ef_457 (m : MethodId) (x0 : Addr) (x1 : Addr) : entryFrame m #[(.ref x0), (.ref x1)] 2 = mkF m 0 #[.val (.ref x0), .val (.ref x1)] [] := by first | (simp [entryFrame, mkF, argsToLocals, Value.category]; done) | rfl
set_option maxRecDepth 65536 in
set_option maxHeartbeats 40000000 in
theorem rm_ws_L3 (l : Launch) (Z : State) (a0 : Array Value) (hw : HW Z a0) (ws : List Jvm.Cond) (u : Addr) (a : Addr) (ch0 : Int32) (ch1 : Int32) (ch2 : Int32) (z : Int32) (fm : Value) (h0 : Heap) (n0 : Nat) (Z0 : n0 ≤ h0.size) (O0 : Old Z n0 h0) (S0 : PS3 Z (.int z)) (hz : ¬ z = 0) (S4 : PS4 Z fm) (hfm : fm.isRef = true) (S_ad : PS0 Z (.int (1 : Int32))) (S_hi : PS1 Z (.int (0 : Int32))) (S_lo : PS2 Z (.int (8 : Int32))) (T_a : Str Z h0 a [ch0, ch1, ch2]) (hbd : ∀ c ∈ ([ch0, ch1, ch2] : List Int32), ¬ c < 0 ∧ ¬ (255 : Int32) < c) (m0 : ¬ ch0 = (58 : Int32)) (m1 : ¬ ch1 = (58 : Int32)) (m2 : ¬ ch2 = (58 : Int32)) :
    Ctr l Z my1 prog_3_method_3_code 2 ((Option.some (Jvm.ClassFile.FieldType.object "java/lang/String"))) ws (⟨9, 0, 0, 190⟩ : Room) #[(.ref a), (.ref u)] h0 (fun v h L => v = some (.ref a) ∧ Fr n0 L ∧ h = h0) := by
  refine Ctr.go (plainFor_of_name pn_419) fun p e s m below meth c s₁ Bd hx hby hml hZ hown hnm X0 e0 => ?_
  have N0 := Fr.nil n0
  have K0 := Keep.refl h0 []
  refine gs (S' := s₁.setTop (mkF m 0 #[rv (a), rv (u)] [])) (fun tg kg => castTop (ef_457 m a u) kg) ?_
  refine gs (fun _ k => o_aloadN X0 hx hby d22_0 rfl rfl (o_bipush (v := (58 : Int32)) X0 hx hby d22_1 k)) ?_
  refine cV (rest := []) X0 hx hZ hown (ow hw 46 rfl) (ow hw 47 rfl) (nfs hZ (ow hw 49 rfl)) (ow hw 49 rfl) (ow hw 48 rfl) (ow hw 7 rfl) (ow hw 50 rfl) (rm_io1_L3 l Z a0 hw [] a ch0 ch1 ch2 z fm h0 n0 Z0 O0 S0 hz S4 hfm S_ad S_hi S_lo T_a hbd m0 m1 m2) hby d22_3 e0 pd_156 0 (by rw [hml]; rfl) T_a.exa rfl rfl rfl rfl (by decide) (by decide) fun _ T1 Lc1 X1 hQ1 => ?_
  obtain ⟨rfl, N1q, e1q⟩ := hQ1
  have N1 := Fr.app N0 N1q
  refine gs (fun _ k => o_ifYes (pc' := 23) X1 hx hby d22_6 ((if0 _ _).trans (tlt (by decide : (-1 : Int32) < (0 : Int32))).1) (o_aloadN X1 hx hby d22_23 rfl rfl k)) ?_
  refine gout (v := some (.ref a)) X1 Bd.notSynchronized (fun h => by rw [Bd.returns] at h; cases h) (by decide) (by decide) ?_ (fun fs hr => retOut X1 hx Bd.returns rfl (Or.inr (Or.inr (Or.inr (Or.inr ⟨rfl, rfl, rfl⟩)))) (hb hby d22_24) hr)
  rw [e1q]
  exact ⟨rfl, N1, rfl⟩
theorem ef_458 (m : MethodId) (x0 : Addr) : entryFrame m #[(.ref x0)] 1 = mkF m 0 #[.val (.ref x0)] [] := by first | (simp [entryFrame, mkF, argsToLocals, Value.category]; done) | rfl
theorem d24_0 : decode jdk_42_method_152_code 0 = .ok (.getstatic 38, 3) := by decide +kernel
theorem d24_3 : decode jdk_42_method_152_code 3 = .ok (.ifCond .eq 10, 3) := by decide +kernel
theorem d24_6 : decode jdk_42_method_152_code 6 = .ok (.aload_n 0, 1) := by decide +kernel
theorem d24_7 : decode jdk_42_method_152_code 7 = .ok (.getfield 15, 3) := by decide +kernel
theorem d24_10 : decode jdk_42_method_152_code 10 = .ok (.goto 4, 3) := by decide +kernel
theorem d24_14 : decode jdk_42_method_152_code 14 = .ok (.ireturn, 1) := by decide +kernel
set_option maxRecDepth 65536 in
set_option maxHeartbeats 40000000 in
theorem rm_coder1 (l : Launch) (Z : State) (a0 : Array Value) (hw : HW Z a0) (ws : List Jvm.Cond) (a : Addr) (z : Int32) (h0 : Heap) (n0 : Nat) (Z0 : n0 ≤ h0.size) (O0 : Old Z n0 h0) (S0 : PS3 Z (.int z)) (hz : ¬ z = 0) (F_c : Fld Z h0 a "java/lang/String" "coder" "B" (.int (1 : Int32))) :
    Ctr l Z (⟨"java/lang/String", "coder", "()B"⟩ : MethodName) jdk_42_method_152_code 1 ((Option.some Jvm.ClassFile.FieldType.byte)) ws (⟨0, 0, 0, 0⟩ : Room) #[(.ref a)] h0 (fun v h L => v = some (.int (1 : Int32)) ∧ Fr n0 L ∧ h = h0) := by
  refine Ctr.go (plainFor_of_name pn_14) fun p e s m below meth c s₁ Bd hx hby hml hZ hown hnm X0 e0 => ?_
  have N0 := Fr.nil n0
  have K0 := Keep.refl h0 []
  refine gs (S' := s₁.setTop (mkF m 0 #[rv (a)] [])) (fun tg kg => castTop (ef_458 m a) kg) ?_
  refine gS X0 hx hZ hown (host := "") (Or.inl (ow hw 30 rfl)) Via.refl e0 (S0.ext O0.2) hby d24_0 fun T1 X1 e1 => ?_
  refine gs (fun _ k => o_ifNo X1 hx hby d24_3 ((if0 _ _).trans (feq hz).1) (o_aloadN X1 hx hby d24_6 rfl rfl k)) ?_
  refine gF X1 hx hZ hown (host := "") (Or.inl (ow hw 26 rfl)) Via.refl e1 F_c hby d24_7 fun T2 X2 e2 => ?_
  refine gs (fun _ k => o_goto (pc' := 14) X2 hx hby d24_10 k) ?_
  refine gout (v := some (.int (1 : Int32))) X2 Bd.notSynchronized (fun h => by rw [Bd.returns] at h; cases h) (by decide) (by decide) ?_ (fun fs hr => retN X2 hx (t := .byte) Bd.returns (by simp) (hb hby d24_14) hr)
  rw [e2]
  exact ⟨rfl, N0, rfl⟩
theorem ef_465 (m : MethodId) (x0 : Addr) : entryFrame m #[(.ref x0)] 1 = mkF m 0 #[.val (.ref x0)] [] := by first | (simp [entryFrame, mkF, argsToLocals, Value.category]; done) | rfl
theorem d25_0 : decode jdk_42_method_54_code 0 = .ok (.aload_n 0, 1) := by decide +kernel
theorem d25_1 : decode jdk_42_method_54_code 1 = .ok (.getfield 9, 3) := by decide +kernel
theorem d25_4 : decode jdk_42_method_54_code 4 = .ok (.arraylength, 1) := by decide +kernel
theorem d25_5 : decode jdk_42_method_54_code 5 = .ok (.aload_n 0, 1) := by decide +kernel
theorem d25_6 : decode jdk_42_method_54_code 6 = .ok (.invokevirtual 335, 3) := by decide +kernel
theorem pd_471 : parseMethodDescriptor "()B" = some ⟨[], some .byte⟩ := by decide +kernel
theorem d25_9 : decode jdk_42_method_54_code 9 = .ok (.ishr, 1) := by decide +kernel
theorem d25_10 : decode jdk_42_method_54_code 10 = .ok (.ireturn, 1) := by decide +kernel
set_option maxRecDepth 65536 in
set_option maxHeartbeats 40000000 in
theorem rm_len16_1 (l : Launch) (Z : State) (a0 : Array Value) (hw : HW Z a0) (ws : List Jvm.Cond) (a : Addr) (ch0 : Int32) (z : Int32) (h0 : Heap) (n0 : Nat) (Z0 : n0 ≤ h0.size) (O0 : Old Z n0 h0) (S0 : PS3 Z (.int z)) (hz : ¬ z = 0) (T_a : Str16 Z h0 a [ch0]) :
    Ctr l Z my0 jdk_42_method_54_code 1 ((Option.some Jvm.ClassFile.FieldType.int)) ws (⟨1, 0, 0, 13⟩ : Room) #[(.ref a)] h0 (fun v h L => v = some (.int (1 : Int32)) ∧ Fr n0 L ∧ h = h0) := by
  refine Ctr.go (plainFor_of_name pn_14) fun p e s m below meth c s₁ Bd hx hby hml hZ hown hnm X0 e0 => ?_
  have N0 := Fr.nil n0
  have K0 := Keep.refl h0 []
  refine gs (S' := s₁.setTop (mkF m 0 #[rv (a)] [])) (fun tg kg => castTop (ef_465 m a) kg) ?_
  obtain ⟨t, kb, E_a, F_c, F_v, V_t⟩ := id T_a
  refine gs (fun _ k => o_aloadN X0 hx hby d25_0 rfl rfl k) ?_
  refine gF X0 hx hZ hown (host := "") (Or.inl (ow hw 25 rfl)) Via.refl e0 F_v hby d25_1 fun T1 X1 e1 => ?_
  obtain ⟨cl2, A2, a2q, a2S, a2N, a2H, a2G⟩ := id V_t
  refine gs (S' := T1.setTop (mkF m 5 #[rv (a)] [(.int (2 : Int32))])) (fun _ k => by refine X1.arraylength hx (by rw [e1]; exact A2.1) (State.isArrayOf_alike hZ.alike A2.2.1) (g := (mkF m 4 #[rv (a)] [(.ref t)])) rfl rfl (hb hby d25_4) _ ?_; rw [len_of a2S a2N]; exact k) ?_
  refine gs (fun _ k => o_aloadN X1 hx hby d25_5 rfl rfl k) ?_
  refine cV (rest := [(.int (2 : Int32))]) X1 hx hZ hown (ow hw 66 rfl) (ow hw 67 rfl) (nfs hZ (ow hw 69 rfl)) (ow hw 69 rfl) (ow hw 68 rfl) (ow hw 7 rfl) (ow hw 70 rfl) (rm_coder1 l Z a0 hw [] a z h0 n0 Z0 O0 S0 hz F_c) hby d25_6 e1 pd_471 1 (by rw [hml]; rfl) E_a rfl rfl rfl rfl (by decide) (by decide) fun _ T3 Lc3 X3 hQ3 => ?_
  obtain ⟨rfl, N3q, e3q⟩ := hQ3
  have N3 := Fr.app N0 N3q
  refine gs (fun _ k => o_ishr X3 hx hby d25_9 k) ?_
  refine gout (v := some (.int (1 : Int32))) X3 Bd.notSynchronized (fun h => by rw [Bd.returns] at h; cases h) (by decide) (by decide) ?_ (fun fs hr => retI X3 hx Bd.returns (hb hby d25_10) hr)
  rw [e3q]
  exact ⟨rfl, N3, rfl⟩
theorem ef_474 (m : MethodId) (x0 : Addr) : entryFrame m #[(.ref x0)] 1 = mkF m 0 #[.val (.ref x0)] [] := by first | (simp [entryFrame, mkF, argsToLocals, Value.category]; done) | rfl
theorem d26_0 : decode jdk_52_method_6_code 0 = .ok (.aload_n 0, 1) := by decide +kernel
theorem d26_1 : decode jdk_52_method_6_code 1 = .ok (.arraylength, 1) := by decide +kernel
theorem d26_2 : decode jdk_52_method_6_code 2 = .ok (.iconst 1, 1) := by decide +kernel
theorem d26_3 : decode jdk_52_method_6_code 3 = .ok (.ishr, 1) := by decide +kernel
theorem d26_4 : decode jdk_52_method_6_code 4 = .ok (.ireturn, 1) := by decide +kernel
set_option maxRecDepth 65536 in
set_option maxHeartbeats 40000000 in
theorem rm_ul1 (l : Launch) (Z : State) (a0 : Array Value) (hw : HW Z a0) (ws : List Jvm.Cond) (t : Addr) (kb : ClassId) (ch0 : Int32) (h0 : Heap) (n0 : Nat) (Z0 : n0 ≤ h0.size) (O0 : Old Z n0 h0) (V_t : Arv Z h0 t kb .byte (2 : Int32) [(.int (own_b0 ch0)), (.int (own_b1 ch0))] (.int (0 : Int32))) :
    Ctr l Z my17 jdk_52_method_6_code 1 ((Option.some Jvm.ClassFile.FieldType.int)) ws (⟨0, 0, 0, 0⟩ : Room) #[(.ref t)] h0 (fun v h L => v = some (.int (1 : Int32)) ∧ Fr n0 L ∧ h = h0) := by
  refine Ctr.go (plainFor_of_name pn_117) fun p e s m below meth c s₁ Bd hx hby hml hZ hown hnm X0 e0 => ?_
  have N0 := Fr.nil n0
  have K0 := Keep.refl h0 []
  refine gs (S' := s₁.setTop (mkF m 0 #[rv (t)] [])) (fun tg kg => castTop (ef_474 m t) kg) ?_
  refine gs (fun _ k => o_aloadN X0 hx hby d26_0 rfl rfl k) ?_
  obtain ⟨cl1, A1, a1q, a1S, a1N, a1H, a1G⟩ := id V_t
  refine gs (S' := s₁.setTop (mkF m 2 #[rv (t)] [(.int (2 : Int32))])) (fun _ k => by refine X0.arraylength hx (by rw [e0]; exact A1.1) (State.isArrayOf_alike hZ.alike A1.2.1) (g := (mkF m 1 #[rv (t)] [(.ref t)])) rfl rfl (hb hby d26_1) _ ?_; rw [len_of a1S a1N]; exact k) ?_
  refine gs (fun _ k => o_iconst (v := (1 : Int32)) X0 hx hby d26_2 (o_ishr X0 hx hby d26_3 k)) ?_
  refine gout (v := some (.int (1 : Int32))) X0 Bd.notSynchronized (fun h => by rw [Bd.returns] at h; cases h) (by decide) (by decide) ?_ (fun fs hr => retI X0 hx Bd.returns (hb hby d26_4) hr)
  rw [e0]
  exact ⟨rfl, N0, rfl⟩
theorem ef_480 (m : MethodId) (x0 : Int32) (x1 : Int32) (x2 : Int32) (x3 : Value) (hx3 : x3.isRef = true) : entryFrame m #[(.int x0), (.int x1), (.int x2), x3] 4 = mkF m 0 #[.val (.int x0), .val (.int x1), .val (.int x2), .val x3] [] := by first | (simp [entryFrame, mkF, argsToLocals, Value.category]; done) | rfl | (rcases ref_cases hx3 with rfl | ⟨b, rfl⟩ <;> rfl)
theorem d27_0 : decode jdk_41_method_12_code 0 = .ok (.iload_n 0, 1) := by decide +kernel
theorem d27_1 : decode jdk_41_method_12_code 1 = .ok (.ifCond .lt 13, 3) := by decide +kernel
theorem d27_4 : decode jdk_41_method_12_code 4 = .ok (.iload_n 0, 1) := by decide +kernel
theorem d27_5 : decode jdk_41_method_12_code 5 = .ok (.iload_n 1, 1) := by decide +kernel
theorem d27_6 : decode jdk_41_method_12_code 6 = .ok (.if_icmp .gt 8, 3) := by decide +kernel
theorem d27_9 : decode jdk_41_method_12_code 9 = .ok (.iload_n 1, 1) := by decide +kernel
theorem d27_10 : decode jdk_41_method_12_code 10 = .ok (.iload_n 2, 1) := by decide +kernel
theorem d27_11 : decode jdk_41_method_12_code 11 = .ok (.if_icmp .le 11, 3) := by decide +kernel
theorem d27_22 : decode jdk_41_method_12_code 22 = .ok (.iload_n 0, 1) := by decide +kernel
theorem d27_23 : decode jdk_41_method_12_code 23 = .ok (.ireturn, 1) := by decide +kernel
theorem pn_491 : plainName "jdk/internal/util/Preconditions" = true := by first | (simp [plainName, overriddenIn]; done) | decide +kernel
set_option maxRecDepth 65536 in
set_option maxHeartbeats 40000000 in
theorem rm_cft1 (l : Launch) (Z : State) (a0 : Array Value) (hw : HW Z a0) (ws : List Jvm.Cond) (fm : Value) (h0 : Heap) (n0 : Nat) (Z0 : n0 ≤ h0.size) (O0 : Old Z n0 h0) (hfm : fm.isRef = true) :
    Ctr l Z my18 jdk_41_method_12_code 4 ((Option.some Jvm.ClassFile.FieldType.int)) ws (⟨0, 0, 0, 0⟩ : Room) #[(.int (0 : Int32)), (.int (1 : Int32)), (.int (1 : Int32)), fm] h0 (fun v h L => v = some (.int (0 : Int32)) ∧ Fr n0 L ∧ h = h0) := by
  refine Ctr.go (plainFor_of_name pn_491) fun p e s m below meth c s₁ Bd hx hby hml hZ hown hnm X0 e0 => ?_
  have N0 := Fr.nil n0
  have K0 := Keep.refl h0 []
  refine gs (S' := s₁.setTop (mkF m 0 #[iv ((0 : Int32)), iv ((1 : Int32)), iv ((1 : Int32)), .val fm] [])) (fun tg kg => castTop (ef_480 m (0 : Int32) (1 : Int32) (1 : Int32) fm hfm) kg) ?_
  refine gs (fun _ k => o_iloadN X0 hx hby d27_0 rfl (o_ifNo X0 hx hby d27_1 ((if0 _ _).trans (flt (by decide : ¬ ((0 : Int32) < (0 : Int32)))).1) (o_iloadN X0 hx hby d27_4 rfl (o_iloadN X0 hx hby d27_5 rfl (o_icmpNo X0 hx hby d27_6 (flt (by decide : ¬ ((1 : Int32) < (0 : Int32)))).2.2.1 (o_iloadN X0 hx hby d27_9 rfl (o_iloadN X0 hx hby d27_10 rfl (o_icmpYes (pc' := 22) X0 hx hby d27_11 (flt (by decide : ¬ ((1 : Int32) < (1 : Int32)))).2.2.2 (o_iloadN X0 hx hby d27_22 rfl k))))))))) ?_
  refine gout (v := some (.int (0 : Int32))) X0 Bd.notSynchronized (fun h => by rw [Bd.returns] at h; cases h) (by decide) (by decide) ?_ (fun fs hr => retI X0 hx Bd.returns (hb hby d27_23) hr)
  rw [e0]
  exact ⟨rfl, N0, rfl⟩
theorem ef_492 (m : MethodId) (x0 : Int32) (x1 : Int32) (x2 : Int32) : entryFrame m #[(.int x0), (.int x1), (.int x2)] 3 = mkF m 0 #[.val (.int x0), .val (.int x1), .val (.int x2)] [] := by first | (simp [entryFrame, mkF, argsToLocals, Value.category]; done) | rfl
theorem d28_0 : decode jdk_42_method_158_code 0 = .ok (.iload_n 0, 1) := by decide +kernel
theorem d28_1 : decode jdk_42_method_158_code 1 = .ok (.iload_n 1, 1) := by decide +kernel
theorem d28_2 : decode jdk_42_method_158_code 2 = .ok (.iload_n 2, 1) := by decide +kernel
theorem d28_3 : decode jdk_42_method_158_code 3 = .ok (.getstatic 1053, 3) := by decide +kernel
theorem d28_6 : decode jdk_42_method_158_code 6 = .ok (.invokestatic 1062, 3) := by decide +kernel
theorem pd_498 : parseMethodDescriptor "(IIILjava/util/function/BiFunction;)I" = some ⟨[.int, .int, .int, (.object "java/util/function/BiFunction")], some .int⟩ := by decide +kernel
theorem d28_9 : decode jdk_42_method_158_code 9 = .ok (.pop, 1) := by decide +kernel
theorem d28_10 : decode jdk_42_method_158_code 10 = .ok (.return_, 1) := by decide +kernel
set_option maxRecDepth 65536 in
set_option maxHeartbeats 40000000 in
theorem rm_cbs1 (l : Launch) (Z : State) (a0 : Array Value) (hw : HW Z a0) (ws : List Jvm.Cond) (fm : Value) (h0 : Heap) (n0 : Nat) (Z0 : n0 ≤ h0.size) (O0 : Old Z n0 h0) (S4 : PS4 Z fm) (hfm : fm.isRef = true) :
    Ctr l Z my19 jdk_42_method_158_code 3 ((Option.none : Option Jvm.ClassFile.FieldType)) ws (⟨1, 0, 0, 15⟩ : Room) #[(.int (0 : Int32)), (.int (1 : Int32)), (.int (1 : Int32))] h0 (fun v h L => v = none ∧ Fr n0 L ∧ h = h0) := by
  refine Ctr.go (plainFor_of_name pn_14) fun p e s m below meth c s₁ Bd hx hby hml hZ hown hnm X0 e0 => ?_
  have N0 := Fr.nil n0
  have K0 := Keep.refl h0 []
  refine gs (S' := s₁.setTop (mkF m 0 #[iv ((0 : Int32)), iv ((1 : Int32)), iv ((1 : Int32))] [])) (fun tg kg => castTop (ef_492 m (0 : Int32) (1 : Int32) (1 : Int32)) kg) ?_
  refine gs (fun _ k => o_iloadN X0 hx hby d28_0 rfl (o_iloadN X0 hx hby d28_1 rfl (o_iloadN X0 hx hby d28_2 rfl k))) ?_
  refine gS X0 hx hZ hown (host := "") (Or.inl (ow hw 135 rfl)) Via.refl e0 (S4.ext O0.2) hby d28_3 fun T1 X1 e1 => ?_
  refine cS (rest := []) X1 hx hZ hown (ow hw 137 rfl) (ow hw 138 rfl) (ow hw 136 rfl) (ow hw 139 rfl) (rm_cft1 l Z a0 hw [] fm h0 n0 Z0 O0 hfm) hby d28_6 e1 pd_498 0 (by rw [hml]; rfl) rfl rfl rfl rfl (by decide) (by decide) fun _ T2 Lc2 X2 hQ2 => ?_
  obtain ⟨rfl, N2q, e2q⟩ := hQ2
  have N2 := Fr.app N0 N2q
  refine gs (fun _ k => o_pop X2 hx hby d28_9 rfl k) ?_
  refine gout (v := none) X2 Bd.notSynchronized (fun _ => rfl) (by decide) (by decide) ?_ (fun fs hr => X2.returnOut hx Bd.returns (hb hby d28_10) hr)
  rw [e2q]
  exact ⟨rfl, N2, rfl⟩
theorem ef_501 (m : MethodId) (x0 : Int32) (x1 : Int32) (x2 : Addr) : entryFrame m #[(.int x0), (.int x1), (.ref x2)] 3 = mkF m 0 #[.val (.int x0), .val (.int x1), .val (.ref x2)] [] := by first | (simp [entryFrame, mkF, argsToLocals, Value.category]; done) | rfl
theorem d29_0 : decode jdk_52_method_93_code 0 = .ok (.iload_n 0, 1) := by decide +kernel
theorem d29_1 : decode jdk_52_method_93_code 1 = .ok (.iload_n 1, 1) := by decide +kernel
theorem d29_2 : decode jdk_52_method_93_code 2 = .ok (.aload_n 2, 1) := by decide +kernel
theorem d29_3 : decode jdk_52_method_93_code 3 = .ok (.invokestatic 48, 3) := by decide +kernel
theorem pd_506 : parseMethodDescriptor "([B)I" = some ⟨[(.array .byte)], some .int⟩ := by decide +kernel
theorem d29_6 : decode jdk_52_method_93_code 6 = .ok (.invokestatic 241, 3) := by decide +kernel
theorem pd_508 : parseMethodDescriptor "(III)V" = some ⟨[.int, .int, .int], none⟩ := by decide +kernel
theorem d29_9 : decode jdk_52_method_93_code 9 = .ok (.return_, 1) := by decide +kernel
set_option maxRecDepth 65536 in
set_option maxHeartbeats 40000000 in
theorem rm_cbu1 (l : Launch) (Z : State) (a0 : Array Value) (hw : HW Z a0) (ws : List Jvm.Cond) (fm : Value) (t : Addr) (kb : ClassId) (ch0 : Int32) (h0 : Heap) (n0 : Nat) (Z0 : n0 ≤ h0.size) (O0 : Old Z n0 h0) (S4 : PS4 Z fm) (hfm : fm.isRef = true) (V_t : Arv Z h0 t kb .byte (2 : Int32) [(.int (own_b0 ch0)), (.int (own_b1 ch0))] (.int (0 : Int32))) :
    Ctr l Z my20 jdk_52_method_93_code 3 ((Option.none : Option Jvm.ClassFile.FieldType)) ws (⟨2, 0, 0, 29⟩ : Room) #[(.int (0 : Int32)), (.int (1 : Int32)), (.ref t)] h0 (fun v h L => v = none ∧ Fr n0 L ∧ h = h0) := by
  refine Ctr.go (plainFor_of_name pn_117) fun p e s m below meth c s₁ Bd hx hby hml hZ hown hnm X0 e0 => ?_
  have N0 := Fr.nil n0
  have K0 := Keep.refl h0 []
  refine gs (S' := s₁.setTop (mkF m 0 #[iv ((0 : Int32)), iv ((1 : Int32)), rv (t)] [])) (fun tg kg => castTop (ef_501 m (0 : Int32) (1 : Int32) t) kg) ?_
  refine gs (fun _ k => o_iloadN X0 hx hby d29_0 rfl (o_iloadN X0 hx hby d29_1 rfl (o_aloadN X0 hx hby d29_2 rfl rfl k))) ?_
  refine cS (rest := [(.int (1 : Int32)), (.int (0 : Int32))]) X0 hx hZ hown (ow hw 129 rfl) (ow hw 130 rfl) (ow hw 87 rfl) (ow hw 131 rfl) (rm_ul1 l Z a0 hw [] t kb ch0 h0 n0 Z0 O0 V_t) hby d29_3 e0 pd_506 2 (by rw [hml]; rfl) rfl rfl rfl rfl (by decide) (by decide) fun _ T1 Lc1 X1 hQ1 => ?_
  obtain ⟨rfl, N1q, e1q⟩ := hQ1
  have N1 := Fr.app N0 N1q
  refine cS (rest := []) X1 hx hZ hown (ow hw 132 rfl) (ow hw 133 rfl) (ow hw 7 rfl) (ow hw 134 rfl) (rm_cbs1 l Z a0 hw [] fm h0 n0 Z0 O0 S4 hfm) hby d29_6 e1q pd_508 0 (by rw [hml]; rfl) rfl rfl rfl rfl (by decide) (by decide) fun _ T2 Lc2 X2 hQ2 => ?_
  obtain ⟨rfl, N2q, e2q⟩ := hQ2
  have N2 := Fr.app N1 N2q
  refine gout (v := none) X2 Bd.notSynchronized (fun _ => rfl) (by decide) (by decide) ?_ (fun fs hr => X2.returnOut hx Bd.returns (hb hby d29_9) hr)
  rw [e2q]
  exact ⟨rfl, N2, rfl⟩
theorem ef_510 (m : MethodId) (x0 : Addr) (x1 : Int32) (x2 : Int32) (x3 : Int32) : entryFrame m #[(.ref x0), (.int x1), (.int x2), (.int x3)] 5 = mkF m 0 #[.val (.ref x0), .val (.int x1), .val (.int x2), .val (.int x3), .unset] [] := by first | (simp [entryFrame, mkF, argsToLocals, Value.category]; done) | rfl
theorem d30_0 : decode jdk_52_method_48_code 0 = .ok (.iload_n 2, 1) := by decide +kernel
theorem d30_1 : decode jdk_52_method_48_code 1 = .ok (.istore 4, 2) := by decide +kernel
theorem d30_3 : decode jdk_52_method_48_code 3 = .ok (.iload 4, 2) := by decide +kernel
theorem d30_5 : decode jdk_52_method_48_code 5 = .ok (.iload_n 3, 1) := by decide +kernel
theorem d30_6 : decode jdk_52_method_48_code 6 = .ok (.if_icmp .ge 22, 3) := by decide +kernel
theorem d30_9 : decode jdk_52_method_48_code 9 = .ok (.aload_n 0, 1) := by decide +kernel
theorem d30_10 : decode jdk_52_method_48_code 10 = .ok (.iload 4, 2) := by decide +kernel
theorem d30_12 : decode jdk_52_method_48_code 12 = .ok (.invokestatic 71, 3) := by decide +kernel
theorem d30_15 : decode jdk_52_method_48_code 15 = .ok (.iload_n 1, 1) := by decide +kernel
theorem d30_16 : decode jdk_52_method_48_code 16 = .ok (.if_icmp .ne 6, 3) := by decide +kernel
theorem d30_22 : decode jdk_52_method_48_code 22 = .ok (.iinc 4 1, 3) := by decide +kernel
theorem d30_25 : decode jdk_52_method_48_code 25 = .ok (.goto (-22), 3) := by decide +kernel
theorem d30_28 : decode jdk_52_method_48_code 28 = .ok (.iconst (-1), 1) := by decide +kernel
theorem d30_29 : decode jdk_52_method_48_code 29 = .ok (.ireturn, 1) := by decide +kernel
set_option maxRecDepth 65536 in
set_option maxHeartbeats 40000000 in
theorem rm_iou1 (l : Launch) (Z : State) (a0 : Array Value) (hw : HW Z a0) (ws : List Jvm.Cond) (t : Addr) (kb : ClassId) (ch0 : Int32) (h0 : Heap) (n0 : Nat) (Z0 : n0 ≤ h0.size) (O0 : Old Z n0 h0) (V_t : Arv Z h0 t kb .byte (2 : Int32) [(.int (own_b0 ch0)), (.int (own_b1 ch0))] (.int (0 : Int32))) (hc0 : ¬ ch0 < 0 ∧ ¬ (65535 : Int32) < ch0) (m0 : ¬ ch0 = (58 : Int32)) (S_ad : PS0 Z (.int (1 : Int32))) (S_hi : PS1 Z (.int (0 : Int32))) (S_lo : PS2 Z (.int (8 : Int32))) :
    Ctr l Z my21 jdk_52_method_48_code 5 ((Option.some Jvm.ClassFile.FieldType.int)) ws (⟨1, 0, 0, 13⟩ : Room) #[(.ref t), (.int (58 : Int32)), (.int (0 : Int32)), (.int (1 : Int32))] h0 (fun v h L => v = some (.int (-1 : Int32)) ∧ Fr n0 L ∧ h = h0) := by
  refine Ctr.go (plainFor_of_name pn_117) fun p e s m below meth c s₁ Bd hx hby hml hZ hown hnm X0 e0 => ?_
  have N0 := Fr.nil n0
  have K0 := Keep.refl h0 []
  refine gs (S' := s₁.setTop (mkF m 0 #[rv (t), iv ((58 : Int32)), iv ((0 : Int32)), iv ((1 : Int32)), uu] [])) (fun tg kg => castTop (ef_510 m t (58 : Int32) (0 : Int32) (1 : Int32)) kg) ?_
  refine gs (fun _ k => o_iloadN X0 hx hby d30_0 rfl (o_istore X0 hx hby d30_1 rfl (o_iload X0 hx hby d30_3 rfl (o_iloadN X0 hx hby d30_5 rfl (o_icmpNo X0 hx hby d30_6 (tlt (by decide : (0 : Int32) < (1 : Int32))).2.1 (o_aloadN X0 hx hby d30_9 rfl rfl (o_iload X0 hx hby d30_10 rfl k))))))) ?_
  refine cS (rest := []) X0 hx hZ hown (ow hw 114 rfl) (ow hw 115 rfl) (ow hw 87 rfl) (ow hw 116 rfl) (rm_gc10 l Z a0 hw [] t kb ch0 h0 n0 Z0 O0 V_t hc0 S_ad S_hi S_lo) hby d30_12 e0 pd_229 0 (by rw [hml]; rfl) rfl rfl rfl rfl (by decide) (by decide) fun _ T1 Lc1 X1 hQ1 => ?_
  obtain ⟨rfl, N1q, e1q⟩ := hQ1
  have N1 := Fr.app N0 N1q
  refine gs (fun _ k => o_iloadN X1 hx hby d30_15 rfl (o_icmpYes (pc' := 22) X1 hx hby d30_16 (feq m0).2 (o_iinc X1 hx hby d30_22 rfl rfl (o_goto (pc' := 3) X1 hx hby d30_25 (o_iload X1 hx hby d30_3 rfl (o_iloadN X1 hx hby d30_5 rfl (o_icmpYes (pc' := 28) X1 hx hby d30_6 (flt (by decide : ¬ ((1 : Int32) < (1 : Int32)))).2.1 (o_iconst (v := (-1 : Int32)) X1 hx hby d30_28 k)))))))) ?_
  refine gout (v := some (.int (-1 : Int32))) X1 Bd.notSynchronized (fun h => by rw [Bd.returns] at h; cases h) (by decide) (by decide) ?_ (fun fs hr => retI X1 hx Bd.returns (hb hby d30_29) hr)
  rw [e1q]
  exact ⟨rfl, N1, rfl⟩
theorem ef_525 (m : MethodId) (x0 : Addr) (x1 : Int32) (x2 : Int32) (x3 : Int32) : entryFrame m #[(.ref x0), (.int x1), (.int x2), (.int x3)] 4 = mkF m 0 #[.val (.ref x0), .val (.int x1), .val (.int x2), .val (.int x3)] [] := by first | (simp [entryFrame, mkF, argsToLocals, Value.category]; done) | rfl
theorem d31_0 : decode jdk_52_method_47_code 0 = .ok (.iload_n 2, 1) := by decide +kernel
theorem d31_1 : decode jdk_52_method_47_code 1 = .ok (.iload_n 3, 1) := by decide +kernel
theorem d31_2 : decode jdk_52_method_47_code 2 = .ok (.aload_n 0, 1) := by decide +kernel
theorem d31_3 : decode jdk_52_method_47_code 3 = .ok (.invokestatic 96, 3) := by decide +kernel
theorem pd_530 : parseMethodDescriptor "(II[B)V" = some ⟨[.int, .int, (.array .byte)], none⟩ := by decide +kernel
theorem d31_6 : decode jdk_52_method_47_code 6 = .ok (.aload_n 0, 1) := by decide +kernel
theorem d31_7 : decode jdk_52_method_47_code 7 = .ok (.iload_n 1, 1) := by decide +kernel
theorem d31_8 : decode jdk_52_method_47_code 8 = .ok (.iload_n 2, 1) := by decide +kernel
theorem d31_9 : decode jdk_52_method_47_code 9 = .ok (.iload_n 3, 1) := by decide +kernel
theorem d31_10 : decode jdk_52_method_47_code 10 = .ok (.invokestatic 244, 3) := by decide +kernel
theorem d31_13 : decode jdk_52_method_47_code 13 = .ok (.ireturn, 1) := by decide +kernel
set_option maxRecDepth 65536 in
set_option maxHeartbeats 40000000 in
theorem rm_ioc16_1 (l : Launch) (Z : State) (a0 : Array Value) (hw : HW Z a0) (ws : List Jvm.Cond) (fm : Value) (t : Addr) (kb : ClassId) (ch0 : Int32) (h0 : Heap) (n0 : Nat) (Z0 : n0 ≤ h0.size) (O0 : Old Z n0 h0) (S4 : PS4 Z fm) (hfm : fm.isRef = true) (V_t : Arv Z h0 t kb .byte (2 : Int32) [(.int (own_b0 ch0)), (.int (own_b1 ch0))] (.int (0 : Int32))) (hc0 : ¬ ch0 < 0 ∧ ¬ (65535 : Int32) < ch0) (m0 : ¬ ch0 = (58 : Int32)) (S_ad : PS0 Z (.int (1 : Int32))) (S_hi : PS1 Z (.int (0 : Int32))) (S_lo : PS2 Z (.int (8 : Int32))) :
    Ctr l Z my22 jdk_52_method_47_code 4 ((Option.some Jvm.ClassFile.FieldType.int)) ws (⟨3, 0, 0, 43⟩ : Room) #[(.ref t), (.int (58 : Int32)), (.int (0 : Int32)), (.int (1 : Int32))] h0 (fun v h L => v = some (.int (-1 : Int32)) ∧ Fr n0 L ∧ h = h0) := by
  refine Ctr.go (plainFor_of_name pn_117) fun p e s m below meth c s₁ Bd hx hby hml hZ hown hnm X0 e0 => ?_
  have N0 := Fr.nil n0
  have K0 := Keep.refl h0 []
  refine gs (S' := s₁.setTop (mkF m 0 #[rv (t), iv ((58 : Int32)), iv ((0 : Int32)), iv ((1 : Int32))] [])) (fun tg kg => castTop (ef_525 m t (58 : Int32) (0 : Int32) (1 : Int32)) kg) ?_
  refine gs (fun _ k => o_iloadN X0 hx hby d31_0 rfl (o_iloadN X0 hx hby d31_1 rfl (o_aloadN X0 hx hby d31_2 rfl rfl k))) ?_
  refine cS (rest := []) X0 hx hZ hown (ow hw 126 rfl) (ow hw 127 rfl) (ow hw 87 rfl) (ow hw 128 rfl) (rm_cbu1 l Z a0 hw [] fm t kb ch0 h0 n0 Z0 O0 S4 hfm V_t) hby d31_3 e0 pd_530 0 (by rw [hml]; rfl) rfl rfl rfl rfl (by decide) (by decide) fun _ T1 Lc1 X1 hQ1 => ?_
  obtain ⟨rfl, N1q, e1q⟩ := hQ1
  have N1 := Fr.app N0 N1q
  refine gs (fun _ k => o_aloadN X1 hx hby d31_6 rfl rfl (o_iloadN X1 hx hby d31_7 rfl (o_iloadN X1 hx hby d31_8 rfl (o_iloadN X1 hx hby d31_9 rfl k)))) ?_
  refine cS (rest := []) X1 hx hZ hown (ow hw 140 rfl) (ow hw 141 rfl) (ow hw 87 rfl) (ow hw 142 rfl) (rm_iou1 l Z a0 hw [] t kb ch0 h0 n0 Z0 O0 V_t hc0 m0 S_ad S_hi S_lo) hby d31_10 e1q pd_403 0 (by rw [hml]; rfl) rfl rfl rfl rfl (by decide) (by decide) fun _ T2 Lc2 X2 hQ2 => ?_
  obtain ⟨rfl, N2q, e2q⟩ := hQ2
  have N2 := Fr.app N1 N2q
  refine gout (v := some (.int (-1 : Int32))) X2 Bd.notSynchronized (fun h => by rw [Bd.returns] at h; cases h) (by decide) (by decide) ?_ (fun fs hr => retI X2 hx Bd.returns (hb hby d31_13) hr)
  rw [e2q]
  exact ⟨rfl, N2, rfl⟩
theorem ef_537 (m : MethodId) (x0 : Addr) (x1 : Int32) (x2 : Int32) (x3 : Int32) : entryFrame m #[(.ref x0), (.int x1), (.int x2), (.int x3)] 4 = mkF m 0 #[.val (.ref x0), .val (.int x1), .val (.int x2), .val (.int x3)] [] := by first | (simp [entryFrame, mkF, argsToLocals, Value.category]; done) | rfl
theorem d32_0 : decode jdk_52_method_40_code 0 = .ok (.iload_n 2, 1) := by decide +kernel
theorem d32_1 : decode jdk_52_method_40_code 1 = .ok (.iconst 0, 1) := by decide +kernel
theorem d32_2 : decode jdk_52_method_40_code 2 = .ok (.invokestatic 224, 3) := by decide +kernel
theorem d32_5 : decode jdk_52_method_40_code 5 = .ok (.istore_n 2, 1) := by decide +kernel
theorem d32_6 : decode jdk_52_method_40_code 6 = .ok (.iload_n 3, 1) := by decide +kernel
theorem d32_7 : decode jdk_52_method_40_code 7 = .ok (.aload_n 0, 1) := by decide +kernel
theorem d32_8 : decode jdk_52_method_40_code 8 = .ok (.arraylength, 1) := by decide +kernel
theorem d32_9 : decode jdk_52_method_40_code 9 = .ok (.iconst 1, 1) := by decide +kernel
theorem d32_10 : decode jdk_52_method_40_code 10 = .ok (.ishr, 1) := by decide +kernel
theorem d32_11 : decode jdk_52_method_40_code 11 = .ok (.invokestatic 183, 3) := by decide +kernel
theorem d32_14 : decode jdk_52_method_40_code 14 = .ok (.istore_n 3, 1) := by decide +kernel
theorem d32_15 : decode jdk_52_method_40_code 15 = .ok (.iload_n 2, 1) := by decide +kernel
theorem d32_16 : decode jdk_52_method_40_code 16 = .ok (.iload_n 3, 1) := by decide +kernel
theorem d32_17 : decode jdk_52_method_40_code 17 = .ok (.if_icmp .lt 5, 3) := by decide +kernel
theorem d32_22 : decode jdk_52_method_40_code 22 = .ok (.iload_n 1, 1) := by decide +kernel
theorem d32_23 : decode jdk_52_method_40_code 23 = .ok (.ldc 227, 2) := by decide +kernel
theorem d32_25 : decode jdk_52_method_40_code 25 = .ok (.if_icmp .ge 11, 3) := by decide +kernel
theorem d32_28 : decode jdk_52_method_40_code 28 = .ok (.aload_n 0, 1) := by decide +kernel
theorem d32_29 : decode jdk_52_method_40_code 29 = .ok (.iload_n 1, 1) := by decide +kernel
theorem d32_30 : decode jdk_52_method_40_code 30 = .ok (.iload_n 2, 1) := by decide +kernel
theorem d32_31 : decode jdk_52_method_40_code 31 = .ok (.iload_n 3, 1) := by decide +kernel
theorem d32_32 : decode jdk_52_method_40_code 32 = .ok (.invokestatic 228, 3) := by decide +kernel
theorem d32_35 : decode jdk_52_method_40_code 35 = .ok (.ireturn, 1) := by decide +kernel
set_option maxRecDepth 65536 in
set_option maxHeartbeats 40000000 in
theorem rm_io16_1 (l : Launch) (Z : State) (a0 : Array Value) (hw : HW Z a0) (ws : List Jvm.Cond) (fm : Value) (t : Addr) (kb : ClassId) (ch0 : Int32) (h0 : Heap) (n0 : Nat) (Z0 : n0 ≤ h0.size) (O0 : Old Z n0 h0) (S4 : PS4 Z fm) (hfm : fm.isRef = true) (V_t : Arv Z h0 t kb .byte (2 : Int32) [(.int (own_b0 ch0)), (.int (own_b1 ch0))] (.int (0 : Int32))) (hc0 : ¬ ch0 < 0 ∧ ¬ (65535 : Int32) < ch0) (m0 : ¬ ch0 = (58 : Int32)) (S_ad : PS0 Z (.int (1 : Int32))) (S_hi : PS1 Z (.int (0 : Int32))) (S_lo : PS2 Z (.int (8 : Int32))) :
    Ctr l Z my23 jdk_52_method_40_code 4 ((Option.some Jvm.ClassFile.FieldType.int)) ws (⟨4, 0, 0, 58⟩ : Room) #[(.ref t), (.int (58 : Int32)), (.int (0 : Int32)), (.int (1 : Int32))] h0 (fun v h L => v = some (.int (-1 : Int32)) ∧ Fr n0 L ∧ h = h0) := by
  refine Ctr.go (plainFor_of_name pn_117) fun p e s m below meth c s₁ Bd hx hby hml hZ hown hnm X0 e0 => ?_
  have N0 := Fr.nil n0
  have K0 := Keep.refl h0 []
  refine gs (S' := s₁.setTop (mkF m 0 #[rv (t), iv ((58 : Int32)), iv ((0 : Int32)), iv ((1 : Int32))] [])) (fun tg kg => castTop (ef_537 m t (58 : Int32) (0 : Int32) (1 : Int32)) kg) ?_
  refine gs (fun _ k => o_iloadN X0 hx hby d32_0 rfl (o_iconst (v := (0 : Int32)) X0 hx hby d32_1 k)) ?_
  refine cS (rest := []) X0 hx hZ hown (ow hw 120 rfl) (ow hw 78 rfl) (ow hw 79 rfl) (ow hw 80 rfl) (rm_max l Z a0 hw []  h0 n0 Z0 O0 ) hby d32_2 e0 pd_378 0 (by rw [hml]; rfl) rfl rfl rfl rfl (by decide) (by decide) fun _ T1 Lc1 X1 hQ1 => ?_
  obtain ⟨rfl, N1q, e1q⟩ := hQ1
  have N1 := Fr.app N0 N1q
  refine gs (fun _ k => o_istoreN X1 hx hby d32_5 rfl (o_iloadN X1 hx hby d32_6 rfl (o_aloadN X1 hx hby d32_7 rfl rfl k))) ?_
  obtain ⟨cl2, A2, a2q, a2S, a2N, a2H, a2G⟩ := id V_t
  refine gs (S' := T1.setTop (mkF m 9 #[rv (t), iv ((58 : Int32)), iv ((0 : Int32)), iv ((1 : Int32))] [(.int (2 : Int32)), (.int (1 : Int32))])) (fun _ k => by refine X1.arraylength hx (by rw [e1q]; exact A2.1) (State.isArrayOf_alike hZ.alike A2.2.1) (g := (mkF m 8 #[rv (t), iv ((58 : Int32)), iv ((0 : Int32)), iv ((1 : Int32))] [(.ref t), (.int (1 : Int32))])) rfl rfl (hb hby d32_8) _ ?_; rw [len_of a2S a2N]; exact k) ?_
  refine gs (fun _ k => o_iconst (v := (1 : Int32)) X1 hx hby d32_9 (o_ishr X1 hx hby d32_10 k)) ?_
  refine cS (rest := []) X1 hx hZ hown (ow hw 121 rfl) (ow hw 82 rfl) (ow hw 79 rfl) (ow hw 83 rfl) (rm_min1 l Z a0 hw []  h0 n0 Z0 O0 ) hby d32_11 e1q pd_378 0 (by rw [hml]; rfl) rfl rfl rfl rfl (by decide) (by decide) fun _ T3 Lc3 X3 hQ3 => ?_
  obtain ⟨rfl, N3q, e3q⟩ := hQ3
  have N3 := Fr.app N1 N3q
  refine gs (fun _ k => o_istoreN X3 hx hby d32_14 rfl (o_iloadN X3 hx hby d32_15 rfl (o_iloadN X3 hx hby d32_16 rfl (o_icmpYes (pc' := 22) X3 hx hby d32_17 (tlt (by decide : (0 : Int32) < (1 : Int32))).1 (o_iloadN X3 hx hby d32_22 rfl (X3.ldcInt hx hown (mvT hZ (ow hw 122 rfl)) (g := (mkF m 23 #[rv (t), iv ((58 : Int32)), iv ((0 : Int32)), iv ((1 : Int32))] [(.int (58 : Int32))])) rfl (hb hby d32_23) _ (o_icmpNo X3 hx hby d32_25 (tlt (by decide : (58 : Int32) < (65536 : Int32))).2.1 (o_aloadN X3 hx hby d32_28 rfl rfl (o_iloadN X3 hx hby d32_29 rfl (o_iloadN X3 hx hby d32_30 rfl (o_iloadN X3 hx hby d32_31 rfl k))))))))))) ?_
  refine cS (rest := []) X3 hx hZ hown (ow hw 123 rfl) (ow hw 124 rfl) (ow hw 87 rfl) (ow hw 125 rfl) (rm_ioc16_1 l Z a0 hw [] fm t kb ch0 h0 n0 Z0 O0 S4 hfm V_t hc0 m0 S_ad S_hi S_lo) hby d32_32 e3q pd_403 0 (by rw [hml]; rfl) rfl rfl rfl rfl (by decide) (by decide) fun _ T4 Lc4 X4 hQ4 => ?_
  obtain ⟨rfl, N4q, e4q⟩ := hQ4
  have N4 := Fr.app N3 N4q
  refine gout (v := some (.int (-1 : Int32))) X4 Bd.notSynchronized (fun h => by rw [Bd.returns] at h; cases h) (by decide) (by decide) ?_ (fun fs hr => retI X4 hx Bd.returns (hb hby d32_35) hr)
  rw [e4q]
  exact ⟨rfl, N4, rfl⟩
theorem ef_561 (m : MethodId) (x0 : Addr) (x1 : Int32) (x2 : Int32) : entryFrame m #[(.ref x0), (.int x1), (.int x2)] 3 = mkF m 0 #[.val (.ref x0), .val (.int x1), .val (.int x2)] [] := by first | (simp [entryFrame, mkF, argsToLocals, Value.category]; done) | rfl
theorem d20_23 : decode jdk_42_method_80_code 23 = .ok (.aload_n 0, 1) := by decide +kernel
theorem d20_24 : decode jdk_42_method_80_code 24 = .ok (.getfield 9, 3) := by decide +kernel
theorem d20_27 : decode jdk_42_method_80_code 27 = .ok (.iload_n 1, 1) := by decide +kernel
theorem d20_28 : decode jdk_42_method_80_code 28 = .ok (.iload_n 2, 1) := by decide +kernel
theorem d20_29 : decode jdk_42_method_80_code 29 = .ok (.aload_n 0, 1) := by decide +kernel
theorem d20_30 : decode jdk_42_method_80_code 30 = .ok (.invokevirtual 505, 3) := by decide +kernel
theorem d20_33 : decode jdk_42_method_80_code 33 = .ok (.invokestatic 640, 3) := by decide +kernel
set_option maxRecDepth 65536 in
set_option maxHeartbeats 40000000 in
theorem rm_io2_U1 (l : Launch) (Z : State) (a0 : Array Value) (hw : HW Z a0) (ws : List Jvm.Cond) (a : Addr) (ch0 : Int32) (z : Int32) (fm : Value) (h0 : Heap) (n0 : Nat) (Z0 : n0 ≤ h0.size) (O0 : Old Z n0 h0) (S0 : PS3 Z (.int z)) (hz : ¬ z = 0) (S4 : PS4 Z fm) (hfm : fm.isRef = true) (S_ad : PS0 Z (.int (1 : Int32))) (S_hi : PS1 Z (.int (0 : Int32))) (S_lo : PS2 Z (.int (8 : Int32))) (T_a : Str16 Z h0 a [ch0]) (hc0 : ¬ ch0 < 0 ∧ ¬ (65535 : Int32) < ch0) (m0 : ¬ ch0 = (58 : Int32)) :
    Ctr l Z my4 jdk_42_method_80_code 3 ((Option.some Jvm.ClassFile.FieldType.int)) ws (⟨5, 0, 0, 73⟩ : Room) #[(.ref a), (.int (58 : Int32)), (.int (0 : Int32))] h0 (fun v h L => v = some (.int (-1 : Int32)) ∧ Fr n0 L ∧ h = h0) := by
  refine Ctr.go (plainFor_of_name pn_14) fun p e s m below meth c s₁ Bd hx hby hml hZ hown hnm X0 e0 => ?_
  have N0 := Fr.nil n0
  have K0 := Keep.refl h0 []
  refine gs (S' := s₁.setTop (mkF m 0 #[rv (a), iv ((58 : Int32)), iv ((0 : Int32))] [])) (fun tg kg => castTop (ef_561 m a (58 : Int32) (0 : Int32)) kg) ?_
  obtain ⟨t, kb, E_a, F_c, F_v, V_t⟩ := id T_a
  refine gs (fun _ k => o_aloadN X0 hx hby d20_0 rfl rfl k) ?_
  refine cV (rest := []) X0 hx hZ hown (ow hw 56 rfl) (ow hw 57 rfl) (nfs hZ (ow hw 59 rfl)) (ow hw 59 rfl) (ow hw 58 rfl) (ow hw 7 rfl) (ow hw 60 rfl) (rm_isl1 l Z a0 hw [] a z h0 n0 Z0 O0 S0 hz F_c) hby d20_1 e0 pd_393 0 (by rw [hml]; rfl) E_a rfl rfl rfl rfl (by decide) (by decide) fun _ T1 Lc1 X1 hQ1 => ?_
  obtain ⟨rfl, N1q, e1q⟩ := hQ1
  have N1 := Fr.app N0 N1q
  refine gs (fun _ k => o_ifYes (pc' := 23) X1 hx hby d20_4 ((if0 _ _).trans (teq (by decide : (0 : Int32) = (0 : Int32))).1) (o_aloadN X1 hx hby d20_23 rfl rfl k)) ?_
  refine gF X1 hx hZ hown (host := "") (Or.inl (ow hw 25 rfl)) Via.refl e1q F_v hby d20_24 fun T2 X2 e2 => ?_
  refine gs (fun _ k => o_iloadN X2 hx hby d20_27 rfl (o_iloadN X2 hx hby d20_28 rfl (o_aloadN X2 hx hby d20_29 rfl rfl k))) ?_
  refine cV (rest := [(.int (0 : Int32)), (.int (58 : Int32)), (.ref t)]) X2 hx hZ hown (ow hw 61 rfl) (ow hw 62 rfl) (nfs hZ (ow hw 64 rfl)) (ow hw 64 rfl) (ow hw 63 rfl) (ow hw 7 rfl) (ow hw 65 rfl) (rm_len16_1 l Z a0 hw [] a ch0 z h0 n0 Z0 O0 S0 hz T_a) hby d20_30 e2 pd_401 3 (by rw [hml]; rfl) E_a rfl rfl rfl rfl (by decide) (by decide) fun _ T3 Lc3 X3 hQ3 => ?_
  obtain ⟨rfl, N3q, e3q⟩ := hQ3
  have N3 := Fr.app N1 N3q
  refine cS (rest := []) X3 hx hZ hown (ow hw 117 rfl) (ow hw 118 rfl) (ow hw 87 rfl) (ow hw 119 rfl) (rm_io16_1 l Z a0 hw [] fm t kb ch0 h0 n0 Z0 O0 S4 hfm V_t hc0 m0 S_ad S_hi S_lo) hby d20_33 e3q pd_403 0 (by rw [hml]; rfl) rfl rfl rfl rfl (by decide) (by decide) fun _ T4 Lc4 X4 hQ4 => ?_
  obtain ⟨rfl, N4q, e4q⟩ := hQ4
  have N4 := Fr.app N3 N4q
  refine gout (v := some (.int (-1 : Int32))) X4 Bd.notSynchronized (fun h => by rw [Bd.returns] at h; cases h) (by decide) (by decide) ?_ (fun fs hr => retI X4 hx Bd.returns (hb hby d20_36) hr)
  rw [e4q]
  exact ⟨rfl, N4, rfl⟩
theorem ef_569 (m : MethodId) (x0 : Addr) (x1 : Int32) : entryFrame m #[(.ref x0), (.int x1)] 2 = mkF m 0 #[.val (.ref x0), .val (.int x1)] [] := by first | (simp [entryFrame, mkF, argsToLocals, Value.category]; done) | rfl
set_option maxRecDepth 65536 in
set_option maxHeartbeats 40000000 in
theorem rm_io1_U1 (l : Launch) (Z : State) (a0 : Array Value) (hw : HW Z a0) (ws : List Jvm.Cond) (a : Addr) (ch0 : Int32) (z : Int32) (fm : Value) (h0 : Heap) (n0 : Nat) (Z0 : n0 ≤ h0.size) (O0 : Old Z n0 h0) (S0 : PS3 Z (.int z)) (hz : ¬ z = 0) (S4 : PS4 Z fm) (hfm : fm.isRef = true) (S_ad : PS0 Z (.int (1 : Int32))) (S_hi : PS1 Z (.int (0 : Int32))) (S_lo : PS2 Z (.int (8 : Int32))) (T_a : Str16 Z h0 a [ch0]) (hc0 : ¬ ch0 < 0 ∧ ¬ (65535 : Int32) < ch0) (m0 : ¬ ch0 = (58 : Int32)) :
    Ctr l Z my5 jdk_42_method_79_code 2 ((Option.some Jvm.ClassFile.FieldType.int)) ws (⟨6, 0, 0, 87⟩ : Room) #[(.ref a), (.int (58 : Int32))] h0 (fun v h L => v = some (.int (-1 : Int32)) ∧ Fr n0 L ∧ h = h0) := by
  refine Ctr.go (plainFor_of_name pn_14) fun p e s m below meth c s₁ Bd hx hby hml hZ hown hnm X0 e0 => ?_
  have N0 := Fr.nil n0
  have K0 := Keep.refl h0 []
  refine gs (S' := s₁.setTop (mkF m 0 #[rv (a), iv ((58 : Int32))] [])) (fun tg kg => castTop (ef_569 m a (58 : Int32)) kg) ?_
  refine gs (fun _ k => o_aloadN X0 hx hby d21_0 rfl rfl (o_iloadN X0 hx hby d21_1 rfl (o_iconst (v := (0 : Int32)) X0 hx hby d21_2 k))) ?_
  refine cV (rest := []) X0 hx hZ hown (ow hw 51 rfl) (ow hw 52 rfl) (nfs hZ (ow hw 54 rfl)) (ow hw 54 rfl) (ow hw 53 rfl) (ow hw 7 rfl) (ow hw 55 rfl) (rm_io2_U1 l Z a0 hw [] a ch0 z fm h0 n0 Z0 O0 S0 hz S4 hfm S_ad S_hi S_lo T_a hc0 m0) hby d21_3 e0 pd_378 0 (by rw [hml]; rfl) T_a.exa rfl rfl rfl rfl (by decide) (by decide) fun _ T1 Lc1 X1 hQ1 => ?_
  obtain ⟨rfl, N1q, e1q⟩ := hQ1
  have N1 := Fr.app N0 N1q
  refine gout (v := some (.int (-1 : Int32))) X1 Bd.notSynchronized (fun h => by rw [Bd.returns] at h; cases h) (by decide) (by decide) ?_ (fun fs hr => retI X1 hx Bd.returns (hb hby d21_6) hr)
  rw [e1q]
  exact ⟨rfl, N1, rfl⟩
theorem ef_570 (m : MethodId) (x0 : Addr) (x1 : Addr) : entryFrame m #[(.ref x0), (.ref x1)] 2 = mkF m 0 #[.val (.ref x0), .val (.ref x1)] [] := by first | (simp [entryFrame, mkF, argsToLocals, Value.category]; done) | rfl
set_option maxRecDepth 65536 in
set_option maxHeartbeats 40000000 in
theorem rm_ws_U1 (l : Launch) (Z : State) (a0 : Array Value) (hw : HW Z a0) (ws : List Jvm.Cond) (u : Addr) (a : Addr) (ch0 : Int32) (z : Int32) (fm : Value) (h0 : Heap) (n0 : Nat) (Z0 : n0 ≤ h0.size) (O0 : Old Z n0 h0) (S0 : PS3 Z (.int z)) (hz : ¬ z = 0) (S4 : PS4 Z fm) (hfm : fm.isRef = true) (S_ad : PS0 Z (.int (1 : Int32))) (S_hi : PS1 Z (.int (0 : Int32))) (S_lo : PS2 Z (.int (8 : Int32))) (T_a : Str16 Z h0 a [ch0]) (hc0 : ¬ ch0 < 0 ∧ ¬ (65535 : Int32) < ch0) (m0 : ¬ ch0 = (58 : Int32)) :
    Ctr l Z my1 prog_3_method_3_code 2 ((Option.some (Jvm.ClassFile.FieldType.object "java/lang/String"))) ws (⟨9, 0, 0, 190⟩ : Room) #[(.ref a), (.ref u)] h0 (fun v h L => v = some (.ref a) ∧ Fr n0 L ∧ h = h0) := by
  refine Ctr.go (plainFor_of_name pn_419) fun p e s m below meth c s₁ Bd hx hby hml hZ hown hnm X0 e0 => ?_
  have N0 := Fr.nil n0
  have K0 := Keep.refl h0 []
  refine gs (S' := s₁.setTop (mkF m 0 #[rv (a), rv (u)] [])) (fun tg kg => castTop (ef_570 m a u) kg) ?_
  refine gs (fun _ k => o_aloadN X0 hx hby d22_0 rfl rfl (o_bipush (v := (58 : Int32)) X0 hx hby d22_1 k)) ?_
  refine cV (rest := []) X0 hx hZ hown (ow hw 46 rfl) (ow hw 47 rfl) (nfs hZ (ow hw 49 rfl)) (ow hw 49 rfl) (ow hw 48 rfl) (ow hw 7 rfl) (ow hw 50 rfl) (rm_io1_U1 l Z a0 hw [] a ch0 z fm h0 n0 Z0 O0 S0 hz S4 hfm S_ad S_hi S_lo T_a hc0 m0) hby d22_3 e0 pd_156 0 (by rw [hml]; rfl) T_a.exa rfl rfl rfl rfl (by decide) (by decide) fun _ T1 Lc1 X1 hQ1 => ?_
  obtain ⟨rfl, N1q, e1q⟩ := hQ1
  have N1 := Fr.app N0 N1q
  refine gs (fun _ k => o_ifYes (pc' := 23) X1 hx hby d22_6 ((if0 _ _).trans (tlt (by decide : (-1 : Int32) < (0 : Int32))).1) (o_aloadN X1 hx hby d22_23 rfl rfl k)) ?_
  refine gout (v := some (.ref a)) X1 Bd.notSynchronized (fun h => by rw [Bd.returns] at h; cases h) (by decide) (by decide) ?_ (fun fs hr => retOut X1 hx Bd.returns rfl (Or.inr (Or.inr (Or.inr (Or.inr ⟨rfl, rfl, rfl⟩)))) (hb hby d22_24) hr)
  rw [e1q]
  exact ⟨rfl, N1, rfl⟩
theorem ef_571 (m : MethodId) (x0 : Addr) : entryFrame m #[(.ref x0)] 1 = mkF m 0 #[.val (.ref x0)] [] := by first | (simp [entryFrame, mkF, argsToLocals, Value.category]; done) | rfl
set_option maxRecDepth 65536 in
set_option maxHeartbeats 40000000 in
theorem rm_len16_2 (l : Launch) (Z : State) (a0 : Array Value) (hw : HW Z a0) (ws : List Jvm.Cond) (a : Addr) (ch0 : Int32) (ch1 : Int32) (z : Int32) (h0 : Heap) (n0 : Nat) (Z0 : n0 ≤ h0.size) (O0 : Old Z n0 h0) (S0 : PS3 Z (.int z)) (hz : ¬ z = 0) (T_a : Str16 Z h0 a [ch0, ch1]) :
    Ctr l Z my0 jdk_42_method_54_code 1 ((Option.some Jvm.ClassFile.FieldType.int)) ws (⟨1, 0, 0, 13⟩ : Room) #[(.ref a)] h0 (fun v h L => v = some (.int (2 : Int32)) ∧ Fr n0 L ∧ h = h0) := by
  refine Ctr.go (plainFor_of_name pn_14) fun p e s m below meth c s₁ Bd hx hby hml hZ hown hnm X0 e0 => ?_
  have N0 := Fr.nil n0
  have K0 := Keep.refl h0 []
  refine gs (S' := s₁.setTop (mkF m 0 #[rv (a)] [])) (fun tg kg => castTop (ef_571 m a) kg) ?_
  obtain ⟨t, kb, E_a, F_c, F_v, V_t⟩ := id T_a
  refine gs (fun _ k => o_aloadN X0 hx hby d25_0 rfl rfl k) ?_
  refine gF X0 hx hZ hown (host := "") (Or.inl (ow hw 25 rfl)) Via.refl e0 F_v hby d25_1 fun T1 X1 e1 => ?_
  obtain ⟨cl2, A2, a2q, a2S, a2N, a2H, a2G⟩ := id V_t
  refine gs (S' := T1.setTop (mkF m 5 #[rv (a)] [(.int (4 : Int32))])) (fun _ k => by refine X1.arraylength hx (by rw [e1]; exact A2.1) (State.isArrayOf_alike hZ.alike A2.2.1) (g := (mkF m 4 #[rv (a)] [(.ref t)])) rfl rfl (hb hby d25_4) _ ?_; rw [len_of a2S a2N]; exact k) ?_
  refine gs (fun _ k => o_aloadN X1 hx hby d25_5 rfl rfl k) ?_
  refine cV (rest := [(.int (4 : Int32))]) X1 hx hZ hown (ow hw 66 rfl) (ow hw 67 rfl) (nfs hZ (ow hw 69 rfl)) (ow hw 69 rfl) (ow hw 68 rfl) (ow hw 7 rfl) (ow hw 70 rfl) (rm_coder1 l Z a0 hw [] a z h0 n0 Z0 O0 S0 hz F_c) hby d25_6 e1 pd_471 1 (by rw [hml]; rfl) E_a rfl rfl rfl rfl (by decide) (by decide) fun _ T3 Lc3 X3 hQ3 => ?_
  obtain ⟨rfl, N3q, e3q⟩ := hQ3
  have N3 := Fr.app N0 N3q
  refine gs (fun _ k => o_ishr X3 hx hby d25_9 k) ?_
  refine gout (v := some (.int (2 : Int32))) X3 Bd.notSynchronized (fun h => by rw [Bd.returns] at h; cases h) (by decide) (by decide) ?_ (fun fs hr => retI X3 hx Bd.returns (hb hby d25_10) hr)
  rw [e3q]
  exact ⟨rfl, N3, rfl⟩
theorem ef_572 (m : MethodId) (x0 : Addr) : entryFrame m #[(.ref x0)] 1 = mkF m 0 #[.val (.ref x0)] [] := by first | (simp [entryFrame, mkF, argsToLocals, Value.category]; done) | rfl
set_option maxRecDepth 65536 in
set_option maxHeartbeats 40000000 in
theorem rm_ul2 (l : Launch) (Z : State) (a0 : Array Value) (hw : HW Z a0) (ws : List Jvm.Cond) (t : Addr) (kb : ClassId) (ch0 : Int32) (ch1 : Int32) (h0 : Heap) (n0 : Nat) (Z0 : n0 ≤ h0.size) (O0 : Old Z n0 h0) (V_t : Arv Z h0 t kb .byte (4 : Int32) [(.int (own_b0 ch0)), (.int (own_b1 ch0)), (.int (own_b0 ch1)), (.int (own_b1 ch1))] (.int (0 : Int32))) :
    Ctr l Z my17 jdk_52_method_6_code 1 ((Option.some Jvm.ClassFile.FieldType.int)) ws (⟨0, 0, 0, 0⟩ : Room) #[(.ref t)] h0 (fun v h L => v = some (.int (2 : Int32)) ∧ Fr n0 L ∧ h = h0) := by
  refine Ctr.go (plainFor_of_name pn_117) fun p e s m below meth c s₁ Bd hx hby hml hZ hown hnm X0 e0 => ?_
  have N0 := Fr.nil n0
  have K0 := Keep.refl h0 []
  refine gs (S' := s₁.setTop (mkF m 0 #[rv (t)] [])) (fun tg kg => castTop (ef_572 m t) kg) ?_
  refine gs (fun _ k => o_aloadN X0 hx hby d26_0 rfl rfl k) ?_
  obtain ⟨cl1, A1, a1q, a1S, a1N, a1H, a1G⟩ := id V_t
  refine gs (S' := s₁.setTop (mkF m 2 #[rv (t)] [(.int (4 : Int32))])) (fun _ k => by refine X0.arraylength hx (by rw [e0]; exact A1.1) (State.isArrayOf_alike hZ.alike A1.2.1) (g := (mkF m 1 #[rv (t)] [(.ref t)])) rfl rfl (hb hby d26_1) _ ?_; rw [len_of a1S a1N]; exact k) ?_
  refine gs (fun _ k => o_iconst (v := (1 : Int32)) X0 hx hby d26_2 (o_ishr X0 hx hby d26_3 k)) ?_
  refine gout (v := some (.int (2 : Int32))) X0 Bd.notSynchronized (fun h => by rw [Bd.returns] at h; cases h) (by decide) (by decide) ?_ (fun fs hr => retI X0 hx Bd.returns (hb hby d26_4) hr)
  rw [e0]
  exact ⟨rfl, N0, rfl⟩
theorem ef_573 (m : MethodId) (x0 : Int32) (x1 : Int32) (x2 : Int32) (x3 : Value) (hx3 : x3.isRef = true) : entryFrame m #[(.int x0), (.int x1), (.int x2), x3] 4 = mkF m 0 #[.val (.int x0), .val (.int x1), .val (.int x2), .val x3] [] := by first | (simp [entryFrame, mkF, argsToLocals, Value.category]; done) | rfl | (rcases ref_cases hx3 with rfl | ⟨b, rfl⟩ <;> rfl)
set_option maxRecDepth 65536 in
set_option maxHeartbeats 40000000 in
theorem rm_cft2 (l : Launch) (Z : State) (a0 : Array Value) (hw : HW Z a0) (ws : List Jvm.Cond) (fm : Value) (h0 : Heap) (n0 : Nat) (Z0 : n0 ≤ h0.size) (O0 : Old Z n0 h0) (hfm : fm.isRef = true) :
    Ctr l Z my18 jdk_41_method_12_code 4 ((Option.some Jvm.ClassFile.FieldType.int)) ws (⟨0, 0, 0, 0⟩ : Room) #[(.int (0 : Int32)), (.int (2 : Int32)), (.int (2 : Int32)), fm] h0 (fun v h L => v = some (.int (0 : Int32)) ∧ Fr n0 L ∧ h = h0) := by
  refine Ctr.go (plainFor_of_name pn_491) fun p e s m below meth c s₁ Bd hx hby hml hZ hown hnm X0 e0 => ?_
  have N0 := Fr.nil n0
  have K0 := Keep.refl h0 []
  refine gs (S' := s₁.setTop (mkF m 0 #[iv ((0 : Int32)), iv ((2 : Int32)), iv ((2 : Int32)), .val fm] [])) (fun tg kg => castTop (ef_573 m (0 : Int32) (2 : Int32) (2 : Int32) fm hfm) kg) ?_
  refine gs (fun _ k => o_iloadN X0 hx hby d27_0 rfl (o_ifNo X0 hx hby d27_1 ((if0 _ _).trans (flt (by decide : ¬ ((0 : Int32) < (0 : Int32)))).1) (o_iloadN X0 hx hby d27_4 rfl (o_iloadN X0 hx hby d27_5 rfl (o_icmpNo X0 hx hby d27_6 (flt (by decide : ¬ ((2 : Int32) < (0 : Int32)))).2.2.1 (o_iloadN X0 hx hby d27_9 rfl (o_iloadN X0 hx hby d27_10 rfl (o_icmpYes (pc' := 22) X0 hx hby d27_11 (flt (by decide : ¬ ((2 : Int32) < (2 : Int32)))).2.2.2 (o_iloadN X0 hx hby d27_22 rfl k))))))))) ?_
  refine gout (v := some (.int (0 : Int32))) X0 Bd.notSynchronized (fun h => by rw [Bd.returns] at h; cases h) (by decide) (by decide) ?_ (fun fs hr => retI X0 hx Bd.returns (hb hby d27_23) hr)
  rw [e0]
  exact ⟨rfl, N0, rfl⟩
theorem ef_574 (m : MethodId) (x0 : Int32) (x1 : Int32) (x2 : Int32) : entryFrame m #[(.int x0), (.int x1), (.int x2)] 3 = mkF m 0 #[.val (.int x0), .val (.int x1), .val (.int x2)] [] := by first | (simp [entryFrame, mkF, argsToLocals, Value.category]; done) | rfl
set_option maxRecDepth 65536 in
set_option maxHeartbeats 40000000 in
theorem rm_cbs2 (l : Launch) (Z : State) (a0 : Array Value) (hw : HW Z a0) (ws : List Jvm.Cond) (fm : Value) (h0 : Heap) (n0 : Nat) (Z0 : n0 ≤ h0.size) (O0 : Old Z n0 h0) (S4 : PS4 Z fm) (hfm : fm.isRef = true) :
    Ctr l Z my19 jdk_42_method_158_code 3 ((Option.none : Option Jvm.ClassFile.FieldType)) ws (⟨1, 0, 0, 15⟩ : Room) #[(.int (0 : Int32)), (.int (2 : Int32)), (.int (2 : Int32))] h0 (fun v h L => v = none ∧ Fr n0 L ∧ h = h0) := by
  refine Ctr.go (plainFor_of_name pn_14) fun p e s m below meth c s₁ Bd hx hby hml hZ hown hnm X0 e0 => ?_
  have N0 := Fr.nil n0
  have K0 := Keep.refl h0 []
  refine gs (S' := s₁.setTop (mkF m 0 #[iv ((0 : Int32)), iv ((2 : Int32)), iv ((2 : Int32))] [])) (fun tg kg => castTop (ef_574 m (0 : Int32) (2 : Int32) (2 : Int32)) kg) ?_
  refine gs (fun _ k => o_iloadN X0 hx hby d28_0 rfl (o_iloadN X0 hx hby d28_1 rfl (o_iloadN X0 hx hby d28_2 rfl k))) ?_
  refine gS X0 hx hZ hown (host := "") (Or.inl (ow hw 135 rfl)) Via.refl e0 (S4.ext O0.2) hby d28_3 fun T1 X1 e1 => ?_
  refine cS (rest := []) X1 hx hZ hown (ow hw 137 rfl) (ow hw 138 rfl) (ow hw 136 rfl) (ow hw 139 rfl) (rm_cft2 l Z a0 hw [] fm h0 n0 Z0 O0 hfm) hby d28_6 e1 pd_498 0 (by rw [hml]; rfl) rfl rfl rfl rfl (by decide) (by decide) fun _ T2 Lc2 X2 hQ2 => ?_
  obtain ⟨rfl, N2q, e2q⟩ := hQ2
  have N2 := Fr.app N0 N2q
  refine gs (fun _ k => o_pop X2 hx hby d28_9 rfl k) ?_
  refine gout (v := none) X2 Bd.notSynchronized (fun _ => rfl) (by decide) (by decide) ?_ (fun fs hr => X2.returnOut hx Bd.returns (hb hby d28_10) hr)
  rw [e2q]
  exact ⟨rfl, N2, rfl⟩
theorem ef_575 (m : MethodId) (x0 : Int32) (x1 : Int32) (x2 : Addr) : entryFrame m #[(.int x0), (.int x1), (.ref x2)] 3 = mkF m 0 #[.val (.int x0), .val (.int x1), .val (.ref x2)] [] := by first | (simp [entryFrame, mkF, argsToLocals, Value.category]; done) | rfl
set_option maxRecDepth 65536 in
set_option maxHeartbeats 40000000 in
theorem rm_cbu2 (l : Launch) (Z : State) (a0 : Array Value) (hw : HW Z a0) (ws : List Jvm.Cond) (fm : Value) (t : Addr) (kb : ClassId) (ch0 : Int32) (ch1 : Int32) (h0 : Heap) (n0 : Nat) (Z0 : n0 ≤ h0.size) (O0 : Old Z n0 h0) (S4 : PS4 Z fm) (hfm : fm.isRef = true) (V_t : Arv Z h0 t kb .byte (4 : Int32) [(.int (own_b0 ch0)), (.int (own_b1 ch0)), (.int (own_b0 ch1)), (.int (own_b1 ch1))] (.int (0 : Int32))) :
    Ctr l Z my20 jdk_52_method_93_code 3 ((Option.none : Option Jvm.ClassFile.FieldType)) ws (⟨2, 0, 0, 29⟩ : Room) #[(.int (0 : Int32)), (.int (2 : Int32)), (.ref t)] h0 (fun v h L => v = none ∧ Fr n0 L ∧ h = h0) := by
  refine Ctr.go (plainFor_of_name pn_117) fun p e s m below meth c s₁ Bd hx hby hml hZ hown hnm X0 e0 => ?_
  have N0 := Fr.nil n0
  have K0 := Keep.refl h0 []
  refine gs (S' := s₁.setTop (mkF m 0 #[iv ((0 : Int32)), iv ((2 : Int32)), rv (t)] [])) (fun tg kg => castTop (ef_575 m (0 : Int32) (2 : Int32) t) kg) ?_
  refine gs (fun _ k => o_iloadN X0 hx hby d29_0 rfl (o_iloadN X0 hx hby d29_1 rfl (o_aloadN X0 hx hby d29_2 rfl rfl k))) ?_
  refine cS (rest := [(.int (2 : Int32)), (.int (0 : Int32))]) X0 hx hZ hown (ow hw 129 rfl) (ow hw 130 rfl) (ow hw 87 rfl) (ow hw 131 rfl) (rm_ul2 l Z a0 hw [] t kb ch0 ch1 h0 n0 Z0 O0 V_t) hby d29_3 e0 pd_506 2 (by rw [hml]; rfl) rfl rfl rfl rfl (by decide) (by decide) fun _ T1 Lc1 X1 hQ1 => ?_
  obtain ⟨rfl, N1q, e1q⟩ := hQ1
  have N1 := Fr.app N0 N1q
  refine cS (rest := []) X1 hx hZ hown (ow hw 132 rfl) (ow hw 133 rfl) (ow hw 7 rfl) (ow hw 134 rfl) (rm_cbs2 l Z a0 hw [] fm h0 n0 Z0 O0 S4 hfm) hby d29_6 e1q pd_508 0 (by rw [hml]; rfl) rfl rfl rfl rfl (by decide) (by decide) fun _ T2 Lc2 X2 hQ2 => ?_
  obtain ⟨rfl, N2q, e2q⟩ := hQ2
  have N2 := Fr.app N1 N2q
  refine gout (v := none) X2 Bd.notSynchronized (fun _ => rfl) (by decide) (by decide) ?_ (fun fs hr => X2.returnOut hx Bd.returns (hb hby d29_9) hr)
  rw [e2q]
  exact ⟨rfl, N2, rfl⟩
theorem ef_576 (m : MethodId) (x0 : Addr) (x1 : Int32) (x2 : Int32) (x3 : Int32) : entryFrame m #[(.ref x0), (.int x1), (.int x2), (.int x3)] 5 = mkF m 0 #[.val (.ref x0), .val (.int x1), .val (.int x2), .val (.int x3), .unset] [] := by first | (simp [entryFrame, mkF, argsToLocals, Value.category]; done) | rfl
set_option maxRecDepth 65536 in
set_option maxHeartbeats 40000000 in
theorem rm_iou2 (l : Launch) (Z : State) (a0 : Array Value) (hw : HW Z a0) (ws : List Jvm.Cond) (t : Addr) (kb : ClassId) (ch0 : Int32) (ch1 : Int32) (h0 : Heap) (n0 : Nat) (Z0 : n0 ≤ h0.size) (O0 : Old Z n0 h0) (V_t : Arv Z h0 t kb .byte (4 : Int32) [(.int (own_b0 ch0)), (.int (own_b1 ch0)), (.int (own_b0 ch1)), (.int (own_b1 ch1))] (.int (0 : Int32))) (hc0 : ¬ ch0 < 0 ∧ ¬ (65535 : Int32) < ch0) (hc1 : ¬ ch1 < 0 ∧ ¬ (65535 : Int32) < ch1) (m0 : ¬ ch0 = (58 : Int32)) (m1 : ¬ ch1 = (58 : Int32)) (S_ad : PS0 Z (.int (1 : Int32))) (S_hi : PS1 Z (.int (0 : Int32))) (S_lo : PS2 Z (.int (8 : Int32))) :
    Ctr l Z my21 jdk_52_method_48_code 5 ((Option.some Jvm.ClassFile.FieldType.int)) ws (⟨1, 0, 0, 13⟩ : Room) #[(.ref t), (.int (58 : Int32)), (.int (0 : Int32)), (.int (2 : Int32))] h0 (fun v h L => v = some (.int (-1 : Int32)) ∧ Fr n0 L ∧ h = h0) := by
  refine Ctr.go (plainFor_of_name pn_117) fun p e s m below meth c s₁ Bd hx hby hml hZ hown hnm X0 e0 => ?_
  have N0 := Fr.nil n0
  have K0 := Keep.refl h0 []
  refine gs (S' := s₁.setTop (mkF m 0 #[rv (t), iv ((58 : Int32)), iv ((0 : Int32)), iv ((2 : Int32)), uu] [])) (fun tg kg => castTop (ef_576 m t (58 : Int32) (0 : Int32) (2 : Int32)) kg) ?_
  refine gs (fun _ k => o_iloadN X0 hx hby d30_0 rfl (o_istore X0 hx hby d30_1 rfl (o_iload X0 hx hby d30_3 rfl (o_iloadN X0 hx hby d30_5 rfl (o_icmpNo X0 hx hby d30_6 (tlt (by decide : (0 : Int32) < (2 : Int32))).2.1 (o_aloadN X0 hx hby d30_9 rfl rfl (o_iload X0 hx hby d30_10 rfl k))))))) ?_
  refine cS (rest := []) X0 hx hZ hown (ow hw 114 rfl) (ow hw 115 rfl) (ow hw 87 rfl) (ow hw 116 rfl) (rm_gc20 l Z a0 hw [] t kb ch0 ch1 h0 n0 Z0 O0 V_t hc0 S_ad S_hi S_lo) hby d30_12 e0 pd_229 0 (by rw [hml]; rfl) rfl rfl rfl rfl (by decide) (by decide) fun _ T1 Lc1 X1 hQ1 => ?_
  obtain ⟨rfl, N1q, e1q⟩ := hQ1
  have N1 := Fr.app N0 N1q
  refine gs (fun _ k => o_iloadN X1 hx hby d30_15 rfl (o_icmpYes (pc' := 22) X1 hx hby d30_16 (feq m0).2 (o_iinc X1 hx hby d30_22 rfl rfl (o_goto (pc' := 3) X1 hx hby d30_25 (o_iload X1 hx hby d30_3 rfl (o_iloadN X1 hx hby d30_5 rfl (o_icmpNo X1 hx hby d30_6 (tlt (by decide : (1 : Int32) < (2 : Int32))).2.1 (o_aloadN X1 hx hby d30_9 rfl rfl (o_iload X1 hx hby d30_10 rfl k))))))))) ?_
  refine cS (rest := []) X1 hx hZ hown (ow hw 114 rfl) (ow hw 115 rfl) (ow hw 87 rfl) (ow hw 116 rfl) (rm_gc21 l Z a0 hw [] t kb ch0 ch1 h0 n0 Z0 O0 V_t hc1 S_ad S_hi S_lo) hby d30_12 e1q pd_229 0 (by rw [hml]; rfl) rfl rfl rfl rfl (by decide) (by decide) fun _ T2 Lc2 X2 hQ2 => ?_
  obtain ⟨rfl, N2q, e2q⟩ := hQ2
  have N2 := Fr.app N1 N2q
  refine gs (fun _ k => o_iloadN X2 hx hby d30_15 rfl (o_icmpYes (pc' := 22) X2 hx hby d30_16 (feq m1).2 (o_iinc X2 hx hby d30_22 rfl rfl (o_goto (pc' := 3) X2 hx hby d30_25 (o_iload X2 hx hby d30_3 rfl (o_iloadN X2 hx hby d30_5 rfl (o_icmpYes (pc' := 28) X2 hx hby d30_6 (flt (by decide : ¬ ((2 : Int32) < (2 : Int32)))).2.1 (o_iconst (v := (-1 : Int32)) X2 hx hby d30_28 k)))))))) ?_
  refine gout (v := some (.int (-1 : Int32))) X2 Bd.notSynchronized (fun h => by rw [Bd.returns] at h; cases h) (by decide) (by decide) ?_ (fun fs hr => retI X2 hx Bd.returns (hb hby d30_29) hr)
  rw [e2q]
  exact ⟨rfl, N2, rfl⟩
theorem ef_577 (m : MethodId) (x0 : Addr) (x1 : Int32) (x2 : Int32) (x3 : Int32) : entryFrame m #[(.ref x0), (.int x1), (.int x2), (.int x3)] 4 = mkF m 0 #[.val (.ref x0), .val (.int x1), .val (.int x2), .val (.int x3)] [] := by first | (simp [entryFrame, mkF, argsToLocals, Value.category]; done) | rfl
set_option maxRecDepth 65536 in
set_option maxHeartbeats 40000000 in
theorem rm_ioc16_2 (l : Launch) (Z : State) (a0 : Array Value) (hw : HW Z a0) (ws : List Jvm.Cond) (fm : Value) (t : Addr) (kb : ClassId) (ch0 : Int32) (ch1 : Int32) (h0 : Heap) (n0 : Nat) (Z0 : n0 ≤ h0.size) (O0 : Old Z n0 h0) (S4 : PS4 Z fm) (hfm : fm.isRef = true) (V_t : Arv Z h0 t kb .byte (4 : Int32) [(.int (own_b0 ch0)), (.int (own_b1 ch0)), (.int (own_b0 ch1)), (.int (own_b1 ch1))] (.int (0 : Int32))) (hc0 : ¬ ch0 < 0 ∧ ¬ (65535 : Int32) < ch0) (hc1 : ¬ ch1 < 0 ∧ ¬ (65535 : Int32) < ch1) (m0 : ¬ ch0 = (58 : Int32)) (m1 : ¬ ch1 = (58 : Int32)) (S_ad : PS0 Z (.int (1 : Int32))) (S_hi : PS1 Z (.int (0 : Int32))) (S_lo : PS2 Z (.int (8 : Int32))) :
    Ctr l Z my22 jdk_52_method_47_code 4 ((Option.some Jvm.ClassFile.FieldType.int)) ws (⟨3, 0, 0, 43⟩ : Room) #[(.ref t), (.int (58 : Int32)), (.int (0 : Int32)), (.int (2 : Int32))] h0 (fun v h L => v = some (.int (-1 : Int32)) ∧ Fr n0 L ∧ h = h0) := by
  refine Ctr.go (plainFor_of_name pn_117) fun p e s m below meth c s₁ Bd hx hby hml hZ hown hnm X0 e0 => ?_
  have N0 := Fr.nil n0
  have K0 := Keep.refl h0 []
  refine gs (S' := s₁.setTop (mkF m 0 #[rv (t), iv ((58 : Int32)), iv ((0 : Int32)), iv ((2 : Int32))] [])) (fun tg kg => castTop (ef_577 m t (58 : Int32) (0 : Int32) (2 : Int32)) kg) ?_
  refine gs (fun _ k => o_iloadN X0 hx hby d31_0 rfl (o_iloadN X0 hx hby d31_1 rfl (o_aloadN X0 hx hby d31_2 rfl rfl k))) ?_
  refine cS (rest := []) X0 hx hZ hown (ow hw 126 rfl) (ow hw 127 rfl) (ow hw 87 rfl) (ow hw 128 rfl) (rm_cbu2 l Z a0 hw [] fm t kb ch0 ch1 h0 n0 Z0 O0 S4 hfm V_t) hby d31_3 e0 pd_530 0 (by rw [hml]; rfl) rfl rfl rfl rfl (by decide) (by decide) fun _ T1 Lc1 X1 hQ1 => ?_
  obtain ⟨rfl, N1q, e1q⟩ := hQ1
  have N1 := Fr.app N0 N1q
  refine gs (fun _ k => o_aloadN X1 hx hby d31_6 rfl rfl (o_iloadN X1 hx hby d31_7 rfl (o_iloadN X1 hx hby d31_8 rfl (o_iloadN X1 hx hby d31_9 rfl k)))) ?_
  refine cS (rest := []) X1 hx hZ hown (ow hw 140 rfl) (ow hw 141 rfl) (ow hw 87 rfl) (ow hw 142 rfl) (rm_iou2 l Z a0 hw [] t kb ch0 ch1 h0 n0 Z0 O0 V_t hc0 hc1 m0 m1 S_ad S_hi S_lo) hby d31_10 e1q pd_403 0 (by rw [hml]; rfl) rfl rfl rfl rfl (by decide) (by decide) fun _ T2 Lc2 X2 hQ2 => ?_
  obtain ⟨rfl, N2q, e2q⟩ := hQ2
  have N2 := Fr.app N1 N2q
  refine gout (v := some (.int (-1 : Int32))) X2 Bd.notSynchronized (fun h => by rw [Bd.returns] at h; cases h) (by decide) (by decide) ?_ (fun fs hr => retI X2 hx Bd.returns (hb hby d31_13) hr)
  rw [e2q]
  exact ⟨rfl, N2, rfl⟩
theorem ef_578 (m : MethodId) (x0 : Addr) (x1 : Int32) (x2 : Int32) (x3 : Int32) : entryFrame m #[(.ref x0), (.int x1), (.int x2), (.int x3)] 4 = mkF m 0 #[.val (.ref x0), .val (.int x1), .val (.int x2), .val (.int x3)] [] := by first | (simp [entryFrame, mkF, argsToLocals, Value.category]; done) | rfl
set_option maxRecDepth 65536 in
set_option maxHeartbeats 40000000 in
theorem rm_io16_2 (l : Launch) (Z : State) (a0 : Array Value) (hw : HW Z a0) (ws : List Jvm.Cond) (fm : Value) (t : Addr) (kb : ClassId) (ch0 : Int32) (ch1 : Int32) (h0 : Heap) (n0 : Nat) (Z0 : n0 ≤ h0.size) (O0 : Old Z n0 h0) (S4 : PS4 Z fm) (hfm : fm.isRef = true) (V_t : Arv Z h0 t kb .byte (4 : Int32) [(.int (own_b0 ch0)), (.int (own_b1 ch0)), (.int (own_b0 ch1)), (.int (own_b1 ch1))] (.int (0 : Int32))) (hc0 : ¬ ch0 < 0 ∧ ¬ (65535 : Int32) < ch0) (hc1 : ¬ ch1 < 0 ∧ ¬ (65535 : Int32) < ch1) (m0 : ¬ ch0 = (58 : Int32)) (m1 : ¬ ch1 = (58 : Int32)) (S_ad : PS0 Z (.int (1 : Int32))) (S_hi : PS1 Z (.int (0 : Int32))) (S_lo : PS2 Z (.int (8 : Int32))) :
    Ctr l Z my23 jdk_52_method_40_code 4 ((Option.some Jvm.ClassFile.FieldType.int)) ws (⟨4, 0, 0, 58⟩ : Room) #[(.ref t), (.int (58 : Int32)), (.int (0 : Int32)), (.int (2 : Int32))] h0 (fun v h L => v = some (.int (-1 : Int32)) ∧ Fr n0 L ∧ h = h0) := by
  refine Ctr.go (plainFor_of_name pn_117) fun p e s m below meth c s₁ Bd hx hby hml hZ hown hnm X0 e0 => ?_
  have N0 := Fr.nil n0
  have K0 := Keep.refl h0 []
  refine gs (S' := s₁.setTop (mkF m 0 #[rv (t), iv ((58 : Int32)), iv ((0 : Int32)), iv ((2 : Int32))] [])) (fun tg kg => castTop (ef_578 m t (58 : Int32) (0 : Int32) (2 : Int32)) kg) ?_
  refine gs (fun _ k => o_iloadN X0 hx hby d32_0 rfl (o_iconst (v := (0 : Int32)) X0 hx hby d32_1 k)) ?_
  refine cS (rest := []) X0 hx hZ hown (ow hw 120 rfl) (ow hw 78 rfl) (ow hw 79 rfl) (ow hw 80 rfl) (rm_max l Z a0 hw []  h0 n0 Z0 O0 ) hby d32_2 e0 pd_378 0 (by rw [hml]; rfl) rfl rfl rfl rfl (by decide) (by decide) fun _ T1 Lc1 X1 hQ1 => ?_
  obtain ⟨rfl, N1q, e1q⟩ := hQ1
  have N1 := Fr.app N0 N1q
  refine gs (fun _ k => o_istoreN X1 hx hby d32_5 rfl (o_iloadN X1 hx hby d32_6 rfl (o_aloadN X1 hx hby d32_7 rfl rfl k))) ?_
  obtain ⟨cl2, A2, a2q, a2S, a2N, a2H, a2G⟩ := id V_t
  refine gs (S' := T1.setTop (mkF m 9 #[rv (t), iv ((58 : Int32)), iv ((0 : Int32)), iv ((2 : Int32))] [(.int (4 : Int32)), (.int (2 : Int32))])) (fun _ k => by refine X1.arraylength hx (by rw [e1q]; exact A2.1) (State.isArrayOf_alike hZ.alike A2.2.1) (g := (mkF m 8 #[rv (t), iv ((58 : Int32)), iv ((0 : Int32)), iv ((2 : Int32))] [(.ref t), (.int (2 : Int32))])) rfl rfl (hb hby d32_8) _ ?_; rw [len_of a2S a2N]; exact k) ?_
  refine gs (fun _ k => o_iconst (v := (1 : Int32)) X1 hx hby d32_9 (o_ishr X1 hx hby d32_10 k)) ?_
  refine cS (rest := []) X1 hx hZ hown (ow hw 121 rfl) (ow hw 82 rfl) (ow hw 79 rfl) (ow hw 83 rfl) (rm_min2 l Z a0 hw []  h0 n0 Z0 O0 ) hby d32_11 e1q pd_378 0 (by rw [hml]; rfl) rfl rfl rfl rfl (by decide) (by decide) fun _ T3 Lc3 X3 hQ3 => ?_
  obtain ⟨rfl, N3q, e3q⟩ := hQ3
  have N3 := Fr.app N1 N3q
  refine gs (fun _ k => o_istoreN X3 hx hby d32_14 rfl (o_iloadN X3 hx hby d32_15 rfl (o_iloadN X3 hx hby d32_16 rfl (o_icmpYes (pc' := 22) X3 hx hby d32_17 (tlt (by decide : (0 : Int32) < (2 : Int32))).1 (o_iloadN X3 hx hby d32_22 rfl (X3.ldcInt hx hown (mvT hZ (ow hw 122 rfl)) (g := (mkF m 23 #[rv (t), iv ((58 : Int32)), iv ((0 : Int32)), iv ((2 : Int32))] [(.int (58 : Int32))])) rfl (hb hby d32_23) _ (o_icmpNo X3 hx hby d32_25 (tlt (by decide : (58 : Int32) < (65536 : Int32))).2.1 (o_aloadN X3 hx hby d32_28 rfl rfl (o_iloadN X3 hx hby d32_29 rfl (o_iloadN X3 hx hby d32_30 rfl (o_iloadN X3 hx hby d32_31 rfl k))))))))))) ?_
  refine cS (rest := []) X3 hx hZ hown (ow hw 123 rfl) (ow hw 124 rfl) (ow hw 87 rfl) (ow hw 125 rfl) (rm_ioc16_2 l Z a0 hw [] fm t kb ch0 ch1 h0 n0 Z0 O0 S4 hfm V_t hc0 hc1 m0 m1 S_ad S_hi S_lo) hby d32_32 e3q pd_403 0 (by rw [hml]; rfl) rfl rfl rfl rfl (by decide) (by decide) fun _ T4 Lc4 X4 hQ4 => ?_
  obtain ⟨rfl, N4q, e4q⟩ := hQ4
  have N4 := Fr.app N3 N4q
  refine gout (v := some (.int (-1 : Int32))) X4 Bd.notSynchronized (fun h => by rw [Bd.returns] at h; cases h) (by decide) (by decide) ?_ (fun fs hr => retI X4 hx Bd.returns (hb hby d32_35) hr)
  rw [e4q]
  exact ⟨rfl, N4, rfl⟩
theorem ef_579 (m : MethodId) (x0 : Addr) (x1 : Int32) (x2 : Int32) : entryFrame m #[(.ref x0), (.int x1), (.int x2)] 3 = mkF m 0 #[.val (.ref x0), .val (.int x1), .val (.int x2)] [] := by first | (simp [entryFrame, mkF, argsToLocals, Value.category]; done) | rfl
set_option maxRecDepth 65536 in
set_option maxHeartbeats 40000000 in
theorem rm_io2_U2 (l : Launch) (Z : State) (a0 : Array Value) (hw : HW Z a0) (ws : List Jvm.Cond) (a : Addr) (ch0 : Int32) (ch1 : Int32) (z : Int32) (fm : Value) (h0 : Heap) (n0 : Nat) (Z0 : n0 ≤ h0.size) (O0 : Old Z n0 h0) (S0 : PS3 Z (.int z)) (hz : ¬ z = 0) (S4 : PS4 Z fm) (hfm : fm.isRef = true) (S_ad : PS0 Z (.int (1 : Int32))) (S_hi : PS1 Z (.int (0 : Int32))) (S_lo : PS2 Z (.int (8 : Int32))) (T_a : Str16 Z h0 a [ch0, ch1]) (hc0 : ¬ ch0 < 0 ∧ ¬ (65535 : Int32) < ch0) (hc1 : ¬ ch1 < 0 ∧ ¬ (65535 : Int32) < ch1) (m0 : ¬ ch0 = (58 : Int32)) (m1 : ¬ ch1 = (58 : Int32)) :
    Ctr l Z my4 jdk_42_method_80_code 3 ((Option.some Jvm.ClassFile.FieldType.int)) ws (⟨5, 0, 0, 73⟩ : Room) #[(.ref a), (.int (58 : Int32)), (.int (0 : Int32))] h0 (fun v h L => v = some (.int (-1 : Int32)) ∧ Fr n0 L ∧ h = h0) := by
  refine Ctr.go (plainFor_of_name pn_14) fun p e s m below meth c s₁ Bd hx hby hml hZ hown hnm X0 e0 => ?_
  have N0 := Fr.nil n0
  have K0 := Keep.refl h0 []
  refine gs (S' := s₁.setTop (mkF m 0 #[rv (a), iv ((58 : Int32)), iv ((0 : Int32))] [])) (fun tg kg => castTop (ef_579 m a (58 : Int32) (0 : Int32)) kg) ?_
  obtain ⟨t, kb, E_a, F_c, F_v, V_t⟩ := id T_a
  refine gs (fun _ k => o_aloadN X0 hx hby d20_0 rfl rfl k) ?_
  refine cV (rest := []) X0 hx hZ hown (ow hw 56 rfl) (ow hw 57 rfl) (nfs hZ (ow hw 59 rfl)) (ow hw 59 rfl) (ow hw 58 rfl) (ow hw 7 rfl) (ow hw 60 rfl) (rm_isl1 l Z a0 hw [] a z h0 n0 Z0 O0 S0 hz F_c) hby d20_1 e0 pd_393 0 (by rw [hml]; rfl) E_a rfl rfl rfl rfl (by decide) (by decide) fun _ T1 Lc1 X1 hQ1 => ?_
  obtain ⟨rfl, N1q, e1q⟩ := hQ1
  have N1 := Fr.app N0 N1q
  refine gs (fun _ k => o_ifYes (pc' := 23) X1 hx hby d20_4 ((if0 _ _).trans (teq (by decide : (0 : Int32) = (0 : Int32))).1) (o_aloadN X1 hx hby d20_23 rfl rfl k)) ?_
  refine gF X1 hx hZ hown (host := "") (Or.inl (ow hw 25 rfl)) Via.refl e1q F_v hby d20_24 fun T2 X2 e2 => ?_
  refine gs (fun _ k => o_iloadN X2 hx hby d20_27 rfl (o_iloadN X2 hx hby d20_28 rfl (o_aloadN X2 hx hby d20_29 rfl rfl k))) ?_
  refine cV (rest := [(.int (0 : Int32)), (.int (58 : Int32)), (.ref t)]) X2 hx hZ hown (ow hw 61 rfl) (ow hw 62 rfl) (nfs hZ (ow hw 64 rfl)) (ow hw 64 rfl) (ow hw 63 rfl) (ow hw 7 rfl) (ow hw 65 rfl) (rm_len16_2 l Z a0 hw [] a ch0 ch1 z h0 n0 Z0 O0 S0 hz T_a) hby d20_30 e2 pd_401 3 (by rw [hml]; rfl) E_a rfl rfl rfl rfl (by decide) (by decide) fun _ T3 Lc3 X3 hQ3 => ?_
  obtain ⟨rfl, N3q, e3q⟩ := hQ3
  have N3 := Fr.app N1 N3q
  refine cS (rest := []) X3 hx hZ hown (ow hw 117 rfl) (ow hw 118 rfl) (ow hw 87 rfl) (ow hw 119 rfl) (rm_io16_2 l Z a0 hw [] fm t kb ch0 ch1 h0 n0 Z0 O0 S4 hfm V_t hc0 hc1 m0 m1 S_ad S_hi S_lo) hby d20_33 e3q pd_403 0 (by rw [hml]; rfl) rfl rfl rfl rfl (by decide) (by decide) fun _ T4 Lc4 X4 hQ4 => ?_
  obtain ⟨rfl, N4q, e4q⟩ := hQ4
  have N4 := Fr.app N3 N4q
  refine gout (v := some (.int (-1 : Int32))) X4 Bd.notSynchronized (fun h => by rw [Bd.returns] at h; cases h) (by decide) (by decide) ?_ (fun fs hr => retI X4 hx Bd.returns (hb hby d20_36) hr)
  rw [e4q]
  exact ⟨rfl, N4, rfl⟩
theorem ef_580 (m : MethodId) (x0 : Addr) (x1 : Int32) : entryFrame m #[(.ref x0), (.int x1)] 2 = mkF m 0 #[.val (.ref x0), .val (.int x1)] [] := by first | (simp [entryFrame, mkF, argsToLocals, Value.category]; done) | rfl
set_option maxRecDepth 65536 in
set_option maxHeartbeats 40000000 in
theorem rm_io1_U2 (l : Launch) (Z : State) (a0 : Array Value) (hw : HW Z a0) (ws : List Jvm.Cond) (a : Addr) (ch0 : Int32) (ch1 : Int32) (z : Int32) (fm : Value) (h0 : Heap) (n0 : Nat) (Z0 : n0 ≤ h0.size) (O0 : Old Z n0 h0) (S0 : PS3 Z (.int z)) (hz : ¬ z = 0) (S4 : PS4 Z fm) (hfm : fm.isRef = true) (S_ad : PS0 Z (.int (1 : Int32))) (S_hi : PS1 Z (.int (0 : Int32))) (S_lo : PS2 Z (.int (8 : Int32))) (T_a : Str16 Z h0 a [ch0, ch1]) (hc0 : ¬ ch0 < 0 ∧ ¬ (65535 : Int32) < ch0) (hc1 : ¬ ch1 < 0 ∧ ¬ (65535 : Int32) < ch1) (m0 : ¬ ch0 = (58 : Int32)) (m1 : ¬ ch1 = (58 : Int32)) :
    Ctr l Z my5 jdk_42_method_79_code 2 ((Option.some Jvm.ClassFile.FieldType.int)) ws (⟨6, 0, 0, 87⟩ : Room) #[(.ref a), (.int (58 : Int32))] h0 (fun v h L => v = some (.int (-1 : Int32)) ∧ Fr n0 L ∧ h = h0) := by
  refine Ctr.go (plainFor_of_name pn_14) fun p e s m below meth c s₁ Bd hx hby hml hZ hown hnm X0 e0 => ?_
  have N0 := Fr.nil n0
  have K0 := Keep.refl h0 []
  refine gs (S' := s₁.setTop (mkF m 0 #[rv (a), iv ((58 : Int32))] [])) (fun tg kg => castTop (ef_580 m a (58 : Int32)) kg) ?_
  refine gs (fun _ k => o_aloadN X0 hx hby d21_0 rfl rfl (o_iloadN X0 hx hby d21_1 rfl (o_iconst (v := (0 : Int32)) X0 hx hby d21_2 k))) ?_
  refine cV (rest := []) X0 hx hZ hown (ow hw 51 rfl) (ow hw 52 rfl) (nfs hZ (ow hw 54 rfl)) (ow hw 54 rfl) (ow hw 53 rfl) (ow hw 7 rfl) (ow hw 55 rfl) (rm_io2_U2 l Z a0 hw [] a ch0 ch1 z fm h0 n0 Z0 O0 S0 hz S4 hfm S_ad S_hi S_lo T_a hc0 hc1 m0 m1) hby d21_3 e0 pd_378 0 (by rw [hml]; rfl) T_a.exa rfl rfl rfl rfl (by decide) (by decide) fun _ T1 Lc1 X1 hQ1 => ?_
  obtain ⟨rfl, N1q, e1q⟩ := hQ1
  have N1 := Fr.app N0 N1q
  refine gout (v := some (.int (-1 : Int32))) X1 Bd.notSynchronized (fun h => by rw [Bd.returns] at h; cases h) (by decide) (by decide) ?_ (fun fs hr => retI X1 hx Bd.returns (hb hby d21_6) hr)
  rw [e1q]
  exact ⟨rfl, N1, rfl⟩
theorem ef_581 (m : MethodId) (x0 : Addr) (x1 : Addr) : entryFrame m #[(.ref x0), (.ref x1)] 2 = mkF m 0 #[.val (.ref x0), .val (.ref x1)] [] := by first | (simp [entryFrame, mkF, argsToLocals, Value.category]; done) | rfl
set_option maxRecDepth 65536 in
set_option maxHeartbeats 40000000 in
theorem rm_ws_U2 (l : Launch) (Z : State) (a0 : Array Value) (hw : HW Z a0) (ws : List Jvm.Cond) (u : Addr) (a : Addr) (ch0 : Int32) (ch1 : Int32) (z : Int32) (fm : Value) (h0 : Heap) (n0 : Nat) (Z0 : n0 ≤ h0.size) (O0 : Old Z n0 h0) (S0 : PS3 Z (.int z)) (hz : ¬ z = 0) (S4 : PS4 Z fm) (hfm : fm.isRef = true) (S_ad : PS0 Z (.int (1 : Int32))) (S_hi : PS1 Z (.int (0 : Int32))) (S_lo : PS2 Z (.int (8 : Int32))) (T_a : Str16 Z h0 a [ch0, ch1]) (hc0 : ¬ ch0 < 0 ∧ ¬ (65535 : Int32) < ch0) (hc1 : ¬ ch1 < 0 ∧ ¬ (65535 : Int32) < ch1) (m0 : ¬ ch0 = (58 : Int32)) (m1 : ¬ ch1 = (58 : Int32)) :
    Ctr l Z my1 prog_3_method_3_code 2 ((Option.some (Jvm.ClassFile.FieldType.object "java/lang/String"))) ws (⟨9, 0, 0, 190⟩ : Room) #[(.ref a), (.ref u)] h0 (fun v h L => v = some (.ref a) ∧ Fr n0 L ∧ h = h0) := by
  refine Ctr.go (plainFor_of_name pn_419) fun p e s m below meth c s₁ Bd hx hby hml hZ hown hnm X0 e0 => ?_
  have N0 := Fr.nil n0
  have K0 := Keep.refl h0 []
  refine gs (S' := s₁.setTop (mkF m 0 #[rv (a), rv (u)] [])) (fun tg kg => castTop (ef_581 m a u) kg) ?_
  refine gs (fun _ k => o_aloadN X0 hx hby d22_0 rfl rfl (o_bipush (v := (58 : Int32)) X0 hx hby d22_1 k)) ?_
  refine cV (rest := []) X0 hx hZ hown (ow hw 46 rfl) (ow hw 47 rfl) (nfs hZ (ow hw 49 rfl)) (ow hw 49 rfl) (ow hw 48 rfl) (ow hw 7 rfl) (ow hw 50 rfl) (rm_io1_U2 l Z a0 hw [] a ch0 ch1 z fm h0 n0 Z0 O0 S0 hz S4 hfm S_ad S_hi S_lo T_a hc0 hc1 m0 m1) hby d22_3 e0 pd_156 0 (by rw [hml]; rfl) T_a.exa rfl rfl rfl rfl (by decide) (by decide) fun _ T1 Lc1 X1 hQ1 => ?_
  obtain ⟨rfl, N1q, e1q⟩ := hQ1
  have N1 := Fr.app N0 N1q
  refine gs (fun _ k => o_ifYes (pc' := 23) X1 hx hby d22_6 ((if0 _ _).trans (tlt (by decide : (-1 : Int32) < (0 : Int32))).1) (o_aloadN X1 hx hby d22_23 rfl rfl k)) ?_
  refine gout (v := some (.ref a)) X1 Bd.notSynchronized (fun h => by rw [Bd.returns] at h; cases h) (by decide) (by decide) ?_ (fun fs hr => retOut X1 hx Bd.returns rfl (Or.inr (Or.inr (Or.inr (Or.inr ⟨rfl, rfl, rfl⟩)))) (hb hby d22_24) hr)
  rw [e1q]
  exact ⟨rfl, N1, rfl⟩
theorem ef_582 (m : MethodId) (x0 : Addr) : entryFrame m #[(.ref x0)] 1 = mkF m 0 #[.val (.ref x0)] [] := by first | (simp [entryFrame, mkF, argsToLocals, Value.category]; done) | rfl
set_option maxRecDepth 65536 in
set_option maxHeartbeats 40000000 in
theorem rm_len16_3 (l : Launch) (Z : State) (a0 : Array Value) (hw : HW Z a0) (ws : List Jvm.Cond) (a : Addr) (ch0 : Int32) (ch1 : Int32) (ch2 : Int32) (z : Int32) (h0 : Heap) (n0 : Nat) (Z0 : n0 ≤ h0.size) (O0 : Old Z n0 h0) (S0 : PS3 Z (.int z)) (hz : ¬ z = 0) (T_a : Str16 Z h0 a [ch0, ch1, ch2]) :
    Ctr l Z my0 jdk_42_method_54_code 1 ((Option.some Jvm.ClassFile.FieldType.int)) ws (⟨1, 0, 0, 13⟩ : Room) #[(.ref a)] h0 (fun v h L => v = some (.int (3 : Int32)) ∧ Fr n0 L ∧ h = h0) := by
  refine Ctr.go (plainFor_of_name pn_14) fun p e s m below meth c s₁ Bd hx hby hml hZ hown hnm X0 e0 => ?_
  have N0 := Fr.nil n0
  have K0 := Keep.refl h0 []
  refine gs (S' := s₁.setTop (mkF m 0 #[rv (a)] [])) (fun tg kg => castTop (ef_582 m a) kg) ?_
  obtain ⟨t, kb, E_a, F_c, F_v, V_t⟩ := id T_a
  refine gs (fun _ k => o_aloadN X0 hx hby d25_0 rfl rfl k) ?_
  refine gF X0 hx hZ hown (host := "") (Or.inl (ow hw 25 rfl)) Via.refl e0 F_v hby d25_1 fun T1 X1 e1 => ?_
  obtain ⟨cl2, A2, a2q, a2S, a2N, a2H, a2G⟩ := id V_t
  refine gs (S' := T1.setTop (mkF m 5 #[rv (a)] [(.int (6 : Int32))])) (fun _ k => by refine X1.arraylength hx (by rw [e1]; exact A2.1) (State.isArrayOf_alike hZ.alike A2.2.1) (g := (mkF m 4 #[rv (a)] [(.ref t)])) rfl rfl (hb hby d25_4) _ ?_; rw [len_of a2S a2N]; exact k) ?_
  refine gs (fun _ k => o_aloadN X1 hx hby d25_5 rfl rfl k) ?_
  refine cV (rest := [(.int (6 : Int32))]) X1 hx hZ hown (ow hw 66 rfl) (ow hw 67 rfl) (nfs hZ (ow hw 69 rfl)) (ow hw 69 rfl) (ow hw 68 rfl) (ow hw 7 rfl) (ow hw 70 rfl) (rm_coder1 l Z a0 hw [] a z h0 n0 Z0 O0 S0 hz F_c) hby d25_6 e1 pd_471 1 (by rw [hml]; rfl) E_a rfl rfl rfl rfl (by decide) (by decide) fun _ T3 Lc3 X3 hQ3 => ?_
  obtain ⟨rfl, N3q, e3q⟩ := hQ3
  have N3 := Fr.app N0 N3q
  refine gs (fun _ k => o_ishr X3 hx hby d25_9 k) ?_
  refine gout (v := some (.int (3 : Int32))) X3 Bd.notSynchronized (fun h => by rw [Bd.returns] at h; cases h) (by decide) (by decide) ?_ (fun fs hr => retI X3 hx Bd.returns (hb hby d25_10) hr)
  rw [e3q]
  exact ⟨rfl, N3, rfl⟩
theorem ef_583 (m : MethodId) (x0 : Addr) : entryFrame m #[(.ref x0)] 1 = mkF m 0 #[.val (.ref x0)] [] := by first | (simp [entryFrame, mkF, argsToLocals, Value.category]; done) | rfl
set_option maxRecDepth 65536 in
set_option maxHeartbeats 40000000 in
theorem rm_ul3 (l : Launch) (Z : State) (a0 : Array Value) (hw : HW Z a0) (ws : List Jvm.Cond) (t : Addr) (kb : ClassId) (ch0 : Int32) (ch1 : Int32) (ch2 : Int32) (h0 : Heap) (n0 : Nat) (Z0 : n0 ≤ h0.size) (O0 : Old Z n0 h0) (V_t : Arv Z h0 t kb .byte (6 : Int32) [(.int (own_b0 ch0)), (.int (own_b1 ch0)), (.int (own_b0 ch1)), (.int (own_b1 ch1)), (.int (own_b0 ch2)), (.int (own_b1 ch2))] (.int (0 : Int32))) :
    Ctr l Z my17 jdk_52_method_6_code 1 ((Option.some Jvm.ClassFile.FieldType.int)) ws (⟨0, 0, 0, 0⟩ : Room) #[(.ref t)] h0 (fun v h L => v = some (.int (3 : Int32)) ∧ Fr n0 L ∧ h = h0) := by
  refine Ctr.go (plainFor_of_name pn_117) fun p e s m below meth c s₁ Bd hx hby hml hZ hown hnm X0 e0 => ?_
  have N0 := Fr.nil n0
  have K0 := Keep.refl h0 []
  refine gs (S' := s₁.setTop (mkF m 0 #[rv (t)] [])) (fun tg kg => castTop (ef_583 m t) kg) ?_
  refine gs (fun _ k => o_aloadN X0 hx hby d26_0 rfl rfl k) ?_
  obtain ⟨cl1, A1, a1q, a1S, a1N, a1H, a1G⟩ := id V_t
  refine gs (S' := s₁.setTop (mkF m 2 #[rv (t)] [(.int (6 : Int32))])) (fun _ k => by refine X0.arraylength hx (by rw [e0]; exact A1.1) (State.isArrayOf_alike hZ.alike A1.2.1) (g := (mkF m 1 #[rv (t)] [(.ref t)])) rfl rfl (hb hby d26_1) _ ?_; rw [len_of a1S a1N]; exact k) ?_
  refine gs (fun _ k => o_iconst (v := (1 : Int32)) X0 hx hby d26_2 (o_ishr X0 hx hby d26_3 k)) ?_
  refine gout (v := some (.int (3 : Int32))) X0 Bd.notSynchronized (fun h => by rw [Bd.returns] at h; cases h) (by decide) (by decide) ?_ (fun fs hr => retI X0 hx Bd.returns (hb hby d26_4) hr)
  rw [e0]
  exact ⟨rfl, N0, rfl⟩
theorem ef_584 (m : MethodId) (x0 : Int32) (x1 : Int32) (x2 : Int32) (x3 : Value) (hx3 : x3.isRef = true) : entryFrame m #[(.int x0), (.int x1), (.int x2), x3] 4 = mkF m 0 #[.val (.int x0), .val (.int x1), .val (.int x2), .val x3] [] := by first | (simp [entryFrame, mkF, argsToLocals, Value.category]; done) | rfl | (rcases ref_cases hx3 with rfl | ⟨b, rfl⟩ <;> rfl)
set_option maxRecDepth 65536 in
set_option maxHeartbeats 40000000 in
theorem rm_cft3 (l : Launch) (Z : State) (a0 : Array Value) (hw : HW Z a0) (ws : List Jvm.Cond) (fm : Value) (h0 : Heap) (n0 : Nat) (Z0 : n0 ≤ h0.size) (O0 : Old Z n0 h0) (hfm : fm.isRef = true) :
    Ctr l Z my18 jdk_41_method_12_code 4 ((Option.some Jvm.ClassFile.FieldType.int)) ws (⟨0, 0, 0, 0⟩ : Room) #[(.int (0 : Int32)), (.int (3 : Int32)), (.int (3 : Int32)), fm] h0 (fun v h L => v = some (.int (0 : Int32)) ∧ Fr n0 L ∧ h = h0) := by
  refine Ctr.go (plainFor_of_name pn_491) fun p e s m below meth c s₁ Bd hx hby hml hZ hown hnm X0 e0 => ?_
  have N0 := Fr.nil n0
  have K0 := Keep.refl h0 []
  refine gs (S' := s₁.setTop (mkF m 0 #[iv ((0 : Int32)), iv ((3 : Int32)), iv ((3 : Int32)), .val fm] [])) (fun tg kg => castTop (ef_584 m (0 : Int32) (3 : Int32) (3 : Int32) fm hfm) kg) ?_
  refine gs (fun _ k => o_iloadN X0 hx hby d27_0 rfl (o_ifNo X0 hx hby d27_1 ((if0 _ _).trans (flt (by decide : ¬ ((0 : Int32) < (0 : Int32)))).1) (o_iloadN X0 hx hby d27_4 rfl (o_iloadN X0 hx hby d27_5 rfl (o_icmpNo X0 hx hby d27_6 (flt (by decide : ¬ ((3 : Int32) < (0 : Int32)))).2.2.1 (o_iloadN X0 hx hby d27_9 rfl (o_iloadN X0 hx hby d27_10 rfl (o_icmpYes (pc' := 22) X0 hx hby d27_11 (flt (by decide : ¬ ((3 : Int32) < (3 : Int32)))).2.2.2 (o_iloadN X0 hx hby d27_22 rfl k))))))))) ?_
  refine gout (v := some (.int (0 : Int32))) X0 Bd.notSynchronized (fun h => by rw [Bd.returns] at h; cases h) (by decide) (by decide) ?_ (fun fs hr => retI X0 hx Bd.returns (hb hby d27_23) hr)
  rw [e0]
  exact ⟨rfl, N0, rfl⟩
theorem ef_585 (m : MethodId) (x0 : Int32) (x1 : Int32) (x2 : Int32) : entryFrame m #[(.int x0), (.int x1), (.int x2)] 3 = mkF m 0 #[.val (.int x0), .val (.int x1), .val (.int x2)] [] := by first | (simp [entryFrame, mkF, argsToLocals, Value.category]; done) | rfl
set_option maxRecDepth 65536 in
set_option maxHeartbeats 40000000 in
theorem rm_cbs3 (l : Launch) (Z : State) (a0 : Array Value) (hw : HW Z a0) (ws : List Jvm.Cond) (fm : Value) (h0 : Heap) (n0 : Nat) (Z0 : n0 ≤ h0.size) (O0 : Old Z n0 h0) (S4 : PS4 Z fm) (hfm : fm.isRef = true) :
    Ctr l Z my19 jdk_42_method_158_code 3 ((Option.none : Option Jvm.ClassFile.FieldType)) ws (⟨1, 0, 0, 15⟩ : Room) #[(.int (0 : Int32)), (.int (3 : Int32)), (.int (3 : Int32))] h0 (fun v h L => v = none ∧ Fr n0 L ∧ h = h0) := by
  refine Ctr.go (plainFor_of_name pn_14) fun p e s m below meth c s₁ Bd hx hby hml hZ hown hnm X0 e0 => ?_
  have N0 := Fr.nil n0
  have K0 := Keep.refl h0 []
  refine gs (S' := s₁.setTop (mkF m 0 #[iv ((0 : Int32)), iv ((3 : Int32)), iv ((3 : Int32))] [])) (fun tg kg => castTop (ef_585 m (0 : Int32) (3 : Int32) (3 : Int32)) kg) ?_
  refine gs (fun _ k => o_iloadN X0 hx hby d28_0 rfl (o_iloadN X0 hx hby d28_1 rfl (o_iloadN X0 hx hby d28_2 rfl k))) ?_
  refine gS X0 hx hZ hown (host := "") (Or.inl (ow hw 135 rfl)) Via.refl e0 (S4.ext O0.2) hby d28_3 fun T1 X1 e1 => ?_
  refine cS (rest := []) X1 hx hZ hown (ow hw 137 rfl) (ow hw 138 rfl) (ow hw 136 rfl) (ow hw 139 rfl) (rm_cft3 l Z a0 hw [] fm h0 n0 Z0 O0 hfm) hby d28_6 e1 pd_498 0 (by rw [hml]; rfl) rfl rfl rfl rfl (by decide) (by decide) fun _ T2 Lc2 X2 hQ2 => ?_
  obtain ⟨rfl, N2q, e2q⟩ := hQ2
  have N2 := Fr.app N0 N2q
  refine gs (fun _ k => o_pop X2 hx hby d28_9 rfl k) ?_
  refine gout (v := none) X2 Bd.notSynchronized (fun _ => rfl) (by decide) (by decide) ?_ (fun fs hr => X2.returnOut hx Bd.returns (hb hby d28_10) hr)
  rw [e2q]
  exact ⟨rfl, N2, rfl⟩
theorem ef_586 (m : MethodId) (x0 : Int32) (x1 : Int32) (x2 : Addr) : entryFrame m #[(.int x0), (.int x1), (.ref x2)] 3 = mkF m 0 #[.val (.int x0), .val (.int x1), .val (.ref x2)] [] := by first | (simp [entryFrame, mkF, argsToLocals, Value.category]; done) | rfl
set_option maxRecDepth 65536 in
set_option maxHeartbeats 40000000 in
theorem rm_cbu3 (l : Launch) (Z : State) (a0 : Array Value) (hw : HW Z a0) (ws : List Jvm.Cond) (fm : Value) (t : Addr) (kb : ClassId) (ch0 : Int32) (ch1 : Int32) (ch2 : Int32) (h0 : Heap) (n0 : Nat) (Z0 : n0 ≤ h0.size) (O0 : Old Z n0 h0) (S4 : PS4 Z fm) (hfm : fm.isRef = true) (V_t : Arv Z h0 t kb .byte (6 : Int32) [(.int (own_b0 ch0)), (.int (own_b1 ch0)), (.int (own_b0 ch1)), (.int (own_b1 ch1)), (.int (own_b0 ch2)), (.int (own_b1 ch2))] (.int (0 : Int32))) :
    Ctr l Z my20 jdk_52_method_93_code 3 ((Option.none : Option Jvm.ClassFile.FieldType)) ws (⟨2, 0, 0, 29⟩ : Room) #[(.int (0 : Int32)), (.int (3 : Int32)), (.ref t)] h0 (fun v h L => v = none ∧ Fr n0 L ∧ h = h0) := by
  refine Ctr.go (plainFor_of_name pn_117) fun p e s m below meth c s₁ Bd hx hby hml hZ hown hnm X0 e0 => ?_
  have N0 := Fr.nil n0
  have K0 := Keep.refl h0 []
  refine gs (S' := s₁.setTop (mkF m 0 #[iv ((0 : Int32)), iv ((3 : Int32)), rv (t)] [])) (fun tg kg => castTop (ef_586 m (0 : Int32) (3 : Int32) t) kg) ?_
  refine gs (fun _ k => o_iloadN X0 hx hby d29_0 rfl (o_iloadN X0 hx hby d29_1 rfl (o_aloadN X0 hx hby d29_2 rfl rfl k))) ?_
  refine cS (rest := [(.int (3 : Int32)), (.int (0 : Int32))]) X0 hx hZ hown (ow hw 129 rfl) (ow hw 130 rfl) (ow hw 87 rfl) (ow hw 131 rfl) (rm_ul3 l Z a0 hw [] t kb ch0 ch1 ch2 h0 n0 Z0 O0 V_t) hby d29_3 e0 pd_506 2 (by rw [hml]; rfl) rfl rfl rfl rfl (by decide) (by decide) fun _ T1 Lc1 X1 hQ1 => ?_
  obtain ⟨rfl, N1q, e1q⟩ := hQ1
  have N1 := Fr.app N0 N1q
  refine cS (rest := []) X1 hx hZ hown (ow hw 132 rfl) (ow hw 133 rfl) (ow hw 7 rfl) (ow hw 134 rfl) (rm_cbs3 l Z a0 hw [] fm h0 n0 Z0 O0 S4 hfm) hby d29_6 e1q pd_508 0 (by rw [hml]; rfl) rfl rfl rfl rfl (by decide) (by decide) fun _ T2 Lc2 X2 hQ2 => ?_
  obtain ⟨rfl, N2q, e2q⟩ := hQ2
  have N2 := Fr.app N1 N2q
  refine gout (v := none) X2 Bd.notSynchronized (fun _ => rfl) (by decide) (by decide) ?_ (fun fs hr => X2.returnOut hx Bd.returns (hb hby d29_9) hr)
  rw [e2q]
  exact ⟨rfl, N2, rfl⟩
theorem ef_587 (m : MethodId) (x0 : Addr) (x1 : Int32) (x2 : Int32) (x3 : Int32) : entryFrame m #[(.ref x0), (.int x1), (.int x2), (.int x3)] 5 = mkF m 0 #[.val (.ref x0), .val (.int x1), .val (.int x2), .val (.int x3), .unset] [] := by first | (simp [entryFrame, mkF, argsToLocals, Value.category]; done) | rfl
set_option maxRecDepth 65536 in
set_option maxHeartbeats 40000000 in
theorem rm_iou3 (l : Launch) (Z : State) (a0 : Array Value) (hw : HW Z a0) (ws : List Jvm.Cond) (t : Addr) (kb : ClassId) (ch0 : Int32) (ch1 : Int32) (ch2 : Int32) (h0 : Heap) (n0 : Nat) (Z0 : n0 ≤ h0.size) (O0 : Old Z n0 h0) (V_t : Arv Z h0 t kb .byte (6 : Int32) [(.int (own_b0 ch0)), (.int (own_b1 ch0)), (.int (own_b0 ch1)), (.int (own_b1 ch1)), (.int (own_b0 ch2)), (.int (own_b1 ch2))] (.int (0 : Int32))) (hc0 : ¬ ch0 < 0 ∧ ¬ (65535 : Int32) < ch0) (hc1 : ¬ ch1 < 0 ∧ ¬ (65535 : Int32) < ch1) (hc2 : ¬ ch2 < 0 ∧ ¬ (65535 : Int32) < ch2) (m0 : ¬ ch0 = (58 : Int32)) (m1 : ¬ ch1 = (58 : Int32)) (m2 : ¬ ch2 = (58 : Int32)) (S_ad : PS0 Z (.int (1 : Int32))) (S_hi : PS1 Z (.int (0 : Int32))) (S_lo : PS2 Z (.int (8 : Int32))) :
    Ctr l Z my21 jdk_52_method_48_code 5 ((Option.some Jvm.ClassFile.FieldType.int)) ws (⟨1, 0, 0, 13⟩ : Room) #[(.ref t), (.int (58 : Int32)), (.int (0 : Int32)), (.int (3 : Int32))] h0 (fun v h L => v = some (.int (-1 : Int32)) ∧ Fr n0 L ∧ h = h0) := by
  refine Ctr.go (plainFor_of_name pn_117) fun p e s m below meth c s₁ Bd hx hby hml hZ hown hnm X0 e0 => ?_
  have N0 := Fr.nil n0
  have K0 := Keep.refl h0 []
  refine gs (S' := s₁.setTop (mkF m 0 #[rv (t), iv ((58 : Int32)), iv ((0 : Int32)), iv ((3 : Int32)), uu] [])) (fun tg kg => castTop (ef_587 m t (58 : Int32) (0 : Int32) (3 : Int32)) kg) ?_
  refine gs (fun _ k => o_iloadN X0 hx hby d30_0 rfl (o_istore X0 hx hby d30_1 rfl (o_iload X0 hx hby d30_3 rfl (o_iloadN X0 hx hby d30_5 rfl (o_icmpNo X0 hx hby d30_6 (tlt (by decide : (0 : Int32) < (3 : Int32))).2.1 (o_aloadN X0 hx hby d30_9 rfl rfl (o_iload X0 hx hby d30_10 rfl k))))))) ?_
  refine cS (rest := []) X0 hx hZ hown (ow hw 114 rfl) (ow hw 115 rfl) (ow hw 87 rfl) (ow hw 116 rfl) (rm_gc30 l Z a0 hw [] t kb ch0 ch1 ch2 h0 n0 Z0 O0 V_t hc0 S_ad S_hi S_lo) hby d30_12 e0 pd_229 0 (by rw [hml]; rfl) rfl rfl rfl rfl (by decide) (by decide) fun _ T1 Lc1 X1 hQ1 => ?_
  obtain ⟨rfl, N1q, e1q⟩ := hQ1
  have N1 := Fr.app N0 N1q
  refine gs (fun _ k => o_iloadN X1 hx hby d30_15 rfl (o_icmpYes (pc' := 22) X1 hx hby d30_16 (feq m0).2 (o_iinc X1 hx hby d30_22 rfl rfl (o_goto (pc' := 3) X1 hx hby d30_25 (o_iload X1 hx hby d30_3 rfl (o_iloadN X1 hx hby d30_5 rfl (o_icmpNo X1 hx hby d30_6 (tlt (by decide : (1 : Int32) < (3 : Int32))).2.1 (o_aloadN X1 hx hby d30_9 rfl rfl (o_iload X1 hx hby d30_10 rfl k))))))))) ?_
  refine cS (rest := []) X1 hx hZ hown (ow hw 114 rfl) (ow hw 115 rfl) (ow hw 87 rfl) (ow hw 116 rfl) (rm_gc31 l Z a0 hw [] t kb ch0 ch1 ch2 h0 n0 Z0 O0 V_t hc1 S_ad S_hi S_lo) hby d30_12 e1q pd_229 0 (by rw [hml]; rfl) rfl rfl rfl rfl (by decide) (by decide) fun _ T2 Lc2 X2 hQ2 => ?_
  obtain ⟨rfl, N2q, e2q⟩ := hQ2
  have N2 := Fr.app N1 N2q
  refine gs (fun _ k => o_iloadN X2 hx hby d30_15 rfl (o_icmpYes (pc' := 22) X2 hx hby d30_16 (feq m1).2 (o_iinc X2 hx hby d30_22 rfl rfl (o_goto (pc' := 3) X2 hx hby d30_25 (o_iload X2 hx hby d30_3 rfl (o_iloadN X2 hx hby d30_5 rfl (o_icmpNo X2 hx hby d30_6 (tlt (by decide : (2 : Int32) < (3 : Int32))).2.1 (o_aloadN X2 hx hby d30_9 rfl rfl (o_iload X2 hx hby d30_10 rfl k))))))))) ?_
  refine cS (rest := []) X2 hx hZ hown (ow hw 114 rfl) (ow hw 115 rfl) (ow hw 87 rfl) (ow hw 116 rfl) (rm_gc32 l Z a0 hw [] t kb ch0 ch1 ch2 h0 n0 Z0 O0 V_t hc2 S_ad S_hi S_lo) hby d30_12 e2q pd_229 0 (by rw [hml]; rfl) rfl rfl rfl rfl (by decide) (by decide) fun _ T3 Lc3 X3 hQ3 => ?_
  obtain ⟨rfl, N3q, e3q⟩ := hQ3
  have N3 := Fr.app N2 N3q
  refine gs (fun _ k => o_iloadN X3 hx hby d30_15 rfl (o_icmpYes (pc' := 22) X3 hx hby d30_16 (feq m2).2 (o_iinc X3 hx hby d30_22 rfl rfl (o_goto (pc' := 3) X3 hx hby d30_25 (o_iload X3 hx hby d30_3 rfl (o_iloadN X3 hx hby d30_5 rfl (o_icmpYes (pc' := 28) X3 hx hby d30_6 (flt (by decide : ¬ ((3 : Int32) < (3 : Int32)))).2.1 (o_iconst (v := (-1 : Int32)) X3 hx hby d30_28 k)))))))) ?_
  refine gout (v := some (.int (-1 : Int32))) X3 Bd.notSynchronized (fun h => by rw [Bd.returns] at h; cases h) (by decide) (by decide) ?_ (fun fs hr => retI X3 hx Bd.returns (hb hby d30_29) hr)
  rw [e3q]
  exact ⟨rfl, N3, rfl⟩
theorem ef_588 (m : MethodId) (x0 : Addr) (x1 : Int32) (x2 : Int32) (x3 : Int32) : entryFrame m #[(.ref x0), (.int x1), (.int x2), (.int x3)] 4 = mkF m 0 #[.val (.ref x0), .val (.int x1), .val (.int x2), .val (.int x3)] [] := by first | (simp [entryFrame, mkF, argsToLocals, Value.category]; done) | rfl
set_option maxRecDepth 65536 in
set_option maxHeartbeats 40000000 in
theorem rm_ioc16_3 (l : Launch) (Z : State) (a0 : Array Value) (hw : HW Z a0) (ws : List Jvm.Cond) (fm : Value) (t : Addr) (kb : ClassId) (ch0 : Int32) (ch1 : Int32) (ch2 : Int32) (h0 : Heap) (n0 : Nat) (Z0 : n0 ≤ h0.size) (O0 : Old Z n0 h0) (S4 : PS4 Z fm) (hfm : fm.isRef = true) (V_t : Arv Z h0 t kb .byte (6 : Int32) [(.int (own_b0 ch0)), (.int (own_b1 ch0)), (.int (own_b0 ch1)), (.int (own_b1 ch1)), (.int (own_b0 ch2)), (.int (own_b1 ch2))] (.int (0 : Int32))) (hc0 : ¬ ch0 < 0 ∧ ¬ (65535 : Int32) < ch0) (hc1 : ¬ ch1 < 0 ∧ ¬ (65535 : Int32) < ch1) (hc2 : ¬ ch2 < 0 ∧ ¬ (65535 : Int32) < ch2) (m0 : ¬ ch0 = (58 : Int32)) (m1 : ¬ ch1 = (58 : Int32)) (m2 : ¬ ch2 = (58 : Int32)) (S_ad : PS0 Z (.int (1 : Int32))) (S_hi : PS1 Z (.int (0 : Int32))) (S_lo : PS2 Z (.int (8 : Int32))) :
    Ctr l Z my22 jdk_52_method_47_code 4 ((Option.some Jvm.ClassFile.FieldType.int)) ws (⟨3, 0, 0, 43⟩ : Room) #[(.ref t), (.int (58 : Int32)), (.int (0 : Int32)), (.int (3 : Int32))] h0 (fun v h L => v = some (.int (-1 : Int32)) ∧ Fr n0 L ∧ h = h0) := by
  refine Ctr.go (plainFor_of_name pn_117) fun p e s m below meth c s₁ Bd hx hby hml hZ hown hnm X0 e0 => ?_
  have N0 := Fr.nil n0
  have K0 := Keep.refl h0 []
  refine gs (S' := s₁.setTop (mkF m 0 #[rv (t), iv ((58 : Int32)), iv ((0 : Int32)), iv ((3 : Int32))] [])) (fun tg kg => castTop (ef_588 m t (58 : Int32) (0 : Int32) (3 : Int32)) kg) ?_
  refine gs (fun _ k => o_iloadN X0 hx hby d31_0 rfl (o_iloadN X0 hx hby d31_1 rfl (o_aloadN X0 hx hby d31_2 rfl rfl k))) ?_
  refine cS (rest := []) X0 hx hZ hown (ow hw 126 rfl) (ow hw 127 rfl) (ow hw 87 rfl) (ow hw 128 rfl) (rm_cbu3 l Z a0 hw [] fm t kb ch0 ch1 ch2 h0 n0 Z0 O0 S4 hfm V_t) hby d31_3 e0 pd_530 0 (by rw [hml]; rfl) rfl rfl rfl rfl (by decide) (by decide) fun _ T1 Lc1 X1 hQ1 => ?_
  obtain ⟨rfl, N1q, e1q⟩ := hQ1
  have N1 := Fr.app N0 N1q
  refine gs (fun _ k => o_aloadN X1 hx hby d31_6 rfl rfl (o_iloadN X1 hx hby d31_7 rfl (o_iloadN X1 hx hby d31_8 rfl (o_iloadN X1 hx hby d31_9 rfl k)))) ?_
  refine cS (rest := []) X1 hx hZ hown (ow hw 140 rfl) (ow hw 141 rfl) (ow hw 87 rfl) (ow hw 142 rfl) (rm_iou3 l Z a0 hw [] t kb ch0 ch1 ch2 h0 n0 Z0 O0 V_t hc0 hc1 hc2 m0 m1 m2 S_ad S_hi S_lo) hby d31_10 e1q pd_403 0 (by rw [hml]; rfl) rfl rfl rfl rfl (by decide) (by decide) fun _ T2 Lc2 X2 hQ2 => ?_
  obtain ⟨rfl, N2q, e2q⟩ := hQ2
  have N2 := Fr.app N1 N2q
  refine gout (v := some (.int (-1 : Int32))) X2 Bd.notSynchronized (fun h => by rw [Bd.returns] at h; cases h) (by decide) (by decide) ?_ (fun fs hr => retI X2 hx Bd.returns (hb hby d31_13) hr)
  rw [e2q]
  exact ⟨rfl, N2, rfl⟩
theorem ef_589 (m : MethodId) (x0 : Addr) (x1 : Int32) (x2 : Int32) (x3 : Int32) : entryFrame m #[(.ref x0), (.int x1), (.int x2), (.int x3)] 4 = mkF m 0 #[.val (.ref x0), .val (.int x1), .val (.int x2), .val (.int x3)] [] := by first | (simp [entryFrame, mkF, argsToLocals, Value.category]; done) | rfl
set_option maxRecDepth 65536 in
set_option maxHeartbeats 40000000 in
theorem rm_io16_3 (l : Launch) (Z : State) (a0 : Array Value) (hw : HW Z a0) (ws : List Jvm.Cond) (fm : Value) (t : Addr) (kb : ClassId) (ch0 : Int32) (ch1 : Int32) (ch2 : Int32) (h0 : Heap) (n0 : Nat) (Z0 : n0 ≤ h0.size) (O0 : Old Z n0 h0) (S4 : PS4 Z fm) (hfm : fm.isRef = true) (V_t : Arv Z h0 t kb .byte (6 : Int32) [(.int (own_b0 ch0)), (.int (own_b1 ch0)), (.int (own_b0 ch1)), (.int (own_b1 ch1)), (.int (own_b0 ch2)), (.int (own_b1 ch2))] (.int (0 : Int32))) (hc0 : ¬ ch0 < 0 ∧ ¬ (65535 : Int32) < ch0) (hc1 : ¬ ch1 < 0 ∧ ¬ (65535 : Int32) < ch1) (hc2 : ¬ ch2 < 0 ∧ ¬ (65535 : Int32) < ch2) (m0 : ¬ ch0 = (58 : Int32)) (m1 : ¬ ch1 = (58 : Int32)) (m2 : ¬ ch2 = (58 : Int32)) (S_ad : PS0 Z (.int (1 : Int32))) (S_hi : PS1 Z (.int (0 : Int32))) (S_lo : PS2 Z (.int (8 : Int32))) :
    Ctr l Z my23 jdk_52_method_40_code 4 ((Option.some Jvm.ClassFile.FieldType.int)) ws (⟨4, 0, 0, 58⟩ : Room) #[(.ref t), (.int (58 : Int32)), (.int (0 : Int32)), (.int (3 : Int32))] h0 (fun v h L => v = some (.int (-1 : Int32)) ∧ Fr n0 L ∧ h = h0) := by
  refine Ctr.go (plainFor_of_name pn_117) fun p e s m below meth c s₁ Bd hx hby hml hZ hown hnm X0 e0 => ?_
  have N0 := Fr.nil n0
  have K0 := Keep.refl h0 []
  refine gs (S' := s₁.setTop (mkF m 0 #[rv (t), iv ((58 : Int32)), iv ((0 : Int32)), iv ((3 : Int32))] [])) (fun tg kg => castTop (ef_589 m t (58 : Int32) (0 : Int32) (3 : Int32)) kg) ?_
  refine gs (fun _ k => o_iloadN X0 hx hby d32_0 rfl (o_iconst (v := (0 : Int32)) X0 hx hby d32_1 k)) ?_
  refine cS (rest := []) X0 hx hZ hown (ow hw 120 rfl) (ow hw 78 rfl) (ow hw 79 rfl) (ow hw 80 rfl) (rm_max l Z a0 hw []  h0 n0 Z0 O0 ) hby d32_2 e0 pd_378 0 (by rw [hml]; rfl) rfl rfl rfl rfl (by decide) (by decide) fun _ T1 Lc1 X1 hQ1 => ?_
  obtain ⟨rfl, N1q, e1q⟩ := hQ1
  have N1 := Fr.app N0 N1q
  refine gs (fun _ k => o_istoreN X1 hx hby d32_5 rfl (o_iloadN X1 hx hby d32_6 rfl (o_aloadN X1 hx hby d32_7 rfl rfl k))) ?_
  obtain ⟨cl2, A2, a2q, a2S, a2N, a2H, a2G⟩ := id V_t
  refine gs (S' := T1.setTop (mkF m 9 #[rv (t), iv ((58 : Int32)), iv ((0 : Int32)), iv ((3 : Int32))] [(.int (6 : Int32)), (.int (3 : Int32))])) (fun _ k => by refine X1.arraylength hx (by rw [e1q]; exact A2.1) (State.isArrayOf_alike hZ.alike A2.2.1) (g := (mkF m 8 #[rv (t), iv ((58 : Int32)), iv ((0 : Int32)), iv ((3 : Int32))] [(.ref t), (.int (3 : Int32))])) rfl rfl (hb hby d32_8) _ ?_; rw [len_of a2S a2N]; exact k) ?_
  refine gs (fun _ k => o_iconst (v := (1 : Int32)) X1 hx hby d32_9 (o_ishr X1 hx hby d32_10 k)) ?_
  refine cS (rest := []) X1 hx hZ hown (ow hw 121 rfl) (ow hw 82 rfl) (ow hw 79 rfl) (ow hw 83 rfl) (rm_min3 l Z a0 hw []  h0 n0 Z0 O0 ) hby d32_11 e1q pd_378 0 (by rw [hml]; rfl) rfl rfl rfl rfl (by decide) (by decide) fun _ T3 Lc3 X3 hQ3 => ?_
  obtain ⟨rfl, N3q, e3q⟩ := hQ3
  have N3 := Fr.app N1 N3q
  refine gs (fun _ k => o_istoreN X3 hx hby d32_14 rfl (o_iloadN X3 hx hby d32_15 rfl (o_iloadN X3 hx hby d32_16 rfl (o_icmpYes (pc' := 22) X3 hx hby d32_17 (tlt (by decide : (0 : Int32) < (3 : Int32))).1 (o_iloadN X3 hx hby d32_22 rfl (X3.ldcInt hx hown (mvT hZ (ow hw 122 rfl)) (g := (mkF m 23 #[rv (t), iv ((58 : Int32)), iv ((0 : Int32)), iv ((3 : Int32))] [(.int (58 : Int32))])) rfl (hb hby d32_23) _ (o_icmpNo X3 hx hby d32_25 (tlt (by decide : (58 : Int32) < (65536 : Int32))).2.1 (o_aloadN X3 hx hby d32_28 rfl rfl (o_iloadN X3 hx hby d32_29 rfl (o_iloadN X3 hx hby d32_30 rfl (o_iloadN X3 hx hby d32_31 rfl k))))))))))) ?_
  refine cS (rest := []) X3 hx hZ hown (ow hw 123 rfl) (ow hw 124 rfl) (ow hw 87 rfl) (ow hw 125 rfl) (rm_ioc16_3 l Z a0 hw [] fm t kb ch0 ch1 ch2 h0 n0 Z0 O0 S4 hfm V_t hc0 hc1 hc2 m0 m1 m2 S_ad S_hi S_lo) hby d32_32 e3q pd_403 0 (by rw [hml]; rfl) rfl rfl rfl rfl (by decide) (by decide) fun _ T4 Lc4 X4 hQ4 => ?_
  obtain ⟨rfl, N4q, e4q⟩ := hQ4
  have N4 := Fr.app N3 N4q
  refine gout (v := some (.int (-1 : Int32))) X4 Bd.notSynchronized (fun h => by rw [Bd.returns] at h; cases h) (by decide) (by decide) ?_ (fun fs hr => retI X4 hx Bd.returns (hb hby d32_35) hr)
  rw [e4q]
  exact ⟨rfl, N4, rfl⟩
theorem ef_590 (m : MethodId) (x0 : Addr) (x1 : Int32) (x2 : Int32) : entryFrame m #[(.ref x0), (.int x1), (.int x2)] 3 = mkF m 0 #[.val (.ref x0), .val (.int x1), .val (.int x2)] [] := by first | (simp [entryFrame, mkF, argsToLocals, Value.category]; done) | rfl
set_option maxRecDepth 65536 in
set_option maxHeartbeats 40000000 in
theorem rm_io2_U3 (l : Launch) (Z : State) (a0 : Array Value) (hw : HW Z a0) (ws : List Jvm.Cond) (a : Addr) (ch0 : Int32) (ch1 : Int32) (ch2 : Int32) (z : Int32) (fm : Value) (h0 : Heap) (n0 : Nat) (Z0 : n0 ≤ h0.size) (O0 : Old Z n0 h0) (S0 : PS3 Z (.int z)) (hz : ¬ z = 0) (S4 : PS4 Z fm) (hfm : fm.isRef = true) (S_ad : PS0 Z (.int (1 : Int32))) (S_hi : PS1 Z (.int (0 : Int32))) (S_lo : PS2 Z (.int (8 : Int32))) (T_a : Str16 Z h0 a [ch0, ch1, ch2]) (hc0 : ¬ ch0 < 0 ∧ ¬ (65535 : Int32) < ch0) (hc1 : ¬ ch1 < 0 ∧ ¬ (65535 : Int32) < ch1) (hc2 : ¬ ch2 < 0 ∧ ¬ (65535 : Int32) < ch2) (m0 : ¬ ch0 = (58 : Int32)) (m1 : ¬ ch1 = (58 : Int32)) (m2 : ¬ ch2 = (58 : Int32)) :
    Ctr l Z my4 jdk_42_method_80_code 3 ((Option.some Jvm.ClassFile.FieldType.int)) ws (⟨5, 0, 0, 73⟩ : Room) #[(.ref a), (.int (58 : Int32)), (.int (0 : Int32))] h0 (fun v h L => v = some (.int (-1 : Int32)) ∧ Fr n0 L ∧ h = h0) := by
  refine Ctr.go (plainFor_of_name pn_14) fun p e s m below meth c s₁ Bd hx hby hml hZ hown hnm X0 e0 => ?_
  have N0 := Fr.nil n0
  have K0 := Keep.refl h0 []
  refine gs (S' := s₁.setTop (mkF m 0 #[rv (a), iv ((58 : Int32)), iv ((0 : Int32))] [])) (fun tg kg => castTop (ef_590 m a (58 : Int32) (0 : Int32)) kg) ?_
  obtain ⟨t, kb, E_a, F_c, F_v, V_t⟩ := id T_a
  refine gs (fun _ k => o_aloadN X0 hx hby d20_0 rfl rfl k) ?_
  refine cV (rest := []) X0 hx hZ hown (ow hw 56 rfl) (ow hw 57 rfl) (nfs hZ (ow hw 59 rfl)) (ow hw 59 rfl) (ow hw 58 rfl) (ow hw 7 rfl) (ow hw 60 rfl) (rm_isl1 l Z a0 hw [] a z h0 n0 Z0 O0 S0 hz F_c) hby d20_1 e0 pd_393 0 (by rw [hml]; rfl) E_a rfl rfl rfl rfl (by decide) (by decide) fun _ T1 Lc1 X1 hQ1 => ?_
  obtain ⟨rfl, N1q, e1q⟩ := hQ1
  have N1 := Fr.app N0 N1q
  refine gs (fun _ k => o_ifYes (pc' := 23) X1 hx hby d20_4 ((if0 _ _).trans (teq (by decide : (0 : Int32) = (0 : Int32))).1) (o_aloadN X1 hx hby d20_23 rfl rfl k)) ?_
  refine gF X1 hx hZ hown (host := "") (Or.inl (ow hw 25 rfl)) Via.refl e1q F_v hby d20_24 fun T2 X2 e2 => ?_
  refine gs (fun _ k => o_iloadN X2 hx hby d20_27 rfl (o_iloadN X2 hx hby d20_28 rfl (o_aloadN X2 hx hby d20_29 rfl rfl k))) ?_
  refine cV (rest := [(.int (0 : Int32)), (.int (58 : Int32)), (.ref t)]) X2 hx hZ hown (ow hw 61 rfl) (ow hw 62 rfl) (nfs hZ (ow hw 64 rfl)) (ow hw 64 rfl) (ow hw 63 rfl) (ow hw 7 rfl) (ow hw 65 rfl) (rm_len16_3 l Z a0 hw [] a ch0 ch1 ch2 z h0 n0 Z0 O0 S0 hz T_a) hby d20_30 e2 pd_401 3 (by rw [hml]; rfl) E_a rfl rfl rfl rfl (by decide) (by decide) fun _ T3 Lc3 X3 hQ3 => ?_
  obtain ⟨rfl, N3q, e3q⟩ := hQ3
  have N3 := Fr.app N1 N3q
  refine cS (rest := []) X3 hx hZ hown (ow hw 117 rfl) (ow hw 118 rfl) (ow hw 87 rfl) (ow hw 119 rfl) (rm_io16_3 l Z a0 hw [] fm t kb ch0 ch1 ch2 h0 n0 Z0 O0 S4 hfm V_t hc0 hc1 hc2 m0 m1 m2 S_ad S_hi S_lo) hby d20_33 e3q pd_403 0 (by rw [hml]; rfl) rfl rfl rfl rfl (by decide) (by decide) fun _ T4 Lc4 X4 hQ4 => ?_
  obtain ⟨rfl, N4q, e4q⟩ := hQ4
  have N4 := Fr.app N3 N4q
  refine gout (v := some (.int (-1 : Int32))) X4 Bd.notSynchronized (fun h => by rw [Bd.returns] at h; cases h) (by decide) (by decide) ?_ (fun fs hr => retI X4 hx Bd.returns (hb hby d20_36) hr)
  rw [e4q]
  exact ⟨rfl, N4, rfl⟩
theorem ef_591 (m : MethodId) (x0 : Addr) (x1 : Int32) : entryFrame m #[(.ref x0), (.int x1)] 2 = mkF m 0 #[.val (.ref x0), .val (.int x1)] [] := by first | (simp [entryFrame, mkF, argsToLocals, Value.category]; done) | rfl
set_option maxRecDepth 65536 in
set_option maxHeartbeats 40000000 in
theorem rm_io1_U3 (l : Launch) (Z : State) (a0 : Array Value) (hw : HW Z a0) (ws : List Jvm.Cond) (a : Addr) (ch0 : Int32) (ch1 : Int32) (ch2 : Int32) (z : Int32) (fm : Value) (h0 : Heap) (n0 : Nat) (Z0 : n0 ≤ h0.size) (O0 : Old Z n0 h0) (S0 : PS3 Z (.int z)) (hz : ¬ z = 0) (S4 : PS4 Z fm) (hfm : fm.isRef = true) (S_ad : PS0 Z (.int (1 : Int32))) (S_hi : PS1 Z (.int (0 : Int32))) (S_lo : PS2 Z (.int (8 : Int32))) (T_a : Str16 Z h0 a [ch0, ch1, ch2]) (hc0 : ¬ ch0 < 0 ∧ ¬ (65535 : Int32) < ch0) (hc1 : ¬ ch1 < 0 ∧ ¬ (65535 : Int32) < ch1) (hc2 : ¬ ch2 < 0 ∧ ¬ (65535 : Int32) < ch2) (m0 : ¬ ch0 = (58 : Int32)) (m1 : ¬ ch1 = (58 : Int32)) (m2 : ¬ ch2 = (58 : Int32)) :
    Ctr l Z my5 jdk_42_method_79_code 2 ((Option.some Jvm.ClassFile.FieldType.int)) ws (⟨6, 0, 0, 87⟩ : Room) #[(.ref a), (.int (58 : Int32))] h0 (fun v h L => v = some (.int (-1 : Int32)) ∧ Fr n0 L ∧ h = h0) := by
  refine Ctr.go (plainFor_of_name pn_14) fun p e s m below meth c s₁ Bd hx hby hml hZ hown hnm X0 e0 => ?_
  have N0 := Fr.nil n0
  have K0 := Keep.refl h0 []
  refine gs (S' := s₁.setTop (mkF m 0 #[rv (a), iv ((58 : Int32))] [])) (fun tg kg => castTop (ef_591 m a (58 : Int32)) kg) ?_
  refine gs (fun _ k => o_aloadN X0 hx hby d21_0 rfl rfl (o_iloadN X0 hx hby d21_1 rfl (o_iconst (v := (0 : Int32)) X0 hx hby d21_2 k))) ?_
  refine cV (rest := []) X0 hx hZ hown (ow hw 51 rfl) (ow hw 52 rfl) (nfs hZ (ow hw 54 rfl)) (ow hw 54 rfl) (ow hw 53 rfl) (ow hw 7 rfl) (ow hw 55 rfl) (rm_io2_U3 l Z a0 hw [] a ch0 ch1 ch2 z fm h0 n0 Z0 O0 S0 hz S4 hfm S_ad S_hi S_lo T_a hc0 hc1 hc2 m0 m1 m2) hby d21_3 e0 pd_378 0 (by rw [hml]; rfl) T_a.exa rfl rfl rfl rfl (by decide) (by decide) fun _ T1 Lc1 X1 hQ1 => ?_
  obtain ⟨rfl, N1q, e1q⟩ := hQ1
  have N1 := Fr.app N0 N1q
  refine gout (v := some (.int (-1 : Int32))) X1 Bd.notSynchronized (fun h => by rw [Bd.returns] at h; cases h) (by decide) (by decide) ?_ (fun fs hr => retI X1 hx Bd.returns (hb hby d21_6) hr)
  rw [e1q]
  exact ⟨rfl, N1, rfl⟩
theorem ef_592 (m : MethodId) (x0 : Addr) (x1 : Addr) : entryFrame m #[(.ref x0), (.ref x1)] 2 = mkF m 0 #[.val (.ref x0), .val (.ref x1)] [] := by first | (simp [entryFrame, mkF, argsToLocals, Value.category]; done) | rfl
set_option maxRecDepth 65536 in
set_option maxHeartbeats 40000000 in
theorem rm_ws_U3 (l : Launch) (Z : State) (a0 : Array Value) (hw : HW Z a0) (ws : List Jvm.Cond) (u : Addr) (a : Addr) (ch0 : Int32) (ch1 : Int32) (ch2 : Int32) (z : Int32) (fm : Value) (h0 : Heap) (n0 : Nat) (Z0 : n0 ≤ h0.size) (O0 : Old Z n0 h0) (S0 : PS3 Z (.int z)) (hz : ¬ z = 0) (S4 : PS4 Z fm) (hfm : fm.isRef = true) (S_ad : PS0 Z (.int (1 : Int32))) (S_hi : PS1 Z (.int (0 : Int32))) (S_lo : PS2 Z (.int (8 : Int32))) (T_a : Str16 Z h0 a [ch0, ch1, ch2]) (hc0 : ¬ ch0 < 0 ∧ ¬ (65535 : Int32) < ch0) (hc1 : ¬ ch1 < 0 ∧ ¬ (65535 : Int32) < ch1) (hc2 : ¬ ch2 < 0 ∧ ¬ (65535 : Int32) < ch2) (m0 : ¬ ch0 = (58 : Int32)) (m1 : ¬ ch1 = (58 : Int32)) (m2 : ¬ ch2 = (58 : Int32)) :
    Ctr l Z my1 prog_3_method_3_code 2 ((Option.some (Jvm.ClassFile.FieldType.object "java/lang/String"))) ws (⟨9, 0, 0, 190⟩ : Room) #[(.ref a), (.ref u)] h0 (fun v h L => v = some (.ref a) ∧ Fr n0 L ∧ h = h0) := by
  refine Ctr.go (plainFor_of_name pn_419) fun p e s m below meth c s₁ Bd hx hby hml hZ hown hnm X0 e0 => ?_
  have N0 := Fr.nil n0
  have K0 := Keep.refl h0 []
  refine gs (S' := s₁.setTop (mkF m 0 #[rv (a), rv (u)] [])) (fun tg kg => castTop (ef_592 m a u) kg) ?_
  refine gs (fun _ k => o_aloadN X0 hx hby d22_0 rfl rfl (o_bipush (v := (58 : Int32)) X0 hx hby d22_1 k)) ?_
  refine cV (rest := []) X0 hx hZ hown (ow hw 46 rfl) (ow hw 47 rfl) (nfs hZ (ow hw 49 rfl)) (ow hw 49 rfl) (ow hw 48 rfl) (ow hw 7 rfl) (ow hw 50 rfl) (rm_io1_U3 l Z a0 hw [] a ch0 ch1 ch2 z fm h0 n0 Z0 O0 S0 hz S4 hfm S_ad S_hi S_lo T_a hc0 hc1 hc2 m0 m1 m2) hby d22_3 e0 pd_156 0 (by rw [hml]; rfl) T_a.exa rfl rfl rfl rfl (by decide) (by decide) fun _ T1 Lc1 X1 hQ1 => ?_
  obtain ⟨rfl, N1q, e1q⟩ := hQ1
  have N1 := Fr.app N0 N1q
  refine gs (fun _ k => o_ifYes (pc' := 23) X1 hx hby d22_6 ((if0 _ _).trans (tlt (by decide : (-1 : Int32) < (0 : Int32))).1) (o_aloadN X1 hx hby d22_23 rfl rfl k)) ?_
  refine gout (v := some (.ref a)) X1 Bd.notSynchronized (fun h => by rw [Bd.returns] at h; cases h) (by decide) (by decide) ?_ (fun fs hr => retOut X1 hx Bd.returns rfl (Or.inr (Or.inr (Or.inr (Or.inr ⟨rfl, rfl, rfl⟩)))) (hb hby d22_24) hr)
  rw [e1q]
  exact ⟨rfl, N1, rfl⟩
theorem rm_wsL (l : Launch) (Z : State) (a0 : Array Value) (hw : HW Z a0) (ws : List Jvm.Cond) (u : Addr) (a : Addr) (cs : List Int32) (z : Int32) (fm : Value) (h0 : Heap) (n0 : Nat) (Z0 : n0 ≤ h0.size) (O0 : Old Z n0 h0) (S0 : PS3 Z (.int z)) (hz : ¬ z = 0) (S4 : PS4 Z fm) (hfm : fm.isRef = true) (S_ad : PS0 Z (.int (1 : Int32))) (S_hi : PS1 Z (.int (0 : Int32))) (S_lo : PS2 Z (.int (8 : Int32))) (T_a : Str Z h0 a cs) (hl : cs.length ≤ 3) (hbd : ∀ c ∈ cs, ¬ c < 0 ∧ ¬ (255 : Int32) < c) (m58 : ∀ c ∈ cs, ¬ c = (58 : Int32)) :
    Ctr l Z my1 prog_3_method_3_code 2 ((Option.some (Jvm.ClassFile.FieldType.object "java/lang/String"))) ws (⟨9, 0, 0, 190⟩ : Room) #[(.ref a), (.ref u)] h0 (fun v h L => v = some (.ref a) ∧ Fr n0 L ∧ h = h0) := by
  match cs, T_a, hl, hbd, m58 with
  | [], T_a, _, hb_, m58 => exact rm_ws_L0 l Z a0 hw ws u a  z fm h0 n0 Z0 O0 S0 hz S4 hfm S_ad S_hi S_lo T_a hb_ 
  | [ch0], T_a, _, hb_, m58 => exact rm_ws_L1 l Z a0 hw ws u a ch0 z fm h0 n0 Z0 O0 S0 hz S4 hfm S_ad S_hi S_lo T_a hb_ (m58 ch0 (by simp))
  | [ch0, ch1], T_a, _, hb_, m58 => exact rm_ws_L2 l Z a0 hw ws u a ch0 ch1 z fm h0 n0 Z0 O0 S0 hz S4 hfm S_ad S_hi S_lo T_a hb_ (m58 ch0 (by simp)) (m58 ch1 (by simp))
  | [ch0, ch1, ch2], T_a, _, hb_, m58 => exact rm_ws_L3 l Z a0 hw ws u a ch0 ch1 ch2 z fm h0 n0 Z0 O0 S0 hz S4 hfm S_ad S_hi S_lo T_a hb_ (m58 ch0 (by simp)) (m58 ch1 (by simp)) (m58 ch2 (by simp))
  | _ :: _ :: _ :: _ :: _, _, hl, _, _ => exact absurd hl (by simp)
theorem rm_wsU (l : Launch) (Z : State) (a0 : Array Value) (hw : HW Z a0) (ws : List Jvm.Cond) (u : Addr) (a : Addr) (cs : List Int32) (z : Int32) (fm : Value) (h0 : Heap) (n0 : Nat) (Z0 : n0 ≤ h0.size) (O0 : Old Z n0 h0) (S0 : PS3 Z (.int z)) (hz : ¬ z = 0) (S4 : PS4 Z fm) (hfm : fm.isRef = true) (S_ad : PS0 Z (.int (1 : Int32))) (S_hi : PS1 Z (.int (0 : Int32))) (S_lo : PS2 Z (.int (8 : Int32))) (T_a : Str16 Z h0 a cs) (hl : cs.length ≤ 3) (hbu : ¬ cs = [] ∧ ∀ c ∈ cs, ¬ c < 0 ∧ ¬ (65535 : Int32) < c) (m58 : ∀ c ∈ cs, ¬ c = (58 : Int32)) :
    Ctr l Z my1 prog_3_method_3_code 2 ((Option.some (Jvm.ClassFile.FieldType.object "java/lang/String"))) ws (⟨9, 0, 0, 190⟩ : Room) #[(.ref a), (.ref u)] h0 (fun v h L => v = some (.ref a) ∧ Fr n0 L ∧ h = h0) := by
  match cs, T_a, hl, hbu, m58 with
  | [ch0], T_a, _, hb_, m58 => exact rm_ws_U1 l Z a0 hw ws u a ch0 z fm h0 n0 Z0 O0 S0 hz S4 hfm S_ad S_hi S_lo T_a (hb_.2 ch0 (by simp)) (m58 ch0 (by simp))
  | [ch0, ch1], T_a, _, hb_, m58 => exact rm_ws_U2 l Z a0 hw ws u a ch0 ch1 z fm h0 n0 Z0 O0 S0 hz S4 hfm S_ad S_hi S_lo T_a (hb_.2 ch0 (by simp)) (hb_.2 ch1 (by simp)) (m58 ch0 (by simp)) (m58 ch1 (by simp))
  | [ch0, ch1, ch2], T_a, _, hb_, m58 => exact rm_ws_U3 l Z a0 hw ws u a ch0 ch1 ch2 z fm h0 n0 Z0 O0 S0 hz S4 hfm S_ad S_hi S_lo T_a (hb_.2 ch0 (by simp)) (hb_.2 ch1 (by simp)) (hb_.2 ch2 (by simp)) (m58 ch0 (by simp)) (m58 ch1 (by simp)) (m58 ch2 (by simp))
  | [], _, _, hb_, _ => exact absurd rfl hb_.1
  | _ :: _ :: _ :: _ :: _, _, hl, _, _ => exact absurd hl (by simp)
theorem rm_lenU (l : Launch) (Z : State) (a0 : Array Value) (hw : HW Z a0) (ws : List Jvm.Cond) (a : Addr) (cs : List Int32) (z : Int32) (h0 : Heap) (n0 : Nat) (Z0 : n0 ≤ h0.size) (O0 : Old Z n0 h0) (S0 : PS3 Z (.int z)) (hz : ¬ z = 0) (T_a : Str16 Z h0 a cs) (hl : cs.length ≤ 3) (hne : ¬ cs = []) :
    Ctr l Z my0 jdk_42_method_54_code 1 ((Option.some Jvm.ClassFile.FieldType.int)) ws (⟨1, 0, 0, 13⟩ : Room) #[(.ref a)] h0 (fun v h L => v = some (.int (Int32.ofNat cs.length)) ∧ Fr n0 L ∧ h = h0) := by
  match cs, T_a, hl, hne with
  | [ch0], T_a, _, _ => exact rm_len16_1 l Z a0 hw ws a ch0 z h0 n0 Z0 O0 S0 hz T_a
  | [ch0, ch1], T_a, _, _ => exact rm_len16_2 l Z a0 hw ws a ch0 ch1 z h0 n0 Z0 O0 S0 hz T_a
  | [ch0, ch1, ch2], T_a, _, _ => exact rm_len16_3 l Z a0 hw ws a ch0 ch1 ch2 z h0 n0 Z0 O0 S0 hz T_a
  | [], _, _, hne => exact absurd rfl hne
  | _ :: _ :: _ :: _ :: _, _, hl, _ => exact absurd hl (by simp)
theorem own_mk_all {p0 p1 p2 p3 : Int32} {Q : Int32 → Prop} (h1 : (¬ p0 < (1 : Int32)) → Q p1) (h2 : (¬ p0 < (2 : Int32)) → Q p2) (h3 : (¬ p0 < (3 : Int32)) → Q p3) (hr : 0 ≤ p0.toInt ∧ p0.toInt ≤ 3) : (∀ c ∈ own_mk p0 p1 p2 p3, Q c) ∧ (own_mk p0 p1 p2 p3).length ≤ 3 ∧ Int32.ofNat (own_mk p0 p1 p2 p3).length = p0 ∧ (¬ p0 = 0 → ¬ own_mk p0 p1 p2 p3 = []) := by
  have hc : p0 = 0 ∨ p0 = 1 ∨ p0 = 2 ∨ p0 = 3 := by
    have e0 : (0 : Int32).toInt = 0 := by decide
    have e1 : (1 : Int32).toInt = 1 := by decide
    have e2 : (2 : Int32).toInt = 2 := by decide
    have e3 : (3 : Int32).toInt = 3 := by decide
    simp only [← Int32.toInt_inj, e0, e1, e2, e3]; omega
  rcases hc with rfl | rfl | rfl | rfl
  · exact ⟨by simp [own_mk], by simp [own_mk], by simp [own_mk], fun q => absurd rfl q⟩
  · refine ⟨?_, by simp [own_mk], by simp [own_mk], fun _ => by simp [own_mk]⟩
    intro c hc; simp [own_mk] at hc; subst hc; exact h1 (by decide)
  · refine ⟨?_, by simp [own_mk], by simp [own_mk], fun _ => by simp [own_mk]⟩
    intro c hc; simp [own_mk] at hc; rcases hc with rfl | rfl; exact h1 (by decide); exact h2 (by decide)
  · refine ⟨?_, by simp [own_mk], by simp [own_mk], fun _ => by simp [own_mk]⟩
    intro c hc; simp [own_mk] at hc; rcases hc with rfl | rfl | rfl; exact h1 (by decide); exact h2 (by decide); exact h3 (by decide)
theorem ef_593 (m : MethodId) (x0 : Int32) (x1 : Int32) (x2 : Int32) (x3 : Int32) (x4 : Int32) : entryFrame m #[(.int x0), (.int x1), (.int x2), (.int x3), (.int x4)] maxLocals = mkF m 0 #[.val (.int x0), .val (.int x1), .val (.int x2), .val (.int x3), .val (.int x4), .unset, .unset, .unset, .unset, .unset, .unset, .unset] [] := by first | (simp [entryFrame, mkF, argsToLocals, Value.category, maxLocals]; done) | rfl
theorem pd_594 : parseMethodDescriptor "(ICCC)Ljava/lang/String;" = some ⟨[.int, .char, .char, .char], some (.object "java/lang/String")⟩ := by decide +kernel
theorem pd_595 : parseMethodDescriptor "(C)Ljava/lang/String;" = some ⟨[.char], some (.object "java/lang/String")⟩ := by decide +kernel
theorem pd_596 : parseMethodDescriptor "(Ljava/lang/String;Ljava/lang/String;)Ljava/lang/String;" = some ⟨[(.object "java/lang/String"), (.object "java/lang/String")], some (.object "java/lang/String")⟩ := by decide +kernel
set_option maxRecDepth 65536 in
set_option maxHeartbeats 40000000 in
theorem rm_law (l : Launch) (Z : State) (a0 : Array Value) (hw : HW Z a0) (ws : List Jvm.Cond) (i0 : Int32) (i1 : Int32) (i2 : Int32) (i3 : Int32) (i4 : Int32) (z : Int32) (fm : Value) (h0 : Heap) (n0 : Nat) (Z0 : n0 ≤ h0.size) (O0 : Old Z n0 h0) (S0 : PS3 Z (.int z)) (hz : ¬ z = 0) (S4 : PS4 Z fm) (hfm : fm.isRef = true) (S_ad : PS0 Z (.int (1 : Int32))) (S_hi : PS1 Z (.int (0 : Int32))) (S_lo : PS2 Z (.int (8 : Int32))) :
    CtrW l Z own_EL x code maxLocals ret ws room_1 #[(.int i0), (.int i1), (.int i2), (.int i3), (.int i4)] h0 (fun v h L => v = some (.int 1) ∧ Fr n0 L) := by
  refine CtrW.of (MetFree.of_bodySF (plainFor_of_name pn_358) hisR ?_)
  intro p e s m args below meth c s₁ Bd hml0 hP hK
  obtain ⟨rfl, hZ0, hh, hC⟩ := hP
  have hx := Bd.exec
  have hby := Bd.bytes
  have hml : c.maxLocals = 12 := hml0
  have hZ : Z.Warmed39 (s.setVm s.vm).vm := hZ0
  have hown : (s.setVm s.vm).vm.findClass "com/example/ledgergate/ledgergate/access/ButtonsWithoutSeparatorPinLaw" = some m.cls := findClass_of_methodNamed Bd.named
  have hnm := (name_of_methodNamed Bd.named Bd.method).1
  have X0 : Stand p l e room_1 (s.setVm s.vm) m #[(.int i0), (.int i1), (.int i2), (.int i3), (.int i4)] below meth c s₁ [] 0 0 := Stand.of_body Bd
  have e0 : s₁.heap = h0 := by rw [← hh, Bd.state]; rfl
  have N0 := Fr.nil n0
  have K0 : Keep h0 h0 [] := Keep.refl h0 []
  have hS : s.Since s.vm 0 := (State.WarmedH.refl s).since 0
  have hk : 0 ≤ h0.size := Nat.zero_le _
  have R0 : CHr Z own_EL s.vm h0 s.vm h0 := CHr.refl hC
  show OwnGoW p e below s Z own_EL (fun v h L => v = some (.int 1) ∧ Fr n0 L) room_1.cells room_1.slots _
  refine gsW (S' := s₁.setTop (mkF m 0 #[iv (i0), iv (i1), iv (i2), iv (i3), iv (i4), uu, uu, uu, uu, uu, uu, uu] [])) (fun tg kg => castTop (ef_593 m i0 i1 i2 i3 i4) kg) ?_
  refine gsW (fun _ k => o_iloadN X0 hx hby at_0 rfl (o_iconst (v := (3 : Int32)) X0 hx hby at_1 (o_iand X0 hx hby at_2 (o_istore X0 hx hby at_3 rfl (o_iloadN X0 hx hby at_5 rfl (X0.ldcInt hx hown (mvT hZ (ow hw 0 rfl)) (g := (mkF m 6 #[iv (i0), iv (i1), iv (i2), iv (i3), iv (i4), iv ((i0 &&& (3 : Int32))), uu, uu, uu, uu, uu, uu] [(.int i1)])) rfl (hb hby at_6) _ (o_iand X0 hx hby at_8 (o_i2c X0 hx hby at_9 (o_istore X0 hx hby at_10 rfl (o_iloadN X0 hx hby at_12 rfl (X0.ldcInt hx hown (mvT hZ (ow hw 0 rfl)) (g := (mkF m 13 #[iv (i0), iv (i1), iv (i2), iv (i3), iv (i4), iv ((i0 &&& (3 : Int32))), iv (((i1 &&& (65535 : Int32)).toUInt32.toUInt16.toUInt32.toInt32)), uu, uu, uu, uu, uu] [(.int i2)])) rfl (hb hby at_13) _ (o_iand X0 hx hby at_15 (o_i2c X0 hx hby at_16 (o_istore X0 hx hby at_17 rfl (o_iloadN X0 hx hby at_19 rfl (X0.ldcInt hx hown (mvT hZ (ow hw 0 rfl)) (g := (mkF m 20 #[iv (i0), iv (i1), iv (i2), iv (i3), iv (i4), iv ((i0 &&& (3 : Int32))), iv (((i1 &&& (65535 : Int32)).toUInt32.toUInt16.toUInt32.toInt32)), iv (((i2 &&& (65535 : Int32)).toUInt32.toUInt16.toUInt32.toInt32)), uu, uu, uu, uu] [(.int i3)])) rfl (hb hby at_20) _ (o_iand X0 hx hby at_22 (o_i2c X0 hx hby at_23 (o_istore X0 hx hby at_24 rfl (o_iload X0 hx hby at_26 rfl (o_iconst (v := (1 : Int32)) X0 hx hby at_28 k))))))))))))))))))))) ?_
  by_cases hc1 : (i0 &&& (3 : Int32)) < (1 : Int32)
  · refine gsW (fun _ k => o_icmpYes (pc' := 39) X0 hx hby at_29 (tlt hc1).1 (o_iload X0 hx hby at_39 rfl (o_iconst (v := (2 : Int32)) X0 hx hby at_41 k))) ?_
    by_cases hc2 : (i0 &&& (3 : Int32)) < (2 : Int32)
    · refine gsW (fun _ k => o_icmpYes (pc' := 52) X0 hx hby at_42 (tlt hc2).1 (o_iload X0 hx hby at_52 rfl (o_iconst (v := (3 : Int32)) X0 hx hby at_54 k))) ?_
      by_cases hc3 : (i0 &&& (3 : Int32)) < (3 : Int32)
      · refine gsW (fun _ k => o_icmpYes (pc' := 67) X0 hx hby at_55 (tlt hc3).1 (o_iload X0 hx hby at_67 rfl (o_iload X0 hx hby at_69 rfl (o_iload X0 hx hby at_71 rfl (o_iload X0 hx hby at_73 rfl k))))) ?_
        have hr3 : 0 ≤ (i0 &&& (3 : Int32)).toInt ∧ (i0 &&& (3 : Int32)).toInt ≤ 3 := by have q := c_and i0 3 (by decide); have e : (3 : Int32).toInt = 3 := (by decide); omega
        have m58 := own_mk_all (p0 := (i0 &&& (3 : Int32))) (p1 := ((i1 &&& (65535 : Int32)).toUInt32.toUInt16.toUInt32.toInt32)) (p2 := ((i2 &&& (65535 : Int32)).toUInt32.toUInt16.toUInt32.toInt32)) (p3 := ((i3 &&& (65535 : Int32)).toUInt32.toUInt16.toUInt32.toInt32)) (Q := fun c => ¬ c = (58 : Int32)) (fun q => absurd hc1 q) (fun q => absurd hc2 q) (fun q => absurd hc3 q) hr3
        have m16 := own_mk_all (p0 := (i0 &&& (3 : Int32))) (p1 := ((i1 &&& (65535 : Int32)).toUInt32.toUInt16.toUInt32.toInt32)) (p2 := ((i2 &&& (65535 : Int32)).toUInt32.toUInt16.toUInt32.toInt32)) (p3 := ((i3 &&& (65535 : Int32)).toUInt32.toUInt16.toUInt32.toInt32)) (Q := fun c => ¬ c < 0 ∧ ¬ (65535 : Int32) < c) (fun _ => own_c16 i1) (fun _ => own_c16 i2) (fun _ => own_c16 i3) hr3
        refine cSS (rest := []) X0 hx hS hk hZ hown (ow hw 1 rfl) (ow hw 2 rfl) (ow hw 3 rfl) (ow hw 4 rfl) (rm_mk l Z a0 hw [] (i0 &&& (3 : Int32)) ((i1 &&& (65535 : Int32)).toUInt32.toUInt16.toUInt32.toInt32) ((i2 &&& (65535 : Int32)).toUInt32.toUInt16.toUInt32.toInt32) ((i3 &&& (65535 : Int32)).toUInt32.toUInt16.toUInt32.toInt32) z h0 n0 Z0 O0 S0 hz S_ad S_hi S_lo (own_c16 i1) (own_c16 i2) (own_c16 i3)) (own_EW hw) R0.1 hby at_75 e0 pd_594 0 (by rw [hml]; rfl) rfl rfl rfl rfl (by decide) (by decide) fun _ T4 Lc4 X4 hS hZ hown hQ4 rq4 => ?_
        obtain ⟨a4, rfl, N4q, K4q, D4q⟩ := hQ4
        have N4 := Fr.app N0 N4q
        have r5 : CHr Z own_EL s.vm h0 T4.vm T4.heap := rq4
        have R5 := R0.trans r5
        have Z5 := nt Z0 K4q.1
        have O5 := O0.keep K4q all0
        have K5 := K0.trans K4q all0
        rcases D4q with ⟨Tx, hbx⟩ | ⟨Ux, hne⟩
        · refine gsW (fun _ k => o_astore X4 hx hby at_78 rfl rfl (o_iload X4 hx hby at_80 rfl (XS.sipush X4.here hx rfl (hb hby at_82) (o_iand X4 hx hby at_85 (o_i2c X4 hx hby at_86 k))))) ?_
          refine cSW (rest := []) X4 hx hZ hown (ow hw 27 rfl) (ow hw 28 rfl) (ow hw 7 rfl) (ow hw 29 rfl) (rm_vo l Z a0 hw [] ((i4 &&& (255 : Int32)).toUInt32.toUInt16.toUInt32.toInt32) z T4.heap n0 Z5 O5 S0 hz (own_ci i4).2) hby at_87 rfl pd_595 0 (by rw [hml]; rfl) rfl rfl rfl rfl (by decide) (by decide) fun _ T6 Lc6 X6 hQ6 => ?_
          obtain ⟨a6, rfl, N6q, K6q, T6q⟩ := hQ6
          have N6 := Fr.app N4 N6q
          have r7 : CHr Z own_EL T4.vm T4.heap T4.vm T6.heap := CHr.keep K6q sf0 R5.1
          have R7 := R5.trans r7
          have Z7 := nt Z5 K6q.1
          have O7 := O5.keep K6q all0
          have K7 := K5.trans K6q all0
          refine gsW (fun _ k => o_astore X6 hx hby at_90 rfl rfl (o_aload X6 hx hby at_92 rfl rfl (o_aload X6 hx hby at_94 rfl rfl k))) ?_
          have f8 := (Tx.keep0 K6q)
          obtain ⟨_, _, ⟨T9, L9, k9, n9⟩, -, X9, ⟨Lc9, hQ9, l9, y9, z9⟩, st9⟩ := Jvm.LawKit.callS X6 hx (y := my1) hown (mvT hZ (ow hw 42 rfl)) (mvT hZ (ow hw 43 rfl)) (mvT hZ (ow hw 44 rfl)) (mvT hZ (ow hw 45 rfl)) (by decide) (backC (W := 0) (rm_wsL l Z a0 hw [] a6 a4 (own_mk (i0 &&& (3 : Int32)) ((i1 &&& (65535 : Int32)).toUInt32.toUInt16.toUInt32.toInt32) ((i2 &&& (65535 : Int32)).toUInt32.toUInt16.toUInt32.toInt32) ((i3 &&& (65535 : Int32)).toUInt32.toUInt16.toUInt32.toInt32)) z fm T6.heap n0 Z7 O7 S0 hz S4 hfm S_ad S_hi S_lo f8 m58.2.1 hbx m58.1) hZ (ow hw 45 rfl) (ow hw 44 rfl) (by decide) (by decide)) (g := (mkF m 96 #[iv (i0), iv (i1), iv (i2), iv (i3), iv (i4), iv ((i0 &&& (3 : Int32))), iv (((i1 &&& (65535 : Int32)).toUInt32.toUInt16.toUInt32.toInt32)), iv (((i2 &&& (65535 : Int32)).toUInt32.toUInt16.toUInt32.toInt32)), iv (((i3 &&& (65535 : Int32)).toUInt32.toUInt16.toUInt32.toInt32)), rv (a4), rv (a6), uu] [(.ref a6), (.ref a4)])) rfl (by rw [hml]; rfl) (argsL := [(.ref a4), (.ref a6)]) (rest := []) (lenOf pd_596 rfl) rfl (own_w0 rfl) (hb hby at_96) (fun _ _ => ⟨rfl, rfl, (by decide : 8 + 0 ≤ _), (by decide : 21 + 0 ≤ _)⟩)
          dsimp only [Pt.U, Pt.locs, Pt.cells, Pt.slots] at X9 l9 y9 z9 st9 hQ9
          subst l9 y9 z9
          obtain ⟨rfl, N9q, e9q⟩ := hQ9
          have N9 := Fr.app N6 N9q
          refine gsW (S' := T9.setTop (mkF m 99 #[iv (i0), iv (i1), iv (i2), iv (i3), iv (i4), iv ((i0 &&& (3 : Int32))), iv (((i1 &&& (65535 : Int32)).toUInt32.toUInt16.toUInt32.toInt32)), iv (((i2 &&& (65535 : Int32)).toUInt32.toUInt16.toUInt32.toInt32)), iv (((i3 &&& (65535 : Int32)).toUInt32.toUInt16.toUInt32.toInt32)), rv (a4), rv (a6), uu] [(.ref a4)])) st9 ?_
          refine gsW (fun _ k => o_astore X9 hx hby at_99 rfl rfl (o_aload X9 hx hby at_101 rfl rfl (o_aload X9 hx hby at_103 rfl rfl (Jvm.RoadKit.acmp (g := (mkF m 105 #[iv (i0), iv (i1), iv (i2), iv (i3), iv (i4), iv ((i0 &&& (3 : Int32))), iv (((i1 &&& (65535 : Int32)).toUInt32.toUInt16.toUInt32.toInt32)), iv (((i2 &&& (65535 : Int32)).toUInt32.toUInt16.toUInt32.toInt32)), iv (((i3 &&& (65535 : Int32)).toUInt32.toUInt16.toUInt32.toInt32)), rv (a4), rv (a6), rv (a4)] [(.ref a4), (.ref a4)])) X9 hx rfl rfl rfl (pc0 := 105) (pc' := 108) (same := true) rfl (hb hby at_105) rfl (decide_eq_true rfl) (by decide) (by decide) (o_aload X9 hx hby at_108 rfl rfl k))))) ?_
          obtain ⟨cq10, kq10, q10a, q10b, q10c⟩ := isOf hZ e9q f8.exa
          obtain ⟨_, _, ⟨T10, L10, k10, n10⟩, -, X10, ⟨Lc10, hQ10, l10, y10, z10⟩, st10⟩ := X9.virtualBack hx (y := my0) (z := my0) hown (mvT hZ (ow hw 84 rfl)) (mvT hZ (ow hw 62 rfl)) (notFace_of_selects (args := #[]) (mvT hZ (ow hw 64 rfl))) (mvT hZ (ow hw 64 rfl)) (mvT hZ (ow hw 63 rfl)) (by decide) (own_lenB (W := 0) hZ hw f8 hbx (S0.ext O7.2) hz (nt m58.2.1 (by decide)) (by decide) (by decide)) q10a q10c (g := (mkF m 110 #[iv (i0), iv (i1), iv (i2), iv (i3), iv (i4), iv ((i0 &&& (3 : Int32))), iv (((i1 &&& (65535 : Int32)).toUInt32.toUInt16.toUInt32.toInt32)), iv (((i2 &&& (65535 : Int32)).toUInt32.toUInt16.toUInt32.toInt32)), iv (((i3 &&& (65535 : Int32)).toUInt32.toUInt16.toUInt32.toInt32)), rv (a4), rv (a6), rv (a4)] [(.ref a4)])) rfl (by rw [hml]; rfl) (Steps.refl _) (argsL := []) (rest := []) (lenOf pd_401 rfl) rfl (own_w0 rfl) (hb hby at_110) (fun _ _ => ⟨rfl, e9q, (by decide : 8 + 0 ≤ _), (by decide : 21 + 0 ≤ _)⟩)
          dsimp only [Pt.U, Pt.locs, Pt.cells, Pt.slots] at X10 l10 y10 z10 st10 hQ10
          subst l10 y10 z10
          obtain ⟨rfl, rfl, e10q⟩ := hQ10
          have N10 := Fr.app N9 (Fr.nil n0)
          refine gsW (S' := T10.setTop (mkF m 113 #[iv (i0), iv (i1), iv (i2), iv (i3), iv (i4), iv ((i0 &&& (3 : Int32))), iv (((i1 &&& (65535 : Int32)).toUInt32.toUInt16.toUInt32.toInt32)), iv (((i2 &&& (65535 : Int32)).toUInt32.toUInt16.toUInt32.toInt32)), iv (((i3 &&& (65535 : Int32)).toUInt32.toUInt16.toUInt32.toInt32)), rv (a4), rv (a6), rv (a4)] [(.int (Int32.ofNat (own_mk (i0 &&& (3 : Int32)) ((i1 &&& (65535 : Int32)).toUInt32.toUInt16.toUInt32.toInt32) ((i2 &&& (65535 : Int32)).toUInt32.toUInt16.toUInt32.toInt32) ((i3 &&& (65535 : Int32)).toUInt32.toUInt16.toUInt32.toInt32)).length))])) (fun _ k => st10.trans k) ?_
          refine gsW (fun _ k => o_iload X10 hx hby at_113 rfl (o_icmpNo X10 hx hby at_115 (teq m58.2.2.1).2 (o_iconst (v := (1 : Int32)) X10 hx hby at_118 (o_goto (pc' := 123) X10 hx hby at_119 k)))) ?_
          refine goutW (v := some (.int (1 : Int32))) X10 hS (nt (Nat.le_refl T4.heap.size) K6q.1) hZ (own_EW hw) hh e10q R7 Bd.notSynchronized (fun h => by rw [Bd.returns] at h; cases h) (by decide) (by decide) ?_ (fun fs hr => retN X10 hx (t := .boolean) Bd.returns (by simp) (hb hby at_123) hr)
          exact ⟨rfl, N10⟩
        · refine gsW (fun _ k => o_astore X4 hx hby at_78 rfl rfl (o_iload X4 hx hby at_80 rfl (XS.sipush X4.here hx rfl (hb hby at_82) (o_iand X4 hx hby at_85 (o_i2c X4 hx hby at_86 k))))) ?_
          refine cSW (rest := []) X4 hx hZ hown (ow hw 27 rfl) (ow hw 28 rfl) (ow hw 7 rfl) (ow hw 29 rfl) (rm_vo l Z a0 hw [] ((i4 &&& (255 : Int32)).toUInt32.toUInt16.toUInt32.toInt32) z T4.heap n0 Z5 O5 S0 hz (own_ci i4).2) hby at_87 rfl pd_595 0 (by rw [hml]; rfl) rfl rfl rfl rfl (by decide) (by decide) fun _ T11 Lc11 X11 hQ11 => ?_
          obtain ⟨a11, rfl, N11q, K11q, T11q⟩ := hQ11
          have N11 := Fr.app N4 N11q
          have r12 : CHr Z own_EL T4.vm T4.heap T4.vm T11.heap := CHr.keep K11q sf0 R5.1
          have R12 := R5.trans r12
          have Z12 := nt Z5 K11q.1
          have O12 := O5.keep K11q all0
          have K12 := K5.trans K11q all0
          refine gsW (fun _ k => o_astore X11 hx hby at_90 rfl rfl (o_aload X11 hx hby at_92 rfl rfl (o_aload X11 hx hby at_94 rfl rfl k))) ?_
          have f13 := (Ux.keep0 K11q)
          obtain ⟨_, _, ⟨T14, L14, k14, n14⟩, -, X14, ⟨Lc14, hQ14, l14, y14, z14⟩, st14⟩ := Jvm.LawKit.callS X11 hx (y := my1) hown (mvT hZ (ow hw 42 rfl)) (mvT hZ (ow hw 43 rfl)) (mvT hZ (ow hw 44 rfl)) (mvT hZ (ow hw 45 rfl)) (by decide) (backC (W := 0) (rm_wsU l Z a0 hw [] a11 a4 (own_mk (i0 &&& (3 : Int32)) ((i1 &&& (65535 : Int32)).toUInt32.toUInt16.toUInt32.toInt32) ((i2 &&& (65535 : Int32)).toUInt32.toUInt16.toUInt32.toInt32) ((i3 &&& (65535 : Int32)).toUInt32.toUInt16.toUInt32.toInt32)) z fm T11.heap n0 Z12 O12 S0 hz S4 hfm S_ad S_hi S_lo f13 m58.2.1 ⟨hne, m16.1⟩ m58.1) hZ (ow hw 45 rfl) (ow hw 44 rfl) (by decide) (by decide)) (g := (mkF m 96 #[iv (i0), iv (i1), iv (i2), iv (i3), iv (i4), iv ((i0 &&& (3 : Int32))), iv (((i1 &&& (65535 : Int32)).toUInt32.toUInt16.toUInt32.toInt32)), iv (((i2 &&& (65535 : Int32)).toUInt32.toUInt16.toUInt32.toInt32)), iv (((i3 &&& (65535 : Int32)).toUInt32.toUInt16.toUInt32.toInt32)), rv (a4), rv (a11), uu] [(.ref a11), (.ref a4)])) rfl (by rw [hml]; rfl) (argsL := [(.ref a4), (.ref a11)]) (rest := []) (lenOf pd_596 rfl) rfl (own_w0 rfl) (hb hby at_96) (fun _ _ => ⟨rfl, rfl, (by decide : 8 + 0 ≤ _), (by decide : 21 + 0 ≤ _)⟩)
          dsimp only [Pt.U, Pt.locs, Pt.cells, Pt.slots] at X14 l14 y14 z14 st14 hQ14
          subst l14 y14 z14
          obtain ⟨rfl, N14q, e14q⟩ := hQ14
          have N14 := Fr.app N11 N14q
          refine gsW (S' := T14.setTop (mkF m 99 #[iv (i0), iv (i1), iv (i2), iv (i3), iv (i4), iv ((i0 &&& (3 : Int32))), iv (((i1 &&& (65535 : Int32)).toUInt32.toUInt16.toUInt32.toInt32)), iv (((i2 &&& (65535 : Int32)).toUInt32.toUInt16.toUInt32.toInt32)), iv (((i3 &&& (65535 : Int32)).toUInt32.toUInt16.toUInt32.toInt32)), rv (a4), rv (a11), uu] [(.ref a4)])) st14 ?_
          refine gsW (fun _ k => o_astore X14 hx hby at_99 rfl rfl (o_aload X14 hx hby at_101 rfl rfl (o_aload X14 hx hby at_103 rfl rfl (Jvm.RoadKit.acmp (g := (mkF m 105 #[iv (i0), iv (i1), iv (i2), iv (i3), iv (i4), iv ((i0 &&& (3 : Int32))), iv (((i1 &&& (65535 : Int32)).toUInt32.toUInt16.toUInt32.toInt32)), iv (((i2 &&& (65535 : Int32)).toUInt32.toUInt16.toUInt32.toInt32)), iv (((i3 &&& (65535 : Int32)).toUInt32.toUInt16.toUInt32.toInt32)), rv (a4), rv (a11), rv (a4)] [(.ref a4), (.ref a4)])) X14 hx rfl rfl rfl (pc0 := 105) (pc' := 108) (same := true) rfl (hb hby at_105) rfl (decide_eq_true rfl) (by decide) (by decide) (o_aload X14 hx hby at_108 rfl rfl k))))) ?_
          have f16 := (Ux.exa.keep K11q)
          obtain ⟨cq15, kq15, q15a, q15b, q15c⟩ := isOf hZ e14q f16
          obtain ⟨_, _, ⟨T15, L15, k15, n15⟩, -, X15, ⟨Lc15, hQ15, l15, y15, z15⟩, st15⟩ := X14.virtualBack hx (y := my0) (z := my0) hown (mvT hZ (ow hw 84 rfl)) (mvT hZ (ow hw 62 rfl)) (notFace_of_selects (args := #[]) (mvT hZ (ow hw 64 rfl))) (mvT hZ (ow hw 64 rfl)) (mvT hZ (ow hw 63 rfl)) (by decide) (backC (W := 0) (rm_lenU l Z a0 hw [] a4 (own_mk (i0 &&& (3 : Int32)) ((i1 &&& (65535 : Int32)).toUInt32.toUInt16.toUInt32.toInt32) ((i2 &&& (65535 : Int32)).toUInt32.toUInt16.toUInt32.toInt32) ((i3 &&& (65535 : Int32)).toUInt32.toUInt16.toUInt32.toInt32)) z T11.heap n0 Z12 O12 S0 hz f13 m58.2.1 hne) hZ (ow hw 65 rfl) (ow hw 7 rfl) (by decide) (by decide)) q15a q15c (g := (mkF m 110 #[iv (i0), iv (i1), iv (i2), iv (i3), iv (i4), iv ((i0 &&& (3 : Int32))), iv (((i1 &&& (65535 : Int32)).toUInt32.toUInt16.toUInt32.toInt32)), iv (((i2 &&& (65535 : Int32)).toUInt32.toUInt16.toUInt32.toInt32)), iv (((i3 &&& (65535 : Int32)).toUInt32.toUInt16.toUInt32.toInt32)), rv (a4), rv (a11), rv (a4)] [(.ref a4)])) rfl (by rw [hml]; rfl) (Steps.refl _) (argsL := []) (rest := []) (lenOf pd_401 rfl) rfl (own_w0 rfl) (hb hby at_110) (fun _ _ => ⟨rfl, e14q, (by decide : 8 + 0 ≤ _), (by decide : 21 + 0 ≤ _)⟩)
          dsimp only [Pt.U, Pt.locs, Pt.cells, Pt.slots] at X15 l15 y15 z15 st15 hQ15
          subst l15 y15 z15
          obtain ⟨rfl, N15q, e15q⟩ := hQ15
          have N15 := Fr.app N14 N15q
          refine gsW (S' := T15.setTop (mkF m 113 #[iv (i0), iv (i1), iv (i2), iv (i3), iv (i4), iv ((i0 &&& (3 : Int32))), iv (((i1 &&& (65535 : Int32)).toUInt32.toUInt16.toUInt32.toInt32)), iv (((i2 &&& (65535 : Int32)).toUInt32.toUInt16.toUInt32.toInt32)), iv (((i3 &&& (65535 : Int32)).toUInt32.toUInt16.toUInt32.toInt32)), rv (a4), rv (a11), rv (a4)] [(.int (Int32.ofNat (own_mk (i0 &&& (3 : Int32)) ((i1 &&& (65535 : Int32)).toUInt32.toUInt16.toUInt32.toInt32) ((i2 &&& (65535 : Int32)).toUInt32.toUInt16.toUInt32.toInt32) ((i3 &&& (65535 : Int32)).toUInt32.toUInt16.toUInt32.toInt32)).length))])) (fun _ k => st15.trans k) ?_
          refine gsW (fun _ k => o_iload X15 hx hby at_113 rfl (o_icmpNo X15 hx hby at_115 (teq m58.2.2.1).2 (o_iconst (v := (1 : Int32)) X15 hx hby at_118 (o_goto (pc' := 123) X15 hx hby at_119 k)))) ?_
          refine goutW (v := some (.int (1 : Int32))) X15 hS (nt (Nat.le_refl T4.heap.size) K11q.1) hZ (own_EW hw) hh e15q R12 Bd.notSynchronized (fun h => by rw [Bd.returns] at h; cases h) (by decide) (by decide) ?_ (fun fs hr => retN X15 hx (t := .boolean) Bd.returns (by simp) (hb hby at_123) hr)
          exact ⟨rfl, N15⟩
      · refine gsW (fun _ k => o_icmpNo X0 hx hby at_55 (flt hc3).1 (o_iload X0 hx hby at_58 rfl (o_bipush (v := (58 : Int32)) X0 hx hby at_60 k))) ?_
        by_cases hc17 : ((i3 &&& (65535 : Int32)).toUInt32.toUInt16.toUInt32.toInt32) = (58 : Int32)
        · refine gsW (fun _ k => o_icmpNo X0 hx hby at_62 (teq hc17).2 (o_iconst (v := (1 : Int32)) X0 hx hby at_65 k)) ?_
          refine goutW (v := some (.int (1 : Int32))) X0 hS hk hZ (own_EW hw) hh e0 R0 Bd.notSynchronized (fun h => by rw [Bd.returns] at h; cases h) (by decide) (by decide) ?_ (fun fs hr => retN X0 hx (t := .boolean) Bd.returns (by simp) (hb hby at_66) hr)
          exact ⟨rfl, N0⟩
        · refine gsW (fun _ k => o_icmpYes (pc' := 67) X0 hx hby at_62 (feq hc17).2 (o_iload X0 hx hby at_67 rfl (o_iload X0 hx hby at_69 rfl (o_iload X0 hx hby at_71 rfl (o_iload X0 hx hby at_73 rfl k))))) ?_
          have hr3 : 0 ≤ (i0 &&& (3 : Int32)).toInt ∧ (i0 &&& (3 : Int32)).toInt ≤ 3 := by have q := c_and i0 3 (by decide); have e : (3 : Int32).toInt = 3 := (by decide); omega
          have m58 := own_mk_all (p0 := (i0 &&& (3 : Int32))) (p1 := ((i1 &&& (65535 : Int32)).toUInt32.toUInt16.toUInt32.toInt32)) (p2 := ((i2 &&& (65535 : Int32)).toUInt32.toUInt16.toUInt32.toInt32)) (p3 := ((i3 &&& (65535 : Int32)).toUInt32.toUInt16.toUInt32.toInt32)) (Q := fun c => ¬ c = (58 : Int32)) (fun q => absurd hc1 q) (fun q => absurd hc2 q) (fun _ => hc17) hr3
          have m16 := own_mk_all (p0 := (i0 &&& (3 : Int32))) (p1 := ((i1 &&& (65535 : Int32)).toUInt32.toUInt16.toUInt32.toInt32)) (p2 := ((i2 &&& (65535 : Int32)).toUInt32.toUInt16.toUInt32.toInt32)) (p3 := ((i3 &&& (65535 : Int32)).toUInt32.toUInt16.toUInt32.toInt32)) (Q := fun c => ¬ c < 0 ∧ ¬ (65535 : Int32) < c) (fun _ => own_c16 i1) (fun _ => own_c16 i2) (fun _ => own_c16 i3) hr3
          refine cSS (rest := []) X0 hx hS hk hZ hown (ow hw 1 rfl) (ow hw 2 rfl) (ow hw 3 rfl) (ow hw 4 rfl) (rm_mk l Z a0 hw [] (i0 &&& (3 : Int32)) ((i1 &&& (65535 : Int32)).toUInt32.toUInt16.toUInt32.toInt32) ((i2 &&& (65535 : Int32)).toUInt32.toUInt16.toUInt32.toInt32) ((i3 &&& (65535 : Int32)).toUInt32.toUInt16.toUInt32.toInt32) z h0 n0 Z0 O0 S0 hz S_ad S_hi S_lo (own_c16 i1) (own_c16 i2) (own_c16 i3)) (own_EW hw) R0.1 hby at_75 e0 pd_594 0 (by rw [hml]; rfl) rfl rfl rfl rfl (by decide) (by decide) fun _ T18 Lc18 X18 hS hZ hown hQ18 rq18 => ?_
          obtain ⟨a18, rfl, N18q, K18q, D18q⟩ := hQ18
          have N18 := Fr.app N0 N18q
          have r19 : CHr Z own_EL s.vm h0 T18.vm T18.heap := rq18
          have R19 := R0.trans r19
          have Z19 := nt Z0 K18q.1
          have O19 := O0.keep K18q all0
          have K19 := K0.trans K18q all0
          rcases D18q with ⟨Tx, hbx⟩ | ⟨Ux, hne⟩
          · refine gsW (fun _ k => o_astore X18 hx hby at_78 rfl rfl (o_iload X18 hx hby at_80 rfl (XS.sipush X18.here hx rfl (hb hby at_82) (o_iand X18 hx hby at_85 (o_i2c X18 hx hby at_86 k))))) ?_
            refine cSW (rest := []) X18 hx hZ hown (ow hw 27 rfl) (ow hw 28 rfl) (ow hw 7 rfl) (ow hw 29 rfl) (rm_vo l Z a0 hw [] ((i4 &&& (255 : Int32)).toUInt32.toUInt16.toUInt32.toInt32) z T18.heap n0 Z19 O19 S0 hz (own_ci i4).2) hby at_87 rfl pd_595 0 (by rw [hml]; rfl) rfl rfl rfl rfl (by decide) (by decide) fun _ T20 Lc20 X20 hQ20 => ?_
            obtain ⟨a20, rfl, N20q, K20q, T20q⟩ := hQ20
            have N20 := Fr.app N18 N20q
            have r21 : CHr Z own_EL T18.vm T18.heap T18.vm T20.heap := CHr.keep K20q sf0 R19.1
            have R21 := R19.trans r21
            have Z21 := nt Z19 K20q.1
            have O21 := O19.keep K20q all0
            have K21 := K19.trans K20q all0
            refine gsW (fun _ k => o_astore X20 hx hby at_90 rfl rfl (o_aload X20 hx hby at_92 rfl rfl (o_aload X20 hx hby at_94 rfl rfl k))) ?_
            have f22 := (Tx.keep0 K20q)
            obtain ⟨_, _, ⟨T23, L23, k23, n23⟩, -, X23, ⟨Lc23, hQ23, l23, y23, z23⟩, st23⟩ := Jvm.LawKit.callS X20 hx (y := my1) hown (mvT hZ (ow hw 42 rfl)) (mvT hZ (ow hw 43 rfl)) (mvT hZ (ow hw 44 rfl)) (mvT hZ (ow hw 45 rfl)) (by decide) (backC (W := 0) (rm_wsL l Z a0 hw [] a20 a18 (own_mk (i0 &&& (3 : Int32)) ((i1 &&& (65535 : Int32)).toUInt32.toUInt16.toUInt32.toInt32) ((i2 &&& (65535 : Int32)).toUInt32.toUInt16.toUInt32.toInt32) ((i3 &&& (65535 : Int32)).toUInt32.toUInt16.toUInt32.toInt32)) z fm T20.heap n0 Z21 O21 S0 hz S4 hfm S_ad S_hi S_lo f22 m58.2.1 hbx m58.1) hZ (ow hw 45 rfl) (ow hw 44 rfl) (by decide) (by decide)) (g := (mkF m 96 #[iv (i0), iv (i1), iv (i2), iv (i3), iv (i4), iv ((i0 &&& (3 : Int32))), iv (((i1 &&& (65535 : Int32)).toUInt32.toUInt16.toUInt32.toInt32)), iv (((i2 &&& (65535 : Int32)).toUInt32.toUInt16.toUInt32.toInt32)), iv (((i3 &&& (65535 : Int32)).toUInt32.toUInt16.toUInt32.toInt32)), rv (a18), rv (a20), uu] [(.ref a20), (.ref a18)])) rfl (by rw [hml]; rfl) (argsL := [(.ref a18), (.ref a20)]) (rest := []) (lenOf pd_596 rfl) rfl (own_w0 rfl) (hb hby at_96) (fun _ _ => ⟨rfl, rfl, (by decide : 8 + 0 ≤ _), (by decide : 21 + 0 ≤ _)⟩)
            dsimp only [Pt.U, Pt.locs, Pt.cells, Pt.slots] at X23 l23 y23 z23 st23 hQ23
            subst l23 y23 z23
            obtain ⟨rfl, N23q, e23q⟩ := hQ23
            have N23 := Fr.app N20 N23q
            refine gsW (S' := T23.setTop (mkF m 99 #[iv (i0), iv (i1), iv (i2), iv (i3), iv (i4), iv ((i0 &&& (3 : Int32))), iv (((i1 &&& (65535 : Int32)).toUInt32.toUInt16.toUInt32.toInt32)), iv (((i2 &&& (65535 : Int32)).toUInt32.toUInt16.toUInt32.toInt32)), iv (((i3 &&& (65535 : Int32)).toUInt32.toUInt16.toUInt32.toInt32)), rv (a18), rv (a20), uu] [(.ref a18)])) st23 ?_
            refine gsW (fun _ k => o_astore X23 hx hby at_99 rfl rfl (o_aload X23 hx hby at_101 rfl rfl (o_aload X23 hx hby at_103 rfl rfl (Jvm.RoadKit.acmp (g := (mkF m 105 #[iv (i0), iv (i1), iv (i2), iv (i3), iv (i4), iv ((i0 &&& (3 : Int32))), iv (((i1 &&& (65535 : Int32)).toUInt32.toUInt16.toUInt32.toInt32)), iv (((i2 &&& (65535 : Int32)).toUInt32.toUInt16.toUInt32.toInt32)), iv (((i3 &&& (65535 : Int32)).toUInt32.toUInt16.toUInt32.toInt32)), rv (a18), rv (a20), rv (a18)] [(.ref a18), (.ref a18)])) X23 hx rfl rfl rfl (pc0 := 105) (pc' := 108) (same := true) rfl (hb hby at_105) rfl (decide_eq_true rfl) (by decide) (by decide) (o_aload X23 hx hby at_108 rfl rfl k))))) ?_
            obtain ⟨cq24, kq24, q24a, q24b, q24c⟩ := isOf hZ e23q f22.exa
            obtain ⟨_, _, ⟨T24, L24, k24, n24⟩, -, X24, ⟨Lc24, hQ24, l24, y24, z24⟩, st24⟩ := X23.virtualBack hx (y := my0) (z := my0) hown (mvT hZ (ow hw 84 rfl)) (mvT hZ (ow hw 62 rfl)) (notFace_of_selects (args := #[]) (mvT hZ (ow hw 64 rfl))) (mvT hZ (ow hw 64 rfl)) (mvT hZ (ow hw 63 rfl)) (by decide) (own_lenB (W := 0) hZ hw f22 hbx (S0.ext O21.2) hz (nt m58.2.1 (by decide)) (by decide) (by decide)) q24a q24c (g := (mkF m 110 #[iv (i0), iv (i1), iv (i2), iv (i3), iv (i4), iv ((i0 &&& (3 : Int32))), iv (((i1 &&& (65535 : Int32)).toUInt32.toUInt16.toUInt32.toInt32)), iv (((i2 &&& (65535 : Int32)).toUInt32.toUInt16.toUInt32.toInt32)), iv (((i3 &&& (65535 : Int32)).toUInt32.toUInt16.toUInt32.toInt32)), rv (a18), rv (a20), rv (a18)] [(.ref a18)])) rfl (by rw [hml]; rfl) (Steps.refl _) (argsL := []) (rest := []) (lenOf pd_401 rfl) rfl (own_w0 rfl) (hb hby at_110) (fun _ _ => ⟨rfl, e23q, (by decide : 8 + 0 ≤ _), (by decide : 21 + 0 ≤ _)⟩)
            dsimp only [Pt.U, Pt.locs, Pt.cells, Pt.slots] at X24 l24 y24 z24 st24 hQ24
            subst l24 y24 z24
            obtain ⟨rfl, rfl, e24q⟩ := hQ24
            have N24 := Fr.app N23 (Fr.nil n0)
            refine gsW (S' := T24.setTop (mkF m 113 #[iv (i0), iv (i1), iv (i2), iv (i3), iv (i4), iv ((i0 &&& (3 : Int32))), iv (((i1 &&& (65535 : Int32)).toUInt32.toUInt16.toUInt32.toInt32)), iv (((i2 &&& (65535 : Int32)).toUInt32.toUInt16.toUInt32.toInt32)), iv (((i3 &&& (65535 : Int32)).toUInt32.toUInt16.toUInt32.toInt32)), rv (a18), rv (a20), rv (a18)] [(.int (Int32.ofNat (own_mk (i0 &&& (3 : Int32)) ((i1 &&& (65535 : Int32)).toUInt32.toUInt16.toUInt32.toInt32) ((i2 &&& (65535 : Int32)).toUInt32.toUInt16.toUInt32.toInt32) ((i3 &&& (65535 : Int32)).toUInt32.toUInt16.toUInt32.toInt32)).length))])) (fun _ k => st24.trans k) ?_
            refine gsW (fun _ k => o_iload X24 hx hby at_113 rfl (o_icmpNo X24 hx hby at_115 (teq m58.2.2.1).2 (o_iconst (v := (1 : Int32)) X24 hx hby at_118 (o_goto (pc' := 123) X24 hx hby at_119 k)))) ?_
            refine goutW (v := some (.int (1 : Int32))) X24 hS (nt (Nat.le_refl T18.heap.size) K20q.1) hZ (own_EW hw) hh e24q R21 Bd.notSynchronized (fun h => by rw [Bd.returns] at h; cases h) (by decide) (by decide) ?_ (fun fs hr => retN X24 hx (t := .boolean) Bd.returns (by simp) (hb hby at_123) hr)
            exact ⟨rfl, N24⟩
          · refine gsW (fun _ k => o_astore X18 hx hby at_78 rfl rfl (o_iload X18 hx hby at_80 rfl (XS.sipush X18.here hx rfl (hb hby at_82) (o_iand X18 hx hby at_85 (o_i2c X18 hx hby at_86 k))))) ?_
            refine cSW (rest := []) X18 hx hZ hown (ow hw 27 rfl) (ow hw 28 rfl) (ow hw 7 rfl) (ow hw 29 rfl) (rm_vo l Z a0 hw [] ((i4 &&& (255 : Int32)).toUInt32.toUInt16.toUInt32.toInt32) z T18.heap n0 Z19 O19 S0 hz (own_ci i4).2) hby at_87 rfl pd_595 0 (by rw [hml]; rfl) rfl rfl rfl rfl (by decide) (by decide) fun _ T25 Lc25 X25 hQ25 => ?_
            obtain ⟨a25, rfl, N25q, K25q, T25q⟩ := hQ25
            have N25 := Fr.app N18 N25q
            have r26 : CHr Z own_EL T18.vm T18.heap T18.vm T25.heap := CHr.keep K25q sf0 R19.1
            have R26 := R19.trans r26
            have Z26 := nt Z19 K25q.1
            have O26 := O19.keep K25q all0
            have K26 := K19.trans K25q all0
            refine gsW (fun _ k => o_astore X25 hx hby at_90 rfl rfl (o_aload X25 hx hby at_92 rfl rfl (o_aload X25 hx hby at_94 rfl rfl k))) ?_
            have f27 := (Ux.keep0 K25q)
            obtain ⟨_, _, ⟨T28, L28, k28, n28⟩, -, X28, ⟨Lc28, hQ28, l28, y28, z28⟩, st28⟩ := Jvm.LawKit.callS X25 hx (y := my1) hown (mvT hZ (ow hw 42 rfl)) (mvT hZ (ow hw 43 rfl)) (mvT hZ (ow hw 44 rfl)) (mvT hZ (ow hw 45 rfl)) (by decide) (backC (W := 0) (rm_wsU l Z a0 hw [] a25 a18 (own_mk (i0 &&& (3 : Int32)) ((i1 &&& (65535 : Int32)).toUInt32.toUInt16.toUInt32.toInt32) ((i2 &&& (65535 : Int32)).toUInt32.toUInt16.toUInt32.toInt32) ((i3 &&& (65535 : Int32)).toUInt32.toUInt16.toUInt32.toInt32)) z fm T25.heap n0 Z26 O26 S0 hz S4 hfm S_ad S_hi S_lo f27 m58.2.1 ⟨hne, m16.1⟩ m58.1) hZ (ow hw 45 rfl) (ow hw 44 rfl) (by decide) (by decide)) (g := (mkF m 96 #[iv (i0), iv (i1), iv (i2), iv (i3), iv (i4), iv ((i0 &&& (3 : Int32))), iv (((i1 &&& (65535 : Int32)).toUInt32.toUInt16.toUInt32.toInt32)), iv (((i2 &&& (65535 : Int32)).toUInt32.toUInt16.toUInt32.toInt32)), iv (((i3 &&& (65535 : Int32)).toUInt32.toUInt16.toUInt32.toInt32)), rv (a18), rv (a25), uu] [(.ref a25), (.ref a18)])) rfl (by rw [hml]; rfl) (argsL := [(.ref a18), (.ref a25)]) (rest := []) (lenOf pd_596 rfl) rfl (own_w0 rfl) (hb hby at_96) (fun _ _ => ⟨rfl, rfl, (by decide : 8 + 0 ≤ _), (by decide : 21 + 0 ≤ _)⟩)
            dsimp only [Pt.U, Pt.locs, Pt.cells, Pt.slots] at X28 l28 y28 z28 st28 hQ28
            subst l28 y28 z28
            obtain ⟨rfl, N28q, e28q⟩ := hQ28
            have N28 := Fr.app N25 N28q
            refine gsW (S' := T28.setTop (mkF m 99 #[iv (i0), iv (i1), iv (i2), iv (i3), iv (i4), iv ((i0 &&& (3 : Int32))), iv (((i1 &&& (65535 : Int32)).toUInt32.toUInt16.toUInt32.toInt32)), iv (((i2 &&& (65535 : Int32)).toUInt32.toUInt16.toUInt32.toInt32)), iv (((i3 &&& (65535 : Int32)).toUInt32.toUInt16.toUInt32.toInt32)), rv (a18), rv (a25), uu] [(.ref a18)])) st28 ?_
            refine gsW (fun _ k => o_astore X28 hx hby at_99 rfl rfl (o_aload X28 hx hby at_101 rfl rfl (o_aload X28 hx hby at_103 rfl rfl (Jvm.RoadKit.acmp (g := (mkF m 105 #[iv (i0), iv (i1), iv (i2), iv (i3), iv (i4), iv ((i0 &&& (3 : Int32))), iv (((i1 &&& (65535 : Int32)).toUInt32.toUInt16.toUInt32.toInt32)), iv (((i2 &&& (65535 : Int32)).toUInt32.toUInt16.toUInt32.toInt32)), iv (((i3 &&& (65535 : Int32)).toUInt32.toUInt16.toUInt32.toInt32)), rv (a18), rv (a25), rv (a18)] [(.ref a18), (.ref a18)])) X28 hx rfl rfl rfl (pc0 := 105) (pc' := 108) (same := true) rfl (hb hby at_105) rfl (decide_eq_true rfl) (by decide) (by decide) (o_aload X28 hx hby at_108 rfl rfl k))))) ?_
            have f30 := (Ux.exa.keep K25q)
            obtain ⟨cq29, kq29, q29a, q29b, q29c⟩ := isOf hZ e28q f30
            obtain ⟨_, _, ⟨T29, L29, k29, n29⟩, -, X29, ⟨Lc29, hQ29, l29, y29, z29⟩, st29⟩ := X28.virtualBack hx (y := my0) (z := my0) hown (mvT hZ (ow hw 84 rfl)) (mvT hZ (ow hw 62 rfl)) (notFace_of_selects (args := #[]) (mvT hZ (ow hw 64 rfl))) (mvT hZ (ow hw 64 rfl)) (mvT hZ (ow hw 63 rfl)) (by decide) (backC (W := 0) (rm_lenU l Z a0 hw [] a18 (own_mk (i0 &&& (3 : Int32)) ((i1 &&& (65535 : Int32)).toUInt32.toUInt16.toUInt32.toInt32) ((i2 &&& (65535 : Int32)).toUInt32.toUInt16.toUInt32.toInt32) ((i3 &&& (65535 : Int32)).toUInt32.toUInt16.toUInt32.toInt32)) z T25.heap n0 Z26 O26 S0 hz f27 m58.2.1 hne) hZ (ow hw 65 rfl) (ow hw 7 rfl) (by decide) (by decide)) q29a q29c (g := (mkF m 110 #[iv (i0), iv (i1), iv (i2), iv (i3), iv (i4), iv ((i0 &&& (3 : Int32))), iv (((i1 &&& (65535 : Int32)).toUInt32.toUInt16.toUInt32.toInt32)), iv (((i2 &&& (65535 : Int32)).toUInt32.toUInt16.toUInt32.toInt32)), iv (((i3 &&& (65535 : Int32)).toUInt32.toUInt16.toUInt32.toInt32)), rv (a18), rv (a25), rv (a18)] [(.ref a18)])) rfl (by rw [hml]; rfl) (Steps.refl _) (argsL := []) (rest := []) (lenOf pd_401 rfl) rfl (own_w0 rfl) (hb hby at_110) (fun _ _ => ⟨rfl, e28q, (by decide : 8 + 0 ≤ _), (by decide : 21 + 0 ≤ _)⟩)
            dsimp only [Pt.U, Pt.locs, Pt.cells, Pt.slots] at X29 l29 y29 z29 st29 hQ29
            subst l29 y29 z29
            obtain ⟨rfl, N29q, e29q⟩ := hQ29
            have N29 := Fr.app N28 N29q
            refine gsW (S' := T29.setTop (mkF m 113 #[iv (i0), iv (i1), iv (i2), iv (i3), iv (i4), iv ((i0 &&& (3 : Int32))), iv (((i1 &&& (65535 : Int32)).toUInt32.toUInt16.toUInt32.toInt32)), iv (((i2 &&& (65535 : Int32)).toUInt32.toUInt16.toUInt32.toInt32)), iv (((i3 &&& (65535 : Int32)).toUInt32.toUInt16.toUInt32.toInt32)), rv (a18), rv (a25), rv (a18)] [(.int (Int32.ofNat (own_mk (i0 &&& (3 : Int32)) ((i1 &&& (65535 : Int32)).toUInt32.toUInt16.toUInt32.toInt32) ((i2 &&& (65535 : Int32)).toUInt32.toUInt16.toUInt32.toInt32) ((i3 &&& (65535 : Int32)).toUInt32.toUInt16.toUInt32.toInt32)).length))])) (fun _ k => st29.trans k) ?_
            refine gsW (fun _ k => o_iload X29 hx hby at_113 rfl (o_icmpNo X29 hx hby at_115 (teq m58.2.2.1).2 (o_iconst (v := (1 : Int32)) X29 hx hby at_118 (o_goto (pc' := 123) X29 hx hby at_119 k)))) ?_
            refine goutW (v := some (.int (1 : Int32))) X29 hS (nt (Nat.le_refl T18.heap.size) K25q.1) hZ (own_EW hw) hh e29q R26 Bd.notSynchronized (fun h => by rw [Bd.returns] at h; cases h) (by decide) (by decide) ?_ (fun fs hr => retN X29 hx (t := .boolean) Bd.returns (by simp) (hb hby at_123) hr)
            exact ⟨rfl, N29⟩
    · refine gsW (fun _ k => o_icmpNo X0 hx hby at_42 (flt hc2).1 (o_iload X0 hx hby at_45 rfl (o_bipush (v := (58 : Int32)) X0 hx hby at_47 k))) ?_
      by_cases hc31 : ((i2 &&& (65535 : Int32)).toUInt32.toUInt16.toUInt32.toInt32) = (58 : Int32)
      · refine gsW (fun _ k => o_icmpYes (pc' := 65) X0 hx hby at_49 (teq hc31).1 (o_iconst (v := (1 : Int32)) X0 hx hby at_65 k)) ?_
        refine goutW (v := some (.int (1 : Int32))) X0 hS hk hZ (own_EW hw) hh e0 R0 Bd.notSynchronized (fun h => by rw [Bd.returns] at h; cases h) (by decide) (by decide) ?_ (fun fs hr => retN X0 hx (t := .boolean) Bd.returns (by simp) (hb hby at_66) hr)
        exact ⟨rfl, N0⟩
      · refine gsW (fun _ k => o_icmpNo X0 hx hby at_49 (feq hc31).1 (o_iload X0 hx hby at_52 rfl (o_iconst (v := (3 : Int32)) X0 hx hby at_54 k))) ?_
        by_cases hc32 : (i0 &&& (3 : Int32)) < (3 : Int32)
        · refine gsW (fun _ k => o_icmpYes (pc' := 67) X0 hx hby at_55 (tlt hc32).1 (o_iload X0 hx hby at_67 rfl (o_iload X0 hx hby at_69 rfl (o_iload X0 hx hby at_71 rfl (o_iload X0 hx hby at_73 rfl k))))) ?_
          have hr3 : 0 ≤ (i0 &&& (3 : Int32)).toInt ∧ (i0 &&& (3 : Int32)).toInt ≤ 3 := by have q := c_and i0 3 (by decide); have e : (3 : Int32).toInt = 3 := (by decide); omega
          have m58 := own_mk_all (p0 := (i0 &&& (3 : Int32))) (p1 := ((i1 &&& (65535 : Int32)).toUInt32.toUInt16.toUInt32.toInt32)) (p2 := ((i2 &&& (65535 : Int32)).toUInt32.toUInt16.toUInt32.toInt32)) (p3 := ((i3 &&& (65535 : Int32)).toUInt32.toUInt16.toUInt32.toInt32)) (Q := fun c => ¬ c = (58 : Int32)) (fun q => absurd hc1 q) (fun _ => hc31) (fun q => absurd hc32 q) hr3
          have m16 := own_mk_all (p0 := (i0 &&& (3 : Int32))) (p1 := ((i1 &&& (65535 : Int32)).toUInt32.toUInt16.toUInt32.toInt32)) (p2 := ((i2 &&& (65535 : Int32)).toUInt32.toUInt16.toUInt32.toInt32)) (p3 := ((i3 &&& (65535 : Int32)).toUInt32.toUInt16.toUInt32.toInt32)) (Q := fun c => ¬ c < 0 ∧ ¬ (65535 : Int32) < c) (fun _ => own_c16 i1) (fun _ => own_c16 i2) (fun _ => own_c16 i3) hr3
          refine cSS (rest := []) X0 hx hS hk hZ hown (ow hw 1 rfl) (ow hw 2 rfl) (ow hw 3 rfl) (ow hw 4 rfl) (rm_mk l Z a0 hw [] (i0 &&& (3 : Int32)) ((i1 &&& (65535 : Int32)).toUInt32.toUInt16.toUInt32.toInt32) ((i2 &&& (65535 : Int32)).toUInt32.toUInt16.toUInt32.toInt32) ((i3 &&& (65535 : Int32)).toUInt32.toUInt16.toUInt32.toInt32) z h0 n0 Z0 O0 S0 hz S_ad S_hi S_lo (own_c16 i1) (own_c16 i2) (own_c16 i3)) (own_EW hw) R0.1 hby at_75 e0 pd_594 0 (by rw [hml]; rfl) rfl rfl rfl rfl (by decide) (by decide) fun _ T33 Lc33 X33 hS hZ hown hQ33 rq33 => ?_
          obtain ⟨a33, rfl, N33q, K33q, D33q⟩ := hQ33
          have N33 := Fr.app N0 N33q
          have r34 : CHr Z own_EL s.vm h0 T33.vm T33.heap := rq33
          have R34 := R0.trans r34
          have Z34 := nt Z0 K33q.1
          have O34 := O0.keep K33q all0
          have K34 := K0.trans K33q all0
          rcases D33q with ⟨Tx, hbx⟩ | ⟨Ux, hne⟩
          · refine gsW (fun _ k => o_astore X33 hx hby at_78 rfl rfl (o_iload X33 hx hby at_80 rfl (XS.sipush X33.here hx rfl (hb hby at_82) (o_iand X33 hx hby at_85 (o_i2c X33 hx hby at_86 k))))) ?_
            refine cSW (rest := []) X33 hx hZ hown (ow hw 27 rfl) (ow hw 28 rfl) (ow hw 7 rfl) (ow hw 29 rfl) (rm_vo l Z a0 hw [] ((i4 &&& (255 : Int32)).toUInt32.toUInt16.toUInt32.toInt32) z T33.heap n0 Z34 O34 S0 hz (own_ci i4).2) hby at_87 rfl pd_595 0 (by rw [hml]; rfl) rfl rfl rfl rfl (by decide) (by decide) fun _ T35 Lc35 X35 hQ35 => ?_
            obtain ⟨a35, rfl, N35q, K35q, T35q⟩ := hQ35
            have N35 := Fr.app N33 N35q
            have r36 : CHr Z own_EL T33.vm T33.heap T33.vm T35.heap := CHr.keep K35q sf0 R34.1
            have R36 := R34.trans r36
            have Z36 := nt Z34 K35q.1
            have O36 := O34.keep K35q all0
            have K36 := K34.trans K35q all0
            refine gsW (fun _ k => o_astore X35 hx hby at_90 rfl rfl (o_aload X35 hx hby at_92 rfl rfl (o_aload X35 hx hby at_94 rfl rfl k))) ?_
            have f37 := (Tx.keep0 K35q)
            obtain ⟨_, _, ⟨T38, L38, k38, n38⟩, -, X38, ⟨Lc38, hQ38, l38, y38, z38⟩, st38⟩ := Jvm.LawKit.callS X35 hx (y := my1) hown (mvT hZ (ow hw 42 rfl)) (mvT hZ (ow hw 43 rfl)) (mvT hZ (ow hw 44 rfl)) (mvT hZ (ow hw 45 rfl)) (by decide) (backC (W := 0) (rm_wsL l Z a0 hw [] a35 a33 (own_mk (i0 &&& (3 : Int32)) ((i1 &&& (65535 : Int32)).toUInt32.toUInt16.toUInt32.toInt32) ((i2 &&& (65535 : Int32)).toUInt32.toUInt16.toUInt32.toInt32) ((i3 &&& (65535 : Int32)).toUInt32.toUInt16.toUInt32.toInt32)) z fm T35.heap n0 Z36 O36 S0 hz S4 hfm S_ad S_hi S_lo f37 m58.2.1 hbx m58.1) hZ (ow hw 45 rfl) (ow hw 44 rfl) (by decide) (by decide)) (g := (mkF m 96 #[iv (i0), iv (i1), iv (i2), iv (i3), iv (i4), iv ((i0 &&& (3 : Int32))), iv (((i1 &&& (65535 : Int32)).toUInt32.toUInt16.toUInt32.toInt32)), iv (((i2 &&& (65535 : Int32)).toUInt32.toUInt16.toUInt32.toInt32)), iv (((i3 &&& (65535 : Int32)).toUInt32.toUInt16.toUInt32.toInt32)), rv (a33), rv (a35), uu] [(.ref a35), (.ref a33)])) rfl (by rw [hml]; rfl) (argsL := [(.ref a33), (.ref a35)]) (rest := []) (lenOf pd_596 rfl) rfl (own_w0 rfl) (hb hby at_96) (fun _ _ => ⟨rfl, rfl, (by decide : 8 + 0 ≤ _), (by decide : 21 + 0 ≤ _)⟩)
            dsimp only [Pt.U, Pt.locs, Pt.cells, Pt.slots] at X38 l38 y38 z38 st38 hQ38
            subst l38 y38 z38
            obtain ⟨rfl, N38q, e38q⟩ := hQ38
            have N38 := Fr.app N35 N38q
            refine gsW (S' := T38.setTop (mkF m 99 #[iv (i0), iv (i1), iv (i2), iv (i3), iv (i4), iv ((i0 &&& (3 : Int32))), iv (((i1 &&& (65535 : Int32)).toUInt32.toUInt16.toUInt32.toInt32)), iv (((i2 &&& (65535 : Int32)).toUInt32.toUInt16.toUInt32.toInt32)), iv (((i3 &&& (65535 : Int32)).toUInt32.toUInt16.toUInt32.toInt32)), rv (a33), rv (a35), uu] [(.ref a33)])) st38 ?_
            refine gsW (fun _ k => o_astore X38 hx hby at_99 rfl rfl (o_aload X38 hx hby at_101 rfl rfl (o_aload X38 hx hby at_103 rfl rfl (Jvm.RoadKit.acmp (g := (mkF m 105 #[iv (i0), iv (i1), iv (i2), iv (i3), iv (i4), iv ((i0 &&& (3 : Int32))), iv (((i1 &&& (65535 : Int32)).toUInt32.toUInt16.toUInt32.toInt32)), iv (((i2 &&& (65535 : Int32)).toUInt32.toUInt16.toUInt32.toInt32)), iv (((i3 &&& (65535 : Int32)).toUInt32.toUInt16.toUInt32.toInt32)), rv (a33), rv (a35), rv (a33)] [(.ref a33), (.ref a33)])) X38 hx rfl rfl rfl (pc0 := 105) (pc' := 108) (same := true) rfl (hb hby at_105) rfl (decide_eq_true rfl) (by decide) (by decide) (o_aload X38 hx hby at_108 rfl rfl k))))) ?_
            obtain ⟨cq39, kq39, q39a, q39b, q39c⟩ := isOf hZ e38q f37.exa
            obtain ⟨_, _, ⟨T39, L39, k39, n39⟩, -, X39, ⟨Lc39, hQ39, l39, y39, z39⟩, st39⟩ := X38.virtualBack hx (y := my0) (z := my0) hown (mvT hZ (ow hw 84 rfl)) (mvT hZ (ow hw 62 rfl)) (notFace_of_selects (args := #[]) (mvT hZ (ow hw 64 rfl))) (mvT hZ (ow hw 64 rfl)) (mvT hZ (ow hw 63 rfl)) (by decide) (own_lenB (W := 0) hZ hw f37 hbx (S0.ext O36.2) hz (nt m58.2.1 (by decide)) (by decide) (by decide)) q39a q39c (g := (mkF m 110 #[iv (i0), iv (i1), iv (i2), iv (i3), iv (i4), iv ((i0 &&& (3 : Int32))), iv (((i1 &&& (65535 : Int32)).toUInt32.toUInt16.toUInt32.toInt32)), iv (((i2 &&& (65535 : Int32)).toUInt32.toUInt16.toUInt32.toInt32)), iv (((i3 &&& (65535 : Int32)).toUInt32.toUInt16.toUInt32.toInt32)), rv (a33), rv (a35), rv (a33)] [(.ref a33)])) rfl (by rw [hml]; rfl) (Steps.refl _) (argsL := []) (rest := []) (lenOf pd_401 rfl) rfl (own_w0 rfl) (hb hby at_110) (fun _ _ => ⟨rfl, e38q, (by decide : 8 + 0 ≤ _), (by decide : 21 + 0 ≤ _)⟩)
            dsimp only [Pt.U, Pt.locs, Pt.cells, Pt.slots] at X39 l39 y39 z39 st39 hQ39
            subst l39 y39 z39
            obtain ⟨rfl, rfl, e39q⟩ := hQ39
            have N39 := Fr.app N38 (Fr.nil n0)
            refine gsW (S' := T39.setTop (mkF m 113 #[iv (i0), iv (i1), iv (i2), iv (i3), iv (i4), iv ((i0 &&& (3 : Int32))), iv (((i1 &&& (65535 : Int32)).toUInt32.toUInt16.toUInt32.toInt32)), iv (((i2 &&& (65535 : Int32)).toUInt32.toUInt16.toUInt32.toInt32)), iv (((i3 &&& (65535 : Int32)).toUInt32.toUInt16.toUInt32.toInt32)), rv (a33), rv (a35), rv (a33)] [(.int (Int32.ofNat (own_mk (i0 &&& (3 : Int32)) ((i1 &&& (65535 : Int32)).toUInt32.toUInt16.toUInt32.toInt32) ((i2 &&& (65535 : Int32)).toUInt32.toUInt16.toUInt32.toInt32) ((i3 &&& (65535 : Int32)).toUInt32.toUInt16.toUInt32.toInt32)).length))])) (fun _ k => st39.trans k) ?_
            refine gsW (fun _ k => o_iload X39 hx hby at_113 rfl (o_icmpNo X39 hx hby at_115 (teq m58.2.2.1).2 (o_iconst (v := (1 : Int32)) X39 hx hby at_118 (o_goto (pc' := 123) X39 hx hby at_119 k)))) ?_
            refine goutW (v := some (.int (1 : Int32))) X39 hS (nt (Nat.le_refl T33.heap.size) K35q.1) hZ (own_EW hw) hh e39q R36 Bd.notSynchronized (fun h => by rw [Bd.returns] at h; cases h) (by decide) (by decide) ?_ (fun fs hr => retN X39 hx (t := .boolean) Bd.returns (by simp) (hb hby at_123) hr)
            exact ⟨rfl, N39⟩
          · refine gsW (fun _ k => o_astore X33 hx hby at_78 rfl rfl (o_iload X33 hx hby at_80 rfl (XS.sipush X33.here hx rfl (hb hby at_82) (o_iand X33 hx hby at_85 (o_i2c X33 hx hby at_86 k))))) ?_
            refine cSW (rest := []) X33 hx hZ hown (ow hw 27 rfl) (ow hw 28 rfl) (ow hw 7 rfl) (ow hw 29 rfl) (rm_vo l Z a0 hw [] ((i4 &&& (255 : Int32)).toUInt32.toUInt16.toUInt32.toInt32) z T33.heap n0 Z34 O34 S0 hz (own_ci i4).2) hby at_87 rfl pd_595 0 (by rw [hml]; rfl) rfl rfl rfl rfl (by decide) (by decide) fun _ T40 Lc40 X40 hQ40 => ?_
            obtain ⟨a40, rfl, N40q, K40q, T40q⟩ := hQ40
            have N40 := Fr.app N33 N40q
            have r41 : CHr Z own_EL T33.vm T33.heap T33.vm T40.heap := CHr.keep K40q sf0 R34.1
            have R41 := R34.trans r41
            have Z41 := nt Z34 K40q.1
            have O41 := O34.keep K40q all0
            have K41 := K34.trans K40q all0
            refine gsW (fun _ k => o_astore X40 hx hby at_90 rfl rfl (o_aload X40 hx hby at_92 rfl rfl (o_aload X40 hx hby at_94 rfl rfl k))) ?_
            have f42 := (Ux.keep0 K40q)
            obtain ⟨_, _, ⟨T43, L43, k43, n43⟩, -, X43, ⟨Lc43, hQ43, l43, y43, z43⟩, st43⟩ := Jvm.LawKit.callS X40 hx (y := my1) hown (mvT hZ (ow hw 42 rfl)) (mvT hZ (ow hw 43 rfl)) (mvT hZ (ow hw 44 rfl)) (mvT hZ (ow hw 45 rfl)) (by decide) (backC (W := 0) (rm_wsU l Z a0 hw [] a40 a33 (own_mk (i0 &&& (3 : Int32)) ((i1 &&& (65535 : Int32)).toUInt32.toUInt16.toUInt32.toInt32) ((i2 &&& (65535 : Int32)).toUInt32.toUInt16.toUInt32.toInt32) ((i3 &&& (65535 : Int32)).toUInt32.toUInt16.toUInt32.toInt32)) z fm T40.heap n0 Z41 O41 S0 hz S4 hfm S_ad S_hi S_lo f42 m58.2.1 ⟨hne, m16.1⟩ m58.1) hZ (ow hw 45 rfl) (ow hw 44 rfl) (by decide) (by decide)) (g := (mkF m 96 #[iv (i0), iv (i1), iv (i2), iv (i3), iv (i4), iv ((i0 &&& (3 : Int32))), iv (((i1 &&& (65535 : Int32)).toUInt32.toUInt16.toUInt32.toInt32)), iv (((i2 &&& (65535 : Int32)).toUInt32.toUInt16.toUInt32.toInt32)), iv (((i3 &&& (65535 : Int32)).toUInt32.toUInt16.toUInt32.toInt32)), rv (a33), rv (a40), uu] [(.ref a40), (.ref a33)])) rfl (by rw [hml]; rfl) (argsL := [(.ref a33), (.ref a40)]) (rest := []) (lenOf pd_596 rfl) rfl (own_w0 rfl) (hb hby at_96) (fun _ _ => ⟨rfl, rfl, (by decide : 8 + 0 ≤ _), (by decide : 21 + 0 ≤ _)⟩)
            dsimp only [Pt.U, Pt.locs, Pt.cells, Pt.slots] at X43 l43 y43 z43 st43 hQ43
            subst l43 y43 z43
            obtain ⟨rfl, N43q, e43q⟩ := hQ43
            have N43 := Fr.app N40 N43q
            refine gsW (S' := T43.setTop (mkF m 99 #[iv (i0), iv (i1), iv (i2), iv (i3), iv (i4), iv ((i0 &&& (3 : Int32))), iv (((i1 &&& (65535 : Int32)).toUInt32.toUInt16.toUInt32.toInt32)), iv (((i2 &&& (65535 : Int32)).toUInt32.toUInt16.toUInt32.toInt32)), iv (((i3 &&& (65535 : Int32)).toUInt32.toUInt16.toUInt32.toInt32)), rv (a33), rv (a40), uu] [(.ref a33)])) st43 ?_
            refine gsW (fun _ k => o_astore X43 hx hby at_99 rfl rfl (o_aload X43 hx hby at_101 rfl rfl (o_aload X43 hx hby at_103 rfl rfl (Jvm.RoadKit.acmp (g := (mkF m 105 #[iv (i0), iv (i1), iv (i2), iv (i3), iv (i4), iv ((i0 &&& (3 : Int32))), iv (((i1 &&& (65535 : Int32)).toUInt32.toUInt16.toUInt32.toInt32)), iv (((i2 &&& (65535 : Int32)).toUInt32.toUInt16.toUInt32.toInt32)), iv (((i3 &&& (65535 : Int32)).toUInt32.toUInt16.toUInt32.toInt32)), rv (a33), rv (a40), rv (a33)] [(.ref a33), (.ref a33)])) X43 hx rfl rfl rfl (pc0 := 105) (pc' := 108) (same := true) rfl (hb hby at_105) rfl (decide_eq_true rfl) (by decide) (by decide) (o_aload X43 hx hby at_108 rfl rfl k))))) ?_
            have f45 := (Ux.exa.keep K40q)
            obtain ⟨cq44, kq44, q44a, q44b, q44c⟩ := isOf hZ e43q f45
            obtain ⟨_, _, ⟨T44, L44, k44, n44⟩, -, X44, ⟨Lc44, hQ44, l44, y44, z44⟩, st44⟩ := X43.virtualBack hx (y := my0) (z := my0) hown (mvT hZ (ow hw 84 rfl)) (mvT hZ (ow hw 62 rfl)) (notFace_of_selects (args := #[]) (mvT hZ (ow hw 64 rfl))) (mvT hZ (ow hw 64 rfl)) (mvT hZ (ow hw 63 rfl)) (by decide) (backC (W := 0) (rm_lenU l Z a0 hw [] a33 (own_mk (i0 &&& (3 : Int32)) ((i1 &&& (65535 : Int32)).toUInt32.toUInt16.toUInt32.toInt32) ((i2 &&& (65535 : Int32)).toUInt32.toUInt16.toUInt32.toInt32) ((i3 &&& (65535 : Int32)).toUInt32.toUInt16.toUInt32.toInt32)) z T40.heap n0 Z41 O41 S0 hz f42 m58.2.1 hne) hZ (ow hw 65 rfl) (ow hw 7 rfl) (by decide) (by decide)) q44a q44c (g := (mkF m 110 #[iv (i0), iv (i1), iv (i2), iv (i3), iv (i4), iv ((i0 &&& (3 : Int32))), iv (((i1 &&& (65535 : Int32)).toUInt32.toUInt16.toUInt32.toInt32)), iv (((i2 &&& (65535 : Int32)).toUInt32.toUInt16.toUInt32.toInt32)), iv (((i3 &&& (65535 : Int32)).toUInt32.toUInt16.toUInt32.toInt32)), rv (a33), rv (a40), rv (a33)] [(.ref a33)])) rfl (by rw [hml]; rfl) (Steps.refl _) (argsL := []) (rest := []) (lenOf pd_401 rfl) rfl (own_w0 rfl) (hb hby at_110) (fun _ _ => ⟨rfl, e43q, (by decide : 8 + 0 ≤ _), (by decide : 21 + 0 ≤ _)⟩)
            dsimp only [Pt.U, Pt.locs, Pt.cells, Pt.slots] at X44 l44 y44 z44 st44 hQ44
            subst l44 y44 z44
            obtain ⟨rfl, N44q, e44q⟩ := hQ44
            have N44 := Fr.app N43 N44q
            refine gsW (S' := T44.setTop (mkF m 113 #[iv (i0), iv (i1), iv (i2), iv (i3), iv (i4), iv ((i0 &&& (3 : Int32))), iv (((i1 &&& (65535 : Int32)).toUInt32.toUInt16.toUInt32.toInt32)), iv (((i2 &&& (65535 : Int32)).toUInt32.toUInt16.toUInt32.toInt32)), iv (((i3 &&& (65535 : Int32)).toUInt32.toUInt16.toUInt32.toInt32)), rv (a33), rv (a40), rv (a33)] [(.int (Int32.ofNat (own_mk (i0 &&& (3 : Int32)) ((i1 &&& (65535 : Int32)).toUInt32.toUInt16.toUInt32.toInt32) ((i2 &&& (65535 : Int32)).toUInt32.toUInt16.toUInt32.toInt32) ((i3 &&& (65535 : Int32)).toUInt32.toUInt16.toUInt32.toInt32)).length))])) (fun _ k => st44.trans k) ?_
            refine gsW (fun _ k => o_iload X44 hx hby at_113 rfl (o_icmpNo X44 hx hby at_115 (teq m58.2.2.1).2 (o_iconst (v := (1 : Int32)) X44 hx hby at_118 (o_goto (pc' := 123) X44 hx hby at_119 k)))) ?_
            refine goutW (v := some (.int (1 : Int32))) X44 hS (nt (Nat.le_refl T33.heap.size) K40q.1) hZ (own_EW hw) hh e44q R41 Bd.notSynchronized (fun h => by rw [Bd.returns] at h; cases h) (by decide) (by decide) ?_ (fun fs hr => retN X44 hx (t := .boolean) Bd.returns (by simp) (hb hby at_123) hr)
            exact ⟨rfl, N44⟩
        · refine gsW (fun _ k => o_icmpNo X0 hx hby at_55 (flt hc32).1 (o_iload X0 hx hby at_58 rfl (o_bipush (v := (58 : Int32)) X0 hx hby at_60 k))) ?_
          by_cases hc46 : ((i3 &&& (65535 : Int32)).toUInt32.toUInt16.toUInt32.toInt32) = (58 : Int32)
          · refine gsW (fun _ k => o_icmpNo X0 hx hby at_62 (teq hc46).2 (o_iconst (v := (1 : Int32)) X0 hx hby at_65 k)) ?_
            refine goutW (v := some (.int (1 : Int32))) X0 hS hk hZ (own_EW hw) hh e0 R0 Bd.notSynchronized (fun h => by rw [Bd.returns] at h; cases h) (by decide) (by decide) ?_ (fun fs hr => retN X0 hx (t := .boolean) Bd.returns (by simp) (hb hby at_66) hr)
            exact ⟨rfl, N0⟩
          · refine gsW (fun _ k => o_icmpYes (pc' := 67) X0 hx hby at_62 (feq hc46).2 (o_iload X0 hx hby at_67 rfl (o_iload X0 hx hby at_69 rfl (o_iload X0 hx hby at_71 rfl (o_iload X0 hx hby at_73 rfl k))))) ?_
            have hr3 : 0 ≤ (i0 &&& (3 : Int32)).toInt ∧ (i0 &&& (3 : Int32)).toInt ≤ 3 := by have q := c_and i0 3 (by decide); have e : (3 : Int32).toInt = 3 := (by decide); omega
            have m58 := own_mk_all (p0 := (i0 &&& (3 : Int32))) (p1 := ((i1 &&& (65535 : Int32)).toUInt32.toUInt16.toUInt32.toInt32)) (p2 := ((i2 &&& (65535 : Int32)).toUInt32.toUInt16.toUInt32.toInt32)) (p3 := ((i3 &&& (65535 : Int32)).toUInt32.toUInt16.toUInt32.toInt32)) (Q := fun c => ¬ c = (58 : Int32)) (fun q => absurd hc1 q) (fun _ => hc31) (fun _ => hc46) hr3
            have m16 := own_mk_all (p0 := (i0 &&& (3 : Int32))) (p1 := ((i1 &&& (65535 : Int32)).toUInt32.toUInt16.toUInt32.toInt32)) (p2 := ((i2 &&& (65535 : Int32)).toUInt32.toUInt16.toUInt32.toInt32)) (p3 := ((i3 &&& (65535 : Int32)).toUInt32.toUInt16.toUInt32.toInt32)) (Q := fun c => ¬ c < 0 ∧ ¬ (65535 : Int32) < c) (fun _ => own_c16 i1) (fun _ => own_c16 i2) (fun _ => own_c16 i3) hr3
            refine cSS (rest := []) X0 hx hS hk hZ hown (ow hw 1 rfl) (ow hw 2 rfl) (ow hw 3 rfl) (ow hw 4 rfl) (rm_mk l Z a0 hw [] (i0 &&& (3 : Int32)) ((i1 &&& (65535 : Int32)).toUInt32.toUInt16.toUInt32.toInt32) ((i2 &&& (65535 : Int32)).toUInt32.toUInt16.toUInt32.toInt32) ((i3 &&& (65535 : Int32)).toUInt32.toUInt16.toUInt32.toInt32) z h0 n0 Z0 O0 S0 hz S_ad S_hi S_lo (own_c16 i1) (own_c16 i2) (own_c16 i3)) (own_EW hw) R0.1 hby at_75 e0 pd_594 0 (by rw [hml]; rfl) rfl rfl rfl rfl (by decide) (by decide) fun _ T47 Lc47 X47 hS hZ hown hQ47 rq47 => ?_
            obtain ⟨a47, rfl, N47q, K47q, D47q⟩ := hQ47
            have N47 := Fr.app N0 N47q
            have r48 : CHr Z own_EL s.vm h0 T47.vm T47.heap := rq47
            have R48 := R0.trans r48
            have Z48 := nt Z0 K47q.1
            have O48 := O0.keep K47q all0
            have K48 := K0.trans K47q all0
            rcases D47q with ⟨Tx, hbx⟩ | ⟨Ux, hne⟩
            · refine gsW (fun _ k => o_astore X47 hx hby at_78 rfl rfl (o_iload X47 hx hby at_80 rfl (XS.sipush X47.here hx rfl (hb hby at_82) (o_iand X47 hx hby at_85 (o_i2c X47 hx hby at_86 k))))) ?_
              refine cSW (rest := []) X47 hx hZ hown (ow hw 27 rfl) (ow hw 28 rfl) (ow hw 7 rfl) (ow hw 29 rfl) (rm_vo l Z a0 hw [] ((i4 &&& (255 : Int32)).toUInt32.toUInt16.toUInt32.toInt32) z T47.heap n0 Z48 O48 S0 hz (own_ci i4).2) hby at_87 rfl pd_595 0 (by rw [hml]; rfl) rfl rfl rfl rfl (by decide) (by decide) fun _ T49 Lc49 X49 hQ49 => ?_
              obtain ⟨a49, rfl, N49q, K49q, T49q⟩ := hQ49
              have N49 := Fr.app N47 N49q
              have r50 : CHr Z own_EL T47.vm T47.heap T47.vm T49.heap := CHr.keep K49q sf0 R48.1
              have R50 := R48.trans r50
              have Z50 := nt Z48 K49q.1
              have O50 := O48.keep K49q all0
              have K50 := K48.trans K49q all0
              refine gsW (fun _ k => o_astore X49 hx hby at_90 rfl rfl (o_aload X49 hx hby at_92 rfl rfl (o_aload X49 hx hby at_94 rfl rfl k))) ?_
              have f51 := (Tx.keep0 K49q)
              obtain ⟨_, _, ⟨T52, L52, k52, n52⟩, -, X52, ⟨Lc52, hQ52, l52, y52, z52⟩, st52⟩ := Jvm.LawKit.callS X49 hx (y := my1) hown (mvT hZ (ow hw 42 rfl)) (mvT hZ (ow hw 43 rfl)) (mvT hZ (ow hw 44 rfl)) (mvT hZ (ow hw 45 rfl)) (by decide) (backC (W := 0) (rm_wsL l Z a0 hw [] a49 a47 (own_mk (i0 &&& (3 : Int32)) ((i1 &&& (65535 : Int32)).toUInt32.toUInt16.toUInt32.toInt32) ((i2 &&& (65535 : Int32)).toUInt32.toUInt16.toUInt32.toInt32) ((i3 &&& (65535 : Int32)).toUInt32.toUInt16.toUInt32.toInt32)) z fm T49.heap n0 Z50 O50 S0 hz S4 hfm S_ad S_hi S_lo f51 m58.2.1 hbx m58.1) hZ (ow hw 45 rfl) (ow hw 44 rfl) (by decide) (by decide)) (g := (mkF m 96 #[iv (i0), iv (i1), iv (i2), iv (i3), iv (i4), iv ((i0 &&& (3 : Int32))), iv (((i1 &&& (65535 : Int32)).toUInt32.toUInt16.toUInt32.toInt32)), iv (((i2 &&& (65535 : Int32)).toUInt32.toUInt16.toUInt32.toInt32)), iv (((i3 &&& (65535 : Int32)).toUInt32.toUInt16.toUInt32.toInt32)), rv (a47), rv (a49), uu] [(.ref a49), (.ref a47)])) rfl (by rw [hml]; rfl) (argsL := [(.ref a47), (.ref a49)]) (rest := []) (lenOf pd_596 rfl) rfl (own_w0 rfl) (hb hby at_96) (fun _ _ => ⟨rfl, rfl, (by decide : 8 + 0 ≤ _), (by decide : 21 + 0 ≤ _)⟩)
              dsimp only [Pt.U, Pt.locs, Pt.cells, Pt.slots] at X52 l52 y52 z52 st52 hQ52
              subst l52 y52 z52
              obtain ⟨rfl, N52q, e52q⟩ := hQ52
              have N52 := Fr.app N49 N52q
              refine gsW (S' := T52.setTop (mkF m 99 #[iv (i0), iv (i1), iv (i2), iv (i3), iv (i4), iv ((i0 &&& (3 : Int32))), iv (((i1 &&& (65535 : Int32)).toUInt32.toUInt16.toUInt32.toInt32)), iv (((i2 &&& (65535 : Int32)).toUInt32.toUInt16.toUInt32.toInt32)), iv (((i3 &&& (65535 : Int32)).toUInt32.toUInt16.toUInt32.toInt32)), rv (a47), rv (a49), uu] [(.ref a47)])) st52 ?_
              refine gsW (fun _ k => o_astore X52 hx hby at_99 rfl rfl (o_aload X52 hx hby at_101 rfl rfl (o_aload X52 hx hby at_103 rfl rfl (Jvm.RoadKit.acmp (g := (mkF m 105 #[iv (i0), iv (i1), iv (i2), iv (i3), iv (i4), iv ((i0 &&& (3 : Int32))), iv (((i1 &&& (65535 : Int32)).toUInt32.toUInt16.toUInt32.toInt32)), iv (((i2 &&& (65535 : Int32)).toUInt32.toUInt16.toUInt32.toInt32)), iv (((i3 &&& (65535 : Int32)).toUInt32.toUInt16.toUInt32.toInt32)), rv (a47), rv (a49), rv (a47)] [(.ref a47), (.ref a47)])) X52 hx rfl rfl rfl (pc0 := 105) (pc' := 108) (same := true) rfl (hb hby at_105) rfl (decide_eq_true rfl) (by decide) (by decide) (o_aload X52 hx hby at_108 rfl rfl k))))) ?_
              obtain ⟨cq53, kq53, q53a, q53b, q53c⟩ := isOf hZ e52q f51.exa
              obtain ⟨_, _, ⟨T53, L53, k53, n53⟩, -, X53, ⟨Lc53, hQ53, l53, y53, z53⟩, st53⟩ := X52.virtualBack hx (y := my0) (z := my0) hown (mvT hZ (ow hw 84 rfl)) (mvT hZ (ow hw 62 rfl)) (notFace_of_selects (args := #[]) (mvT hZ (ow hw 64 rfl))) (mvT hZ (ow hw 64 rfl)) (mvT hZ (ow hw 63 rfl)) (by decide) (own_lenB (W := 0) hZ hw f51 hbx (S0.ext O50.2) hz (nt m58.2.1 (by decide)) (by decide) (by decide)) q53a q53c (g := (mkF m 110 #[iv (i0), iv (i1), iv (i2), iv (i3), iv (i4), iv ((i0 &&& (3 : Int32))), iv (((i1 &&& (65535 : Int32)).toUInt32.toUInt16.toUInt32.toInt32)), iv (((i2 &&& (65535 : Int32)).toUInt32.toUInt16.toUInt32.toInt32)), iv (((i3 &&& (65535 : Int32)).toUInt32.toUInt16.toUInt32.toInt32)), rv (a47), rv (a49), rv (a47)] [(.ref a47)])) rfl (by rw [hml]; rfl) (Steps.refl _) (argsL := []) (rest := []) (lenOf pd_401 rfl) rfl (own_w0 rfl) (hb hby at_110) (fun _ _ => ⟨rfl, e52q, (by decide : 8 + 0 ≤ _), (by decide : 21 + 0 ≤ _)⟩)
              dsimp only [Pt.U, Pt.locs, Pt.cells, Pt.slots] at X53 l53 y53 z53 st53 hQ53
              subst l53 y53 z53
              obtain ⟨rfl, rfl, e53q⟩ := hQ53
              have N53 := Fr.app N52 (Fr.nil n0)
              refine gsW (S' := T53.setTop (mkF m 113 #[iv (i0), iv (i1), iv (i2), iv (i3), iv (i4), iv ((i0 &&& (3 : Int32))), iv (((i1 &&& (65535 : Int32)).toUInt32.toUInt16.toUInt32.toInt32)), iv (((i2 &&& (65535 : Int32)).toUInt32.toUInt16.toUInt32.toInt32)), iv (((i3 &&& (65535 : Int32)).toUInt32.toUInt16.toUInt32.toInt32)), rv (a47), rv (a49), rv (a47)] [(.int (Int32.ofNat (own_mk (i0 &&& (3 : Int32)) ((i1 &&& (65535 : Int32)).toUInt32.toUInt16.toUInt32.toInt32) ((i2 &&& (65535 : Int32)).toUInt32.toUInt16.toUInt32.toInt32) ((i3 &&& (65535 : Int32)).toUInt32.toUInt16.toUInt32.toInt32)).length))])) (fun _ k => st53.trans k) ?_
              refine gsW (fun _ k => o_iload X53 hx hby at_113 rfl (o_icmpNo X53 hx hby at_115 (teq m58.2.2.1).2 (o_iconst (v := (1 : Int32)) X53 hx hby at_118 (o_goto (pc' := 123) X53 hx hby at_119 k)))) ?_
              refine goutW (v := some (.int (1 : Int32))) X53 hS (nt (Nat.le_refl T47.heap.size) K49q.1) hZ (own_EW hw) hh e53q R50 Bd.notSynchronized (fun h => by rw [Bd.returns] at h; cases h) (by decide) (by decide) ?_ (fun fs hr => retN X53 hx (t := .boolean) Bd.returns (by simp) (hb hby at_123) hr)
              exact ⟨rfl, N53⟩
            · refine gsW (fun _ k => o_astore X47 hx hby at_78 rfl rfl (o_iload X47 hx hby at_80 rfl (XS.sipush X47.here hx rfl (hb hby at_82) (o_iand X47 hx hby at_85 (o_i2c X47 hx hby at_86 k))))) ?_
              refine cSW (rest := []) X47 hx hZ hown (ow hw 27 rfl) (ow hw 28 rfl) (ow hw 7 rfl) (ow hw 29 rfl) (rm_vo l Z a0 hw [] ((i4 &&& (255 : Int32)).toUInt32.toUInt16.toUInt32.toInt32) z T47.heap n0 Z48 O48 S0 hz (own_ci i4).2) hby at_87 rfl pd_595 0 (by rw [hml]; rfl) rfl rfl rfl rfl (by decide) (by decide) fun _ T54 Lc54 X54 hQ54 => ?_
              obtain ⟨a54, rfl, N54q, K54q, T54q⟩ := hQ54
              have N54 := Fr.app N47 N54q
              have r55 : CHr Z own_EL T47.vm T47.heap T47.vm T54.heap := CHr.keep K54q sf0 R48.1
              have R55 := R48.trans r55
              have Z55 := nt Z48 K54q.1
              have O55 := O48.keep K54q all0
              have K55 := K48.trans K54q all0
              refine gsW (fun _ k => o_astore X54 hx hby at_90 rfl rfl (o_aload X54 hx hby at_92 rfl rfl (o_aload X54 hx hby at_94 rfl rfl k))) ?_
              have f56 := (Ux.keep0 K54q)
              obtain ⟨_, _, ⟨T57, L57, k57, n57⟩, -, X57, ⟨Lc57, hQ57, l57, y57, z57⟩, st57⟩ := Jvm.LawKit.callS X54 hx (y := my1) hown (mvT hZ (ow hw 42 rfl)) (mvT hZ (ow hw 43 rfl)) (mvT hZ (ow hw 44 rfl)) (mvT hZ (ow hw 45 rfl)) (by decide) (backC (W := 0) (rm_wsU l Z a0 hw [] a54 a47 (own_mk (i0 &&& (3 : Int32)) ((i1 &&& (65535 : Int32)).toUInt32.toUInt16.toUInt32.toInt32) ((i2 &&& (65535 : Int32)).toUInt32.toUInt16.toUInt32.toInt32) ((i3 &&& (65535 : Int32)).toUInt32.toUInt16.toUInt32.toInt32)) z fm T54.heap n0 Z55 O55 S0 hz S4 hfm S_ad S_hi S_lo f56 m58.2.1 ⟨hne, m16.1⟩ m58.1) hZ (ow hw 45 rfl) (ow hw 44 rfl) (by decide) (by decide)) (g := (mkF m 96 #[iv (i0), iv (i1), iv (i2), iv (i3), iv (i4), iv ((i0 &&& (3 : Int32))), iv (((i1 &&& (65535 : Int32)).toUInt32.toUInt16.toUInt32.toInt32)), iv (((i2 &&& (65535 : Int32)).toUInt32.toUInt16.toUInt32.toInt32)), iv (((i3 &&& (65535 : Int32)).toUInt32.toUInt16.toUInt32.toInt32)), rv (a47), rv (a54), uu] [(.ref a54), (.ref a47)])) rfl (by rw [hml]; rfl) (argsL := [(.ref a47), (.ref a54)]) (rest := []) (lenOf pd_596 rfl) rfl (own_w0 rfl) (hb hby at_96) (fun _ _ => ⟨rfl, rfl, (by decide : 8 + 0 ≤ _), (by decide : 21 + 0 ≤ _)⟩)
              dsimp only [Pt.U, Pt.locs, Pt.cells, Pt.slots] at X57 l57 y57 z57 st57 hQ57
              subst l57 y57 z57
              obtain ⟨rfl, N57q, e57q⟩ := hQ57
              have N57 := Fr.app N54 N57q
              refine gsW (S' := T57.setTop (mkF m 99 #[iv (i0), iv (i1), iv (i2), iv (i3), iv (i4), iv ((i0 &&& (3 : Int32))), iv (((i1 &&& (65535 : Int32)).toUInt32.toUInt16.toUInt32.toInt32)), iv (((i2 &&& (65535 : Int32)).toUInt32.toUInt16.toUInt32.toInt32)), iv (((i3 &&& (65535 : Int32)).toUInt32.toUInt16.toUInt32.toInt32)), rv (a47), rv (a54), uu] [(.ref a47)])) st57 ?_
              refine gsW (fun _ k => o_astore X57 hx hby at_99 rfl rfl (o_aload X57 hx hby at_101 rfl rfl (o_aload X57 hx hby at_103 rfl rfl (Jvm.RoadKit.acmp (g := (mkF m 105 #[iv (i0), iv (i1), iv (i2), iv (i3), iv (i4), iv ((i0 &&& (3 : Int32))), iv (((i1 &&& (65535 : Int32)).toUInt32.toUInt16.toUInt32.toInt32)), iv (((i2 &&& (65535 : Int32)).toUInt32.toUInt16.toUInt32.toInt32)), iv (((i3 &&& (65535 : Int32)).toUInt32.toUInt16.toUInt32.toInt32)), rv (a47), rv (a54), rv (a47)] [(.ref a47), (.ref a47)])) X57 hx rfl rfl rfl (pc0 := 105) (pc' := 108) (same := true) rfl (hb hby at_105) rfl (decide_eq_true rfl) (by decide) (by decide) (o_aload X57 hx hby at_108 rfl rfl k))))) ?_
              have f59 := (Ux.exa.keep K54q)
              obtain ⟨cq58, kq58, q58a, q58b, q58c⟩ := isOf hZ e57q f59
              obtain ⟨_, _, ⟨T58, L58, k58, n58⟩, -, X58, ⟨Lc58, hQ58, l58, y58, z58⟩, st58⟩ := X57.virtualBack hx (y := my0) (z := my0) hown (mvT hZ (ow hw 84 rfl)) (mvT hZ (ow hw 62 rfl)) (notFace_of_selects (args := #[]) (mvT hZ (ow hw 64 rfl))) (mvT hZ (ow hw 64 rfl)) (mvT hZ (ow hw 63 rfl)) (by decide) (backC (W := 0) (rm_lenU l Z a0 hw [] a47 (own_mk (i0 &&& (3 : Int32)) ((i1 &&& (65535 : Int32)).toUInt32.toUInt16.toUInt32.toInt32) ((i2 &&& (65535 : Int32)).toUInt32.toUInt16.toUInt32.toInt32) ((i3 &&& (65535 : Int32)).toUInt32.toUInt16.toUInt32.toInt32)) z T54.heap n0 Z55 O55 S0 hz f56 m58.2.1 hne) hZ (ow hw 65 rfl) (ow hw 7 rfl) (by decide) (by decide)) q58a q58c (g := (mkF m 110 #[iv (i0), iv (i1), iv (i2), iv (i3), iv (i4), iv ((i0 &&& (3 : Int32))), iv (((i1 &&& (65535 : Int32)).toUInt32.toUInt16.toUInt32.toInt32)), iv (((i2 &&& (65535 : Int32)).toUInt32.toUInt16.toUInt32.toInt32)), iv (((i3 &&& (65535 : Int32)).toUInt32.toUInt16.toUInt32.toInt32)), rv (a47), rv (a54), rv (a47)] [(.ref a47)])) rfl (by rw [hml]; rfl) (Steps.refl _) (argsL := []) (rest := []) (lenOf pd_401 rfl) rfl (own_w0 rfl) (hb hby at_110) (fun _ _ => ⟨rfl, e57q, (by decide : 8 + 0 ≤ _), (by decide : 21 + 0 ≤ _)⟩)
              dsimp only [Pt.U, Pt.locs, Pt.cells, Pt.slots] at X58 l58 y58 z58 st58 hQ58
              subst l58 y58 z58
              obtain ⟨rfl, N58q, e58q⟩ := hQ58
              have N58 := Fr.app N57 N58q
              refine gsW (S' := T58.setTop (mkF m 113 #[iv (i0), iv (i1), iv (i2), iv (i3), iv (i4), iv ((i0 &&& (3 : Int32))), iv (((i1 &&& (65535 : Int32)).toUInt32.toUInt16.toUInt32.toInt32)), iv (((i2 &&& (65535 : Int32)).toUInt32.toUInt16.toUInt32.toInt32)), iv (((i3 &&& (65535 : Int32)).toUInt32.toUInt16.toUInt32.toInt32)), rv (a47), rv (a54), rv (a47)] [(.int (Int32.ofNat (own_mk (i0 &&& (3 : Int32)) ((i1 &&& (65535 : Int32)).toUInt32.toUInt16.toUInt32.toInt32) ((i2 &&& (65535 : Int32)).toUInt32.toUInt16.toUInt32.toInt32) ((i3 &&& (65535 : Int32)).toUInt32.toUInt16.toUInt32.toInt32)).length))])) (fun _ k => st58.trans k) ?_
              refine gsW (fun _ k => o_iload X58 hx hby at_113 rfl (o_icmpNo X58 hx hby at_115 (teq m58.2.2.1).2 (o_iconst (v := (1 : Int32)) X58 hx hby at_118 (o_goto (pc' := 123) X58 hx hby at_119 k)))) ?_
              refine goutW (v := some (.int (1 : Int32))) X58 hS (nt (Nat.le_refl T47.heap.size) K54q.1) hZ (own_EW hw) hh e58q R55 Bd.notSynchronized (fun h => by rw [Bd.returns] at h; cases h) (by decide) (by decide) ?_ (fun fs hr => retN X58 hx (t := .boolean) Bd.returns (by simp) (hb hby at_123) hr)
              exact ⟨rfl, N58⟩
  · refine gsW (fun _ k => o_icmpNo X0 hx hby at_29 (flt hc1).1 (o_iload X0 hx hby at_32 rfl (o_bipush (v := (58 : Int32)) X0 hx hby at_34 k))) ?_
    by_cases hc60 : ((i1 &&& (65535 : Int32)).toUInt32.toUInt16.toUInt32.toInt32) = (58 : Int32)
    · refine gsW (fun _ k => o_icmpYes (pc' := 65) X0 hx hby at_36 (teq hc60).1 (o_iconst (v := (1 : Int32)) X0 hx hby at_65 k)) ?_
      refine goutW (v := some (.int (1 : Int32))) X0 hS hk hZ (own_EW hw) hh e0 R0 Bd.notSynchronized (fun h => by rw [Bd.returns] at h; cases h) (by decide) (by decide) ?_ (fun fs hr => retN X0 hx (t := .boolean) Bd.returns (by simp) (hb hby at_66) hr)
      exact ⟨rfl, N0⟩
    · refine gsW (fun _ k => o_icmpNo X0 hx hby at_36 (feq hc60).1 (o_iload X0 hx hby at_39 rfl (o_iconst (v := (2 : Int32)) X0 hx hby at_41 k))) ?_
      by_cases hc61 : (i0 &&& (3 : Int32)) < (2 : Int32)
      · refine gsW (fun _ k => o_icmpYes (pc' := 52) X0 hx hby at_42 (tlt hc61).1 (o_iload X0 hx hby at_52 rfl (o_iconst (v := (3 : Int32)) X0 hx hby at_54 k))) ?_
        by_cases hc62 : (i0 &&& (3 : Int32)) < (3 : Int32)
        · refine gsW (fun _ k => o_icmpYes (pc' := 67) X0 hx hby at_55 (tlt hc62).1 (o_iload X0 hx hby at_67 rfl (o_iload X0 hx hby at_69 rfl (o_iload X0 hx hby at_71 rfl (o_iload X0 hx hby at_73 rfl k))))) ?_
          have hr3 : 0 ≤ (i0 &&& (3 : Int32)).toInt ∧ (i0 &&& (3 : Int32)).toInt ≤ 3 := by have q := c_and i0 3 (by decide); have e : (3 : Int32).toInt = 3 := (by decide); omega
          have m58 := own_mk_all (p0 := (i0 &&& (3 : Int32))) (p1 := ((i1 &&& (65535 : Int32)).toUInt32.toUInt16.toUInt32.toInt32)) (p2 := ((i2 &&& (65535 : Int32)).toUInt32.toUInt16.toUInt32.toInt32)) (p3 := ((i3 &&& (65535 : Int32)).toUInt32.toUInt16.toUInt32.toInt32)) (Q := fun c => ¬ c = (58 : Int32)) (fun _ => hc60) (fun q => absurd hc61 q) (fun q => absurd hc62 q) hr3
          have m16 := own_mk_all (p0 := (i0 &&& (3 : Int32))) (p1 := ((i1 &&& (65535 : Int32)).toUInt32.toUInt16.toUInt32.toInt32)) (p2 := ((i2 &&& (65535 : Int32)).toUInt32.toUInt16.toUInt32.toInt32)) (p3 := ((i3 &&& (65535 : Int32)).toUInt32.toUInt16.toUInt32.toInt32)) (Q := fun c => ¬ c < 0 ∧ ¬ (65535 : Int32) < c) (fun _ => own_c16 i1) (fun _ => own_c16 i2) (fun _ => own_c16 i3) hr3
          refine cSS (rest := []) X0 hx hS hk hZ hown (ow hw 1 rfl) (ow hw 2 rfl) (ow hw 3 rfl) (ow hw 4 rfl) (rm_mk l Z a0 hw [] (i0 &&& (3 : Int32)) ((i1 &&& (65535 : Int32)).toUInt32.toUInt16.toUInt32.toInt32) ((i2 &&& (65535 : Int32)).toUInt32.toUInt16.toUInt32.toInt32) ((i3 &&& (65535 : Int32)).toUInt32.toUInt16.toUInt32.toInt32) z h0 n0 Z0 O0 S0 hz S_ad S_hi S_lo (own_c16 i1) (own_c16 i2) (own_c16 i3)) (own_EW hw) R0.1 hby at_75 e0 pd_594 0 (by rw [hml]; rfl) rfl rfl rfl rfl (by decide) (by decide) fun _ T63 Lc63 X63 hS hZ hown hQ63 rq63 => ?_
          obtain ⟨a63, rfl, N63q, K63q, D63q⟩ := hQ63
          have N63 := Fr.app N0 N63q
          have r64 : CHr Z own_EL s.vm h0 T63.vm T63.heap := rq63
          have R64 := R0.trans r64
          have Z64 := nt Z0 K63q.1
          have O64 := O0.keep K63q all0
          have K64 := K0.trans K63q all0
          rcases D63q with ⟨Tx, hbx⟩ | ⟨Ux, hne⟩
          · refine gsW (fun _ k => o_astore X63 hx hby at_78 rfl rfl (o_iload X63 hx hby at_80 rfl (XS.sipush X63.here hx rfl (hb hby at_82) (o_iand X63 hx hby at_85 (o_i2c X63 hx hby at_86 k))))) ?_
            refine cSW (rest := []) X63 hx hZ hown (ow hw 27 rfl) (ow hw 28 rfl) (ow hw 7 rfl) (ow hw 29 rfl) (rm_vo l Z a0 hw [] ((i4 &&& (255 : Int32)).toUInt32.toUInt16.toUInt32.toInt32) z T63.heap n0 Z64 O64 S0 hz (own_ci i4).2) hby at_87 rfl pd_595 0 (by rw [hml]; rfl) rfl rfl rfl rfl (by decide) (by decide) fun _ T65 Lc65 X65 hQ65 => ?_
            obtain ⟨a65, rfl, N65q, K65q, T65q⟩ := hQ65
            have N65 := Fr.app N63 N65q
            have r66 : CHr Z own_EL T63.vm T63.heap T63.vm T65.heap := CHr.keep K65q sf0 R64.1
            have R66 := R64.trans r66
            have Z66 := nt Z64 K65q.1
            have O66 := O64.keep K65q all0
            have K66 := K64.trans K65q all0
            refine gsW (fun _ k => o_astore X65 hx hby at_90 rfl rfl (o_aload X65 hx hby at_92 rfl rfl (o_aload X65 hx hby at_94 rfl rfl k))) ?_
            have f67 := (Tx.keep0 K65q)
            obtain ⟨_, _, ⟨T68, L68, k68, n68⟩, -, X68, ⟨Lc68, hQ68, l68, y68, z68⟩, st68⟩ := Jvm.LawKit.callS X65 hx (y := my1) hown (mvT hZ (ow hw 42 rfl)) (mvT hZ (ow hw 43 rfl)) (mvT hZ (ow hw 44 rfl)) (mvT hZ (ow hw 45 rfl)) (by decide) (backC (W := 0) (rm_wsL l Z a0 hw [] a65 a63 (own_mk (i0 &&& (3 : Int32)) ((i1 &&& (65535 : Int32)).toUInt32.toUInt16.toUInt32.toInt32) ((i2 &&& (65535 : Int32)).toUInt32.toUInt16.toUInt32.toInt32) ((i3 &&& (65535 : Int32)).toUInt32.toUInt16.toUInt32.toInt32)) z fm T65.heap n0 Z66 O66 S0 hz S4 hfm S_ad S_hi S_lo f67 m58.2.1 hbx m58.1) hZ (ow hw 45 rfl) (ow hw 44 rfl) (by decide) (by decide)) (g := (mkF m 96 #[iv (i0), iv (i1), iv (i2), iv (i3), iv (i4), iv ((i0 &&& (3 : Int32))), iv (((i1 &&& (65535 : Int32)).toUInt32.toUInt16.toUInt32.toInt32)), iv (((i2 &&& (65535 : Int32)).toUInt32.toUInt16.toUInt32.toInt32)), iv (((i3 &&& (65535 : Int32)).toUInt32.toUInt16.toUInt32.toInt32)), rv (a63), rv (a65), uu] [(.ref a65), (.ref a63)])) rfl (by rw [hml]; rfl) (argsL := [(.ref a63), (.ref a65)]) (rest := []) (lenOf pd_596 rfl) rfl (own_w0 rfl) (hb hby at_96) (fun _ _ => ⟨rfl, rfl, (by decide : 8 + 0 ≤ _), (by decide : 21 + 0 ≤ _)⟩)
            dsimp only [Pt.U, Pt.locs, Pt.cells, Pt.slots] at X68 l68 y68 z68 st68 hQ68
            subst l68 y68 z68
            obtain ⟨rfl, N68q, e68q⟩ := hQ68
            have N68 := Fr.app N65 N68q
            refine gsW (S' := T68.setTop (mkF m 99 #[iv (i0), iv (i1), iv (i2), iv (i3), iv (i4), iv ((i0 &&& (3 : Int32))), iv (((i1 &&& (65535 : Int32)).toUInt32.toUInt16.toUInt32.toInt32)), iv (((i2 &&& (65535 : Int32)).toUInt32.toUInt16.toUInt32.toInt32)), iv (((i3 &&& (65535 : Int32)).toUInt32.toUInt16.toUInt32.toInt32)), rv (a63), rv (a65), uu] [(.ref a63)])) st68 ?_
            refine gsW (fun _ k => o_astore X68 hx hby at_99 rfl rfl (o_aload X68 hx hby at_101 rfl rfl (o_aload X68 hx hby at_103 rfl rfl (Jvm.RoadKit.acmp (g := (mkF m 105 #[iv (i0), iv (i1), iv (i2), iv (i3), iv (i4), iv ((i0 &&& (3 : Int32))), iv (((i1 &&& (65535 : Int32)).toUInt32.toUInt16.toUInt32.toInt32)), iv (((i2 &&& (65535 : Int32)).toUInt32.toUInt16.toUInt32.toInt32)), iv (((i3 &&& (65535 : Int32)).toUInt32.toUInt16.toUInt32.toInt32)), rv (a63), rv (a65), rv (a63)] [(.ref a63), (.ref a63)])) X68 hx rfl rfl rfl (pc0 := 105) (pc' := 108) (same := true) rfl (hb hby at_105) rfl (decide_eq_true rfl) (by decide) (by decide) (o_aload X68 hx hby at_108 rfl rfl k))))) ?_
            obtain ⟨cq69, kq69, q69a, q69b, q69c⟩ := isOf hZ e68q f67.exa
            obtain ⟨_, _, ⟨T69, L69, k69, n69⟩, -, X69, ⟨Lc69, hQ69, l69, y69, z69⟩, st69⟩ := X68.virtualBack hx (y := my0) (z := my0) hown (mvT hZ (ow hw 84 rfl)) (mvT hZ (ow hw 62 rfl)) (notFace_of_selects (args := #[]) (mvT hZ (ow hw 64 rfl))) (mvT hZ (ow hw 64 rfl)) (mvT hZ (ow hw 63 rfl)) (by decide) (own_lenB (W := 0) hZ hw f67 hbx (S0.ext O66.2) hz (nt m58.2.1 (by decide)) (by decide) (by decide)) q69a q69c (g := (mkF m 110 #[iv (i0), iv (i1), iv (i2), iv (i3), iv (i4), iv ((i0 &&& (3 : Int32))), iv (((i1 &&& (65535 : Int32)).toUInt32.toUInt16.toUInt32.toInt32)), iv (((i2 &&& (65535 : Int32)).toUInt32.toUInt16.toUInt32.toInt32)), iv (((i3 &&& (65535 : Int32)).toUInt32.toUInt16.toUInt32.toInt32)), rv (a63), rv (a65), rv (a63)] [(.ref a63)])) rfl (by rw [hml]; rfl) (Steps.refl _) (argsL := []) (rest := []) (lenOf pd_401 rfl) rfl (own_w0 rfl) (hb hby at_110) (fun _ _ => ⟨rfl, e68q, (by decide : 8 + 0 ≤ _), (by decide : 21 + 0 ≤ _)⟩)
            dsimp only [Pt.U, Pt.locs, Pt.cells, Pt.slots] at X69 l69 y69 z69 st69 hQ69
            subst l69 y69 z69
            obtain ⟨rfl, rfl, e69q⟩ := hQ69
            have N69 := Fr.app N68 (Fr.nil n0)
            refine gsW (S' := T69.setTop (mkF m 113 #[iv (i0), iv (i1), iv (i2), iv (i3), iv (i4), iv ((i0 &&& (3 : Int32))), iv (((i1 &&& (65535 : Int32)).toUInt32.toUInt16.toUInt32.toInt32)), iv (((i2 &&& (65535 : Int32)).toUInt32.toUInt16.toUInt32.toInt32)), iv (((i3 &&& (65535 : Int32)).toUInt32.toUInt16.toUInt32.toInt32)), rv (a63), rv (a65), rv (a63)] [(.int (Int32.ofNat (own_mk (i0 &&& (3 : Int32)) ((i1 &&& (65535 : Int32)).toUInt32.toUInt16.toUInt32.toInt32) ((i2 &&& (65535 : Int32)).toUInt32.toUInt16.toUInt32.toInt32) ((i3 &&& (65535 : Int32)).toUInt32.toUInt16.toUInt32.toInt32)).length))])) (fun _ k => st69.trans k) ?_
            refine gsW (fun _ k => o_iload X69 hx hby at_113 rfl (o_icmpNo X69 hx hby at_115 (teq m58.2.2.1).2 (o_iconst (v := (1 : Int32)) X69 hx hby at_118 (o_goto (pc' := 123) X69 hx hby at_119 k)))) ?_
            refine goutW (v := some (.int (1 : Int32))) X69 hS (nt (Nat.le_refl T63.heap.size) K65q.1) hZ (own_EW hw) hh e69q R66 Bd.notSynchronized (fun h => by rw [Bd.returns] at h; cases h) (by decide) (by decide) ?_ (fun fs hr => retN X69 hx (t := .boolean) Bd.returns (by simp) (hb hby at_123) hr)
            exact ⟨rfl, N69⟩
          · refine gsW (fun _ k => o_astore X63 hx hby at_78 rfl rfl (o_iload X63 hx hby at_80 rfl (XS.sipush X63.here hx rfl (hb hby at_82) (o_iand X63 hx hby at_85 (o_i2c X63 hx hby at_86 k))))) ?_
            refine cSW (rest := []) X63 hx hZ hown (ow hw 27 rfl) (ow hw 28 rfl) (ow hw 7 rfl) (ow hw 29 rfl) (rm_vo l Z a0 hw [] ((i4 &&& (255 : Int32)).toUInt32.toUInt16.toUInt32.toInt32) z T63.heap n0 Z64 O64 S0 hz (own_ci i4).2) hby at_87 rfl pd_595 0 (by rw [hml]; rfl) rfl rfl rfl rfl (by decide) (by decide) fun _ T70 Lc70 X70 hQ70 => ?_
            obtain ⟨a70, rfl, N70q, K70q, T70q⟩ := hQ70
            have N70 := Fr.app N63 N70q
            have r71 : CHr Z own_EL T63.vm T63.heap T63.vm T70.heap := CHr.keep K70q sf0 R64.1
            have R71 := R64.trans r71
            have Z71 := nt Z64 K70q.1
            have O71 := O64.keep K70q all0
            have K71 := K64.trans K70q all0
            refine gsW (fun _ k => o_astore X70 hx hby at_90 rfl rfl (o_aload X70 hx hby at_92 rfl rfl (o_aload X70 hx hby at_94 rfl rfl k))) ?_
            have f72 := (Ux.keep0 K70q)
            obtain ⟨_, _, ⟨T73, L73, k73, n73⟩, -, X73, ⟨Lc73, hQ73, l73, y73, z73⟩, st73⟩ := Jvm.LawKit.callS X70 hx (y := my1) hown (mvT hZ (ow hw 42 rfl)) (mvT hZ (ow hw 43 rfl)) (mvT hZ (ow hw 44 rfl)) (mvT hZ (ow hw 45 rfl)) (by decide) (backC (W := 0) (rm_wsU l Z a0 hw [] a70 a63 (own_mk (i0 &&& (3 : Int32)) ((i1 &&& (65535 : Int32)).toUInt32.toUInt16.toUInt32.toInt32) ((i2 &&& (65535 : Int32)).toUInt32.toUInt16.toUInt32.toInt32) ((i3 &&& (65535 : Int32)).toUInt32.toUInt16.toUInt32.toInt32)) z fm T70.heap n0 Z71 O71 S0 hz S4 hfm S_ad S_hi S_lo f72 m58.2.1 ⟨hne, m16.1⟩ m58.1) hZ (ow hw 45 rfl) (ow hw 44 rfl) (by decide) (by decide)) (g := (mkF m 96 #[iv (i0), iv (i1), iv (i2), iv (i3), iv (i4), iv ((i0 &&& (3 : Int32))), iv (((i1 &&& (65535 : Int32)).toUInt32.toUInt16.toUInt32.toInt32)), iv (((i2 &&& (65535 : Int32)).toUInt32.toUInt16.toUInt32.toInt32)), iv (((i3 &&& (65535 : Int32)).toUInt32.toUInt16.toUInt32.toInt32)), rv (a63), rv (a70), uu] [(.ref a70), (.ref a63)])) rfl (by rw [hml]; rfl) (argsL := [(.ref a63), (.ref a70)]) (rest := []) (lenOf pd_596 rfl) rfl (own_w0 rfl) (hb hby at_96) (fun _ _ => ⟨rfl, rfl, (by decide : 8 + 0 ≤ _), (by decide : 21 + 0 ≤ _)⟩)
            dsimp only [Pt.U, Pt.locs, Pt.cells, Pt.slots] at X73 l73 y73 z73 st73 hQ73
            subst l73 y73 z73
            obtain ⟨rfl, N73q, e73q⟩ := hQ73
            have N73 := Fr.app N70 N73q
            refine gsW (S' := T73.setTop (mkF m 99 #[iv (i0), iv (i1), iv (i2), iv (i3), iv (i4), iv ((i0 &&& (3 : Int32))), iv (((i1 &&& (65535 : Int32)).toUInt32.toUInt16.toUInt32.toInt32)), iv (((i2 &&& (65535 : Int32)).toUInt32.toUInt16.toUInt32.toInt32)), iv (((i3 &&& (65535 : Int32)).toUInt32.toUInt16.toUInt32.toInt32)), rv (a63), rv (a70), uu] [(.ref a63)])) st73 ?_
            refine gsW (fun _ k => o_astore X73 hx hby at_99 rfl rfl (o_aload X73 hx hby at_101 rfl rfl (o_aload X73 hx hby at_103 rfl rfl (Jvm.RoadKit.acmp (g := (mkF m 105 #[iv (i0), iv (i1), iv (i2), iv (i3), iv (i4), iv ((i0 &&& (3 : Int32))), iv (((i1 &&& (65535 : Int32)).toUInt32.toUInt16.toUInt32.toInt32)), iv (((i2 &&& (65535 : Int32)).toUInt32.toUInt16.toUInt32.toInt32)), iv (((i3 &&& (65535 : Int32)).toUInt32.toUInt16.toUInt32.toInt32)), rv (a63), rv (a70), rv (a63)] [(.ref a63), (.ref a63)])) X73 hx rfl rfl rfl (pc0 := 105) (pc' := 108) (same := true) rfl (hb hby at_105) rfl (decide_eq_true rfl) (by decide) (by decide) (o_aload X73 hx hby at_108 rfl rfl k))))) ?_
            have f75 := (Ux.exa.keep K70q)
            obtain ⟨cq74, kq74, q74a, q74b, q74c⟩ := isOf hZ e73q f75
            obtain ⟨_, _, ⟨T74, L74, k74, n74⟩, -, X74, ⟨Lc74, hQ74, l74, y74, z74⟩, st74⟩ := X73.virtualBack hx (y := my0) (z := my0) hown (mvT hZ (ow hw 84 rfl)) (mvT hZ (ow hw 62 rfl)) (notFace_of_selects (args := #[]) (mvT hZ (ow hw 64 rfl))) (mvT hZ (ow hw 64 rfl)) (mvT hZ (ow hw 63 rfl)) (by decide) (backC (W := 0) (rm_lenU l Z a0 hw [] a63 (own_mk (i0 &&& (3 : Int32)) ((i1 &&& (65535 : Int32)).toUInt32.toUInt16.toUInt32.toInt32) ((i2 &&& (65535 : Int32)).toUInt32.toUInt16.toUInt32.toInt32) ((i3 &&& (65535 : Int32)).toUInt32.toUInt16.toUInt32.toInt32)) z T70.heap n0 Z71 O71 S0 hz f72 m58.2.1 hne) hZ (ow hw 65 rfl) (ow hw 7 rfl) (by decide) (by decide)) q74a q74c (g := (mkF m 110 #[iv (i0), iv (i1), iv (i2), iv (i3), iv (i4), iv ((i0 &&& (3 : Int32))), iv (((i1 &&& (65535 : Int32)).toUInt32.toUInt16.toUInt32.toInt32)), iv (((i2 &&& (65535 : Int32)).toUInt32.toUInt16.toUInt32.toInt32)), iv (((i3 &&& (65535 : Int32)).toUInt32.toUInt16.toUInt32.toInt32)), rv (a63), rv (a70), rv (a63)] [(.ref a63)])) rfl (by rw [hml]; rfl) (Steps.refl _) (argsL := []) (rest := []) (lenOf pd_401 rfl) rfl (own_w0 rfl) (hb hby at_110) (fun _ _ => ⟨rfl, e73q, (by decide : 8 + 0 ≤ _), (by decide : 21 + 0 ≤ _)⟩)
            dsimp only [Pt.U, Pt.locs, Pt.cells, Pt.slots] at X74 l74 y74 z74 st74 hQ74
            subst l74 y74 z74
            obtain ⟨rfl, N74q, e74q⟩ := hQ74
            have N74 := Fr.app N73 N74q
            refine gsW (S' := T74.setTop (mkF m 113 #[iv (i0), iv (i1), iv (i2), iv (i3), iv (i4), iv ((i0 &&& (3 : Int32))), iv (((i1 &&& (65535 : Int32)).toUInt32.toUInt16.toUInt32.toInt32)), iv (((i2 &&& (65535 : Int32)).toUInt32.toUInt16.toUInt32.toInt32)), iv (((i3 &&& (65535 : Int32)).toUInt32.toUInt16.toUInt32.toInt32)), rv (a63), rv (a70), rv (a63)] [(.int (Int32.ofNat (own_mk (i0 &&& (3 : Int32)) ((i1 &&& (65535 : Int32)).toUInt32.toUInt16.toUInt32.toInt32) ((i2 &&& (65535 : Int32)).toUInt32.toUInt16.toUInt32.toInt32) ((i3 &&& (65535 : Int32)).toUInt32.toUInt16.toUInt32.toInt32)).length))])) (fun _ k => st74.trans k) ?_
            refine gsW (fun _ k => o_iload X74 hx hby at_113 rfl (o_icmpNo X74 hx hby at_115 (teq m58.2.2.1).2 (o_iconst (v := (1 : Int32)) X74 hx hby at_118 (o_goto (pc' := 123) X74 hx hby at_119 k)))) ?_
            refine goutW (v := some (.int (1 : Int32))) X74 hS (nt (Nat.le_refl T63.heap.size) K70q.1) hZ (own_EW hw) hh e74q R71 Bd.notSynchronized (fun h => by rw [Bd.returns] at h; cases h) (by decide) (by decide) ?_ (fun fs hr => retN X74 hx (t := .boolean) Bd.returns (by simp) (hb hby at_123) hr)
            exact ⟨rfl, N74⟩
        · refine gsW (fun _ k => o_icmpNo X0 hx hby at_55 (flt hc62).1 (o_iload X0 hx hby at_58 rfl (o_bipush (v := (58 : Int32)) X0 hx hby at_60 k))) ?_
          by_cases hc76 : ((i3 &&& (65535 : Int32)).toUInt32.toUInt16.toUInt32.toInt32) = (58 : Int32)
          · refine gsW (fun _ k => o_icmpNo X0 hx hby at_62 (teq hc76).2 (o_iconst (v := (1 : Int32)) X0 hx hby at_65 k)) ?_
            refine goutW (v := some (.int (1 : Int32))) X0 hS hk hZ (own_EW hw) hh e0 R0 Bd.notSynchronized (fun h => by rw [Bd.returns] at h; cases h) (by decide) (by decide) ?_ (fun fs hr => retN X0 hx (t := .boolean) Bd.returns (by simp) (hb hby at_66) hr)
            exact ⟨rfl, N0⟩
          · refine gsW (fun _ k => o_icmpYes (pc' := 67) X0 hx hby at_62 (feq hc76).2 (o_iload X0 hx hby at_67 rfl (o_iload X0 hx hby at_69 rfl (o_iload X0 hx hby at_71 rfl (o_iload X0 hx hby at_73 rfl k))))) ?_
            have hr3 : 0 ≤ (i0 &&& (3 : Int32)).toInt ∧ (i0 &&& (3 : Int32)).toInt ≤ 3 := by have q := c_and i0 3 (by decide); have e : (3 : Int32).toInt = 3 := (by decide); omega
            have m58 := own_mk_all (p0 := (i0 &&& (3 : Int32))) (p1 := ((i1 &&& (65535 : Int32)).toUInt32.toUInt16.toUInt32.toInt32)) (p2 := ((i2 &&& (65535 : Int32)).toUInt32.toUInt16.toUInt32.toInt32)) (p3 := ((i3 &&& (65535 : Int32)).toUInt32.toUInt16.toUInt32.toInt32)) (Q := fun c => ¬ c = (58 : Int32)) (fun _ => hc60) (fun q => absurd hc61 q) (fun _ => hc76) hr3
            have m16 := own_mk_all (p0 := (i0 &&& (3 : Int32))) (p1 := ((i1 &&& (65535 : Int32)).toUInt32.toUInt16.toUInt32.toInt32)) (p2 := ((i2 &&& (65535 : Int32)).toUInt32.toUInt16.toUInt32.toInt32)) (p3 := ((i3 &&& (65535 : Int32)).toUInt32.toUInt16.toUInt32.toInt32)) (Q := fun c => ¬ c < 0 ∧ ¬ (65535 : Int32) < c) (fun _ => own_c16 i1) (fun _ => own_c16 i2) (fun _ => own_c16 i3) hr3
            refine cSS (rest := []) X0 hx hS hk hZ hown (ow hw 1 rfl) (ow hw 2 rfl) (ow hw 3 rfl) (ow hw 4 rfl) (rm_mk l Z a0 hw [] (i0 &&& (3 : Int32)) ((i1 &&& (65535 : Int32)).toUInt32.toUInt16.toUInt32.toInt32) ((i2 &&& (65535 : Int32)).toUInt32.toUInt16.toUInt32.toInt32) ((i3 &&& (65535 : Int32)).toUInt32.toUInt16.toUInt32.toInt32) z h0 n0 Z0 O0 S0 hz S_ad S_hi S_lo (own_c16 i1) (own_c16 i2) (own_c16 i3)) (own_EW hw) R0.1 hby at_75 e0 pd_594 0 (by rw [hml]; rfl) rfl rfl rfl rfl (by decide) (by decide) fun _ T77 Lc77 X77 hS hZ hown hQ77 rq77 => ?_
            obtain ⟨a77, rfl, N77q, K77q, D77q⟩ := hQ77
            have N77 := Fr.app N0 N77q
            have r78 : CHr Z own_EL s.vm h0 T77.vm T77.heap := rq77
            have R78 := R0.trans r78
            have Z78 := nt Z0 K77q.1
            have O78 := O0.keep K77q all0
            have K78 := K0.trans K77q all0
            rcases D77q with ⟨Tx, hbx⟩ | ⟨Ux, hne⟩
            · refine gsW (fun _ k => o_astore X77 hx hby at_78 rfl rfl (o_iload X77 hx hby at_80 rfl (XS.sipush X77.here hx rfl (hb hby at_82) (o_iand X77 hx hby at_85 (o_i2c X77 hx hby at_86 k))))) ?_
              refine cSW (rest := []) X77 hx hZ hown (ow hw 27 rfl) (ow hw 28 rfl) (ow hw 7 rfl) (ow hw 29 rfl) (rm_vo l Z a0 hw [] ((i4 &&& (255 : Int32)).toUInt32.toUInt16.toUInt32.toInt32) z T77.heap n0 Z78 O78 S0 hz (own_ci i4).2) hby at_87 rfl pd_595 0 (by rw [hml]; rfl) rfl rfl rfl rfl (by decide) (by decide) fun _ T79 Lc79 X79 hQ79 => ?_
              obtain ⟨a79, rfl, N79q, K79q, T79q⟩ := hQ79
              have N79 := Fr.app N77 N79q
              have r80 : CHr Z own_EL T77.vm T77.heap T77.vm T79.heap := CHr.keep K79q sf0 R78.1
              have R80 := R78.trans r80
              have Z80 := nt Z78 K79q.1
              have O80 := O78.keep K79q all0
              have K80 := K78.trans K79q all0
              refine gsW (fun _ k => o_astore X79 hx hby at_90 rfl rfl (o_aload X79 hx hby at_92 rfl rfl (o_aload X79 hx hby at_94 rfl rfl k))) ?_
              have f81 := (Tx.keep0 K79q)
              obtain ⟨_, _, ⟨T82, L82, k82, n82⟩, -, X82, ⟨Lc82, hQ82, l82, y82, z82⟩, st82⟩ := Jvm.LawKit.callS X79 hx (y := my1) hown (mvT hZ (ow hw 42 rfl)) (mvT hZ (ow hw 43 rfl)) (mvT hZ (ow hw 44 rfl)) (mvT hZ (ow hw 45 rfl)) (by decide) (backC (W := 0) (rm_wsL l Z a0 hw [] a79 a77 (own_mk (i0 &&& (3 : Int32)) ((i1 &&& (65535 : Int32)).toUInt32.toUInt16.toUInt32.toInt32) ((i2 &&& (65535 : Int32)).toUInt32.toUInt16.toUInt32.toInt32) ((i3 &&& (65535 : Int32)).toUInt32.toUInt16.toUInt32.toInt32)) z fm T79.heap n0 Z80 O80 S0 hz S4 hfm S_ad S_hi S_lo f81 m58.2.1 hbx m58.1) hZ (ow hw 45 rfl) (ow hw 44 rfl) (by decide) (by decide)) (g := (mkF m 96 #[iv (i0), iv (i1), iv (i2), iv (i3), iv (i4), iv ((i0 &&& (3 : Int32))), iv (((i1 &&& (65535 : Int32)).toUInt32.toUInt16.toUInt32.toInt32)), iv (((i2 &&& (65535 : Int32)).toUInt32.toUInt16.toUInt32.toInt32)), iv (((i3 &&& (65535 : Int32)).toUInt32.toUInt16.toUInt32.toInt32)), rv (a77), rv (a79), uu] [(.ref a79), (.ref a77)])) rfl (by rw [hml]; rfl) (argsL := [(.ref a77), (.ref a79)]) (rest := []) (lenOf pd_596 rfl) rfl (own_w0 rfl) (hb hby at_96) (fun _ _ => ⟨rfl, rfl, (by decide : 8 + 0 ≤ _), (by decide : 21 + 0 ≤ _)⟩)
              dsimp only [Pt.U, Pt.locs, Pt.cells, Pt.slots] at X82 l82 y82 z82 st82 hQ82
              subst l82 y82 z82
              obtain ⟨rfl, N82q, e82q⟩ := hQ82
              have N82 := Fr.app N79 N82q
              refine gsW (S' := T82.setTop (mkF m 99 #[iv (i0), iv (i1), iv (i2), iv (i3), iv (i4), iv ((i0 &&& (3 : Int32))), iv (((i1 &&& (65535 : Int32)).toUInt32.toUInt16.toUInt32.toInt32)), iv (((i2 &&& (65535 : Int32)).toUInt32.toUInt16.toUInt32.toInt32)), iv (((i3 &&& (65535 : Int32)).toUInt32.toUInt16.toUInt32.toInt32)), rv (a77), rv (a79), uu] [(.ref a77)])) st82 ?_
              refine gsW (fun _ k => o_astore X82 hx hby at_99 rfl rfl (o_aload X82 hx hby at_101 rfl rfl (o_aload X82 hx hby at_103 rfl rfl (Jvm.RoadKit.acmp (g := (mkF m 105 #[iv (i0), iv (i1), iv (i2), iv (i3), iv (i4), iv ((i0 &&& (3 : Int32))), iv (((i1 &&& (65535 : Int32)).toUInt32.toUInt16.toUInt32.toInt32)), iv (((i2 &&& (65535 : Int32)).toUInt32.toUInt16.toUInt32.toInt32)), iv (((i3 &&& (65535 : Int32)).toUInt32.toUInt16.toUInt32.toInt32)), rv (a77), rv (a79), rv (a77)] [(.ref a77), (.ref a77)])) X82 hx rfl rfl rfl (pc0 := 105) (pc' := 108) (same := true) rfl (hb hby at_105) rfl (decide_eq_true rfl) (by decide) (by decide) (o_aload X82 hx hby at_108 rfl rfl k))))) ?_
              obtain ⟨cq83, kq83, q83a, q83b, q83c⟩ := isOf hZ e82q f81.exa
              obtain ⟨_, _, ⟨T83, L83, k83, n83⟩, -, X83, ⟨Lc83, hQ83, l83, y83, z83⟩, st83⟩ := X82.virtualBack hx (y := my0) (z := my0) hown (mvT hZ (ow hw 84 rfl)) (mvT hZ (ow hw 62 rfl)) (notFace_of_selects (args := #[]) (mvT hZ (ow hw 64 rfl))) (mvT hZ (ow hw 64 rfl)) (mvT hZ (ow hw 63 rfl)) (by decide) (own_lenB (W := 0) hZ hw f81 hbx (S0.ext O80.2) hz (nt m58.2.1 (by decide)) (by decide) (by decide)) q83a q83c (g := (mkF m 110 #[iv (i0), iv (i1), iv (i2), iv (i3), iv (i4), iv ((i0 &&& (3 : Int32))), iv (((i1 &&& (65535 : Int32)).toUInt32.toUInt16.toUInt32.toInt32)), iv (((i2 &&& (65535 : Int32)).toUInt32.toUInt16.toUInt32.toInt32)), iv (((i3 &&& (65535 : Int32)).toUInt32.toUInt16.toUInt32.toInt32)), rv (a77), rv (a79), rv (a77)] [(.ref a77)])) rfl (by rw [hml]; rfl) (Steps.refl _) (argsL := []) (rest := []) (lenOf pd_401 rfl) rfl (own_w0 rfl) (hb hby at_110) (fun _ _ => ⟨rfl, e82q, (by decide : 8 + 0 ≤ _), (by decide : 21 + 0 ≤ _)⟩)
              dsimp only [Pt.U, Pt.locs, Pt.cells, Pt.slots] at X83 l83 y83 z83 st83 hQ83
              subst l83 y83 z83
              obtain ⟨rfl, rfl, e83q⟩ := hQ83
              have N83 := Fr.app N82 (Fr.nil n0)
              refine gsW (S' := T83.setTop (mkF m 113 #[iv (i0), iv (i1), iv (i2), iv (i3), iv (i4), iv ((i0 &&& (3 : Int32))), iv (((i1 &&& (65535 : Int32)).toUInt32.toUInt16.toUInt32.toInt32)), iv (((i2 &&& (65535 : Int32)).toUInt32.toUInt16.toUInt32.toInt32)), iv (((i3 &&& (65535 : Int32)).toUInt32.toUInt16.toUInt32.toInt32)), rv (a77), rv (a79), rv (a77)] [(.int (Int32.ofNat (own_mk (i0 &&& (3 : Int32)) ((i1 &&& (65535 : Int32)).toUInt32.toUInt16.toUInt32.toInt32) ((i2 &&& (65535 : Int32)).toUInt32.toUInt16.toUInt32.toInt32) ((i3 &&& (65535 : Int32)).toUInt32.toUInt16.toUInt32.toInt32)).length))])) (fun _ k => st83.trans k) ?_
              refine gsW (fun _ k => o_iload X83 hx hby at_113 rfl (o_icmpNo X83 hx hby at_115 (teq m58.2.2.1).2 (o_iconst (v := (1 : Int32)) X83 hx hby at_118 (o_goto (pc' := 123) X83 hx hby at_119 k)))) ?_
              refine goutW (v := some (.int (1 : Int32))) X83 hS (nt (Nat.le_refl T77.heap.size) K79q.1) hZ (own_EW hw) hh e83q R80 Bd.notSynchronized (fun h => by rw [Bd.returns] at h; cases h) (by decide) (by decide) ?_ (fun fs hr => retN X83 hx (t := .boolean) Bd.returns (by simp) (hb hby at_123) hr)
              exact ⟨rfl, N83⟩
            · refine gsW (fun _ k => o_astore X77 hx hby at_78 rfl rfl (o_iload X77 hx hby at_80 rfl (XS.sipush X77.here hx rfl (hb hby at_82) (o_iand X77 hx hby at_85 (o_i2c X77 hx hby at_86 k))))) ?_
              refine cSW (rest := []) X77 hx hZ hown (ow hw 27 rfl) (ow hw 28 rfl) (ow hw 7 rfl) (ow hw 29 rfl) (rm_vo l Z a0 hw [] ((i4 &&& (255 : Int32)).toUInt32.toUInt16.toUInt32.toInt32) z T77.heap n0 Z78 O78 S0 hz (own_ci i4).2) hby at_87 rfl pd_595 0 (by rw [hml]; rfl) rfl rfl rfl rfl (by decide) (by decide) fun _ T84 Lc84 X84 hQ84 => ?_
              obtain ⟨a84, rfl, N84q, K84q, T84q⟩ := hQ84
              have N84 := Fr.app N77 N84q
              have r85 : CHr Z own_EL T77.vm T77.heap T77.vm T84.heap := CHr.keep K84q sf0 R78.1
              have R85 := R78.trans r85
              have Z85 := nt Z78 K84q.1
              have O85 := O78.keep K84q all0
              have K85 := K78.trans K84q all0
              refine gsW (fun _ k => o_astore X84 hx hby at_90 rfl rfl (o_aload X84 hx hby at_92 rfl rfl (o_aload X84 hx hby at_94 rfl rfl k))) ?_
              have f86 := (Ux.keep0 K84q)
              obtain ⟨_, _, ⟨T87, L87, k87, n87⟩, -, X87, ⟨Lc87, hQ87, l87, y87, z87⟩, st87⟩ := Jvm.LawKit.callS X84 hx (y := my1) hown (mvT hZ (ow hw 42 rfl)) (mvT hZ (ow hw 43 rfl)) (mvT hZ (ow hw 44 rfl)) (mvT hZ (ow hw 45 rfl)) (by decide) (backC (W := 0) (rm_wsU l Z a0 hw [] a84 a77 (own_mk (i0 &&& (3 : Int32)) ((i1 &&& (65535 : Int32)).toUInt32.toUInt16.toUInt32.toInt32) ((i2 &&& (65535 : Int32)).toUInt32.toUInt16.toUInt32.toInt32) ((i3 &&& (65535 : Int32)).toUInt32.toUInt16.toUInt32.toInt32)) z fm T84.heap n0 Z85 O85 S0 hz S4 hfm S_ad S_hi S_lo f86 m58.2.1 ⟨hne, m16.1⟩ m58.1) hZ (ow hw 45 rfl) (ow hw 44 rfl) (by decide) (by decide)) (g := (mkF m 96 #[iv (i0), iv (i1), iv (i2), iv (i3), iv (i4), iv ((i0 &&& (3 : Int32))), iv (((i1 &&& (65535 : Int32)).toUInt32.toUInt16.toUInt32.toInt32)), iv (((i2 &&& (65535 : Int32)).toUInt32.toUInt16.toUInt32.toInt32)), iv (((i3 &&& (65535 : Int32)).toUInt32.toUInt16.toUInt32.toInt32)), rv (a77), rv (a84), uu] [(.ref a84), (.ref a77)])) rfl (by rw [hml]; rfl) (argsL := [(.ref a77), (.ref a84)]) (rest := []) (lenOf pd_596 rfl) rfl (own_w0 rfl) (hb hby at_96) (fun _ _ => ⟨rfl, rfl, (by decide : 8 + 0 ≤ _), (by decide : 21 + 0 ≤ _)⟩)
              dsimp only [Pt.U, Pt.locs, Pt.cells, Pt.slots] at X87 l87 y87 z87 st87 hQ87
              subst l87 y87 z87
              obtain ⟨rfl, N87q, e87q⟩ := hQ87
              have N87 := Fr.app N84 N87q
              refine gsW (S' := T87.setTop (mkF m 99 #[iv (i0), iv (i1), iv (i2), iv (i3), iv (i4), iv ((i0 &&& (3 : Int32))), iv (((i1 &&& (65535 : Int32)).toUInt32.toUInt16.toUInt32.toInt32)), iv (((i2 &&& (65535 : Int32)).toUInt32.toUInt16.toUInt32.toInt32)), iv (((i3 &&& (65535 : Int32)).toUInt32.toUInt16.toUInt32.toInt32)), rv (a77), rv (a84), uu] [(.ref a77)])) st87 ?_
              refine gsW (fun _ k => o_astore X87 hx hby at_99 rfl rfl (o_aload X87 hx hby at_101 rfl rfl (o_aload X87 hx hby at_103 rfl rfl (Jvm.RoadKit.acmp (g := (mkF m 105 #[iv (i0), iv (i1), iv (i2), iv (i3), iv (i4), iv ((i0 &&& (3 : Int32))), iv (((i1 &&& (65535 : Int32)).toUInt32.toUInt16.toUInt32.toInt32)), iv (((i2 &&& (65535 : Int32)).toUInt32.toUInt16.toUInt32.toInt32)), iv (((i3 &&& (65535 : Int32)).toUInt32.toUInt16.toUInt32.toInt32)), rv (a77), rv (a84), rv (a77)] [(.ref a77), (.ref a77)])) X87 hx rfl rfl rfl (pc0 := 105) (pc' := 108) (same := true) rfl (hb hby at_105) rfl (decide_eq_true rfl) (by decide) (by decide) (o_aload X87 hx hby at_108 rfl rfl k))))) ?_
              have f89 := (Ux.exa.keep K84q)
              obtain ⟨cq88, kq88, q88a, q88b, q88c⟩ := isOf hZ e87q f89
              obtain ⟨_, _, ⟨T88, L88, k88, n88⟩, -, X88, ⟨Lc88, hQ88, l88, y88, z88⟩, st88⟩ := X87.virtualBack hx (y := my0) (z := my0) hown (mvT hZ (ow hw 84 rfl)) (mvT hZ (ow hw 62 rfl)) (notFace_of_selects (args := #[]) (mvT hZ (ow hw 64 rfl))) (mvT hZ (ow hw 64 rfl)) (mvT hZ (ow hw 63 rfl)) (by decide) (backC (W := 0) (rm_lenU l Z a0 hw [] a77 (own_mk (i0 &&& (3 : Int32)) ((i1 &&& (65535 : Int32)).toUInt32.toUInt16.toUInt32.toInt32) ((i2 &&& (65535 : Int32)).toUInt32.toUInt16.toUInt32.toInt32) ((i3 &&& (65535 : Int32)).toUInt32.toUInt16.toUInt32.toInt32)) z T84.heap n0 Z85 O85 S0 hz f86 m58.2.1 hne) hZ (ow hw 65 rfl) (ow hw 7 rfl) (by decide) (by decide)) q88a q88c (g := (mkF m 110 #[iv (i0), iv (i1), iv (i2), iv (i3), iv (i4), iv ((i0 &&& (3 : Int32))), iv (((i1 &&& (65535 : Int32)).toUInt32.toUInt16.toUInt32.toInt32)), iv (((i2 &&& (65535 : Int32)).toUInt32.toUInt16.toUInt32.toInt32)), iv (((i3 &&& (65535 : Int32)).toUInt32.toUInt16.toUInt32.toInt32)), rv (a77), rv (a84), rv (a77)] [(.ref a77)])) rfl (by rw [hml]; rfl) (Steps.refl _) (argsL := []) (rest := []) (lenOf pd_401 rfl) rfl (own_w0 rfl) (hb hby at_110) (fun _ _ => ⟨rfl, e87q, (by decide : 8 + 0 ≤ _), (by decide : 21 + 0 ≤ _)⟩)
              dsimp only [Pt.U, Pt.locs, Pt.cells, Pt.slots] at X88 l88 y88 z88 st88 hQ88
              subst l88 y88 z88
              obtain ⟨rfl, N88q, e88q⟩ := hQ88
              have N88 := Fr.app N87 N88q
              refine gsW (S' := T88.setTop (mkF m 113 #[iv (i0), iv (i1), iv (i2), iv (i3), iv (i4), iv ((i0 &&& (3 : Int32))), iv (((i1 &&& (65535 : Int32)).toUInt32.toUInt16.toUInt32.toInt32)), iv (((i2 &&& (65535 : Int32)).toUInt32.toUInt16.toUInt32.toInt32)), iv (((i3 &&& (65535 : Int32)).toUInt32.toUInt16.toUInt32.toInt32)), rv (a77), rv (a84), rv (a77)] [(.int (Int32.ofNat (own_mk (i0 &&& (3 : Int32)) ((i1 &&& (65535 : Int32)).toUInt32.toUInt16.toUInt32.toInt32) ((i2 &&& (65535 : Int32)).toUInt32.toUInt16.toUInt32.toInt32) ((i3 &&& (65535 : Int32)).toUInt32.toUInt16.toUInt32.toInt32)).length))])) (fun _ k => st88.trans k) ?_
              refine gsW (fun _ k => o_iload X88 hx hby at_113 rfl (o_icmpNo X88 hx hby at_115 (teq m58.2.2.1).2 (o_iconst (v := (1 : Int32)) X88 hx hby at_118 (o_goto (pc' := 123) X88 hx hby at_119 k)))) ?_
              refine goutW (v := some (.int (1 : Int32))) X88 hS (nt (Nat.le_refl T77.heap.size) K84q.1) hZ (own_EW hw) hh e88q R85 Bd.notSynchronized (fun h => by rw [Bd.returns] at h; cases h) (by decide) (by decide) ?_ (fun fs hr => retN X88 hx (t := .boolean) Bd.returns (by simp) (hb hby at_123) hr)
              exact ⟨rfl, N88⟩
      · refine gsW (fun _ k => o_icmpNo X0 hx hby at_42 (flt hc61).1 (o_iload X0 hx hby at_45 rfl (o_bipush (v := (58 : Int32)) X0 hx hby at_47 k))) ?_
        by_cases hc90 : ((i2 &&& (65535 : Int32)).toUInt32.toUInt16.toUInt32.toInt32) = (58 : Int32)
        · refine gsW (fun _ k => o_icmpYes (pc' := 65) X0 hx hby at_49 (teq hc90).1 (o_iconst (v := (1 : Int32)) X0 hx hby at_65 k)) ?_
          refine goutW (v := some (.int (1 : Int32))) X0 hS hk hZ (own_EW hw) hh e0 R0 Bd.notSynchronized (fun h => by rw [Bd.returns] at h; cases h) (by decide) (by decide) ?_ (fun fs hr => retN X0 hx (t := .boolean) Bd.returns (by simp) (hb hby at_66) hr)
          exact ⟨rfl, N0⟩
        · refine gsW (fun _ k => o_icmpNo X0 hx hby at_49 (feq hc90).1 (o_iload X0 hx hby at_52 rfl (o_iconst (v := (3 : Int32)) X0 hx hby at_54 k))) ?_
          by_cases hc91 : (i0 &&& (3 : Int32)) < (3 : Int32)
          · refine gsW (fun _ k => o_icmpYes (pc' := 67) X0 hx hby at_55 (tlt hc91).1 (o_iload X0 hx hby at_67 rfl (o_iload X0 hx hby at_69 rfl (o_iload X0 hx hby at_71 rfl (o_iload X0 hx hby at_73 rfl k))))) ?_
            have hr3 : 0 ≤ (i0 &&& (3 : Int32)).toInt ∧ (i0 &&& (3 : Int32)).toInt ≤ 3 := by have q := c_and i0 3 (by decide); have e : (3 : Int32).toInt = 3 := (by decide); omega
            have m58 := own_mk_all (p0 := (i0 &&& (3 : Int32))) (p1 := ((i1 &&& (65535 : Int32)).toUInt32.toUInt16.toUInt32.toInt32)) (p2 := ((i2 &&& (65535 : Int32)).toUInt32.toUInt16.toUInt32.toInt32)) (p3 := ((i3 &&& (65535 : Int32)).toUInt32.toUInt16.toUInt32.toInt32)) (Q := fun c => ¬ c = (58 : Int32)) (fun _ => hc60) (fun _ => hc90) (fun q => absurd hc91 q) hr3
            have m16 := own_mk_all (p0 := (i0 &&& (3 : Int32))) (p1 := ((i1 &&& (65535 : Int32)).toUInt32.toUInt16.toUInt32.toInt32)) (p2 := ((i2 &&& (65535 : Int32)).toUInt32.toUInt16.toUInt32.toInt32)) (p3 := ((i3 &&& (65535 : Int32)).toUInt32.toUInt16.toUInt32.toInt32)) (Q := fun c => ¬ c < 0 ∧ ¬ (65535 : Int32) < c) (fun _ => own_c16 i1) (fun _ => own_c16 i2) (fun _ => own_c16 i3) hr3
            refine cSS (rest := []) X0 hx hS hk hZ hown (ow hw 1 rfl) (ow hw 2 rfl) (ow hw 3 rfl) (ow hw 4 rfl) (rm_mk l Z a0 hw [] (i0 &&& (3 : Int32)) ((i1 &&& (65535 : Int32)).toUInt32.toUInt16.toUInt32.toInt32) ((i2 &&& (65535 : Int32)).toUInt32.toUInt16.toUInt32.toInt32) ((i3 &&& (65535 : Int32)).toUInt32.toUInt16.toUInt32.toInt32) z h0 n0 Z0 O0 S0 hz S_ad S_hi S_lo (own_c16 i1) (own_c16 i2) (own_c16 i3)) (own_EW hw) R0.1 hby at_75 e0 pd_594 0 (by rw [hml]; rfl) rfl rfl rfl rfl (by decide) (by decide) fun _ T92 Lc92 X92 hS hZ hown hQ92 rq92 => ?_
            obtain ⟨a92, rfl, N92q, K92q, D92q⟩ := hQ92
            have N92 := Fr.app N0 N92q
            have r93 : CHr Z own_EL s.vm h0 T92.vm T92.heap := rq92
            have R93 := R0.trans r93
            have Z93 := nt Z0 K92q.1
            have O93 := O0.keep K92q all0
            have K93 := K0.trans K92q all0
            rcases D92q with ⟨Tx, hbx⟩ | ⟨Ux, hne⟩
            · refine gsW (fun _ k => o_astore X92 hx hby at_78 rfl rfl (o_iload X92 hx hby at_80 rfl (XS.sipush X92.here hx rfl (hb hby at_82) (o_iand X92 hx hby at_85 (o_i2c X92 hx hby at_86 k))))) ?_
              refine cSW (rest := []) X92 hx hZ hown (ow hw 27 rfl) (ow hw 28 rfl) (ow hw 7 rfl) (ow hw 29 rfl) (rm_vo l Z a0 hw [] ((i4 &&& (255 : Int32)).toUInt32.toUInt16.toUInt32.toInt32) z T92.heap n0 Z93 O93 S0 hz (own_ci i4).2) hby at_87 rfl pd_595 0 (by rw [hml]; rfl) rfl rfl rfl rfl (by decide) (by decide) fun _ T94 Lc94 X94 hQ94 => ?_
              obtain ⟨a94, rfl, N94q, K94q, T94q⟩ := hQ94
              have N94 := Fr.app N92 N94q
              have r95 : CHr Z own_EL T92.vm T92.heap T92.vm T94.heap := CHr.keep K94q sf0 R93.1
              have R95 := R93.trans r95
              have Z95 := nt Z93 K94q.1
              have O95 := O93.keep K94q all0
              have K95 := K93.trans K94q all0
              refine gsW (fun _ k => o_astore X94 hx hby at_90 rfl rfl (o_aload X94 hx hby at_92 rfl rfl (o_aload X94 hx hby at_94 rfl rfl k))) ?_
              have f96 := (Tx.keep0 K94q)
              obtain ⟨_, _, ⟨T97, L97, k97, n97⟩, -, X97, ⟨Lc97, hQ97, l97, y97, z97⟩, st97⟩ := Jvm.LawKit.callS X94 hx (y := my1) hown (mvT hZ (ow hw 42 rfl)) (mvT hZ (ow hw 43 rfl)) (mvT hZ (ow hw 44 rfl)) (mvT hZ (ow hw 45 rfl)) (by decide) (backC (W := 0) (rm_wsL l Z a0 hw [] a94 a92 (own_mk (i0 &&& (3 : Int32)) ((i1 &&& (65535 : Int32)).toUInt32.toUInt16.toUInt32.toInt32) ((i2 &&& (65535 : Int32)).toUInt32.toUInt16.toUInt32.toInt32) ((i3 &&& (65535 : Int32)).toUInt32.toUInt16.toUInt32.toInt32)) z fm T94.heap n0 Z95 O95 S0 hz S4 hfm S_ad S_hi S_lo f96 m58.2.1 hbx m58.1) hZ (ow hw 45 rfl) (ow hw 44 rfl) (by decide) (by decide)) (g := (mkF m 96 #[iv (i0), iv (i1), iv (i2), iv (i3), iv (i4), iv ((i0 &&& (3 : Int32))), iv (((i1 &&& (65535 : Int32)).toUInt32.toUInt16.toUInt32.toInt32)), iv (((i2 &&& (65535 : Int32)).toUInt32.toUInt16.toUInt32.toInt32)), iv (((i3 &&& (65535 : Int32)).toUInt32.toUInt16.toUInt32.toInt32)), rv (a92), rv (a94), uu] [(.ref a94), (.ref a92)])) rfl (by rw [hml]; rfl) (argsL := [(.ref a92), (.ref a94)]) (rest := []) (lenOf pd_596 rfl) rfl (own_w0 rfl) (hb hby at_96) (fun _ _ => ⟨rfl, rfl, (by decide : 8 + 0 ≤ _), (by decide : 21 + 0 ≤ _)⟩)
              dsimp only [Pt.U, Pt.locs, Pt.cells, Pt.slots] at X97 l97 y97 z97 st97 hQ97
              subst l97 y97 z97
              obtain ⟨rfl, N97q, e97q⟩ := hQ97
              have N97 := Fr.app N94 N97q
              refine gsW (S' := T97.setTop (mkF m 99 #[iv (i0), iv (i1), iv (i2), iv (i3), iv (i4), iv ((i0 &&& (3 : Int32))), iv (((i1 &&& (65535 : Int32)).toUInt32.toUInt16.toUInt32.toInt32)), iv (((i2 &&& (65535 : Int32)).toUInt32.toUInt16.toUInt32.toInt32)), iv (((i3 &&& (65535 : Int32)).toUInt32.toUInt16.toUInt32.toInt32)), rv (a92), rv (a94), uu] [(.ref a92)])) st97 ?_
              refine gsW (fun _ k => o_astore X97 hx hby at_99 rfl rfl (o_aload X97 hx hby at_101 rfl rfl (o_aload X97 hx hby at_103 rfl rfl (Jvm.RoadKit.acmp (g := (mkF m 105 #[iv (i0), iv (i1), iv (i2), iv (i3), iv (i4), iv ((i0 &&& (3 : Int32))), iv (((i1 &&& (65535 : Int32)).toUInt32.toUInt16.toUInt32.toInt32)), iv (((i2 &&& (65535 : Int32)).toUInt32.toUInt16.toUInt32.toInt32)), iv (((i3 &&& (65535 : Int32)).toUInt32.toUInt16.toUInt32.toInt32)), rv (a92), rv (a94), rv (a92)] [(.ref a92), (.ref a92)])) X97 hx rfl rfl rfl (pc0 := 105) (pc' := 108) (same := true) rfl (hb hby at_105) rfl (decide_eq_true rfl) (by decide) (by decide) (o_aload X97 hx hby at_108 rfl rfl k))))) ?_
              obtain ⟨cq98, kq98, q98a, q98b, q98c⟩ := isOf hZ e97q f96.exa
              obtain ⟨_, _, ⟨T98, L98, k98, n98⟩, -, X98, ⟨Lc98, hQ98, l98, y98, z98⟩, st98⟩ := X97.virtualBack hx (y := my0) (z := my0) hown (mvT hZ (ow hw 84 rfl)) (mvT hZ (ow hw 62 rfl)) (notFace_of_selects (args := #[]) (mvT hZ (ow hw 64 rfl))) (mvT hZ (ow hw 64 rfl)) (mvT hZ (ow hw 63 rfl)) (by decide) (own_lenB (W := 0) hZ hw f96 hbx (S0.ext O95.2) hz (nt m58.2.1 (by decide)) (by decide) (by decide)) q98a q98c (g := (mkF m 110 #[iv (i0), iv (i1), iv (i2), iv (i3), iv (i4), iv ((i0 &&& (3 : Int32))), iv (((i1 &&& (65535 : Int32)).toUInt32.toUInt16.toUInt32.toInt32)), iv (((i2 &&& (65535 : Int32)).toUInt32.toUInt16.toUInt32.toInt32)), iv (((i3 &&& (65535 : Int32)).toUInt32.toUInt16.toUInt32.toInt32)), rv (a92), rv (a94), rv (a92)] [(.ref a92)])) rfl (by rw [hml]; rfl) (Steps.refl _) (argsL := []) (rest := []) (lenOf pd_401 rfl) rfl (own_w0 rfl) (hb hby at_110) (fun _ _ => ⟨rfl, e97q, (by decide : 8 + 0 ≤ _), (by decide : 21 + 0 ≤ _)⟩)
              dsimp only [Pt.U, Pt.locs, Pt.cells, Pt.slots] at X98 l98 y98 z98 st98 hQ98
              subst l98 y98 z98
              obtain ⟨rfl, rfl, e98q⟩ := hQ98
              have N98 := Fr.app N97 (Fr.nil n0)
              refine gsW (S' := T98.setTop (mkF m 113 #[iv (i0), iv (i1), iv (i2), iv (i3), iv (i4), iv ((i0 &&& (3 : Int32))), iv (((i1 &&& (65535 : Int32)).toUInt32.toUInt16.toUInt32.toInt32)), iv (((i2 &&& (65535 : Int32)).toUInt32.toUInt16.toUInt32.toInt32)), iv (((i3 &&& (65535 : Int32)).toUInt32.toUInt16.toUInt32.toInt32)), rv (a92), rv (a94), rv (a92)] [(.int (Int32.ofNat (own_mk (i0 &&& (3 : Int32)) ((i1 &&& (65535 : Int32)).toUInt32.toUInt16.toUInt32.toInt32) ((i2 &&& (65535 : Int32)).toUInt32.toUInt16.toUInt32.toInt32) ((i3 &&& (65535 : Int32)).toUInt32.toUInt16.toUInt32.toInt32)).length))])) (fun _ k => st98.trans k) ?_
              refine gsW (fun _ k => o_iload X98 hx hby at_113 rfl (o_icmpNo X98 hx hby at_115 (teq m58.2.2.1).2 (o_iconst (v := (1 : Int32)) X98 hx hby at_118 (o_goto (pc' := 123) X98 hx hby at_119 k)))) ?_
              refine goutW (v := some (.int (1 : Int32))) X98 hS (nt (Nat.le_refl T92.heap.size) K94q.1) hZ (own_EW hw) hh e98q R95 Bd.notSynchronized (fun h => by rw [Bd.returns] at h; cases h) (by decide) (by decide) ?_ (fun fs hr => retN X98 hx (t := .boolean) Bd.returns (by simp) (hb hby at_123) hr)
              exact ⟨rfl, N98⟩
            · refine gsW (fun _ k => o_astore X92 hx hby at_78 rfl rfl (o_iload X92 hx hby at_80 rfl (XS.sipush X92.here hx rfl (hb hby at_82) (o_iand X92 hx hby at_85 (o_i2c X92 hx hby at_86 k))))) ?_
              refine cSW (rest := []) X92 hx hZ hown (ow hw 27 rfl) (ow hw 28 rfl) (ow hw 7 rfl) (ow hw 29 rfl) (rm_vo l Z a0 hw [] ((i4 &&& (255 : Int32)).toUInt32.toUInt16.toUInt32.toInt32) z T92.heap n0 Z93 O93 S0 hz (own_ci i4).2) hby at_87 rfl pd_595 0 (by rw [hml]; rfl) rfl rfl rfl rfl (by decide) (by decide) fun _ T99 Lc99 X99 hQ99 => ?_
              obtain ⟨a99, rfl, N99q, K99q, T99q⟩ := hQ99
              have N99 := Fr.app N92 N99q
              have r100 : CHr Z own_EL T92.vm T92.heap T92.vm T99.heap := CHr.keep K99q sf0 R93.1
              have R100 := R93.trans r100
              have Z100 := nt Z93 K99q.1
              have O100 := O93.keep K99q all0
              have K100 := K93.trans K99q all0
              refine gsW (fun _ k => o_astore X99 hx hby at_90 rfl rfl (o_aload X99 hx hby at_92 rfl rfl (o_aload X99 hx hby at_94 rfl rfl k))) ?_
              have f101 := (Ux.keep0 K99q)
              obtain ⟨_, _, ⟨T102, L102, k102, n102⟩, -, X102, ⟨Lc102, hQ102, l102, y102, z102⟩, st102⟩ := Jvm.LawKit.callS X99 hx (y := my1) hown (mvT hZ (ow hw 42 rfl)) (mvT hZ (ow hw 43 rfl)) (mvT hZ (ow hw 44 rfl)) (mvT hZ (ow hw 45 rfl)) (by decide) (backC (W := 0) (rm_wsU l Z a0 hw [] a99 a92 (own_mk (i0 &&& (3 : Int32)) ((i1 &&& (65535 : Int32)).toUInt32.toUInt16.toUInt32.toInt32) ((i2 &&& (65535 : Int32)).toUInt32.toUInt16.toUInt32.toInt32) ((i3 &&& (65535 : Int32)).toUInt32.toUInt16.toUInt32.toInt32)) z fm T99.heap n0 Z100 O100 S0 hz S4 hfm S_ad S_hi S_lo f101 m58.2.1 ⟨hne, m16.1⟩ m58.1) hZ (ow hw 45 rfl) (ow hw 44 rfl) (by decide) (by decide)) (g := (mkF m 96 #[iv (i0), iv (i1), iv (i2), iv (i3), iv (i4), iv ((i0 &&& (3 : Int32))), iv (((i1 &&& (65535 : Int32)).toUInt32.toUInt16.toUInt32.toInt32)), iv (((i2 &&& (65535 : Int32)).toUInt32.toUInt16.toUInt32.toInt32)), iv (((i3 &&& (65535 : Int32)).toUInt32.toUInt16.toUInt32.toInt32)), rv (a92), rv (a99), uu] [(.ref a99), (.ref a92)])) rfl (by rw [hml]; rfl) (argsL := [(.ref a92), (.ref a99)]) (rest := []) (lenOf pd_596 rfl) rfl (own_w0 rfl) (hb hby at_96) (fun _ _ => ⟨rfl, rfl, (by decide : 8 + 0 ≤ _), (by decide : 21 + 0 ≤ _)⟩)
              dsimp only [Pt.U, Pt.locs, Pt.cells, Pt.slots] at X102 l102 y102 z102 st102 hQ102
              subst l102 y102 z102
              obtain ⟨rfl, N102q, e102q⟩ := hQ102
              have N102 := Fr.app N99 N102q
              refine gsW (S' := T102.setTop (mkF m 99 #[iv (i0), iv (i1), iv (i2), iv (i3), iv (i4), iv ((i0 &&& (3 : Int32))), iv (((i1 &&& (65535 : Int32)).toUInt32.toUInt16.toUInt32.toInt32)), iv (((i2 &&& (65535 : Int32)).toUInt32.toUInt16.toUInt32.toInt32)), iv (((i3 &&& (65535 : Int32)).toUInt32.toUInt16.toUInt32.toInt32)), rv (a92), rv (a99), uu] [(.ref a92)])) st102 ?_
              refine gsW (fun _ k => o_astore X102 hx hby at_99 rfl rfl (o_aload X102 hx hby at_101 rfl rfl (o_aload X102 hx hby at_103 rfl rfl (Jvm.RoadKit.acmp (g := (mkF m 105 #[iv (i0), iv (i1), iv (i2), iv (i3), iv (i4), iv ((i0 &&& (3 : Int32))), iv (((i1 &&& (65535 : Int32)).toUInt32.toUInt16.toUInt32.toInt32)), iv (((i2 &&& (65535 : Int32)).toUInt32.toUInt16.toUInt32.toInt32)), iv (((i3 &&& (65535 : Int32)).toUInt32.toUInt16.toUInt32.toInt32)), rv (a92), rv (a99), rv (a92)] [(.ref a92), (.ref a92)])) X102 hx rfl rfl rfl (pc0 := 105) (pc' := 108) (same := true) rfl (hb hby at_105) rfl (decide_eq_true rfl) (by decide) (by decide) (o_aload X102 hx hby at_108 rfl rfl k))))) ?_
              have f104 := (Ux.exa.keep K99q)
              obtain ⟨cq103, kq103, q103a, q103b, q103c⟩ := isOf hZ e102q f104
              obtain ⟨_, _, ⟨T103, L103, k103, n103⟩, -, X103, ⟨Lc103, hQ103, l103, y103, z103⟩, st103⟩ := X102.virtualBack hx (y := my0) (z := my0) hown (mvT hZ (ow hw 84 rfl)) (mvT hZ (ow hw 62 rfl)) (notFace_of_selects (args := #[]) (mvT hZ (ow hw 64 rfl))) (mvT hZ (ow hw 64 rfl)) (mvT hZ (ow hw 63 rfl)) (by decide) (backC (W := 0) (rm_lenU l Z a0 hw [] a92 (own_mk (i0 &&& (3 : Int32)) ((i1 &&& (65535 : Int32)).toUInt32.toUInt16.toUInt32.toInt32) ((i2 &&& (65535 : Int32)).toUInt32.toUInt16.toUInt32.toInt32) ((i3 &&& (65535 : Int32)).toUInt32.toUInt16.toUInt32.toInt32)) z T99.heap n0 Z100 O100 S0 hz f101 m58.2.1 hne) hZ (ow hw 65 rfl) (ow hw 7 rfl) (by decide) (by decide)) q103a q103c (g := (mkF m 110 #[iv (i0), iv (i1), iv (i2), iv (i3), iv (i4), iv ((i0 &&& (3 : Int32))), iv (((i1 &&& (65535 : Int32)).toUInt32.toUInt16.toUInt32.toInt32)), iv (((i2 &&& (65535 : Int32)).toUInt32.toUInt16.toUInt32.toInt32)), iv (((i3 &&& (65535 : Int32)).toUInt32.toUInt16.toUInt32.toInt32)), rv (a92), rv (a99), rv (a92)] [(.ref a92)])) rfl (by rw [hml]; rfl) (Steps.refl _) (argsL := []) (rest := []) (lenOf pd_401 rfl) rfl (own_w0 rfl) (hb hby at_110) (fun _ _ => ⟨rfl, e102q, (by decide : 8 + 0 ≤ _), (by decide : 21 + 0 ≤ _)⟩)
              dsimp only [Pt.U, Pt.locs, Pt.cells, Pt.slots] at X103 l103 y103 z103 st103 hQ103
              subst l103 y103 z103
              obtain ⟨rfl, N103q, e103q⟩ := hQ103
              have N103 := Fr.app N102 N103q
              refine gsW (S' := T103.setTop (mkF m 113 #[iv (i0), iv (i1), iv (i2), iv (i3), iv (i4), iv ((i0 &&& (3 : Int32))), iv (((i1 &&& (65535 : Int32)).toUInt32.toUInt16.toUInt32.toInt32)), iv (((i2 &&& (65535 : Int32)).toUInt32.toUInt16.toUInt32.toInt32)), iv (((i3 &&& (65535 : Int32)).toUInt32.toUInt16.toUInt32.toInt32)), rv (a92), rv (a99), rv (a92)] [(.int (Int32.ofNat (own_mk (i0 &&& (3 : Int32)) ((i1 &&& (65535 : Int32)).toUInt32.toUInt16.toUInt32.toInt32) ((i2 &&& (65535 : Int32)).toUInt32.toUInt16.toUInt32.toInt32) ((i3 &&& (65535 : Int32)).toUInt32.toUInt16.toUInt32.toInt32)).length))])) (fun _ k => st103.trans k) ?_
              refine gsW (fun _ k => o_iload X103 hx hby at_113 rfl (o_icmpNo X103 hx hby at_115 (teq m58.2.2.1).2 (o_iconst (v := (1 : Int32)) X103 hx hby at_118 (o_goto (pc' := 123) X103 hx hby at_119 k)))) ?_
              refine goutW (v := some (.int (1 : Int32))) X103 hS (nt (Nat.le_refl T92.heap.size) K99q.1) hZ (own_EW hw) hh e103q R100 Bd.notSynchronized (fun h => by rw [Bd.returns] at h; cases h) (by decide) (by decide) ?_ (fun fs hr => retN X103 hx (t := .boolean) Bd.returns (by simp) (hb hby at_123) hr)
              exact ⟨rfl, N103⟩
          · refine gsW (fun _ k => o_icmpNo X0 hx hby at_55 (flt hc91).1 (o_iload X0 hx hby at_58 rfl (o_bipush (v := (58 : Int32)) X0 hx hby at_60 k))) ?_
            by_cases hc105 : ((i3 &&& (65535 : Int32)).toUInt32.toUInt16.toUInt32.toInt32) = (58 : Int32)
            · refine gsW (fun _ k => o_icmpNo X0 hx hby at_62 (teq hc105).2 (o_iconst (v := (1 : Int32)) X0 hx hby at_65 k)) ?_
              refine goutW (v := some (.int (1 : Int32))) X0 hS hk hZ (own_EW hw) hh e0 R0 Bd.notSynchronized (fun h => by rw [Bd.returns] at h; cases h) (by decide) (by decide) ?_ (fun fs hr => retN X0 hx (t := .boolean) Bd.returns (by simp) (hb hby at_66) hr)
              exact ⟨rfl, N0⟩
            · refine gsW (fun _ k => o_icmpYes (pc' := 67) X0 hx hby at_62 (feq hc105).2 (o_iload X0 hx hby at_67 rfl (o_iload X0 hx hby at_69 rfl (o_iload X0 hx hby at_71 rfl (o_iload X0 hx hby at_73 rfl k))))) ?_
              have hr3 : 0 ≤ (i0 &&& (3 : Int32)).toInt ∧ (i0 &&& (3 : Int32)).toInt ≤ 3 := by have q := c_and i0 3 (by decide); have e : (3 : Int32).toInt = 3 := (by decide); omega
              have m58 := own_mk_all (p0 := (i0 &&& (3 : Int32))) (p1 := ((i1 &&& (65535 : Int32)).toUInt32.toUInt16.toUInt32.toInt32)) (p2 := ((i2 &&& (65535 : Int32)).toUInt32.toUInt16.toUInt32.toInt32)) (p3 := ((i3 &&& (65535 : Int32)).toUInt32.toUInt16.toUInt32.toInt32)) (Q := fun c => ¬ c = (58 : Int32)) (fun _ => hc60) (fun _ => hc90) (fun _ => hc105) hr3
              have m16 := own_mk_all (p0 := (i0 &&& (3 : Int32))) (p1 := ((i1 &&& (65535 : Int32)).toUInt32.toUInt16.toUInt32.toInt32)) (p2 := ((i2 &&& (65535 : Int32)).toUInt32.toUInt16.toUInt32.toInt32)) (p3 := ((i3 &&& (65535 : Int32)).toUInt32.toUInt16.toUInt32.toInt32)) (Q := fun c => ¬ c < 0 ∧ ¬ (65535 : Int32) < c) (fun _ => own_c16 i1) (fun _ => own_c16 i2) (fun _ => own_c16 i3) hr3
              refine cSS (rest := []) X0 hx hS hk hZ hown (ow hw 1 rfl) (ow hw 2 rfl) (ow hw 3 rfl) (ow hw 4 rfl) (rm_mk l Z a0 hw [] (i0 &&& (3 : Int32)) ((i1 &&& (65535 : Int32)).toUInt32.toUInt16.toUInt32.toInt32) ((i2 &&& (65535 : Int32)).toUInt32.toUInt16.toUInt32.toInt32) ((i3 &&& (65535 : Int32)).toUInt32.toUInt16.toUInt32.toInt32) z h0 n0 Z0 O0 S0 hz S_ad S_hi S_lo (own_c16 i1) (own_c16 i2) (own_c16 i3)) (own_EW hw) R0.1 hby at_75 e0 pd_594 0 (by rw [hml]; rfl) rfl rfl rfl rfl (by decide) (by decide) fun _ T106 Lc106 X106 hS hZ hown hQ106 rq106 => ?_
              obtain ⟨a106, rfl, N106q, K106q, D106q⟩ := hQ106
              have N106 := Fr.app N0 N106q
              have r107 : CHr Z own_EL s.vm h0 T106.vm T106.heap := rq106
              have R107 := R0.trans r107
              have Z107 := nt Z0 K106q.1
              have O107 := O0.keep K106q all0
              have K107 := K0.trans K106q all0
              rcases D106q with ⟨Tx, hbx⟩ | ⟨Ux, hne⟩
              · refine gsW (fun _ k => o_astore X106 hx hby at_78 rfl rfl (o_iload X106 hx hby at_80 rfl (XS.sipush X106.here hx rfl (hb hby at_82) (o_iand X106 hx hby at_85 (o_i2c X106 hx hby at_86 k))))) ?_
                refine cSW (rest := []) X106 hx hZ hown (ow hw 27 rfl) (ow hw 28 rfl) (ow hw 7 rfl) (ow hw 29 rfl) (rm_vo l Z a0 hw [] ((i4 &&& (255 : Int32)).toUInt32.toUInt16.toUInt32.toInt32) z T106.heap n0 Z107 O107 S0 hz (own_ci i4).2) hby at_87 rfl pd_595 0 (by rw [hml]; rfl) rfl rfl rfl rfl (by decide) (by decide) fun _ T108 Lc108 X108 hQ108 => ?_
                obtain ⟨a108, rfl, N108q, K108q, T108q⟩ := hQ108
                have N108 := Fr.app N106 N108q
                have r109 : CHr Z own_EL T106.vm T106.heap T106.vm T108.heap := CHr.keep K108q sf0 R107.1
                have R109 := R107.trans r109
                have Z109 := nt Z107 K108q.1
                have O109 := O107.keep K108q all0
                have K109 := K107.trans K108q all0
                refine gsW (fun _ k => o_astore X108 hx hby at_90 rfl rfl (o_aload X108 hx hby at_92 rfl rfl (o_aload X108 hx hby at_94 rfl rfl k))) ?_
                have f110 := (Tx.keep0 K108q)
                obtain ⟨_, _, ⟨T111, L111, k111, n111⟩, -, X111, ⟨Lc111, hQ111, l111, y111, z111⟩, st111⟩ := Jvm.LawKit.callS X108 hx (y := my1) hown (mvT hZ (ow hw 42 rfl)) (mvT hZ (ow hw 43 rfl)) (mvT hZ (ow hw 44 rfl)) (mvT hZ (ow hw 45 rfl)) (by decide) (backC (W := 0) (rm_wsL l Z a0 hw [] a108 a106 (own_mk (i0 &&& (3 : Int32)) ((i1 &&& (65535 : Int32)).toUInt32.toUInt16.toUInt32.toInt32) ((i2 &&& (65535 : Int32)).toUInt32.toUInt16.toUInt32.toInt32) ((i3 &&& (65535 : Int32)).toUInt32.toUInt16.toUInt32.toInt32)) z fm T108.heap n0 Z109 O109 S0 hz S4 hfm S_ad S_hi S_lo f110 m58.2.1 hbx m58.1) hZ (ow hw 45 rfl) (ow hw 44 rfl) (by decide) (by decide)) (g := (mkF m 96 #[iv (i0), iv (i1), iv (i2), iv (i3), iv (i4), iv ((i0 &&& (3 : Int32))), iv (((i1 &&& (65535 : Int32)).toUInt32.toUInt16.toUInt32.toInt32)), iv (((i2 &&& (65535 : Int32)).toUInt32.toUInt16.toUInt32.toInt32)), iv (((i3 &&& (65535 : Int32)).toUInt32.toUInt16.toUInt32.toInt32)), rv (a106), rv (a108), uu] [(.ref a108), (.ref a106)])) rfl (by rw [hml]; rfl) (argsL := [(.ref a106), (.ref a108)]) (rest := []) (lenOf pd_596 rfl) rfl (own_w0 rfl) (hb hby at_96) (fun _ _ => ⟨rfl, rfl, (by decide : 8 + 0 ≤ _), (by decide : 21 + 0 ≤ _)⟩)
                dsimp only [Pt.U, Pt.locs, Pt.cells, Pt.slots] at X111 l111 y111 z111 st111 hQ111
                subst l111 y111 z111
                obtain ⟨rfl, N111q, e111q⟩ := hQ111
                have N111 := Fr.app N108 N111q
                refine gsW (S' := T111.setTop (mkF m 99 #[iv (i0), iv (i1), iv (i2), iv (i3), iv (i4), iv ((i0 &&& (3 : Int32))), iv (((i1 &&& (65535 : Int32)).toUInt32.toUInt16.toUInt32.toInt32)), iv (((i2 &&& (65535 : Int32)).toUInt32.toUInt16.toUInt32.toInt32)), iv (((i3 &&& (65535 : Int32)).toUInt32.toUInt16.toUInt32.toInt32)), rv (a106), rv (a108), uu] [(.ref a106)])) st111 ?_
                refine gsW (fun _ k => o_astore X111 hx hby at_99 rfl rfl (o_aload X111 hx hby at_101 rfl rfl (o_aload X111 hx hby at_103 rfl rfl (Jvm.RoadKit.acmp (g := (mkF m 105 #[iv (i0), iv (i1), iv (i2), iv (i3), iv (i4), iv ((i0 &&& (3 : Int32))), iv (((i1 &&& (65535 : Int32)).toUInt32.toUInt16.toUInt32.toInt32)), iv (((i2 &&& (65535 : Int32)).toUInt32.toUInt16.toUInt32.toInt32)), iv (((i3 &&& (65535 : Int32)).toUInt32.toUInt16.toUInt32.toInt32)), rv (a106), rv (a108), rv (a106)] [(.ref a106), (.ref a106)])) X111 hx rfl rfl rfl (pc0 := 105) (pc' := 108) (same := true) rfl (hb hby at_105) rfl (decide_eq_true rfl) (by decide) (by decide) (o_aload X111 hx hby at_108 rfl rfl k))))) ?_
                obtain ⟨cq112, kq112, q112a, q112b, q112c⟩ := isOf hZ e111q f110.exa
                obtain ⟨_, _, ⟨T112, L112, k112, n112⟩, -, X112, ⟨Lc112, hQ112, l112, y112, z112⟩, st112⟩ := X111.virtualBack hx (y := my0) (z := my0) hown (mvT hZ (ow hw 84 rfl)) (mvT hZ (ow hw 62 rfl)) (notFace_of_selects (args := #[]) (mvT hZ (ow hw 64 rfl))) (mvT hZ (ow hw 64 rfl)) (mvT hZ (ow hw 63 rfl)) (by decide) (own_lenB (W := 0) hZ hw f110 hbx (S0.ext O109.2) hz (nt m58.2.1 (by decide)) (by decide) (by decide)) q112a q112c (g := (mkF m 110 #[iv (i0), iv (i1), iv (i2), iv (i3), iv (i4), iv ((i0 &&& (3 : Int32))), iv (((i1 &&& (65535 : Int32)).toUInt32.toUInt16.toUInt32.toInt32)), iv (((i2 &&& (65535 : Int32)).toUInt32.toUInt16.toUInt32.toInt32)), iv (((i3 &&& (65535 : Int32)).toUInt32.toUInt16.toUInt32.toInt32)), rv (a106), rv (a108), rv (a106)] [(.ref a106)])) rfl (by rw [hml]; rfl) (Steps.refl _) (argsL := []) (rest := []) (lenOf pd_401 rfl) rfl (own_w0 rfl) (hb hby at_110) (fun _ _ => ⟨rfl, e111q, (by decide : 8 + 0 ≤ _), (by decide : 21 + 0 ≤ _)⟩)
                dsimp only [Pt.U, Pt.locs, Pt.cells, Pt.slots] at X112 l112 y112 z112 st112 hQ112
                subst l112 y112 z112
                obtain ⟨rfl, rfl, e112q⟩ := hQ112
                have N112 := Fr.app N111 (Fr.nil n0)
                refine gsW (S' := T112.setTop (mkF m 113 #[iv (i0), iv (i1), iv (i2), iv (i3), iv (i4), iv ((i0 &&& (3 : Int32))), iv (((i1 &&& (65535 : Int32)).toUInt32.toUInt16.toUInt32.toInt32)), iv (((i2 &&& (65535 : Int32)).toUInt32.toUInt16.toUInt32.toInt32)), iv (((i3 &&& (65535 : Int32)).toUInt32.toUInt16.toUInt32.toInt32)), rv (a106), rv (a108), rv (a106)] [(.int (Int32.ofNat (own_mk (i0 &&& (3 : Int32)) ((i1 &&& (65535 : Int32)).toUInt32.toUInt16.toUInt32.toInt32) ((i2 &&& (65535 : Int32)).toUInt32.toUInt16.toUInt32.toInt32) ((i3 &&& (65535 : Int32)).toUInt32.toUInt16.toUInt32.toInt32)).length))])) (fun _ k => st112.trans k) ?_
                refine gsW (fun _ k => o_iload X112 hx hby at_113 rfl (o_icmpNo X112 hx hby at_115 (teq m58.2.2.1).2 (o_iconst (v := (1 : Int32)) X112 hx hby at_118 (o_goto (pc' := 123) X112 hx hby at_119 k)))) ?_
                refine goutW (v := some (.int (1 : Int32))) X112 hS (nt (Nat.le_refl T106.heap.size) K108q.1) hZ (own_EW hw) hh e112q R109 Bd.notSynchronized (fun h => by rw [Bd.returns] at h; cases h) (by decide) (by decide) ?_ (fun fs hr => retN X112 hx (t := .boolean) Bd.returns (by simp) (hb hby at_123) hr)
                exact ⟨rfl, N112⟩
              · refine gsW (fun _ k => o_astore X106 hx hby at_78 rfl rfl (o_iload X106 hx hby at_80 rfl (XS.sipush X106.here hx rfl (hb hby at_82) (o_iand X106 hx hby at_85 (o_i2c X106 hx hby at_86 k))))) ?_
                refine cSW (rest := []) X106 hx hZ hown (ow hw 27 rfl) (ow hw 28 rfl) (ow hw 7 rfl) (ow hw 29 rfl) (rm_vo l Z a0 hw [] ((i4 &&& (255 : Int32)).toUInt32.toUInt16.toUInt32.toInt32) z T106.heap n0 Z107 O107 S0 hz (own_ci i4).2) hby at_87 rfl pd_595 0 (by rw [hml]; rfl) rfl rfl rfl rfl (by decide) (by decide) fun _ T113 Lc113 X113 hQ113 => ?_
                obtain ⟨a113, rfl, N113q, K113q, T113q⟩ := hQ113
                have N113 := Fr.app N106 N113q
                have r114 : CHr Z own_EL T106.vm T106.heap T106.vm T113.heap := CHr.keep K113q sf0 R107.1
                have R114 := R107.trans r114
                have Z114 := nt Z107 K113q.1
                have O114 := O107.keep K113q all0
                have K114 := K107.trans K113q all0
                refine gsW (fun _ k => o_astore X113 hx hby at_90 rfl rfl (o_aload X113 hx hby at_92 rfl rfl (o_aload X113 hx hby at_94 rfl rfl k))) ?_
                have f115 := (Ux.keep0 K113q)
                obtain ⟨_, _, ⟨T116, L116, k116, n116⟩, -, X116, ⟨Lc116, hQ116, l116, y116, z116⟩, st116⟩ := Jvm.LawKit.callS X113 hx (y := my1) hown (mvT hZ (ow hw 42 rfl)) (mvT hZ (ow hw 43 rfl)) (mvT hZ (ow hw 44 rfl)) (mvT hZ (ow hw 45 rfl)) (by decide) (backC (W := 0) (rm_wsU l Z a0 hw [] a113 a106 (own_mk (i0 &&& (3 : Int32)) ((i1 &&& (65535 : Int32)).toUInt32.toUInt16.toUInt32.toInt32) ((i2 &&& (65535 : Int32)).toUInt32.toUInt16.toUInt32.toInt32) ((i3 &&& (65535 : Int32)).toUInt32.toUInt16.toUInt32.toInt32)) z fm T113.heap n0 Z114 O114 S0 hz S4 hfm S_ad S_hi S_lo f115 m58.2.1 ⟨hne, m16.1⟩ m58.1) hZ (ow hw 45 rfl) (ow hw 44 rfl) (by decide) (by decide)) (g := (mkF m 96 #[iv (i0), iv (i1), iv (i2), iv (i3), iv (i4), iv ((i0 &&& (3 : Int32))), iv (((i1 &&& (65535 : Int32)).toUInt32.toUInt16.toUInt32.toInt32)), iv (((i2 &&& (65535 : Int32)).toUInt32.toUInt16.toUInt32.toInt32)), iv (((i3 &&& (65535 : Int32)).toUInt32.toUInt16.toUInt32.toInt32)), rv (a106), rv (a113), uu] [(.ref a113), (.ref a106)])) rfl (by rw [hml]; rfl) (argsL := [(.ref a106), (.ref a113)]) (rest := []) (lenOf pd_596 rfl) rfl (own_w0 rfl) (hb hby at_96) (fun _ _ => ⟨rfl, rfl, (by decide : 8 + 0 ≤ _), (by decide : 21 + 0 ≤ _)⟩)
                dsimp only [Pt.U, Pt.locs, Pt.cells, Pt.slots] at X116 l116 y116 z116 st116 hQ116
                subst l116 y116 z116
                obtain ⟨rfl, N116q, e116q⟩ := hQ116
                have N116 := Fr.app N113 N116q
                refine gsW (S' := T116.setTop (mkF m 99 #[iv (i0), iv (i1), iv (i2), iv (i3), iv (i4), iv ((i0 &&& (3 : Int32))), iv (((i1 &&& (65535 : Int32)).toUInt32.toUInt16.toUInt32.toInt32)), iv (((i2 &&& (65535 : Int32)).toUInt32.toUInt16.toUInt32.toInt32)), iv (((i3 &&& (65535 : Int32)).toUInt32.toUInt16.toUInt32.toInt32)), rv (a106), rv (a113), uu] [(.ref a106)])) st116 ?_
                refine gsW (fun _ k => o_astore X116 hx hby at_99 rfl rfl (o_aload X116 hx hby at_101 rfl rfl (o_aload X116 hx hby at_103 rfl rfl (Jvm.RoadKit.acmp (g := (mkF m 105 #[iv (i0), iv (i1), iv (i2), iv (i3), iv (i4), iv ((i0 &&& (3 : Int32))), iv (((i1 &&& (65535 : Int32)).toUInt32.toUInt16.toUInt32.toInt32)), iv (((i2 &&& (65535 : Int32)).toUInt32.toUInt16.toUInt32.toInt32)), iv (((i3 &&& (65535 : Int32)).toUInt32.toUInt16.toUInt32.toInt32)), rv (a106), rv (a113), rv (a106)] [(.ref a106), (.ref a106)])) X116 hx rfl rfl rfl (pc0 := 105) (pc' := 108) (same := true) rfl (hb hby at_105) rfl (decide_eq_true rfl) (by decide) (by decide) (o_aload X116 hx hby at_108 rfl rfl k))))) ?_
                have f118 := (Ux.exa.keep K113q)
                obtain ⟨cq117, kq117, q117a, q117b, q117c⟩ := isOf hZ e116q f118
                obtain ⟨_, _, ⟨T117, L117, k117, n117⟩, -, X117, ⟨Lc117, hQ117, l117, y117, z117⟩, st117⟩ := X116.virtualBack hx (y := my0) (z := my0) hown (mvT hZ (ow hw 84 rfl)) (mvT hZ (ow hw 62 rfl)) (notFace_of_selects (args := #[]) (mvT hZ (ow hw 64 rfl))) (mvT hZ (ow hw 64 rfl)) (mvT hZ (ow hw 63 rfl)) (by decide) (backC (W := 0) (rm_lenU l Z a0 hw [] a106 (own_mk (i0 &&& (3 : Int32)) ((i1 &&& (65535 : Int32)).toUInt32.toUInt16.toUInt32.toInt32) ((i2 &&& (65535 : Int32)).toUInt32.toUInt16.toUInt32.toInt32) ((i3 &&& (65535 : Int32)).toUInt32.toUInt16.toUInt32.toInt32)) z T113.heap n0 Z114 O114 S0 hz f115 m58.2.1 hne) hZ (ow hw 65 rfl) (ow hw 7 rfl) (by decide) (by decide)) q117a q117c (g := (mkF m 110 #[iv (i0), iv (i1), iv (i2), iv (i3), iv (i4), iv ((i0 &&& (3 : Int32))), iv (((i1 &&& (65535 : Int32)).toUInt32.toUInt16.toUInt32.toInt32)), iv (((i2 &&& (65535 : Int32)).toUInt32.toUInt16.toUInt32.toInt32)), iv (((i3 &&& (65535 : Int32)).toUInt32.toUInt16.toUInt32.toInt32)), rv (a106), rv (a113), rv (a106)] [(.ref a106)])) rfl (by rw [hml]; rfl) (Steps.refl _) (argsL := []) (rest := []) (lenOf pd_401 rfl) rfl (own_w0 rfl) (hb hby at_110) (fun _ _ => ⟨rfl, e116q, (by decide : 8 + 0 ≤ _), (by decide : 21 + 0 ≤ _)⟩)
                dsimp only [Pt.U, Pt.locs, Pt.cells, Pt.slots] at X117 l117 y117 z117 st117 hQ117
                subst l117 y117 z117
                obtain ⟨rfl, N117q, e117q⟩ := hQ117
                have N117 := Fr.app N116 N117q
                refine gsW (S' := T117.setTop (mkF m 113 #[iv (i0), iv (i1), iv (i2), iv (i3), iv (i4), iv ((i0 &&& (3 : Int32))), iv (((i1 &&& (65535 : Int32)).toUInt32.toUInt16.toUInt32.toInt32)), iv (((i2 &&& (65535 : Int32)).toUInt32.toUInt16.toUInt32.toInt32)), iv (((i3 &&& (65535 : Int32)).toUInt32.toUInt16.toUInt32.toInt32)), rv (a106), rv (a113), rv (a106)] [(.int (Int32.ofNat (own_mk (i0 &&& (3 : Int32)) ((i1 &&& (65535 : Int32)).toUInt32.toUInt16.toUInt32.toInt32) ((i2 &&& (65535 : Int32)).toUInt32.toUInt16.toUInt32.toInt32) ((i3 &&& (65535 : Int32)).toUInt32.toUInt16.toUInt32.toInt32)).length))])) (fun _ k => st117.trans k) ?_
                refine gsW (fun _ k => o_iload X117 hx hby at_113 rfl (o_icmpNo X117 hx hby at_115 (teq m58.2.2.1).2 (o_iconst (v := (1 : Int32)) X117 hx hby at_118 (o_goto (pc' := 123) X117 hx hby at_119 k)))) ?_
                refine goutW (v := some (.int (1 : Int32))) X117 hS (nt (Nat.le_refl T106.heap.size) K113q.1) hZ (own_EW hw) hh e117q R114 Bd.notSynchronized (fun h => by rw [Bd.returns] at h; cases h) (by decide) (by decide) ?_ (fun fs hr => retN X117 hx (t := .boolean) Bd.returns (by simp) (hb hby at_123) hr)
                exact ⟨rfl, N117⟩
set_option maxRecDepth 65536 in
set_option maxHeartbeats 40000000 in
theorem comes_1 {Post : Tables → Env → Array Value → State → Outcome → State → Prop} (hpost : ∀ tb e args s v u, (limb_1_1.after args s (.returned v) u = true ∧ limb_1_2.after args s (.returned v) u = true ∧ True) → ReturnedEndW s (.returned v) u (Jvm.fieldLocs frame_1_writes args s ++ Jvm.arrayLocs frame_1_arrays args s ++ Jvm.staticLocs frame_1_statics s) 24 1152 → Post tb e args s (.returned v) u) :
    ArmFor flags0 classFile x code maxLocals ret World_1 tables_1 room_1 Calls_1 rest_1 Pre_1 Post := by
  intro l hfl _ _ p e ha hc hk s m args below hf hA hF happ hP
  obtain ⟨hcalls, hrest, hpre⟩ := hP
  obtain ⟨-, -, -, hnamed, -, -, -, hat⟩ := (Spec.applies_iff hf).mp happ
  obtain ⟨hg, hn⟩ := and_e (Cond.before_iff.mp (show (Jvm.Cond.and given_1 narrow_1).before args s = true from hpre))
  obtain ⟨hcnt, ga0⟩ := and_e hg
  obtain ⟨gi0, ga1⟩ := and_e ga0
  obtain ⟨gi1, ga2⟩ := and_e ga1
  obtain ⟨gi2, ga3⟩ := and_e ga2
  obtain ⟨gi3, ga4⟩ := and_e ga3
  have gi4 := ga4
  obtain ⟨w0, w1, w2, w3, w4, rfl⟩ : ∃ w0 w1 w2 w3 w4 : Value, args = #[w0, w1, w2, w3, w4] := by
    have hs : args.size = 5 := by simpa [Cond.value, given_1] using hcnt
    obtain ⟨L⟩ := args
    match L, hs with
    | [w0, w1, w2, w3, w4], _ => exact ⟨w0, w1, w2, w3, w4, rfl⟩
  have hw := fun d (hd : d ∈ tables_1) => atoms_spec (ws := Jvm.Cond.code x code maxLocals ret :: tables_1) hat d (List.mem_cons_of_mem _ hd)
  obtain ⟨hsets, hown0⟩ := atoms_of _ (rest_1_c_eq ▸ (show rest_1_c.before _ s = true from hrest))
  have hfit : Fit s := fun {y c} hc i hi => by
    obtain ⟨ha, rfl⟩ := Array.getElem?_eq_some_iff.mp hc
    have q := List.all_eq_true.mp ((Array.all_eq_true_iff_forall_mem.mp hF) _ (Array.getElem_mem ha)) i (List.mem_range.mpr hi)
    simpa [Array.getElem?_eq_getElem hi] using q
  obtain ⟨i0, ei0⟩ := is_v gi0
  obtain rfl : w0 = (.int i0) := Option.some.inj ei0
  obtain ⟨i1, ei1⟩ := is_v gi1
  obtain rfl : w1 = (.int i1) := Option.some.inj ei1
  obtain ⟨i2, ei2⟩ := is_v gi2
  obtain rfl : w2 = (.int i2) := Option.some.inj ei2
  obtain ⟨i3, ei3⟩ := is_v gi3
  obtain rfl : w3 = (.int i3) := Option.some.inj ei3
  obtain ⟨i4, ei4⟩ := is_v gi4
  obtain rfl : w4 = (.int i4) := Option.some.inj ei4
  have n5 := not_v (Cond.before_iff.mp (hsets _ (List.mem_of_getElem? (i := 2) rfl)))
  obtain ⟨cz, ecz⟩ := is_v (Cond.before_iff.mp (hsets _ (List.mem_of_getElem? (i := 1) rfl)))
  have Scz : Sta s s.heap "java/lang/String" "COMPACT_STRINGS" "Z" (.int cz) := Sta.start ecz (Or.inl (hsets _ (List.mem_of_getElem? (i := 0) rfl)))
  have hcz : ¬ (cz = (0 : Int32)) := gotF (Cond.eq_ints ecz (Term.int_eval (0))) n5
  obtain ⟨fm, efm, rfm⟩ := isR_v (Cond.before_iff.mp (hsets _ (List.mem_of_getElem? (i := 8) rfl)))
  have S_fm : Sta s s.heap "jdk/internal/util/Preconditions" "SIOOBE_FORMATTER" "Ljava/util/function/BiFunction;" fm := Sta.start efm (Or.inl (hsets _ (List.mem_of_getElem? (i := 7) rfl)))
  have S_ad : Sta s s.heap "java/lang/StringUTF16" "$assertionsDisabled" "Z" (.int (1 : Int32)) := Sta.start (eqv_i (Term.int_eval (1)) (Cond.before_iff.mp (hsets _ (List.mem_of_getElem? (i := 12) rfl)))) (Or.inl (hsets _ (List.mem_of_getElem? (i := 11) rfl)))
  have S_hi : Sta s s.heap "java/lang/StringUTF16" "HI_BYTE_SHIFT" "I" (.int (0 : Int32)) := Sta.start (eqv_i (Term.int_eval (0)) (Cond.before_iff.mp (hsets _ (List.mem_of_getElem? (i := 15) rfl)))) (Or.inl (hsets _ (List.mem_of_getElem? (i := 14) rfl)))
  have S_lo : Sta s s.heap "java/lang/StringUTF16" "LO_BYTE_SHIFT" "I" (.int (8 : Int32)) := Sta.start (eqv_i (Term.int_eval (8)) (Cond.before_iff.mp (hsets _ (List.mem_of_getElem? (i := 18) rfl)))) (Or.inl (hsets _ (List.mem_of_getElem? (i := 17) rfl)))
  have hC : CHv s own_EL s.vm s.heap := CHv.start (own_EW hw) (fun p hp => hcalls.1 p hp) (hsets _ (List.mem_of_getElem? (i := 2) rfl)) (ow hw 20 rfl) (ow hw 6 rfl)
  obtain ⟨n, o, h1, h2, h3, _, L, rfl, ⟨rfl, N⟩, -, hq⟩ := rm_law l s _ hw tables_1 i0 i1 i2 i3 i4 cz fm s.heap s.heap.size (Nat.le_refl _) (Old.start s) Scz hcz S_fm rfm S_ad S_hi S_lo p e ha hc hk s m _ below hf ((Spec.applies_iff_loose hf).mp happ).1 ⟨rfl, State.Warmed39.refl s, rfl, hC⟩ trivial
  refine ⟨n, _, h1, h2, h3, hpost _ _ _ _ _ _ ⟨Cond.after_iff.mpr rfl, Cond.after_iff.mpr (eq_i res_at (Term.int_eval (1)) rfl), trivial⟩ ⟨hq.1, hq.2.1, hq.2.2.1, (hq.2.2.2.sift fun y hy => Or.inr (N y hy)).mono (by decide) (by decide)⟩⟩
theorem main_1_1 : Claimed_1_1 := comes_1 fun _ _ _ _ _ _ h hF => ⟨h.1, hF⟩
theorem main_1_2 : Claimed_1_2 := comes_1 fun _ _ _ _ _ _ h hF => ⟨h.2.1, hF⟩
end Jvm.Pilot.@@N@@
namespace Jvm.Pilot.@@N@@
open Jvm Jvm.ClassFile Sem Op Lib Jvm.Free Jvm.Stand Jvm.Pilot.@@N@@.Jvm.D
/-! MADE BY PROGRAM (witnessworld.py) out of the Statement's table words and the real class files: 21 classes; the members and pool entries that the words name. The judged class is class 1, her method 2. -/
namespace start1
open Jvm.ClassFile
def u (s : String) : CpInfo := .utf8 (stringToUtf16 s)
/-- a pool by its gaps: so many unusable entries, then the entry; so many at the end -/
def gap : Nat → List CpInfo → List CpInfo
  | 0, r => r
  | n + 1, r => .unusable :: gap n r
def poolList (es : List (Nat × CpInfo)) (last : Nat) : List CpInfo := es.foldr (fun e r => gap e.1 (e.2 :: r)) (gap last [])
def pool (es : List (Nat × CpInfo)) (last : Nat) : Array CpInfo := ⟨poolList es last⟩
def fileOf (pool : Array CpInfo) (this : Nat) (attrs : Array Attribute := #[]) (ms : Array MethodInfo := #[]) (fl : Nat := 33) (sup : Nat := 0) (ifs : Array Nat := #[]) (fds : Array FieldInfo := #[]) : ClassFile where
  minorVersion := 0
  majorVersion := 65
  constantPool := pool
  accessFlags := fl
  thisClass := this
  superClass := sup
  interfaces := ifs
  fields := fds
  methods := ms
  attributes := attrs
def plain (name : String) (sup : Option ClassId) : Class where
  name := name
  kind := .ordinary
  loader := none
  accessFlags := 33
  super := sup
  interfaces := #[]
  cf := none
  fields := #[]
  methods := #[]
  instanceTypes := #[]
  staticTypes := #[]
  resolved := #[]
  callSites := []
  init := .initialized
  statics := none
  mirror := none

def pool0 : Array CpInfo := pool [(5, u "<init>"), (0, u "()V"), (1, .class_ 10), (1, u "java/lang/Object")] 113

def k0c0 : Code := { maxStack := 0, maxLocals := 1, code := object_method_1_code, exceptionTable := #[], attributes := #[] }
def k0m0 : Method := { name := "<init>", desc := "()V", sig := { parameters := [], returnType := none }, accessFlags := 1, code := some k0c0 }
/-- java/lang/Object -/
def k0 : Class := { plain "java/lang/Object" none with
  accessFlags := 33
  interfaces := #[]
  cf := some (fileOf pool0 8 #[] #[{ accessFlags := 1, nameIndex := 5, descriptorIndex := 6, attributes := #[] }] 33 0 #[] #[])
  fields := #[]
  methods := #[k0m0]
  instanceTypes := #[]
  staticTypes := #[]
  resolved := Array.replicate 124 none
  statics := none }

def pool1 : Array CpInfo := pool [(2, .class_ 4), (1, u "java/lang/Object"), (0, u "<init>"), (0, u "()V"), (0, .class_ 8), (0, u "java/lang/String"), (0, .methodref 7 10), (0, .nameAndType 5 11), (0, u "([C)V"), (0, .integer 65535), (0, .methodref 14 15), (0, .class_ 16), (0, .nameAndType 17 18), (0, u "com/example/ledgergate/ledgergate/access/ButtonsWithoutSeparatorPinLaw"), (0, u "make"), (0, u "(ICCC)Ljava/lang/String;"), (0, .methodref 7 20), (0, .nameAndType 21 22), (0, u "valueOf"), (0, u "(C)Ljava/lang/String;"), (0, .methodref 24 25), (0, .class_ 26), (0, .nameAndType 27 28), (0, u "com/example/ledgergate/ledgergate/access/Buttons"), (0, u "withoutSeparator"), (0, u "(Ljava/lang/String;Ljava/lang/String;)Ljava/lang/String;"), (0, .methodref 7 30), (0, .nameAndType 31 32), (0, u "length"), (0, u "()I"), (3, u "law"), (0, u "(IIIII)Z")] 2

def k1m0 : Method := { name := "<init>", desc := "()V", sig := { parameters := [], returnType := none }, accessFlags := 2, code := none }
def k1c1 : Code := { maxStack := 6, maxLocals := 4, code := method_2_code, exceptionTable := #[], attributes := #[] }
def k1m1 : Method := { name := "make", desc := "(ICCC)Ljava/lang/String;", sig := { parameters := [.int, .char, .char, .char], returnType := some (.object "java/lang/String") }, accessFlags := 10, code := some k1c1 }
def k1c2 : Code := { maxStack := 4, maxLocals := 12, code := code, exceptionTable := #[], attributes := #[] }
def k1m2 : Method := { name := "law", desc := "(IIIII)Z", sig := { parameters := [.int, .int, .int, .int, .int], returnType := some .boolean }, accessFlags := 9, code := some k1c2 }
/-- com/example/ledgergate/ledgergate/access/ButtonsWithoutSeparatorPinLaw -/
def k1 : Class := { plain "com/example/ledgergate/ledgergate/access/ButtonsWithoutSeparatorPinLaw" (some 0) with
  accessFlags := 49
  interfaces := #[]
  cf := some (fileOf pool1 14 #[] #[{ accessFlags := 2, nameIndex := 5, descriptorIndex := 6, attributes := #[] }, { accessFlags := 10, nameIndex := 17, descriptorIndex := 18, attributes := #[] }, { accessFlags := 9, nameIndex := 36, descriptorIndex := 37, attributes := #[] }] 49 2 #[] #[])
  fields := #[]
  methods := #[k1m0, k1m1, k1m2]
  instanceTypes := #[]
  staticTypes := #[]
  resolved := Array.replicate 40 none
  statics := none }

def pool2 : Array CpInfo := pool [(1, .class_ 2), (0, u "java/io/Serializable"), (0, .class_ 4), (0, u "java/lang/Object")] 2

/-- java/io/Serializable -/
def k2 : Class := { plain "java/io/Serializable" (some 0) with
  accessFlags := 1537
  interfaces := #[]
  cf := some (fileOf pool2 1 #[] #[] 1537 3 #[] #[])
  fields := #[]
  methods := #[]
  instanceTypes := #[]
  staticTypes := #[]
  resolved := Array.replicate 7 none
  statics := none }

def pool3 : Array CpInfo := pool [(1, .class_ 2), (0, u "java/lang/Comparable"), (0, .class_ 4), (0, u "java/lang/Object")] 7

/-- java/lang/Comparable -/
def k3 : Class := { plain "java/lang/Comparable" (some 0) with
  accessFlags := 1537
  interfaces := #[]
  cf := some (fileOf pool3 1 #[] #[] 1537 3 #[] #[])
  fields := #[]
  methods := #[]
  instanceTypes := #[]
  staticTypes := #[]
  resolved := Array.replicate 12 none
  statics := none }

def pool4 : Array CpInfo := pool [(2, .class_ 4), (1, u "java/lang/CharSequence"), (42, .class_ 48), (0, u "java/lang/CharSequence$1CodePointIterator"), (10, .class_ 60), (0, u "java/lang/CharSequence$1CharIterator"), (5, .class_ 67), (0, u "java/lang/Object")] 63

/-- java/lang/CharSequence -/
def k4 : Class := { plain "java/lang/CharSequence" (some 0) with
  accessFlags := 1537
  interfaces := #[]
  cf := some (fileOf pool4 2 #[.nestMembers #[47, 59]] #[] 1537 66 #[] #[])
  fields := #[]
  methods := #[]
  instanceTypes := #[]
  staticTypes := #[]
  resolved := Array.replicate 131 none
  statics := none }

def pool5 : Array CpInfo := pool [(1, .class_ 2), (0, u "java/lang/constant/Constable"), (0, .class_ 4), (0, u "java/lang/Object")] 6

/-- java/lang/constant/Constable -/
def k5 : Class := { plain "java/lang/constant/Constable" (some 0) with
  accessFlags := 1537
  interfaces := #[]
  cf := some (fileOf pool5 1 #[] #[] 1537 3 #[] #[])
  fields := #[]
  methods := #[]
  instanceTypes := #[]
  staticTypes := #[]
  resolved := Array.replicate 11 none
  statics := none }

def pool6 : Array CpInfo := pool [(1, .class_ 2), (0, u "java/lang/constant/ConstantDesc"), (0, .class_ 4), (0, u "java/lang/Object")] 32

/-- java/lang/constant/ConstantDesc -/
def k6 : Class := { plain "java/lang/constant/ConstantDesc" (some 0) with
  accessFlags := 1537
  interfaces := #[]
  cf := some (fileOf pool6 1 #[] #[] 1537 3 #[] #[])
  fields := #[]
  methods := #[]
  instanceTypes := #[]
  staticTypes := #[]
  resolved := Array.replicate 37 none
  statics := none }

def pool7 : Array CpInfo := pool [(1, .methodref 2 3), (0, .class_ 4), (0, .nameAndType 5 6), (0, u "java/lang/Object"), (0, u "<init>"), (0, u "()V"), (0, .string 8), (0, u ""), (0, .fieldref 10 11), (0, .class_ 12), (0, .nameAndType 13 14), (0, u "java/lang/String"), (0, u "value"), (0, u "[B"), (0, .fieldref 10 16), (0, .nameAndType 17 18), (0, u "coder"), (0, u "B"), (2, u "hash"), (0, u "I"), (2, u "hashIsZero"), (0, u "Z"), (0, .methodref 10 28), (0, .nameAndType 5 29), (0, u "([CIILjava/lang/Void;)V"), (8, .fieldref 10 39), (0, .nameAndType 40 26), (0, u "COMPACT_STRINGS"), (1, .class_ 44), (1, u "java/lang/StringUTF16"), (0, u "compress"), (1, .methodref 42 48), (0, .nameAndType 49 50), (0, u "coderFromArrayLen"), (0, u "([BI)B"), (2, u "toBytes"), (53, .class_ 109), (1, u "java/lang/StringLatin1"), (32, u "()Z"), (34, .methodref 42 178), (0, .nameAndType 45 179), (0, u "([CII)[B"), (29, .methodref 10 210), (0, .nameAndType 5 211), (0, u "([BB)V"), (122, u "()I"), (0, .methodref 10 336), (0, .nameAndType 17 337), (0, u "()B"), (31, u "(C)Z"), (122, .methodref 10 493), (0, .nameAndType 494 142), (0, u "isLatin1"), (10, .methodref 10 506), (0, .nameAndType 507 334), (0, u "length"), (5, u "checkFromToIndex"), (9, u "checkBoundsBeginEnd"), (0, u "(III)V"), (50, .class_ 576), (0, u "java/lang/CharSequence"), (22, u "CASE_INSENSITIVE_ORDER"), (0, u "Ljava/util/Comparator;"), (32, .methodref 10 634), (0, .nameAndType 635 636), (0, u "indexOf"), (0, u "(II)I"), (0, .methodref 107 638), (0, .nameAndType 635 639), (0, u "([BIII)I"), (0, .methodref 42 638), (124, u "(I)I"), (16, u "valueOf"), (0, u "(C)Ljava/lang/String;"), (226, u "([C)V"), (4, .methodref 107 1016), (0, .nameAndType 1017 369), (0, u "canEncode"), (0, .methodref 107 1019), (0, .nameAndType 53 1020), (0, u "(C)[B"), (32, .fieldref 1054 1055), (0, .class_ 1056), (0, .nameAndType 1057 1058), (0, u "jdk/internal/util/Preconditions"), (0, u "SIOOBE_FORMATTER"), (0, u "Ljava/util/function/BiFunction;"), (3, .methodref 1054 1063), (0, .nameAndType 513 1064), (0, u "(IIILjava/util/function/BiFunction;)I"), (36, u "serialPersistentFields"), (0, u "[Ljava/io/ObjectStreamField;"), (0, .class_ 1104), (0, u "java/lang/String$CaseInsensitiveComparator"), (1, .class_ 1107), (0, u "java/io/Serializable"), (0, .class_ 1109), (0, u "java/lang/Comparable"), (0, .class_ 1111), (0, u "java/lang/constant/Constable"), (0, .class_ 1113), (0, u "java/lang/constant/ConstantDesc"), (2, u "serialVersionUID"), (0, u "J"), (3, u "REPL"), (0, u "C"), (2, u "LATIN1"), (1, u "UTF16")] 323

def k7m0 : Method := { name := "<init>", desc := "()V", sig := { parameters := [], returnType := none }, accessFlags := 1, code := none }
def k7c1 : Code := { maxStack := 5, maxLocals := 2, code := jdk_42_method_3_code, exceptionTable := #[], attributes := #[] }
def k7m1 : Method := { name := "<init>", desc := "([C)V", sig := { parameters := [(.array .char)], returnType := none }, accessFlags := 1, code := some k7c1 }
def k7c2 : Code := { maxStack := 2, maxLocals := 1, code := jdk_42_method_54_code, exceptionTable := #[], attributes := #[] }
def k7m2 : Method := { name := "length", desc := "()I", sig := { parameters := [], returnType := some .int }, accessFlags := 1, code := some k7c2 }
def k7c3 : Code := { maxStack := 3, maxLocals := 2, code := jdk_42_method_79_code, exceptionTable := #[], attributes := #[] }
def k7m3 : Method := { name := "indexOf", desc := "(I)I", sig := { parameters := [.int], returnType := some .int }, accessFlags := 1, code := some k7c3 }
def k7c4 : Code := { maxStack := 4, maxLocals := 3, code := jdk_42_method_80_code, exceptionTable := #[], attributes := #[] }
def k7m4 : Method := { name := "indexOf", desc := "(II)I", sig := { parameters := [.int, .int], returnType := some .int }, accessFlags := 1, code := some k7c4 }
def k7c5 : Code := { maxStack := 4, maxLocals := 1, code := jdk_42_method_139_code, exceptionTable := #[], attributes := #[] }
def k7m5 : Method := { name := "valueOf", desc := "(C)Ljava/lang/String;", sig := { parameters := [.char], returnType := some (.object "java/lang/String") }, accessFlags := 9, code := some k7c5 }
def k7c6 : Code := { maxStack := 4, maxLocals := 6, code := jdk_42_method_149_code, exceptionTable := #[], attributes := #[] }
def k7m6 : Method := { name := "<init>", desc := "([CIILjava/lang/Void;)V", sig := { parameters := [(.array .char), .int, .int, (.object "java/lang/Void")], returnType := none }, accessFlags := 2, code := some k7c6 }
def k7c7 : Code := { maxStack := 2, maxLocals := 3, code := jdk_42_method_151_code, exceptionTable := #[], attributes := #[] }
def k7m7 : Method := { name := "<init>", desc := "([BB)V", sig := { parameters := [(.array .byte), .byte], returnType := none }, accessFlags := 0, code := some k7c7 }
def k7c8 : Code := { maxStack := 1, maxLocals := 1, code := jdk_42_method_152_code, exceptionTable := #[], attributes := #[] }
def k7m8 : Method := { name := "coder", desc := "()B", sig := { parameters := [], returnType := some .byte }, accessFlags := 0, code := some k7c8 }
def k7c9 : Code := { maxStack := 1, maxLocals := 1, code := jdk_42_method_154_code, exceptionTable := #[], attributes := #[] }
def k7m9 : Method := { name := "isLatin1", desc := "()Z", sig := { parameters := [], returnType := some .boolean }, accessFlags := 0, code := some k7c9 }
def k7c10 : Code := { maxStack := 4, maxLocals := 3, code := jdk_42_method_158_code, exceptionTable := #[], attributes := #[] }
def k7m10 : Method := { name := "checkBoundsBeginEnd", desc := "(III)V", sig := { parameters := [.int, .int, .int], returnType := none }, accessFlags := 8, code := some k7c10 }
/-- java/lang/String -/
def k7 : Class := { plain "java/lang/String" (some 0) with
  accessFlags := 49
  interfaces := #[2, 3, 4, 5, 6]
  cf := some (fileOf pool7 10 #[.nestMembers #[1103]] #[{ accessFlags := 1, nameIndex := 5, descriptorIndex := 6, attributes := #[] }, { accessFlags := 1, nameIndex := 5, descriptorIndex := 1010, attributes := #[] }, { accessFlags := 1, nameIndex := 507, descriptorIndex := 334, attributes := #[] }, { accessFlags := 1, nameIndex := 635, descriptorIndex := 765, attributes := #[] }, { accessFlags := 1, nameIndex := 635, descriptorIndex := 636, attributes := #[] }, { accessFlags := 9, nameIndex := 782, descriptorIndex := 783, attributes := #[] }, { accessFlags := 2, nameIndex := 5, descriptorIndex := 29, attributes := #[] }, { accessFlags := 0, nameIndex := 5, descriptorIndex := 211, attributes := #[] }, { accessFlags := 0, nameIndex := 17, descriptorIndex := 337, attributes := #[] }, { accessFlags := 0, nameIndex := 494, descriptorIndex := 142, attributes := #[] }, { accessFlags := 8, nameIndex := 523, descriptorIndex := 524, attributes := #[] }] 49 2 #[1106, 1108, 575, 1110, 1112] #[{ accessFlags := 18, nameIndex := 13, descriptorIndex := 14, attributes := #[] }, { accessFlags := 18, nameIndex := 17, descriptorIndex := 18, attributes := #[] }, { accessFlags := 2, nameIndex := 21, descriptorIndex := 22, attributes := #[] }, { accessFlags := 2, nameIndex := 25, descriptorIndex := 26, attributes := #[] }, { accessFlags := 26, nameIndex := 1116, descriptorIndex := 1117, attributes := #[] }, { accessFlags := 24, nameIndex := 40, descriptorIndex := 26, attributes := #[] }, { accessFlags := 26, nameIndex := 1101, descriptorIndex := 1102, attributes := #[] }, { accessFlags := 26, nameIndex := 1121, descriptorIndex := 1122, attributes := #[] }, { accessFlags := 25, nameIndex := 599, descriptorIndex := 600, attributes := #[] }, { accessFlags := 24, nameIndex := 1125, descriptorIndex := 18, attributes := #[] }, { accessFlags := 24, nameIndex := 1127, descriptorIndex := 18, attributes := #[] }])
  fields := #[{ name := "value", type := (.array .byte), accessFlags := 18, slot := 0, constantValue := 0 }, { name := "coder", type := .byte, accessFlags := 18, slot := 1, constantValue := 0 }, { name := "hash", type := .int, accessFlags := 2, slot := 2, constantValue := 0 }, { name := "hashIsZero", type := .boolean, accessFlags := 2, slot := 3, constantValue := 0 }, { name := "serialVersionUID", type := .long, accessFlags := 26, slot := 0, constantValue := 0 }, { name := "COMPACT_STRINGS", type := .boolean, accessFlags := 24, slot := 1, constantValue := 0 }, { name := "serialPersistentFields", type := (.array (.object "java/io/ObjectStreamField")), accessFlags := 26, slot := 2, constantValue := 0 }, { name := "REPL", type := .char, accessFlags := 26, slot := 3, constantValue := 0 }, { name := "CASE_INSENSITIVE_ORDER", type := (.object "java/util/Comparator"), accessFlags := 25, slot := 4, constantValue := 0 }, { name := "LATIN1", type := .byte, accessFlags := 24, slot := 5, constantValue := 0 }, { name := "UTF16", type := .byte, accessFlags := 24, slot := 6, constantValue := 0 }]
  methods := #[k7m0, k7m1, k7m2, k7m3, k7m4, k7m5, k7m6, k7m7, k7m8, k7m9, k7m10]
  instanceTypes := #[(.array .byte), .byte, .int, .boolean]
  staticTypes := #[.long, .boolean, (.array (.object "java/io/ObjectStreamField")), .char, (.object "java/util/Comparator"), .byte, .byte]
  resolved := Array.replicate 1451 none
  statics := some 0 }

def pool8 : Array CpInfo := pool [(4, .class_ 6), (1, u "java/lang/Object"), (0, u "<init>"), (0, u "()V"), (5, .class_ 16), (1, u "java/lang/StringLatin1"), (21, .methodref 39 40), (0, .class_ 41), (0, .nameAndType 42 43), (0, u "java/lang/Math"), (0, u "min"), (0, u "(II)I"), (44, .methodref 14 89), (0, .nameAndType 90 91), (0, u "canEncode"), (0, u "(I)Z"), (0, .methodref 39 93), (0, .nameAndType 94 43), (0, u "max"), (0, .methodref 14 96), (0, .nameAndType 97 98), (0, u "indexOfChar"), (0, u "([BIII)I"), (2, u "indexOf"), (3, u "(C)Z"), (15, u "$assertionsDisabled"), (0, u "Z"), (98, .class_ 223), (1, u "java/lang/StringLatin1$LinesSpliterator"), (156, u "toBytes"), (1, u "(C)[B"), (7, .class_ 391), (0, u "java/lang/StringLatin1$CharsSpliterator")] 3

def k8m0 : Method := { name := "<init>", desc := "()V", sig := { parameters := [], returnType := none }, accessFlags := 0, code := none }
def k8c1 : Code := { maxStack := 2, maxLocals := 1, code := jdk_43_method_3_code, exceptionTable := #[], attributes := #[] }
def k8m1 : Method := { name := "canEncode", desc := "(C)Z", sig := { parameters := [.char], returnType := some .boolean }, accessFlags := 9, code := some k8c1 }
def k8c2 : Code := { maxStack := 2, maxLocals := 1, code := jdk_43_method_4_code, exceptionTable := #[], attributes := #[] }
def k8m2 : Method := { name := "canEncode", desc := "(I)Z", sig := { parameters := [.int], returnType := some .boolean }, accessFlags := 9, code := some k8c2 }
def k8c3 : Code := { maxStack := 4, maxLocals := 4, code := jdk_43_method_22_code, exceptionTable := #[], attributes := #[] }
def k8m3 : Method := { name := "indexOf", desc := "([BIII)I", sig := { parameters := [(.array .byte), .int, .int, .int], returnType := some .int }, accessFlags := 9, code := some k8c3 }
def k8c4 : Code := { maxStack := 2, maxLocals := 6, code := jdk_43_method_23_code, exceptionTable := #[], attributes := #[] }
def k8m4 : Method := { name := "indexOfChar", desc := "([BIII)I", sig := { parameters := [(.array .byte), .int, .int, .int], returnType := some .int }, accessFlags := 10, code := some k8c4 }
def k8c5 : Code := { maxStack := 4, maxLocals := 1, code := jdk_43_method_46_code, exceptionTable := #[], attributes := #[] }
def k8m5 : Method := { name := "toBytes", desc := "(C)[B", sig := { parameters := [.char], returnType := some (.array .byte) }, accessFlags := 9, code := some k8c5 }
/-- java/lang/StringLatin1 -/
def k8 : Class := { plain "java/lang/StringLatin1" (some 0) with
  accessFlags := 48
  interfaces := #[]
  cf := some (fileOf pool8 14 #[.nestMembers #[390, 221]] #[{ accessFlags := 0, nameIndex := 7, descriptorIndex := 8, attributes := #[] }, { accessFlags := 9, nameIndex := 90, descriptorIndex := 105, attributes := #[] }, { accessFlags := 9, nameIndex := 90, descriptorIndex := 91, attributes := #[] }, { accessFlags := 9, nameIndex := 101, descriptorIndex := 98, attributes := #[] }, { accessFlags := 10, nameIndex := 97, descriptorIndex := 98, attributes := #[] }, { accessFlags := 9, nameIndex := 380, descriptorIndex := 382, attributes := #[] }] 48 4 #[] #[{ accessFlags := 4120, nameIndex := 121, descriptorIndex := 122, attributes := #[] }])
  fields := #[{ name := "$assertionsDisabled", type := .boolean, accessFlags := 4120, slot := 0, constantValue := 0 }]
  methods := #[k8m0, k8m1, k8m2, k8m3, k8m4, k8m5]
  instanceTypes := #[]
  staticTypes := #[.boolean]
  resolved := Array.replicate 395 none
  statics := none }

def pool9 : Array CpInfo := pool [(2, .class_ 4), (1, u "java/lang/Object"), (0, u "<init>"), (0, u "()V"), (3, u "(Ljava/lang/String;Ljava/lang/String;)Ljava/lang/String;"), (0, .class_ 12), (0, u "com/example/ledgergate/ledgergate/access/Buttons"), (0, .methodref 14 15), (0, .class_ 16), (0, .nameAndType 17 18), (0, u "java/lang/String"), (0, u "indexOf"), (0, u "(I)I"), (74, u "withoutSeparator"), (0, u "FUNCTION_SEPARATOR"), (0, u "C")] 44

def k9m0 : Method := { name := "<init>", desc := "()V", sig := { parameters := [], returnType := none }, accessFlags := 2, code := none }
def k9c1 : Code := { maxStack := 3, maxLocals := 2, code := prog_3_method_3_code, exceptionTable := #[], attributes := #[] }
def k9m1 : Method := { name := "withoutSeparator", desc := "(Ljava/lang/String;Ljava/lang/String;)Ljava/lang/String;", sig := { parameters := [(.object "java/lang/String"), (.object "java/lang/String")], returnType := some (.object "java/lang/String") }, accessFlags := 9, code := some k9c1 }
/-- com/example/ledgergate/ledgergate/access/Buttons -/
def k9 : Class := { plain "com/example/ledgergate/ledgergate/access/Buttons" (some 0) with
  accessFlags := 49
  interfaces := #[]
  cf := some (fileOf pool9 11 #[] #[{ accessFlags := 2, nameIndex := 5, descriptorIndex := 6, attributes := #[] }, { accessFlags := 9, nameIndex := 93, descriptorIndex := 10, attributes := #[] }] 49 2 #[] #[{ accessFlags := 25, nameIndex := 94, descriptorIndex := 95, attributes := #[] }])
  fields := #[{ name := "FUNCTION_SEPARATOR", type := .char, accessFlags := 25, slot := 0, constantValue := 0 }]
  methods := #[k9m0, k9m1]
  instanceTypes := #[]
  staticTypes := #[.char]
  resolved := Array.replicate 140 none
  statics := none }

def pool10 : Array CpInfo := pool [(1, .class_ 2), (0, u "java/lang/Math"), (1, .class_ 6), (1, u "java/lang/Object"), (0, u "<init>"), (0, u "()V"), (89, .class_ 100), (1, u "java/lang/Math$RandomNumberGeneratorHolder"), (71, u "negativeZeroFloatBits"), (0, u "J"), (2, u "negativeZeroDoubleBits"), (21, u "max"), (2, u "min"), (43, u "$assertionsDisabled"), (0, u "Z"), (88, u "(II)I"), (2, u "twoToTheDoubleScaleDown"), (0, u "D"), (4, u "twoToTheDoubleScaleUp"), (9, u "E"), (3, u "PI"), (2, u "TAU"), (2, u "DEGREES_TO_RADIANS"), (0, u "RADIANS_TO_DEGREES")] 94

def k10m0 : Method := { name := "<init>", desc := "()V", sig := { parameters := [], returnType := none }, accessFlags := 2, code := none }
def k10c1 : Code := { maxStack := 2, maxLocals := 2, code := jdk_29_method_65_code, exceptionTable := #[], attributes := #[] }
def k10m1 : Method := { name := "max", desc := "(II)I", sig := { parameters := [.int, .int], returnType := some .int }, accessFlags := 9, code := some k10c1 }
def k10c2 : Code := { maxStack := 2, maxLocals := 2, code := jdk_29_method_69_code, exceptionTable := #[], attributes := #[] }
def k10m2 : Method := { name := "min", desc := "(II)I", sig := { parameters := [.int, .int], returnType := some .int }, accessFlags := 9, code := some k10c2 }
/-- java/lang/Math -/
def k10 : Class := { plain "java/lang/Math" (some 0) with
  accessFlags := 49
  interfaces := #[]
  cf := some (fileOf pool10 1 #[.nestMembers #[98]] #[{ accessFlags := 2, nameIndex := 7, descriptorIndex := 8, attributes := #[] }, { accessFlags := 9, nameIndex := 198, descriptorIndex := 335, attributes := #[] }, { accessFlags := 9, nameIndex := 201, descriptorIndex := 335, attributes := #[] }] 49 4 #[] #[{ accessFlags := 25, nameIndex := 354, descriptorIndex := 339, attributes := #[] }, { accessFlags := 25, nameIndex := 358, descriptorIndex := 339, attributes := #[] }, { accessFlags := 25, nameIndex := 361, descriptorIndex := 339, attributes := #[] }, { accessFlags := 26, nameIndex := 364, descriptorIndex := 339, attributes := #[] }, { accessFlags := 26, nameIndex := 365, descriptorIndex := 339, attributes := #[] }, { accessFlags := 26, nameIndex := 172, descriptorIndex := 173, attributes := #[] }, { accessFlags := 26, nameIndex := 176, descriptorIndex := 173, attributes := #[] }, { accessFlags := 8, nameIndex := 344, descriptorIndex := 339, attributes := #[] }, { accessFlags := 8, nameIndex := 338, descriptorIndex := 339, attributes := #[] }, { accessFlags := 4120, nameIndex := 245, descriptorIndex := 246, attributes := #[] }])
  fields := #[{ name := "E", type := .double, accessFlags := 25, slot := 0, constantValue := 0 }, { name := "PI", type := .double, accessFlags := 25, slot := 1, constantValue := 0 }, { name := "TAU", type := .double, accessFlags := 25, slot := 2, constantValue := 0 }, { name := "DEGREES_TO_RADIANS", type := .double, accessFlags := 26, slot := 3, constantValue := 0 }, { name := "RADIANS_TO_DEGREES", type := .double, accessFlags := 26, slot := 4, constantValue := 0 }, { name := "negativeZeroFloatBits", type := .long, accessFlags := 26, slot := 5, constantValue := 0 }, { name := "negativeZeroDoubleBits", type := .long, accessFlags := 26, slot := 6, constantValue := 0 }, { name := "twoToTheDoubleScaleUp", type := .double, accessFlags := 8, slot := 7, constantValue := 0 }, { name := "twoToTheDoubleScaleDown", type := .double, accessFlags := 8, slot := 8, constantValue := 0 }, { name := "$assertionsDisabled", type := .boolean, accessFlags := 4120, slot := 9, constantValue := 0 }]
  methods := #[k10m0, k10m1, k10m2]
  instanceTypes := #[]
  staticTypes := #[.double, .double, .double, .double, .double, .long, .long, .double, .double, .boolean]
  resolved := Array.replicate 460 none
  statics := none }

def pool11 : Array CpInfo := pool [(3, .class_ 4), (0, u "java/lang/String"), (1, .class_ 8), (1, u "java/lang/Object"), (0, u "<init>"), (0, u "()V"), (0, .methodref 12 13), (0, .class_ 14), (0, .nameAndType 15 16), (0, u "java/lang/StringUTF16"), (0, u "newBytesLength"), (0, u "(I)I"), (3, .integer 1073741823), (23, .fieldref 12 45), (0, .nameAndType 46 47), (0, u "$assertionsDisabled"), (0, u "Z"), (0, .methodref 12 49), (0, .nameAndType 50 51), (0, u "length"), (0, u "([B)I"), (7, .fieldref 12 60), (0, .nameAndType 61 62), (0, u "HI_BYTE_SHIFT"), (0, u "I"), (0, .fieldref 12 64), (0, .nameAndType 65 62), (0, u "LO_BYTE_SHIFT"), (5, .methodref 12 72), (0, .nameAndType 73 74), (0, u "getChar"), (0, u "([BI)C"), (21, .methodref 12 97), (0, .nameAndType 98 99), (0, u "checkBoundsBeginEnd"), (0, u "(II[B)V"), (7, .methodref 12 108), (0, .nameAndType 109 110), (0, u "newBytesFor"), (0, u "(I)[B"), (0, .methodref 12 112), (0, .nameAndType 113 114), (0, u "putChar"), (0, u "([BII)V"), (0, .methodref 12 116), (0, .nameAndType 117 118), (0, u "compress"), (0, u "([CI[BII)I"), (0, .methodref 12 120), (0, .nameAndType 121 122), (0, u "toBytes"), (0, u "([CII)[B"), (60, .methodref 184 185), (0, .class_ 186), (0, .nameAndType 187 188), (0, u "java/lang/Math"), (0, u "min"), (0, u "(II)I"), (35, .methodref 184 225), (0, .nameAndType 226 188), (0, u "max"), (0, .integer 65536), (0, .methodref 12 229), (0, .nameAndType 230 231), (0, u "indexOfChar"), (0, u "([BIII)I"), (9, .methodref 3 242), (0, .nameAndType 98 243), (0, u "(III)V"), (0, .methodref 12 245), (0, .nameAndType 246 231), (0, u "indexOfCharUnsafe"), (14, u "coderFromArrayLen"), (0, u "([BI)B"), (5, u "indexOf"), (100, .class_ 371), (1, u "java/lang/StringUTF16$LinesSpliterator"), (58, u "MAX_LENGTH"), (196, .class_ 628), (0, u "java/lang/StringUTF16$CodePointsSpliterator"), (0, .class_ 630), (0, u "java/lang/StringUTF16$CharsSpliterator")] 4

def k11m0 : Method := { name := "<init>", desc := "()V", sig := { parameters := [], returnType := none }, accessFlags := 0, code := none }
def k11c1 : Code := { maxStack := 1, maxLocals := 1, code := jdk_52_method_2_code, exceptionTable := #[], attributes := #[] }
def k11m1 : Method := { name := "newBytesFor", desc := "(I)[B", sig := { parameters := [.int], returnType := some (.array .byte) }, accessFlags := 9, code := some k11c1 }
def k11c2 : Code := { maxStack := 4, maxLocals := 1, code := jdk_52_method_3_code, exceptionTable := #[], attributes := #[] }
def k11m2 : Method := { name := "newBytesLength", desc := "(I)I", sig := { parameters := [.int], returnType := some .int }, accessFlags := 9, code := some k11c2 }
def k11c3 : Code := { maxStack := 4, maxLocals := 3, code := jdk_52_method_4_code, exceptionTable := #[], attributes := #[] }
def k11m3 : Method := { name := "putChar", desc := "([BII)V", sig := { parameters := [(.array .byte), .int, .int], returnType := none }, accessFlags := 8, code := some k11c3 }
def k11c4 : Code := { maxStack := 3, maxLocals := 2, code := jdk_52_method_5_code, exceptionTable := #[], attributes := #[] }
def k11m4 : Method := { name := "getChar", desc := "([BI)C", sig := { parameters := [(.array .byte), .int], returnType := some .char }, accessFlags := 8, code := some k11c4 }
def k11c5 : Code := { maxStack := 2, maxLocals := 1, code := jdk_52_method_6_code, exceptionTable := #[], attributes := #[] }
def k11m5 : Method := { name := "length", desc := "([B)I", sig := { parameters := [(.array .byte)], returnType := some .int }, accessFlags := 9, code := some k11c5 }
def k11c6 : Code := { maxStack := 4, maxLocals := 5, code := jdk_52_method_14_code, exceptionTable := #[], attributes := #[] }
def k11m6 : Method := { name := "toBytes", desc := "([CII)[B", sig := { parameters := [(.array .char), .int, .int], returnType := some (.array .byte) }, accessFlags := 9, code := some k11c6 }
def k11c7 : Code := { maxStack := 2, maxLocals := 2, code := jdk_52_method_15_code, exceptionTable := #[], attributes := #[] }
def k11m7 : Method := { name := "coderFromArrayLen", desc := "([BI)B", sig := { parameters := [(.array .byte), .int], returnType := some .byte }, accessFlags := 8, code := some k11c7 }
def k11c8 : Code := { maxStack := 5, maxLocals := 6, code := jdk_52_method_16_code, exceptionTable := #[], attributes := #[] }
def k11m8 : Method := { name := "compress", desc := "([CII)[B", sig := { parameters := [(.array .char), .int, .int], returnType := some (.array .byte) }, accessFlags := 9, code := some k11c8 }
def k11c9 : Code := { maxStack := 3, maxLocals := 7, code := jdk_52_method_21_code, exceptionTable := #[], attributes := #[] }
def k11m9 : Method := { name := "compress", desc := "([CI[BII)I", sig := { parameters := [(.array .char), .int, (.array .byte), .int, .int], returnType := some .int }, accessFlags := 9, code := some k11c9 }
def k11c10 : Code := { maxStack := 4, maxLocals := 4, code := jdk_52_method_40_code, exceptionTable := #[], attributes := #[] }
def k11m10 : Method := { name := "indexOf", desc := "([BIII)I", sig := { parameters := [(.array .byte), .int, .int, .int], returnType := some .int }, accessFlags := 9, code := some k11c10 }
def k11c11 : Code := { maxStack := 4, maxLocals := 4, code := jdk_52_method_47_code, exceptionTable := #[], attributes := #[] }
def k11m11 : Method := { name := "indexOfChar", desc := "([BIII)I", sig := { parameters := [(.array .byte), .int, .int, .int], returnType := some .int }, accessFlags := 10, code := some k11c11 }
def k11c12 : Code := { maxStack := 2, maxLocals := 5, code := jdk_52_method_48_code, exceptionTable := #[], attributes := #[] }
def k11m12 : Method := { name := "indexOfCharUnsafe", desc := "([BIII)I", sig := { parameters := [(.array .byte), .int, .int, .int], returnType := some .int }, accessFlags := 10, code := some k11c12 }
def k11c13 : Code := { maxStack := 3, maxLocals := 3, code := jdk_52_method_93_code, exceptionTable := #[], attributes := #[] }
def k11m13 : Method := { name := "checkBoundsBeginEnd", desc := "(II[B)V", sig := { parameters := [.int, .int, (.array .byte)], returnType := none }, accessFlags := 9, code := some k11c13 }
/-- java/lang/StringUTF16 -/
def k11 : Class := { plain "java/lang/StringUTF16" (some 0) with
  accessFlags := 48
  interfaces := #[]
  cf := some (fileOf pool11 12 #[.nestMembers #[627, 629, 369]] #[{ accessFlags := 0, nameIndex := 9, descriptorIndex := 10, attributes := #[] }, { accessFlags := 9, nameIndex := 109, descriptorIndex := 110, attributes := #[] }, { accessFlags := 9, nameIndex := 15, descriptorIndex := 16, attributes := #[] }, { accessFlags := 8, nameIndex := 113, descriptorIndex := 114, attributes := #[] }, { accessFlags := 8, nameIndex := 73, descriptorIndex := 74, attributes := #[] }, { accessFlags := 9, nameIndex := 50, descriptorIndex := 51, attributes := #[] }, { accessFlags := 9, nameIndex := 121, descriptorIndex := 122, attributes := #[] }, { accessFlags := 8, nameIndex := 261, descriptorIndex := 262, attributes := #[] }, { accessFlags := 9, nameIndex := 117, descriptorIndex := 122, attributes := #[] }, { accessFlags := 9, nameIndex := 117, descriptorIndex := 118, attributes := #[] }, { accessFlags := 9, nameIndex := 268, descriptorIndex := 231, attributes := #[] }, { accessFlags := 10, nameIndex := 230, descriptorIndex := 231, attributes := #[] }, { accessFlags := 10, nameIndex := 246, descriptorIndex := 231, attributes := #[] }, { accessFlags := 9, nameIndex := 98, descriptorIndex := 99, attributes := #[] }] 48 6 #[] #[{ accessFlags := 26, nameIndex := 61, descriptorIndex := 62, attributes := #[] }, { accessFlags := 26, nameIndex := 65, descriptorIndex := 62, attributes := #[] }, { accessFlags := 24, nameIndex := 430, descriptorIndex := 62, attributes := #[] }, { accessFlags := 4120, nameIndex := 46, descriptorIndex := 47, attributes := #[] }])
  fields := #[{ name := "HI_BYTE_SHIFT", type := .int, accessFlags := 26, slot := 0, constantValue := 0 }, { name := "LO_BYTE_SHIFT", type := .int, accessFlags := 26, slot := 1, constantValue := 0 }, { name := "MAX_LENGTH", type := .int, accessFlags := 24, slot := 2, constantValue := 0 }, { name := "$assertionsDisabled", type := .boolean, accessFlags := 4120, slot := 3, constantValue := 0 }]
  methods := #[k11m0, k11m1, k11m2, k11m3, k11m4, k11m5, k11m6, k11m7, k11m8, k11m9, k11m10, k11m11, k11m12, k11m13]
  instanceTypes := #[]
  staticTypes := #[.int, .int, .int, .boolean]
  resolved := Array.replicate 635 none
  statics := some 1 }

def pool12 : Array CpInfo := pool [(2, .class_ 4), (1, u "java/lang/Object"), (0, u "<init>"), (0, u "()V"), (17, .class_ 26), (1, u "jdk/internal/util/Preconditions"), (20, u "checkFromToIndex"), (7, .class_ 56), (0, u "jdk/internal/util/Preconditions$4"), (57, .class_ 115), (0, u "jdk/internal/util/Preconditions$1"), (7, u "SIOOBE_FORMATTER"), (0, u "Ljava/util/function/BiFunction;"), (0, .class_ 126), (0, u "jdk/internal/util/Preconditions$2"), (3, u "AIOOBE_FORMATTER"), (0, .class_ 132), (0, u "jdk/internal/util/Preconditions$3"), (3, u "IOOBE_FORMATTER"), (46, u "(IIILjava/util/function/BiFunction;)I")] 10

def k12m0 : Method := { name := "<init>", desc := "()V", sig := { parameters := [], returnType := none }, accessFlags := 1, code := none }
def k12c1 : Code := { maxStack := 4, maxLocals := 4, code := jdk_41_method_12_code, exceptionTable := #[], attributes := #[] }
def k12m1 : Method := { name := "checkFromToIndex", desc := "(IIILjava/util/function/BiFunction;)I", sig := { parameters := [.int, .int, .int, (.object "java/util/function/BiFunction")], returnType := some .int }, accessFlags := 9, code := some k12c1 }
/-- jdk/internal/util/Preconditions -/
def k12 : Class := { plain "jdk/internal/util/Preconditions" (some 0) with
  accessFlags := 33
  interfaces := #[]
  cf := some (fileOf pool12 24 #[.nestMembers #[55, 131, 125, 114]] #[{ accessFlags := 1, nameIndex := 5, descriptorIndex := 6, attributes := #[] }, { accessFlags := 9, nameIndex := 47, descriptorIndex := 183, attributes := #[] }] 33 2 #[] #[{ accessFlags := 25, nameIndex := 123, descriptorIndex := 124, attributes := #[] }, { accessFlags := 25, nameIndex := 130, descriptorIndex := 124, attributes := #[] }, { accessFlags := 25, nameIndex := 136, descriptorIndex := 124, attributes := #[] }])
  fields := #[{ name := "SIOOBE_FORMATTER", type := (.object "java/util/function/BiFunction"), accessFlags := 25, slot := 0, constantValue := 0 }, { name := "AIOOBE_FORMATTER", type := (.object "java/util/function/BiFunction"), accessFlags := 25, slot := 1, constantValue := 0 }, { name := "IOOBE_FORMATTER", type := (.object "java/util/function/BiFunction"), accessFlags := 25, slot := 2, constantValue := 0 }]
  methods := #[k12m0, k12m1]
  instanceTypes := #[]
  staticTypes := #[(.object "java/util/function/BiFunction"), (.object "java/util/function/BiFunction"), (.object "java/util/function/BiFunction")]
  resolved := Array.replicate 194 none
  statics := some 2 }

def pool13 : Array CpInfo := pool [(9, u "<init>"), (6, .class_ 18), (1, u "java/lang/Object"), (0, u "()V"), (1, .class_ 23), (1, u "jdk/internal/util/ArraysSupport"), (0, u "LOG2_ARRAY_LONG_INDEX_SCALE"), (0, u "I"), (2, u "U"), (0, u "Ljdk/internal/misc/Unsafe;"), (8, u "BIG_ENDIAN"), (0, u "Z"), (8, u "LOG2_BYTE_BIT_SIZE"), (4, u "LOG2_ARRAY_INT_INDEX_SCALE"), (54, u "JLA"), (0, u "Ljdk/internal/access/JavaLangAccess;"), (11, u "LOG2_ARRAY_BOOLEAN_INDEX_SCALE"), (9, u "LOG2_ARRAY_BYTE_INDEX_SCALE"), (5, u "LOG2_ARRAY_CHAR_INDEX_SCALE"), (5, u "LOG2_ARRAY_SHORT_INDEX_SCALE"), (18, u "LOG2_ARRAY_FLOAT_INDEX_SCALE"), (24, u "LOG2_ARRAY_DOUBLE_INDEX_SCALE"), (89, u "T_BOOLEAN"), (2, u "T_CHAR"), (1, u "T_FLOAT"), (1, u "T_DOUBLE"), (1, u "T_BYTE"), (1, u "T_SHORT"), (1, u "T_INT"), (1, u "T_LONG"), (1, u "SOFT_MAX_ARRAY_LENGTH")] 83

def k13m0 : Method := { name := "<init>", desc := "()V", sig := { parameters := [], returnType := none }, accessFlags := 2, code := none }
/-- jdk/internal/util/ArraysSupport -/
def k13 : Class := { plain "jdk/internal/util/ArraysSupport" (some 0) with
  accessFlags := 33
  interfaces := #[]
  cf := some (fileOf pool13 21 #[] #[{ accessFlags := 2, nameIndex := 9, descriptorIndex := 19, attributes := #[] }] 33 16 #[] #[{ accessFlags := 24, nameIndex := 28, descriptorIndex := 29, attributes := #[] }, { accessFlags := 26, nameIndex := 38, descriptorIndex := 39, attributes := #[] }, { accessFlags := 25, nameIndex := 121, descriptorIndex := 25, attributes := #[] }, { accessFlags := 25, nameIndex := 131, descriptorIndex := 25, attributes := #[] }, { accessFlags := 25, nameIndex := 137, descriptorIndex := 25, attributes := #[] }, { accessFlags := 25, nameIndex := 143, descriptorIndex := 25, attributes := #[] }, { accessFlags := 25, nameIndex := 53, descriptorIndex := 25, attributes := #[] }, { accessFlags := 25, nameIndex := 24, descriptorIndex := 25, attributes := #[] }, { accessFlags := 25, nameIndex := 162, descriptorIndex := 25, attributes := #[] }, { accessFlags := 25, nameIndex := 187, descriptorIndex := 25, attributes := #[] }, { accessFlags := 26, nameIndex := 48, descriptorIndex := 25, attributes := #[] }, { accessFlags := 25, nameIndex := 277, descriptorIndex := 25, attributes := #[] }, { accessFlags := 25, nameIndex := 280, descriptorIndex := 25, attributes := #[] }, { accessFlags := 25, nameIndex := 282, descriptorIndex := 25, attributes := #[] }, { accessFlags := 25, nameIndex := 284, descriptorIndex := 25, attributes := #[] }, { accessFlags := 25, nameIndex := 286, descriptorIndex := 25, attributes := #[] }, { accessFlags := 25, nameIndex := 288, descriptorIndex := 25, attributes := #[] }, { accessFlags := 25, nameIndex := 290, descriptorIndex := 25, attributes := #[] }, { accessFlags := 25, nameIndex := 292, descriptorIndex := 25, attributes := #[] }, { accessFlags := 26, nameIndex := 108, descriptorIndex := 109, attributes := #[] }, { accessFlags := 25, nameIndex := 294, descriptorIndex := 25, attributes := #[] }])
  fields := #[{ name := "U", type := (.object "jdk/internal/misc/Unsafe"), accessFlags := 24, slot := 0, constantValue := 0 }, { name := "BIG_ENDIAN", type := .boolean, accessFlags := 26, slot := 1, constantValue := 0 }, { name := "LOG2_ARRAY_BOOLEAN_INDEX_SCALE", type := .int, accessFlags := 25, slot := 2, constantValue := 0 }, { name := "LOG2_ARRAY_BYTE_INDEX_SCALE", type := .int, accessFlags := 25, slot := 3, constantValue := 0 }, { name := "LOG2_ARRAY_CHAR_INDEX_SCALE", type := .int, accessFlags := 25, slot := 4, constantValue := 0 }, { name := "LOG2_ARRAY_SHORT_INDEX_SCALE", type := .int, accessFlags := 25, slot := 5, constantValue := 0 }, { name := "LOG2_ARRAY_INT_INDEX_SCALE", type := .int, accessFlags := 25, slot := 6, constantValue := 0 }, { name := "LOG2_ARRAY_LONG_INDEX_SCALE", type := .int, accessFlags := 25, slot := 7, constantValue := 0 }, { name := "LOG2_ARRAY_FLOAT_INDEX_SCALE", type := .int, accessFlags := 25, slot := 8, constantValue := 0 }, { name := "LOG2_ARRAY_DOUBLE_INDEX_SCALE", type := .int, accessFlags := 25, slot := 9, constantValue := 0 }, { name := "LOG2_BYTE_BIT_SIZE", type := .int, accessFlags := 26, slot := 10, constantValue := 0 }, { name := "T_BOOLEAN", type := .int, accessFlags := 25, slot := 11, constantValue := 0 }, { name := "T_CHAR", type := .int, accessFlags := 25, slot := 12, constantValue := 0 }, { name := "T_FLOAT", type := .int, accessFlags := 25, slot := 13, constantValue := 0 }, { name := "T_DOUBLE", type := .int, accessFlags := 25, slot := 14, constantValue := 0 }, { name := "T_BYTE", type := .int, accessFlags := 25, slot := 15, constantValue := 0 }, { name := "T_SHORT", type := .int, accessFlags := 25, slot := 16, constantValue := 0 }, { name := "T_INT", type := .int, accessFlags := 25, slot := 17, constantValue := 0 }, { name := "T_LONG", type := .int, accessFlags := 25, slot := 18, constantValue := 0 }, { name := "JLA", type := (.object "jdk/internal/access/JavaLangAccess"), accessFlags := 26, slot := 19, constantValue := 0 }, { name := "SOFT_MAX_ARRAY_LENGTH", type := .int, accessFlags := 25, slot := 20, constantValue := 0 }]
  methods := #[k13m0]
  instanceTypes := #[]
  staticTypes := #[(.object "jdk/internal/misc/Unsafe"), .boolean, .int, .int, .int, .int, .int, .int, .int, .int, .int, .int, .int, .int, .int, .int, .int, .int, .int, (.object "jdk/internal/access/JavaLangAccess"), .int]
  resolved := Array.replicate 378 none
  statics := none }

def pool14 : Array CpInfo := pool [(1, u "java/lang/Cloneable"), (0, .class_ 1), (0, u "java/lang/Object"), (0, .class_ 3)] 3

/-- java/lang/Cloneable -/
def k14 : Class := { plain "java/lang/Cloneable" (some 0) with
  accessFlags := 1537
  interfaces := #[]
  cf := some (fileOf pool14 2 #[] #[] 1537 4 #[] #[])
  fields := #[]
  methods := #[]
  instanceTypes := #[]
  staticTypes := #[]
  resolved := Array.replicate 8 none
  statics := none }

/-- the primitive byte -/
def k15 : Class := { plain "byte" none with kind := .primitive 'B', accessFlags := 0x411 }
/-- [B -/
def k16 : Class := { plain "[B" (some 0) with kind := .array 15 .byte, interfaces := #[14, 2], accessFlags := 1041 }

/-- the primitive char -/
def k17 : Class := { plain "char" none with kind := .primitive 'C', accessFlags := 0x411 }
/-- [C -/
def k18 : Class := { plain "[C" (some 0) with kind := .array 17 .char, interfaces := #[14, 2], accessFlags := 1041 }

/-- the primitive int -/
def k19 : Class := { plain "int" none with kind := .primitive 'I', accessFlags := 0x411 }
/-- [I -/
def k20 : Class := { plain "[I" (some 0) with kind := .array 19 .int, interfaces := #[14, 2], accessFlags := 1041 }

def heap : Heap := #[{ cls := 7, slots := #[.long 0, .int 1, .null, .int 0, .null, .int 0, .int 0], vm := .statics 7 },
  { cls := 11, slots := #[.int 0, .int 8, .int 0, .int 1], vm := .statics 11 },
  { cls := 12, slots := #[.null, .null, .null], vm := .statics 12 }]
def classes : Array Class := #[k0, k1, k2, k3, k4, k5, k6, k7, k8, k9, k10, k11, k12, k13, k14, k15, k16, k17, k18, k19, k20]
def interned : List (Array UInt16 × Addr) := []
def slotsUsed : Nat := 14
def theMethod : MethodId := ⟨1, 2⟩
def args0 : Array Value := #[.int 1, .int 2, .int 3, .int 4, .int 5]
def aboutOver (below : List Frame) : State where
  vm := { classes := classes, interned := interned.toArray }
  heap := heap
  slotsUsed := slotsUsed
  threads := #[{ frames := .invoking theMethod args0 :: below }]
def below0 : List Frame := [.native { method := ⟨0, 0⟩, args := #[] }]
def about1 : State := aboutOver below0
def p0 : Program := .bare "" "" ""
def e0 : Env := launch0.env 0 0 0
theorem w_frames : about1.frames = Frame.invoking theMethod args0 :: below0 := rfl
set_option maxRecDepth 65536 in
theorem w_args : argsFit about1.vm theMethod args0 = true := by decide +kernel
set_option maxRecDepth 65536 in
theorem w_heap : heapFits about1 = true := by decide +kernel
set_option maxRecDepth 65536 in
theorem w_runnable : about1.curStatus? = some .runnable := by decide +kernel
set_option maxRecDepth 65536 in
theorem w_alone : about1.alone = true := by decide +kernel
set_option maxRecDepth 65536 in
theorem w_named : about1.methodNamed? x = some theMethod := by decide +kernel
set_option maxRecDepth 65536 in
theorem w_hears : about1.hears theMethod below0 = true := by decide +kernel
set_option maxRecDepth 65536 in
theorem w_ripe : about1.ripe theMethod args0 below0 = true := by decide +kernel
theorem w_running : about1.status = .running := rfl
set_option maxRecDepth 65536 in
theorem w_room : about1.hasRoom e0.platform room_1 = true :=
  launch0.hasRoom_least _ room_1 (by decide +kernel) (by decide +kernel) (by decide +kernel) (by decide +kernel) (by decide +kernel) (by decide +kernel)
theorem allAtoms_all (ts : List Jvm.Cond) (a : Array Jvm.Value) (st : Jvm.State) : (allAtoms ts).before a st = ts.all (fun c => c.before a st) := by
  induction ts with
  | nil => rfl
  | cons c t ih =>
    show (Jvm.Cond.and c (allAtoms t)).before a st = _
    rw [Jvm.Cond.before_and, ih, List.all_cons]
def words1 : List Jvm.Cond := Jvm.Cond.code x code maxLocals ret :: tables_1
/-- a 'code' word, met by the world's own term for the bytes: nothing is compared byte by byte -/
theorem code_word {y : MethodName} {bytes : ByteArray} {mx : Nat} {rt : Option FieldType} {a : Array Value} {s : State} {m : MethodId} {meth : Method} {c : Code} (h1 : s.methodNamed? y = some m) (h2 : s.vm.method? m = some meth) (h3 : meth.code = some c) (h4 : c.code = bytes)
    (h5 : (c.maxLocals == mx && c.exceptionTable.isEmpty && decide (c.maxStack ≤ mostOperands) && decide (meth.sig.returnType = rt) && !meth.locks && decide (parseMethodDescriptor y.desc = some meth.sig)) = true) : (Jvm.Cond.code y bytes mx rt).before a s = true := by
  simp only [Bool.and_eq_true, beq_iff_eq, Bool.not_eq_true', decide_eq_true_eq] at h5
  obtain ⟨⟨⟨⟨⟨g1, g2⟩, g3⟩, g4⟩, g5⟩, g6⟩ := h5
  simp [Cond.before, Cond.holds, Cond.value, h1, h2, h3, h4, g1, g2, g3, g4, g5, g6]
def isCode : Jvm.Cond → Bool
  | .code _ _ _ _ => true
  | _ => false
theorem all_split {L : List Jvm.Cond} {P : Jvm.Cond → Bool} (h1 : L.all (fun c => isCode c || P c) = true) (h2 : ∀ c ∈ L.filter isCode, P c = true) : L.all P = true := by
  refine List.all_eq_true.mpr fun c hc => ?_
  have h := List.all_eq_true.mp h1 c hc
  rcases Bool.eq_false_or_eq_true (isCode c) with hi | hi
  · exact h2 c (List.mem_filter.mpr ⟨hc, hi⟩)
  · simpa [hi] using h
set_option maxRecDepth 65536 in
theorem w_c0 : (Jvm.Cond.code x code maxLocals ret).before args0 about1 = true := code_word (m := ⟨1, 2⟩) (meth := k1m2) (c := k1c2) (by decide +kernel) rfl rfl rfl (by decide +kernel)
set_option maxRecDepth 65536 in
theorem w_c1 : (Jvm.Cond.code ({ cls := "com/example/ledgergate/ledgergate/access/ButtonsWithoutSeparatorPinLaw", name := "make", desc := "(ICCC)Ljava/lang/String;" } : Jvm.MethodName) method_2_code (4 : Nat) (Option.some (Jvm.ClassFile.FieldType.object "java/lang/String"))).before args0 about1 = true := code_word (m := ⟨1, 1⟩) (meth := k1m1) (c := k1c1) (by decide +kernel) rfl rfl rfl (by decide +kernel)
set_option maxRecDepth 65536 in
theorem w_c2 : (Jvm.Cond.code ({ cls := "java/lang/String", name := "<init>", desc := "([C)V" } : Jvm.MethodName) jdk_42_method_3_code (2 : Nat) (Option.none : Option Jvm.ClassFile.FieldType)).before args0 about1 = true := code_word (m := ⟨7, 1⟩) (meth := k7m1) (c := k7c1) (by decide +kernel) rfl rfl rfl (by decide +kernel)
set_option maxRecDepth 65536 in
theorem w_c3 : (Jvm.Cond.code ({ cls := "java/lang/String", name := "<init>", desc := "([CIILjava/lang/Void;)V" } : Jvm.MethodName) jdk_42_method_149_code (6 : Nat) (Option.none : Option Jvm.ClassFile.FieldType)).before args0 about1 = true := code_word (m := ⟨7, 6⟩) (meth := k7m6) (c := k7c6) (by decide +kernel) rfl rfl rfl (by decide +kernel)
set_option maxRecDepth 65536 in
theorem w_c4 : (Jvm.Cond.code ({ cls := "java/lang/Object", name := "<init>", desc := "()V" } : Jvm.MethodName) object_method_1_code (1 : Nat) (Option.none : Option Jvm.ClassFile.FieldType)).before args0 about1 = true := code_word (m := ⟨0, 0⟩) (meth := k0m0) (c := k0c0) (by decide +kernel) rfl rfl rfl (by decide +kernel)
set_option maxRecDepth 65536 in
theorem w_c5 : (Jvm.Cond.code ({ cls := "java/lang/String", name := "valueOf", desc := "(C)Ljava/lang/String;" } : Jvm.MethodName) jdk_42_method_139_code (1 : Nat) (Option.some (Jvm.ClassFile.FieldType.object "java/lang/String"))).before args0 about1 = true := code_word (m := ⟨7, 5⟩) (meth := k7m5) (c := k7c5) (by decide +kernel) rfl rfl rfl (by decide +kernel)
set_option maxRecDepth 65536 in
theorem w_c6 : (Jvm.Cond.code ({ cls := "java/lang/StringLatin1", name := "canEncode", desc := "(C)Z" } : Jvm.MethodName) jdk_43_method_3_code (1 : Nat) (Option.some Jvm.ClassFile.FieldType.boolean)).before args0 about1 = true := code_word (m := ⟨8, 1⟩) (meth := k8m1) (c := k8c1) (by decide +kernel) rfl rfl rfl (by decide +kernel)
set_option maxRecDepth 65536 in
theorem w_c7 : (Jvm.Cond.code ({ cls := "java/lang/StringLatin1", name := "toBytes", desc := "(C)[B" } : Jvm.MethodName) jdk_43_method_46_code (1 : Nat) (Option.some (Jvm.ClassFile.FieldType.array Jvm.ClassFile.FieldType.byte))).before args0 about1 = true := code_word (m := ⟨8, 5⟩) (meth := k8m5) (c := k8c5) (by decide +kernel) rfl rfl rfl (by decide +kernel)
set_option maxRecDepth 65536 in
theorem w_c8 : (Jvm.Cond.code ({ cls := "java/lang/String", name := "<init>", desc := "([BB)V" } : Jvm.MethodName) jdk_42_method_151_code (3 : Nat) (Option.none : Option Jvm.ClassFile.FieldType)).before args0 about1 = true := code_word (m := ⟨7, 7⟩) (meth := k7m7) (c := k7c7) (by decide +kernel) rfl rfl rfl (by decide +kernel)
set_option maxRecDepth 65536 in
theorem w_c9 : (Jvm.Cond.code ({ cls := "com/example/ledgergate/ledgergate/access/Buttons", name := "withoutSeparator", desc := "(Ljava/lang/String;Ljava/lang/String;)Ljava/lang/String;" } : Jvm.MethodName) prog_3_method_3_code (2 : Nat) (Option.some (Jvm.ClassFile.FieldType.object "java/lang/String"))).before args0 about1 = true := code_word (m := ⟨9, 1⟩) (meth := k9m1) (c := k9c1) (by decide +kernel) rfl rfl rfl (by decide +kernel)
set_option maxRecDepth 65536 in
theorem w_c10 : (Jvm.Cond.code ({ cls := "java/lang/String", name := "indexOf", desc := "(I)I" } : Jvm.MethodName) jdk_42_method_79_code (2 : Nat) (Option.some Jvm.ClassFile.FieldType.int)).before args0 about1 = true := code_word (m := ⟨7, 3⟩) (meth := k7m3) (c := k7c3) (by decide +kernel) rfl rfl rfl (by decide +kernel)
set_option maxRecDepth 65536 in
theorem w_c11 : (Jvm.Cond.code ({ cls := "java/lang/String", name := "indexOf", desc := "(II)I" } : Jvm.MethodName) jdk_42_method_80_code (3 : Nat) (Option.some Jvm.ClassFile.FieldType.int)).before args0 about1 = true := code_word (m := ⟨7, 4⟩) (meth := k7m4) (c := k7c4) (by decide +kernel) rfl rfl rfl (by decide +kernel)
set_option maxRecDepth 65536 in
theorem w_c12 : (Jvm.Cond.code ({ cls := "java/lang/String", name := "isLatin1", desc := "()Z" } : Jvm.MethodName) jdk_42_method_154_code (1 : Nat) (Option.some Jvm.ClassFile.FieldType.boolean)).before args0 about1 = true := code_word (m := ⟨7, 9⟩) (meth := k7m9) (c := k7c9) (by decide +kernel) rfl rfl rfl (by decide +kernel)
set_option maxRecDepth 65536 in
theorem w_c13 : (Jvm.Cond.code ({ cls := "java/lang/String", name := "length", desc := "()I" } : Jvm.MethodName) jdk_42_method_54_code (1 : Nat) (Option.some Jvm.ClassFile.FieldType.int)).before args0 about1 = true := code_word (m := ⟨7, 2⟩) (meth := k7m2) (c := k7c2) (by decide +kernel) rfl rfl rfl (by decide +kernel)
set_option maxRecDepth 65536 in
theorem w_c14 : (Jvm.Cond.code ({ cls := "java/lang/String", name := "coder", desc := "()B" } : Jvm.MethodName) jdk_42_method_152_code (1 : Nat) (Option.some Jvm.ClassFile.FieldType.byte)).before args0 about1 = true := code_word (m := ⟨7, 8⟩) (meth := k7m8) (c := k7c8) (by decide +kernel) rfl rfl rfl (by decide +kernel)
set_option maxRecDepth 65536 in
theorem w_c15 : (Jvm.Cond.code ({ cls := "java/lang/StringLatin1", name := "indexOf", desc := "([BIII)I" } : Jvm.MethodName) jdk_43_method_22_code (4 : Nat) (Option.some Jvm.ClassFile.FieldType.int)).before args0 about1 = true := code_word (m := ⟨8, 3⟩) (meth := k8m3) (c := k8c3) (by decide +kernel) rfl rfl rfl (by decide +kernel)
set_option maxRecDepth 65536 in
theorem w_c16 : (Jvm.Cond.code ({ cls := "java/lang/StringLatin1", name := "canEncode", desc := "(I)Z" } : Jvm.MethodName) jdk_43_method_4_code (1 : Nat) (Option.some Jvm.ClassFile.FieldType.boolean)).before args0 about1 = true := code_word (m := ⟨8, 2⟩) (meth := k8m2) (c := k8c2) (by decide +kernel) rfl rfl rfl (by decide +kernel)
set_option maxRecDepth 65536 in
theorem w_c17 : (Jvm.Cond.code ({ cls := "java/lang/Math", name := "max", desc := "(II)I" } : Jvm.MethodName) jdk_29_method_65_code (2 : Nat) (Option.some Jvm.ClassFile.FieldType.int)).before args0 about1 = true := code_word (m := ⟨10, 1⟩) (meth := k10m1) (c := k10c1) (by decide +kernel) rfl rfl rfl (by decide +kernel)
set_option maxRecDepth 65536 in
theorem w_c18 : (Jvm.Cond.code ({ cls := "java/lang/Math", name := "min", desc := "(II)I" } : Jvm.MethodName) jdk_29_method_69_code (2 : Nat) (Option.some Jvm.ClassFile.FieldType.int)).before args0 about1 = true := code_word (m := ⟨10, 2⟩) (meth := k10m2) (c := k10c2) (by decide +kernel) rfl rfl rfl (by decide +kernel)
set_option maxRecDepth 65536 in
theorem w_c19 : (Jvm.Cond.code ({ cls := "java/lang/StringUTF16", name := "compress", desc := "([CII)[B" } : Jvm.MethodName) jdk_52_method_16_code (6 : Nat) (Option.some (Jvm.ClassFile.FieldType.array Jvm.ClassFile.FieldType.byte))).before args0 about1 = true := code_word (m := ⟨11, 8⟩) (meth := k11m8) (c := k11c8) (by decide +kernel) rfl rfl rfl (by decide +kernel)
set_option maxRecDepth 65536 in
theorem w_c20 : (Jvm.Cond.code ({ cls := "java/lang/StringUTF16", name := "compress", desc := "([CI[BII)I" } : Jvm.MethodName) jdk_52_method_21_code (7 : Nat) (Option.some Jvm.ClassFile.FieldType.int)).before args0 about1 = true := code_word (m := ⟨11, 9⟩) (meth := k11m9) (c := k11c9) (by decide +kernel) rfl rfl rfl (by decide +kernel)
set_option maxRecDepth 65536 in
theorem w_c21 : (Jvm.Cond.code ({ cls := "java/lang/StringUTF16", name := "coderFromArrayLen", desc := "([BI)B" } : Jvm.MethodName) jdk_52_method_15_code (2 : Nat) (Option.some Jvm.ClassFile.FieldType.byte)).before args0 about1 = true := code_word (m := ⟨11, 7⟩) (meth := k11m7) (c := k11c7) (by decide +kernel) rfl rfl rfl (by decide +kernel)
set_option maxRecDepth 65536 in
theorem w_c22 : (Jvm.Cond.code ({ cls := "java/lang/StringLatin1", name := "indexOfChar", desc := "([BIII)I" } : Jvm.MethodName) jdk_43_method_23_code (6 : Nat) (Option.some Jvm.ClassFile.FieldType.int)).before args0 about1 = true := code_word (m := ⟨8, 4⟩) (meth := k8m4) (c := k8c4) (by decide +kernel) rfl rfl rfl (by decide +kernel)
set_option maxRecDepth 65536 in
theorem w_c23 : (Jvm.Cond.code ({ cls := "java/lang/StringUTF16", name := "toBytes", desc := "([CII)[B" } : Jvm.MethodName) jdk_52_method_14_code (5 : Nat) (Option.some (Jvm.ClassFile.FieldType.array Jvm.ClassFile.FieldType.byte))).before args0 about1 = true := code_word (m := ⟨11, 6⟩) (meth := k11m6) (c := k11c6) (by decide +kernel) rfl rfl rfl (by decide +kernel)
set_option maxRecDepth 65536 in
theorem w_c24 : (Jvm.Cond.code ({ cls := "java/lang/StringUTF16", name := "newBytesFor", desc := "(I)[B" } : Jvm.MethodName) jdk_52_method_2_code (1 : Nat) (Option.some (Jvm.ClassFile.FieldType.array Jvm.ClassFile.FieldType.byte))).before args0 about1 = true := code_word (m := ⟨11, 1⟩) (meth := k11m1) (c := k11c1) (by decide +kernel) rfl rfl rfl (by decide +kernel)
set_option maxRecDepth 65536 in
theorem w_c25 : (Jvm.Cond.code ({ cls := "java/lang/StringUTF16", name := "newBytesLength", desc := "(I)I" } : Jvm.MethodName) jdk_52_method_3_code (1 : Nat) (Option.some Jvm.ClassFile.FieldType.int)).before args0 about1 = true := code_word (m := ⟨11, 2⟩) (meth := k11m2) (c := k11c2) (by decide +kernel) rfl rfl rfl (by decide +kernel)
set_option maxRecDepth 65536 in
theorem w_c26 : (Jvm.Cond.code ({ cls := "java/lang/StringUTF16", name := "putChar", desc := "([BII)V" } : Jvm.MethodName) jdk_52_method_4_code (3 : Nat) (Option.none : Option Jvm.ClassFile.FieldType)).before args0 about1 = true := code_word (m := ⟨11, 3⟩) (meth := k11m3) (c := k11c3) (by decide +kernel) rfl rfl rfl (by decide +kernel)
set_option maxRecDepth 65536 in
theorem w_c27 : (Jvm.Cond.code ({ cls := "java/lang/StringUTF16", name := "getChar", desc := "([BI)C" } : Jvm.MethodName) jdk_52_method_5_code (2 : Nat) (Option.some Jvm.ClassFile.FieldType.char)).before args0 about1 = true := code_word (m := ⟨11, 4⟩) (meth := k11m4) (c := k11c4) (by decide +kernel) rfl rfl rfl (by decide +kernel)
set_option maxRecDepth 65536 in
theorem w_c28 : (Jvm.Cond.code ({ cls := "java/lang/StringUTF16", name := "indexOf", desc := "([BIII)I" } : Jvm.MethodName) jdk_52_method_40_code (4 : Nat) (Option.some Jvm.ClassFile.FieldType.int)).before args0 about1 = true := code_word (m := ⟨11, 10⟩) (meth := k11m10) (c := k11c10) (by decide +kernel) rfl rfl rfl (by decide +kernel)
set_option maxRecDepth 65536 in
theorem w_c29 : (Jvm.Cond.code ({ cls := "java/lang/StringUTF16", name := "indexOfChar", desc := "([BIII)I" } : Jvm.MethodName) jdk_52_method_47_code (4 : Nat) (Option.some Jvm.ClassFile.FieldType.int)).before args0 about1 = true := code_word (m := ⟨11, 11⟩) (meth := k11m11) (c := k11c11) (by decide +kernel) rfl rfl rfl (by decide +kernel)
set_option maxRecDepth 65536 in
theorem w_c30 : (Jvm.Cond.code ({ cls := "java/lang/StringUTF16", name := "checkBoundsBeginEnd", desc := "(II[B)V" } : Jvm.MethodName) jdk_52_method_93_code (3 : Nat) (Option.none : Option Jvm.ClassFile.FieldType)).before args0 about1 = true := code_word (m := ⟨11, 13⟩) (meth := k11m13) (c := k11c13) (by decide +kernel) rfl rfl rfl (by decide +kernel)
set_option maxRecDepth 65536 in
theorem w_c31 : (Jvm.Cond.code ({ cls := "java/lang/StringUTF16", name := "length", desc := "([B)I" } : Jvm.MethodName) jdk_52_method_6_code (1 : Nat) (Option.some Jvm.ClassFile.FieldType.int)).before args0 about1 = true := code_word (m := ⟨11, 5⟩) (meth := k11m5) (c := k11c5) (by decide +kernel) rfl rfl rfl (by decide +kernel)
set_option maxRecDepth 65536 in
theorem w_c32 : (Jvm.Cond.code ({ cls := "java/lang/String", name := "checkBoundsBeginEnd", desc := "(III)V" } : Jvm.MethodName) jdk_42_method_158_code (3 : Nat) (Option.none : Option Jvm.ClassFile.FieldType)).before args0 about1 = true := code_word (m := ⟨7, 10⟩) (meth := k7m10) (c := k7c10) (by decide +kernel) rfl rfl rfl (by decide +kernel)
set_option maxRecDepth 65536 in
theorem w_c33 : (Jvm.Cond.code ({ cls := "jdk/internal/util/Preconditions", name := "checkFromToIndex", desc := "(IIILjava/util/function/BiFunction;)I" } : Jvm.MethodName) jdk_41_method_12_code (4 : Nat) (Option.some Jvm.ClassFile.FieldType.int)).before args0 about1 = true := code_word (m := ⟨12, 1⟩) (meth := k12m1) (c := k12c1) (by decide +kernel) rfl rfl rfl (by decide +kernel)
set_option maxRecDepth 65536 in
theorem w_c34 : (Jvm.Cond.code ({ cls := "java/lang/StringUTF16", name := "indexOfCharUnsafe", desc := "([BIII)I" } : Jvm.MethodName) jdk_52_method_48_code (5 : Nat) (Option.some Jvm.ClassFile.FieldType.int)).before args0 about1 = true := code_word (m := ⟨11, 12⟩) (meth := k11m12) (c := k11c12) (by decide +kernel) rfl rfl rfl (by decide +kernel)
def codes1 : List Jvm.Cond := [Jvm.Cond.code x code maxLocals ret, Jvm.Cond.code ({ cls := "com/example/ledgergate/ledgergate/access/ButtonsWithoutSeparatorPinLaw", name := "make", desc := "(ICCC)Ljava/lang/String;" } : Jvm.MethodName) method_2_code (4 : Nat) (Option.some (Jvm.ClassFile.FieldType.object "java/lang/String")), Jvm.Cond.code ({ cls := "java/lang/String", name := "<init>", desc := "([C)V" } : Jvm.MethodName) jdk_42_method_3_code (2 : Nat) (Option.none : Option Jvm.ClassFile.FieldType), Jvm.Cond.code ({ cls := "java/lang/String", name := "<init>", desc := "([CIILjava/lang/Void;)V" } : Jvm.MethodName) jdk_42_method_149_code (6 : Nat) (Option.none : Option Jvm.ClassFile.FieldType), Jvm.Cond.code ({ cls := "java/lang/Object", name := "<init>", desc := "()V" } : Jvm.MethodName) object_method_1_code (1 : Nat) (Option.none : Option Jvm.ClassFile.FieldType), Jvm.Cond.code ({ cls := "java/lang/String", name := "valueOf", desc := "(C)Ljava/lang/String;" } : Jvm.MethodName) jdk_42_method_139_code (1 : Nat) (Option.some (Jvm.ClassFile.FieldType.object "java/lang/String")), Jvm.Cond.code ({ cls := "java/lang/StringLatin1", name := "canEncode", desc := "(C)Z" } : Jvm.MethodName) jdk_43_method_3_code (1 : Nat) (Option.some Jvm.ClassFile.FieldType.boolean), Jvm.Cond.code ({ cls := "java/lang/StringLatin1", name := "toBytes", desc := "(C)[B" } : Jvm.MethodName) jdk_43_method_46_code (1 : Nat) (Option.some (Jvm.ClassFile.FieldType.array Jvm.ClassFile.FieldType.byte)), Jvm.Cond.code ({ cls := "java/lang/String", name := "<init>", desc := "([BB)V" } : Jvm.MethodName) jdk_42_method_151_code (3 : Nat) (Option.none : Option Jvm.ClassFile.FieldType), Jvm.Cond.code ({ cls := "com/example/ledgergate/ledgergate/access/Buttons", name := "withoutSeparator", desc := "(Ljava/lang/String;Ljava/lang/String;)Ljava/lang/String;" } : Jvm.MethodName) prog_3_method_3_code (2 : Nat) (Option.some (Jvm.ClassFile.FieldType.object "java/lang/String")), Jvm.Cond.code ({ cls := "java/lang/String", name := "indexOf", desc := "(I)I" } : Jvm.MethodName) jdk_42_method_79_code (2 : Nat) (Option.some Jvm.ClassFile.FieldType.int), Jvm.Cond.code ({ cls := "java/lang/String", name := "indexOf", desc := "(II)I" } : Jvm.MethodName) jdk_42_method_80_code (3 : Nat) (Option.some Jvm.ClassFile.FieldType.int), Jvm.Cond.code ({ cls := "java/lang/String", name := "isLatin1", desc := "()Z" } : Jvm.MethodName) jdk_42_method_154_code (1 : Nat) (Option.some Jvm.ClassFile.FieldType.boolean), Jvm.Cond.code ({ cls := "java/lang/String", name := "length", desc := "()I" } : Jvm.MethodName) jdk_42_method_54_code (1 : Nat) (Option.some Jvm.ClassFile.FieldType.int), Jvm.Cond.code ({ cls := "java/lang/String", name := "coder", desc := "()B" } : Jvm.MethodName) jdk_42_method_152_code (1 : Nat) (Option.some Jvm.ClassFile.FieldType.byte), Jvm.Cond.code ({ cls := "java/lang/StringLatin1", name := "indexOf", desc := "([BIII)I" } : Jvm.MethodName) jdk_43_method_22_code (4 : Nat) (Option.some Jvm.ClassFile.FieldType.int), Jvm.Cond.code ({ cls := "java/lang/StringLatin1", name := "canEncode", desc := "(I)Z" } : Jvm.MethodName) jdk_43_method_4_code (1 : Nat) (Option.some Jvm.ClassFile.FieldType.boolean), Jvm.Cond.code ({ cls := "java/lang/Math", name := "max", desc := "(II)I" } : Jvm.MethodName) jdk_29_method_65_code (2 : Nat) (Option.some Jvm.ClassFile.FieldType.int), Jvm.Cond.code ({ cls := "java/lang/Math", name := "min", desc := "(II)I" } : Jvm.MethodName) jdk_29_method_69_code (2 : Nat) (Option.some Jvm.ClassFile.FieldType.int), Jvm.Cond.code ({ cls := "java/lang/StringUTF16", name := "compress", desc := "([CII)[B" } : Jvm.MethodName) jdk_52_method_16_code (6 : Nat) (Option.some (Jvm.ClassFile.FieldType.array Jvm.ClassFile.FieldType.byte)), Jvm.Cond.code ({ cls := "java/lang/StringUTF16", name := "compress", desc := "([CI[BII)I" } : Jvm.MethodName) jdk_52_method_21_code (7 : Nat) (Option.some Jvm.ClassFile.FieldType.int), Jvm.Cond.code ({ cls := "java/lang/StringUTF16", name := "coderFromArrayLen", desc := "([BI)B" } : Jvm.MethodName) jdk_52_method_15_code (2 : Nat) (Option.some Jvm.ClassFile.FieldType.byte), Jvm.Cond.code ({ cls := "java/lang/StringLatin1", name := "indexOfChar", desc := "([BIII)I" } : Jvm.MethodName) jdk_43_method_23_code (6 : Nat) (Option.some Jvm.ClassFile.FieldType.int), Jvm.Cond.code ({ cls := "java/lang/StringUTF16", name := "toBytes", desc := "([CII)[B" } : Jvm.MethodName) jdk_52_method_14_code (5 : Nat) (Option.some (Jvm.ClassFile.FieldType.array Jvm.ClassFile.FieldType.byte)), Jvm.Cond.code ({ cls := "java/lang/StringUTF16", name := "newBytesFor", desc := "(I)[B" } : Jvm.MethodName) jdk_52_method_2_code (1 : Nat) (Option.some (Jvm.ClassFile.FieldType.array Jvm.ClassFile.FieldType.byte)), Jvm.Cond.code ({ cls := "java/lang/StringUTF16", name := "newBytesLength", desc := "(I)I" } : Jvm.MethodName) jdk_52_method_3_code (1 : Nat) (Option.some Jvm.ClassFile.FieldType.int), Jvm.Cond.code ({ cls := "java/lang/StringUTF16", name := "putChar", desc := "([BII)V" } : Jvm.MethodName) jdk_52_method_4_code (3 : Nat) (Option.none : Option Jvm.ClassFile.FieldType), Jvm.Cond.code ({ cls := "java/lang/StringUTF16", name := "getChar", desc := "([BI)C" } : Jvm.MethodName) jdk_52_method_5_code (2 : Nat) (Option.some Jvm.ClassFile.FieldType.char), Jvm.Cond.code ({ cls := "java/lang/StringUTF16", name := "indexOf", desc := "([BIII)I" } : Jvm.MethodName) jdk_52_method_40_code (4 : Nat) (Option.some Jvm.ClassFile.FieldType.int), Jvm.Cond.code ({ cls := "java/lang/StringUTF16", name := "indexOfChar", desc := "([BIII)I" } : Jvm.MethodName) jdk_52_method_47_code (4 : Nat) (Option.some Jvm.ClassFile.FieldType.int), Jvm.Cond.code ({ cls := "java/lang/StringUTF16", name := "checkBoundsBeginEnd", desc := "(II[B)V" } : Jvm.MethodName) jdk_52_method_93_code (3 : Nat) (Option.none : Option Jvm.ClassFile.FieldType), Jvm.Cond.code ({ cls := "java/lang/StringUTF16", name := "length", desc := "([B)I" } : Jvm.MethodName) jdk_52_method_6_code (1 : Nat) (Option.some Jvm.ClassFile.FieldType.int), Jvm.Cond.code ({ cls := "java/lang/String", name := "checkBoundsBeginEnd", desc := "(III)V" } : Jvm.MethodName) jdk_42_method_158_code (3 : Nat) (Option.none : Option Jvm.ClassFile.FieldType), Jvm.Cond.code ({ cls := "jdk/internal/util/Preconditions", name := "checkFromToIndex", desc := "(IIILjava/util/function/BiFunction;)I" } : Jvm.MethodName) jdk_41_method_12_code (4 : Nat) (Option.some Jvm.ClassFile.FieldType.int), Jvm.Cond.code ({ cls := "java/lang/StringUTF16", name := "indexOfCharUnsafe", desc := "([BIII)I" } : Jvm.MethodName) jdk_52_method_48_code (5 : Nat) (Option.some Jvm.ClassFile.FieldType.int)]
set_option maxRecDepth 65536 in
theorem codes_eq : words1.filter isCode = codes1 := rfl
theorem w_codes : ∀ c ∈ words1.filter isCode, c.before args0 about1 = true := by
  rw [codes_eq]
  intro c hc
  simp only [codes1, List.mem_cons, List.not_mem_nil, or_false] at hc
  rcases hc with rfl | rfl | rfl | rfl | rfl | rfl | rfl | rfl | rfl | rfl | rfl | rfl | rfl | rfl | rfl | rfl | rfl | rfl | rfl | rfl | rfl | rfl | rfl | rfl | rfl | rfl | rfl | rfl | rfl | rfl | rfl | rfl | rfl | rfl | rfl
  · exact w_c0
  · exact w_c1
  · exact w_c2
  · exact w_c3
  · exact w_c4
  · exact w_c5
  · exact w_c6
  · exact w_c7
  · exact w_c8
  · exact w_c9
  · exact w_c10
  · exact w_c11
  · exact w_c12
  · exact w_c13
  · exact w_c14
  · exact w_c15
  · exact w_c16
  · exact w_c17
  · exact w_c18
  · exact w_c19
  · exact w_c20
  · exact w_c21
  · exact w_c22
  · exact w_c23
  · exact w_c24
  · exact w_c25
  · exact w_c26
  · exact w_c27
  · exact w_c28
  · exact w_c29
  · exact w_c30
  · exact w_c31
  · exact w_c32
  · exact w_c33
  · exact w_c34
set_option maxRecDepth 65536 in
theorem w_t1 : (words1.take 24).all (fun c => isCode c || c.before args0 about1) = true := by decide +kernel
set_option maxRecDepth 65536 in
theorem w_t2 : ((words1.drop 24).take 24).all (fun c => isCode c || c.before args0 about1) = true := by decide +kernel
set_option maxRecDepth 65536 in
theorem w_t3 : (((words1.drop 24).drop 24).take 24).all (fun c => isCode c || c.before args0 about1) = true := by decide +kernel
set_option maxRecDepth 65536 in
theorem w_t4 : ((((words1.drop 24).drop 24).drop 24).take 24).all (fun c => isCode c || c.before args0 about1) = true := by decide +kernel
set_option maxRecDepth 65536 in
theorem w_t5 : (((((words1.drop 24).drop 24).drop 24).drop 24).take 24).all (fun c => isCode c || c.before args0 about1) = true := by decide +kernel
set_option maxRecDepth 65536 in
theorem w_t6 : (((((words1.drop 24).drop 24).drop 24).drop 24).drop 24).all (fun c => isCode c || c.before args0 about1) = true := by decide +kernel
theorem w_tables : (allAtoms (Jvm.Cond.code x code maxLocals ret :: tables_1)).before args0 about1 = true := by
  rw [allAtoms_all]
  show words1.all (fun c => c.before args0 about1) = true
  refine all_split ?_ w_codes
  rw [← List.take_append_drop 24 words1, List.all_append, w_t1, ← List.take_append_drop 24 (words1.drop 24), List.all_append, w_t2, ← List.take_append_drop 24 ((words1.drop 24).drop 24), List.all_append, w_t3, ← List.take_append_drop 24 (((words1.drop 24).drop 24).drop 24), List.all_append, w_t4, ← List.take_append_drop 24 ((((words1.drop 24).drop 24).drop 24).drop 24), List.all_append, w_t5, w_t6]
  rfl
set_option maxRecDepth 65536 in
theorem w_rest : rest_1_c.before args0 about1 = true := by decide +kernel
set_option maxRecDepth 65536 in
theorem w_case : (Jvm.Cond.and given_1 narrow_1).before args0 about1 = true := by decide +kernel
set_option maxRecDepth 65536 in
theorem w_consts : constsHeld consts_1 about1 := Jvm.Lit.constsHeldB_iff.mp (by decide +kernel)
theorem w_applies : (headSpec (Jvm.Cond.code x code maxLocals ret :: tables_1) room_1).applies x e0.platform about1 = true :=
  (Spec.applies_iff w_frames).mpr ⟨w_running, w_runnable, w_alone, w_named, w_hears, w_ripe, w_room, w_tables⟩
theorem atStart : AtStart classFile x code maxLocals ret World_1 tables_1 room_1 Calls_1 rest_1 Pre_1 launch0 p0 e0 about1 theMethod args0 below0 :=
  ⟨lists_1, trivial, launch0.admits_env _ _ _, launch0.least_env, fairChoices_fair.cas, fairChoices_fair.clock, w_frames, w_args, w_heap, w_applies, ⟨w_consts, trivial⟩, w_rest, w_case⟩
end start1
theorem witness_1 : WitnessClaimed_1 := ⟨start1.p0, start1.e0, start1.about1, start1.theMethod, start1.args0, start1.below0, start1.atStart⟩
end Jvm.Pilot.@@N@@
