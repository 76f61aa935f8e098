import JvmDerived
import JvmDerived.Pilot.@@N@@Statement
import JvmDerived.Pilot.@@N@@Code
set_option linter.unusedVariables false
set_option linter.unusedSimpArgs false
namespace Jvm.RoadKit
open Sem ClassFile Op Lib Jvm.Stand Jvm.Free Jvm.LawKit
section New
variable {p : Program} {l : Launch} {e : Env} {R : Room} {s : State} {m : MethodId} {args : Array Value} {below : List Frame} {meth : Method} {c : Code} {T : State} {locs : List Loc} {cells slots : Nat}
theorem retI (X : Stand p l e R s m args below meth c T locs cells slots) (hx : p.tables.exec = Jvm.exec) {pc : Nat} {Ls : Array Slot} {z : Int32} {rest : List Value} (hret : meth.sig.returnType = some .int) (hd : decode c.code pc = .ok (.ireturn, 1)) {fs : List Frame}
    (hl : ∀ (f : JFrame) (acts : List Action), f.method = m → f.locked = none → f.entered = [] → (doReturn e (T.setTop f) acts (some (.int z))).1 = T.setFrames fs) : Steps p.tables e below (T.setTop (mkF m pc Ls (.int z :: rest))) (T.setFrames fs) := by
  have hm' : T.vm.method? m = some meth := X.method'
  have hn : narrow .int (.int z) = .int z := rfl
  show Steps p.tables e below (T.setTop { method := m, pc := pc, locals := Ls, stack := _ :: rest, locked := none }) _
  jvm_step X.here [X.here.top, hx, hd, hm', hret, hn]
  first | (intro acts; rw [hl _ acts rfl rfl rfl]) | rw [hl _ _ rfl rfl rfl]
  exact Steps.refl _
/-- what is left of a walk: from S the run comes to its end, and Q is said of that -/
def OwnGo (p : Program) (e : Env) (below : List Frame) (s : State) (Q : Option Value → Heap → List Loc → Prop) (k n : Nat) (S : State) : Prop :=
  ∃ s₂ o, Steps p.tables e below S s₂ ∧ s₂.status = .running ∧ Ended s₂ below o ∧ ∃ v L, o = .returned v ∧ Q v s₂.heap L ∧ FrameEnd s o s₂ L k n
theorem gs {Q : Option Value → Heap → List Loc → Prop} {k n : Nat} {S S' : State} (f : ∀ t, Steps p.tables e below S' t → Steps p.tables e below S t) (h : OwnGo p e below s Q k n S') : OwnGo p e below s Q k n S := by
  obtain ⟨s₂, o, h1, r⟩ := h; exact ⟨s₂, o, f _ h1, r⟩
theorem gout {Q : Option Value → Heap → List Loc → Prop} {k n : Nat} {S : State} (X : Stand p l e R s m args below meth c T locs cells slots) (hlk : meth.locks = false) {v : Option Value} (hv : meth.sig.returnType = none → v = none) (hk : cells ≤ k) (hn : slots ≤ n) (hq : Q v T.heap locs)
    (st : ∀ fs, (∀ (f : JFrame) (acts : List Action), f.method = m → f.locked = none → f.entered = [] → (doReturn e (T.setTop f) acts v).1 = T.setFrames fs) → Steps p.tables e below S (T.setFrames fs)) : OwnGo p e below s Q k n S := by
  obtain ⟨fs, hr, hrun, hended, hW, hsame⟩ := X.leave (v := v) hv hlk
  exact ⟨_, _, st fs hr, hrun, hended, v, _, rfl, hq, ⟨v, rfl⟩, hW, hsame.mono hk hn⟩
/-- .. where String constants may be loaded on the way -/
def OwnGoW (p : Program) (e : Env) (below : List Frame) (s : State) (Z : State) (EL : List (String × Nat)) (Q : Option Value → Heap → List Loc → Prop) (k n : Nat) (S : State) : Prop :=
  ∃ s₂ o, Steps p.tables e below S s₂ ∧ s₂.status = .running ∧ Ended s₂ below o ∧ ∃ v L, o = .returned v ∧ Q v s₂.heap L ∧ CHr Z EL s.vm s.heap s₂.vm s₂.heap ∧ ReturnedEndW s o s₂ L k n
theorem gsW {Z : State} {EL : List (String × Nat)} {Q : Option Value → Heap → List Loc → Prop} {k n : Nat} {S S' : State} (f : ∀ t, Steps p.tables e below S' t → Steps p.tables e below S t) (h : OwnGoW p e below s Z EL Q k n S') : OwnGoW p e below s Z EL Q k n S := by
  obtain ⟨s₂, o, h1, r⟩ := h; exact ⟨s₂, o, f _ h1, r⟩
theorem goutW {Z : State} {a0 : Array Value} {EL : List (String × Nat)} {Q : Option Value → Heap → List Loc → Prop} {k n k0 : Nat} {S : State} {vm1 : Vm} {h0 h : Heap} (X : Stand p l e R (s.setVm vm1) m args below meth c T locs cells slots) (hS : s.Since vm1 k0) (hkk : k0 ≤ h.size) (hZ : Z.Warmed39 (s.setVm vm1).vm) (hEL : EW Z a0 EL) (hh : s.heap = h0) (eT : T.heap = h) (hR : CHr Z EL s.vm h0 vm1 h)
    (hlk : meth.locks = false) {v : Option Value} (hv : meth.sig.returnType = none → v = none) (hk : cells ≤ k) (hn : slots ≤ n) (hq : Q v h locs)
    (st : ∀ fs, (∀ (f : JFrame) (acts : List Action), f.method = m → f.locked = none → f.entered = [] → (doReturn e (T.setTop f) acts v).1 = T.setFrames fs) → Steps p.tables e below S (T.setFrames fs)) : OwnGoW p e below s Z EL Q k n S := by
  subst eT hh
  obtain ⟨fs, hr, hrun, hended, hE⟩ := X.leaveW hS hkk (v := v) hv hlk
  exact ⟨_, _, st fs hr, hrun, hended, v, _, rfl, hq, hR.trans (show CHr Z EL vm1 T.heap T.vm T.heap from CHv.at X hZ hEL hR.1), hE.1, hE.2.1, hE.2.2.1, hE.2.2.2.mono hk hn⟩
end New
def CtrW (l : Launch) (Z : State) (EL : List (String × Nat)) (y : MethodName) (bytes : ByteArray) (maxL : Nat) (ret : Option FieldType) (ws : List Jvm.Cond) (R : Room) (as' : Array Value) (h0 : Heap) (Q : Option Value → Heap → List Loc → Prop) : Prop :=
  MetFree l y (head1 (Jvm.Cond.code y bytes maxL ret :: ws) R) (fun a U => a = as' ∧ Z.Warmed39 U.vm ∧ U.heap = h0 ∧ CHv Z EL U.vm h0) (fun _ _ _ _ _ => True) (fun _ U o U' => ∃ v L, o = .returned v ∧ Q v U'.heap L ∧ CHr Z EL U.vm U.heap U'.vm U'.heap ∧ ReturnedEndW U o U' L R.cells R.slots)
/-- a method's contract -/
def Ctr (l : Launch) (Z : State) (y : MethodName) (bytes : ByteArray) (maxL : Nat) (ret : Option FieldType) (ws : List Jvm.Cond) (R : Room) (as' : Array Value) (h0 : Heap) (Q : Option Value → Heap → List Loc → Prop) : Prop :=
  MetFree l y (head1 (Jvm.Cond.code y bytes maxL ret :: ws) R) (fun a U => a = as' ∧ Z.Warmed39 U.vm ∧ U.heap = h0) (fun _ _ _ _ _ => True) (fun _ U o U' => ∃ v L, o = .returned v ∧ Q v U'.heap L ∧ FrameEnd U o U' L R.cells R.slots)
section Own
variable {p : Program} {l : Launch} {e : Env} {R : Room} {s Z : State} {args a0 : Array Value} {below : List Frame} {y : MethodName} {bytes : ByteArray} {maxL : Nat} {ret : Option FieldType} {rm : Room} {len W : Nat} {as' : Array Value} {h : Heap} {Q : Option Value → Heap → List Loc → Prop} {EL : List (String × Nat)} {vm0 : Vm} {ws : List Jvm.Cond}
theorem Ctr.of (hM : MetFree l y (head1 (Jvm.Cond.code y bytes maxL ret :: ws) R) (fun a U => a = as' ∧ Z.Warmed39 U.vm ∧ U.heap = h) (fun _ _ _ _ _ => True) (fun _ U o U' => ∃ v L, o = .returned v ∧ Q v U'.heap L ∧ FrameEnd U o U' L R.cells R.slots)) : Ctr l Z y bytes maxL ret ws R as' h Q := hM
theorem CtrW.of (hM : MetFree l y (head1 (Jvm.Cond.code y bytes maxL ret :: ws) R) (fun a U => a = as' ∧ Z.Warmed39 U.vm ∧ U.heap = h ∧ CHv Z EL U.vm h) (fun _ _ _ _ _ => True) (fun _ U o U' => ∃ v L, o = .returned v ∧ Q v U'.heap L ∧ CHr Z EL U.vm U.heap U'.vm U'.heap ∧ ReturnedEndW U o U' L R.cells R.slots)) : CtrW l Z EL y bytes maxL ret ws R as' h Q := hM
theorem backC (hM : Ctr l Z y bytes maxL ret [] rm as' h Q) (hZ : Z.Warmed39 s.vm) (wc : (Cond.code y bytes maxL ret).before a0 Z = true) (wz : (Cond.initialized y.cls).before a0 Z = true) (hf : rm.frames + 1 ≤ R.frames) (hl : W + (maxL + 11) + rm.locals ≤ R.locals) :
    Back l R p e below s args y len W (fun A a => a = as' ∧ A.U.heap = h ∧ A.cells + rm.cells ≤ R.cells ∧ A.slots + rm.slots ≤ R.slots)
      (fun A _ v B => ∃ L, Q v B.U.heap L ∧ B.locs = A.locs ++ L ∧ B.cells = A.cells + rm.cells ∧ B.slots = A.slots + rm.slots) := backOf (Q := Q) hM hZ wc wz hf hl
theorem backCW (hM : CtrW l Z EL y bytes maxL ret [] rm as' h Q) (hZ : Z.Warmed39 vm0) (wc : (Cond.code y bytes maxL ret).before a0 Z = true) (wz : (Cond.initialized y.cls).before a0 Z = true) (hf : rm.frames + 1 ≤ R.frames) (hl : W + (maxL + 11) + rm.locals ≤ R.locals) (hEL : EW Z a0 EL) (H : CHv Z EL vm0 h) :
    BackS l R p e below (s.setVm vm0) args y len W (fun A a => a = as' ∧ A.U.heap = h ∧ A.cells + rm.cells ≤ R.cells ∧ A.slots + rm.slots ≤ R.slots)
      (fun A _ v B => ∃ L, Q v B.U.heap L ∧ B.locs = A.locs ++ L ∧ B.cells = A.cells + rm.cells ∧ B.slots = A.slots + rm.slots ∧ CHr Z EL vm0 h B.U.vm B.U.heap) := backOfSH (Q := Q) hM hZ wc wz hf hl hEL H
end Own
end Jvm.RoadKit
/- laws to paste: Road.backV, Road.eqW, Road.codOf (cut by pick.py; bodies as the Statement names them) -/
namespace Jvm.Pilot.@@N@@
namespace StrChars
open Jvm Sem ClassFile Op Lib Jvm.Stand Jvm.Free.XT Jvm.Free.ALB Jvm.Free.JM Jvm.Free
open Jvm.Lib.Cold (StaticIs)
/-- a char array whose places are chars -/
def Ch (a : Addr) (A : Cell) (U : State) : Prop := Arr .char a A U ∧ Typed .char A
theorem Ch.mv {a : Addr} {A : Cell} {U U' : State} (h : Ch a A U) (hal : U.vm.Alike U'.vm) (hh : U'.heap = U.heap) : Ch a A U' := ⟨h.1.mv hal hh, h.2⟩
theorem Ch.keep {a : Addr} {A : Cell} {U U' : State} (h : Ch a A U) (hal : U.vm.Alike U'.vm) (hk : U'.heap[a]? = some A) : Ch a A U' := ⟨h.1.keep hal hk, h.2⟩
/-- what place i of a char[]'s cell holds -/
def cv (A : Cell) (i : Nat) : Int32 := match A.slots[i]? with | some (.int x) => x | _ => 0
theorem Ch.get {a : Addr} {A : Cell} {U : State} (h : Ch a A U) {i : Nat} (hi : i < A.slots.size) : A.slots[i]? = some (.int (cv A i)) := by
  have e := Array.getElem?_eq_getElem hi
  have f := h.2 i _ e
  unfold cv; rw [e]
  generalize A.slots[i] = v at f
  cases v <;> simp [fits] at f ⊢
/-- the byte that i2b leaves of a char -/
def lo8 (x : Int32) : Int32 := x.toInt8.toInt32
theorem fits_lo8 (y : Int32) : fits .byte (.int (lo8 y)) = true := by
  have h1 := y.toInt8.le_toInt
  have h2 := y.toInt8.toInt_lt
  simp only [lo8, fits, Bool.and_eq_true, decide_eq_true_eq, Int32.le_iff_toInt_le, Int8.toInt_toInt32, show (-128 : Int32).toInt = -128 from by decide, show (127 : Int32).toInt = 127 from by decide]
  omega
/-- A' is A but that each place j of lo .. hi - 1 holds f j -/
def Laid (A A' : Cell) (lo hi : Nat) (f : Nat → Value) : Prop := A'.cls = A.cls ∧ A'.vm = A.vm ∧ A'.slots.size = A.slots.size ∧ ∀ i, A'.slots[i]? = if lo ≤ i ∧ i < hi then some (f i) else A.slots[i]?
theorem Laid.zero (A : Cell) (lo : Nat) (f : Nat → Value) : Laid A A lo (lo + 0) f := ⟨rfl, rfl, rfl, fun i => by rw [if_neg (by omega)]⟩
theorem Laid.step {A Ak : Cell} {lo k : Nat} {f : Nat → Value} {v : Value} (h : Laid A Ak lo k f) (hlo : lo ≤ k) (hk : k < Ak.slots.size) (hv : v = f k) : Laid A (Ak.setSlot k v) lo (k + 1) f := by
  refine ⟨h.1, h.2.1, by simpa [Cell.setSlot] using h.2.2.1, fun i => ?_⟩
  by_cases e : k = i
  · subst e; rw [Cell.slots_setSlot_self v hk, if_pos (by omega), hv]
  · rw [Cell.slots_setSlot_ne v e, h.2.2.2 i]
    by_cases q : lo ≤ i ∧ i < k
    · rw [if_pos q, if_pos (by omega)]
    · rw [if_neg q, if_neg (by omega)]
def U16 : String := "java/lang/StringUTF16"
namespace Cmp5
def yN : MethodName := ⟨"java/lang/StringUTF16", "compress", "([CI[BII)I"⟩
abbrev yB : ByteArray := jdk_52_method_21_code
theorem d0 : decode yB 0 = .ok (.iconst 0, 1) := by decide +kernel
theorem d1 : decode yB 1 = .ok (.istore 5, 2) := by decide +kernel
theorem d3 : decode yB 3 = .ok (.iload 5, 2) := by decide +kernel
theorem d5 : decode yB 5 = .ok (.iload 4, 2) := by decide +kernel
theorem d7 : decode yB 7 = .ok (.if_icmp (.ge) 37, 3) := by decide +kernel
theorem d10 : decode yB 10 = .ok (.aload_n 0, 1) := by decide +kernel
theorem d11 : decode yB 11 = .ok (.iload_n 1, 1) := by decide +kernel
theorem d12 : decode yB 12 = .ok (.caload, 1) := by decide +kernel
theorem d13 : decode yB 13 = .ok (.istore 6, 2) := by decide +kernel
theorem d15 : decode yB 15 = .ok (.iload 6, 2) := by decide +kernel
theorem d17 : decode yB 17 = .ok (.sipush 255, 3) := by decide +kernel
theorem d20 : decode yB 20 = .ok (.if_icmp (.le) 6, 3) := by decide +kernel
theorem d26 : decode yB 26 = .ok (.aload_n 2, 1) := by decide +kernel
theorem d27 : decode yB 27 = .ok (.iload_n 3, 1) := by decide +kernel
theorem d28 : decode yB 28 = .ok (.iload 6, 2) := by decide +kernel
theorem d30 : decode yB 30 = .ok (.i2b, 1) := by decide +kernel
theorem d31 : decode yB 31 = .ok (.bastore, 1) := by decide +kernel
theorem d32 : decode yB 32 = .ok (.iinc 1 1, 3) := by decide +kernel
theorem d35 : decode yB 35 = .ok (.iinc 3 1, 3) := by decide +kernel
theorem d38 : decode yB 38 = .ok (.iinc 5 1, 3) := by decide +kernel
theorem d41 : decode yB 41 = .ok (.goto (-38), 3) := by decide +kernel
theorem d44 : decode yB 44 = .ok (.iload 4, 2) := by decide +kernel
theorem d46 : decode yB 46 = .ok (.ireturn, 1) := by decide +kernel
def site : List Cond := []
def tab : Cond := tabOf yN yB 7 (some .int) site
def P (b : Addr) (A : Cell) (d : Addr) (B : Cell) (o q len : Nat) (args : Array Value) (s : State) : Prop := args = #[.ref b, .int (Int32.ofNat o), .ref d, .int (Int32.ofNat q), .int (Int32.ofNat len)] ∧ Ch b A s ∧ Arr .byte d B s ∧ b ≠ d ∧ o + len ≤ A.slots.size ∧ q + len ≤ B.slots.size ∧ ∀ i, i < len → ¬ 255 < cv A (o + i)
def E (b : Addr) (A : Cell) (d : Addr) (B : Cell) (o q len : Nat) (r : Option Value) (s u : State) : Prop := r = some (.int (Int32.ofNat len)) ∧ ∃ B', Put d B' s u ∧ Laid B B' q (q + len) (fun j => Value.int (lo8 (cv A (o + (j - q)))))
/-- no char of the range above 255: len; the places written hold each char's low byte -/
theorem law (l : Launch) (b : Addr) (A : Cell) (d : Addr) (B : Cell) (o q len : Nat) : Law l yN 5 5 0 0 yB 7 (some .int) site (P b A d B o q len) (E b A d B o q len) (copyLocs d q len) 0 0 := by
  refine Law.of_walk (plainFor_of_name (by decide +kernel)) (by decide +kernel) (by decide +kernel) (by decide) (fun _ _ h => by rw [h.1]; rfl) (fun _ U U' hal hh h => ⟨h.1, h.2.1.mv hal hh, h.2.2.1.mv hal hh, h.2.2.2⟩) (fun r U U' V V' h1 hal h2 h => ⟨h.1, h.2.elim fun B' q => ⟨B', q.1.mv h1 h2, q.2⟩⟩) ?_
  intro p e s m args below meth c s₁ X0 hexec hbytes hml hret hlk hnm hown hh0 W hP
  obtain ⟨rfl, hA, hB, hne, l1, l2, hp⟩ := hP
  have c1 : Steps p.tables e below (s₁.setTop (entryFrame m #[.ref b, .int (Int32.ofNat o), .ref d, .int (Int32.ofNat q), .int (Int32.ofNat len)] 7)) (s₁.setTop (mkF m 0 #[.val (.ref b), .val (.int (Int32.ofNat o)), .val (.ref d), .val (.int (Int32.ofNat q)), .val (.int (Int32.ofNat len)), .unset, .unset] [])) := entry rfl
  have hA0 := hA.1.mv X0.warmed.alike hh0
  have hB0 := hB.mv X0.warmed.alike hh0
  have a31 := hA.1.2.2.2
  have c2 : Steps p.tables e below (s₁.setTop (entryFrame m #[.ref b, .int (Int32.ofNat o), .ref d, .int (Int32.ofNat q), .int (Int32.ofNat len)] 7)) (s₁.setTop (mkF m 3 #[.val (.ref b), .val (.int (Int32.ofNat o)), .val (.ref d), .val (.int (Int32.ofNat q)), .val (.int (Int32.ofNat len)), .val (.int 0), .unset] [])) := c1.trans (by
    refine iconstV X0.here hexec rfl 0 (hb hbytes d0) (by decide) ?_
    refine XS.istore X0.here hexec rfl (hb hbytes d1) rfl rfl ?_
    exact Steps.refl _)
  have loop : ∀ (r i : Nat), i + r = len → ∀ (z : Slot), (z = .unset ∨ ∃ w, z = .val w ∧ w.category = 1) → ∀ (Tl : State) (Bk : Cell), Stand p l e { frames := 0, locals := 0, cells := 0, slots := 0 } s m #[.ref b, .int (Int32.ofNat o), .ref d, .int (Int32.ofNat q), .int (Int32.ofNat len)] below meth c Tl ([] ++ copyLocs d q i) 0 0 → Put d Bk s₁ Tl → Laid B Bk q (q + i) (fun j => Value.int (lo8 (cv A (o + (j - q))))) →
      Steps p.tables e below (s₁.setTop (entryFrame m #[.ref b, .int (Int32.ofNat o), .ref d, .int (Int32.ofNat q), .int (Int32.ofNat len)] 7)) (Tl.setTop (mkF m 3 #[.val (.ref b), .val (.int (Int32.ofNat (o + i))), .val (.ref d), .val (.int (Int32.ofNat (q + i))), .val (.int (Int32.ofNat len)), .val (.int (Int32.ofNat i)), z] [])) → ∃ (T' : State) (B' : Cell) (z' : Slot), Stand p l e { frames := 0, locals := 0, cells := 0, slots := 0 } s m #[.ref b, .int (Int32.ofNat o), .ref d, .int (Int32.ofNat q), .int (Int32.ofNat len)] below meth c T' ([] ++ copyLocs d q len) 0 0 ∧ Put d B' s₁ T' ∧ Laid B B' q (q + len) (fun j => Value.int (lo8 (cv A (o + (j - q))))) ∧
      Steps p.tables e below (s₁.setTop (entryFrame m #[.ref b, .int (Int32.ofNat o), .ref d, .int (Int32.ofNat q), .int (Int32.ofNat len)] 7)) (T'.setTop (mkF m 3 #[.val (.ref b), .val (.int (Int32.ofNat (o + len))), .val (.ref d), .val (.int (Int32.ofNat (q + len))), .val (.int (Int32.ofNat len)), .val (.int (Int32.ofNat len)), z'] [])) := by
    intro r
    induction r with
    | zero =>
      intro i hi z hz Tl Bk Xl pl fl cl
      have hil : i = len := by omega
      rw [hil] at Xl fl cl
      exact ⟨Tl, Bk, z, Xl, pl, fl, cl⟩
    | succ r ih =>
      intro i hi z hz Tl Bk Xl pl fl cl
      have all := X0.warmed.alike.symm.trans Xl.warmed.alike
      have hAl := hA0.keep all (pl.other hne hA0.1)
      have hBk := hB0.like all pl.1 fl.1 fl.2.1 fl.2.2.1
      have hlt : q + i < Bk.slots.size := by rw [fl.2.2.1]; omega
      have c3 : Steps p.tables e below (s₁.setTop (entryFrame m #[.ref b, .int (Int32.ofNat o), .ref d, .int (Int32.ofNat q), .int (Int32.ofNat len)] 7)) (Tl.setTop (mkF m 12 #[.val (.ref b), .val (.int (Int32.ofNat (o + i))), .val (.ref d), .val (.int (Int32.ofNat (q + i))), .val (.int (Int32.ofNat len)), .val (.int (Int32.ofNat i)), z] [.int (Int32.ofNat (o + i)), .ref b])) := cl.trans (by
        refine XS.iload Xl.here hexec rfl (hb hbytes d3) rfl ?_
        refine XS.iload Xl.here hexec rfl (hb hbytes d5) rfl ?_
        refine XS.icmpNo Xl.here hexec rfl (hb hbytes d7) rfl (ii_ge_f (lt32 (by omega) (by omega))) ?_
        refine XS.aloadN Xl.here hexec rfl (hb hbytes d10) rfl rfl ?_
        refine XS.iloadN Xl.here hexec rfl (hb hbytes d11) rfl ?_
        exact Steps.refl _)
      have c4 : Steps p.tables e below (s₁.setTop (entryFrame m #[.ref b, .int (Int32.ofNat o), .ref d, .int (Int32.ofNat q), .int (Int32.ofNat len)] 7)) (Tl.setTop (mkF m 13 #[.val (.ref b), .val (.int (Int32.ofNat (o + i))), .val (.ref d), .val (.int (Int32.ofNat (q + i))), .val (.int (Int32.ofNat len)), .val (.int (Int32.ofNat i)), z] [.int (cv A (o + i))])) := c3.trans (by
        refine Xl.aget hexec hAl rfl (hA.get (i := o + i) (by omega)) rfl rfl (hb hbytes d12) ?_
        exact Steps.refl _)
      have c5 : Steps p.tables e below (s₁.setTop (entryFrame m #[.ref b, .int (Int32.ofNat o), .ref d, .int (Int32.ofNat q), .int (Int32.ofNat len)] 7)) (Tl.setTop (mkF m 15 #[.val (.ref b), .val (.int (Int32.ofNat (o + i))), .val (.ref d), .val (.int (Int32.ofNat (q + i))), .val (.int (Int32.ofNat len)), .val (.int (Int32.ofNat i)), .val (.int (cv A (o + i)))] [])) := c4.trans (by
        refine XS.istoreS Xl.here hexec rfl (hb hbytes d13) rfl rfl hz ?_
        exact Steps.refl _)
      have c6 : Steps p.tables e below (s₁.setTop (entryFrame m #[.ref b, .int (Int32.ofNat o), .ref d, .int (Int32.ofNat q), .int (Int32.ofNat len)] 7)) (Tl.setTop (mkF m 31 #[.val (.ref b), .val (.int (Int32.ofNat (o + i))), .val (.ref d), .val (.int (Int32.ofNat (q + i))), .val (.int (Int32.ofNat len)), .val (.int (Int32.ofNat i)), .val (.int (cv A (o + i)))] [.int (lo8 (cv A (o + i))), .int (Int32.ofNat (q + i)), .ref d])) := c5.trans (by
        refine XS.iload Xl.here hexec rfl (hb hbytes d15) rfl ?_
        refine sipushV Xl.here hexec rfl 255 (hb hbytes d17) (by decide) ?_
        refine XS.icmpYes Xl.here hexec rfl (pc0 := 20) rfl (hb hbytes d20) rfl (ii_le_t (hp i (by omega))) (by decide) rfl ?_
        refine XS.aloadN Xl.here hexec rfl (hb hbytes d26) rfl rfl ?_
        refine XS.iloadN Xl.here hexec rfl (hb hbytes d27) rfl ?_
        refine XS.iload Xl.here hexec rfl (hb hbytes d28) rfl ?_
        refine i2b Xl.here hexec rfl (hb hbytes d30) rfl ?_
        exact Steps.refl _)
      obtain ⟨T7, X7, p7, st7⟩ := Xl.aput hexec hBk rfl hlt rfl (fits_lo8 (cv A (o + i))) (g := (mkF m 31 #[.val (.ref b), .val (.int (Int32.ofNat (o + i))), .val (.ref d), .val (.int (Int32.ofNat (q + i))), .val (.int (Int32.ofNat len)), .val (.int (Int32.ofNat i)), .val (.int (cv A (o + i)))] [.int (lo8 (cv A (o + i))), .int (Int32.ofNat (q + i)), .ref d])) rfl (rest := []) rfl (hb hbytes d31)
      have c8 : Steps p.tables e below (s₁.setTop (entryFrame m #[.ref b, .int (Int32.ofNat o), .ref d, .int (Int32.ofNat q), .int (Int32.ofNat len)] 7)) (T7.setTop (mkF m 32 #[.val (.ref b), .val (.int (Int32.ofNat (o + i))), .val (.ref d), .val (.int (Int32.ofNat (q + i))), .val (.int (Int32.ofNat len)), .val (.int (Int32.ofNat i)), .val (.int (cv A (o + i)))] [])) := c6.trans (st7 _ (Steps.refl _))
      have c9 : Steps p.tables e below (s₁.setTop (entryFrame m #[.ref b, .int (Int32.ofNat o), .ref d, .int (Int32.ofNat q), .int (Int32.ofNat len)] 7)) (T7.setTop (mkF m 3 #[.val (.ref b), .val (.int (Int32.ofNat (o + i) + 1)), .val (.ref d), .val (.int (Int32.ofNat (q + i) + 1)), .val (.int (Int32.ofNat len)), .val (.int (Int32.ofNat i + 1)), .val (.int (cv A (o + i)))] [])) := c8.trans (by
        refine iincV X7.here hexec rfl 1 (hb hbytes d32) (by decide) rfl rfl ?_
        refine iincV X7.here hexec rfl 1 (hb hbytes d35) (by decide) rfl rfl ?_
        refine iincV X7.here hexec rfl 1 (hb hbytes d38) (by decide) rfl rfl ?_
        refine XS.goto X7.here hexec rfl (pc0 := 41) rfl (hb hbytes d41) (by decide) rfl ?_
        exact Steps.refl _)
      have c10 : Steps p.tables e below (s₁.setTop (entryFrame m #[.ref b, .int (Int32.ofNat o), .ref d, .int (Int32.ofNat q), .int (Int32.ofNat len)] 7)) (T7.setTop (mkF m 3 #[.val (.ref b), .val (.int (Int32.ofNat (o + (i + 1)))), .val (.ref d), .val (.int (Int32.ofNat (q + (i + 1)))), .val (.int (Int32.ofNat len)), .val (.int (Int32.ofNat (i + 1))), .val (.int (cv A (o + i)))] [])) := by
        have := c9
        rw [succ32, succ32, succ32] at this
        exact this
      exact ih (i + 1) (by omega) _ (Or.inr ⟨_, rfl, rfl⟩) T7 _ (by rw [copyLocs_step, ← List.append_assoc]; exact X7) (pl.trans p7) (fl.step (by omega) hlt (by simp)) c10
  obtain ⟨T9, B9, z9, X9, p9, f9, g9⟩ := loop len 0 (by omega) .unset (Or.inl rfl) s₁ B (by simpa [copyLocs] using X0) ⟨hB0.1, fun _ _ => rfl, rfl⟩ (Laid.zero _ _ _) c2
  have c11 : Steps p.tables e below (s₁.setTop (entryFrame m #[.ref b, .int (Int32.ofNat o), .ref d, .int (Int32.ofNat q), .int (Int32.ofNat len)] 7)) (T9.setTop (mkF m 46 #[.val (.ref b), .val (.int (Int32.ofNat (o + len))), .val (.ref d), .val (.int (Int32.ofNat (q + len))), .val (.int (Int32.ofNat len)), .val (.int (Int32.ofNat len)), z9] [.int (Int32.ofNat len)])) := g9.trans (by
    refine XS.iload X9.here hexec rfl (hb hbytes d3) rfl ?_
    refine XS.iload X9.here hexec rfl (hb hbytes d5) rfl ?_
    refine XS.icmpYes X9.here hexec rfl (pc0 := 7) rfl (hb hbytes d7) rfl (ii_ge_t (nlt32 (by omega) (Nat.le_refl _))) (by decide) rfl ?_
    refine XS.iload X9.here hexec rfl (hb hbytes d44) rfl ?_
    exact Steps.refl _)
  exact ⟨T9, some (.int (Int32.ofNat len)), _, _, _, X9, by simp, rfl, rfl, (fun h => by cases h), ⟨rfl, B9, p9.from hh0, f9⟩, fun fs hl => c11.trans (X9.ireturnOut hexec hret rfl (Or.inl rfl) (hb hbytes d46) hl)⟩
end Cmp5
namespace Cmp3
def yN : MethodName := ⟨"java/lang/StringUTF16", "compress", "([CII)[B"⟩
abbrev yB : ByteArray := jdk_52_method_16_code
theorem d0 : decode yB 0 = .ok (.iload_n 2, 1) := by decide +kernel
theorem d1 : decode yB 1 = .ok (.newarray .byte, 2) := by decide +kernel
theorem d3 : decode yB 3 = .ok (.astore_n 3, 1) := by decide +kernel
theorem d4 : decode yB 4 = .ok (.aload_n 0, 1) := by decide +kernel
theorem d5 : decode yB 5 = .ok (.iload_n 1, 1) := by decide +kernel
theorem d6 : decode yB 6 = .ok (.aload_n 3, 1) := by decide +kernel
theorem d7 : decode yB 7 = .ok (.iconst 0, 1) := by decide +kernel
theorem d8 : decode yB 8 = .ok (.iload_n 2, 1) := by decide +kernel
theorem d9 : decode yB 9 = .ok (.invokestatic 115, 3) := by decide +kernel
theorem d12 : decode yB 12 = .ok (.istore 4, 2) := by decide +kernel
theorem d14 : decode yB 14 = .ok (.iload 4, 2) := by decide +kernel
theorem d16 : decode yB 16 = .ok (.iload_n 2, 1) := by decide +kernel
theorem d17 : decode yB 17 = .ok (.if_icmp (.eq) 40, 3) := by decide +kernel
theorem d57 : decode yB 57 = .ok (.aload_n 3, 1) := by decide +kernel
theorem d58 : decode yB 58 = .ok (.areturn, 1) := by decide +kernel
def site : List Cond := [.arrayClass .byte, Cmp5.tab] ++ staticW U16 115 Cmp5.yN
def tab : Cond := tabOf yN yB 6 (some (.array .byte)) site
def P (b : Addr) (A : Cell) (o len : Nat) (args : Array Value) (s : State) : Prop := args = #[.ref b, .int (Int32.ofNat o), .int (Int32.ofNat len)] ∧ Ch b A s ∧ o + len ≤ A.slots.size ∧ len ≤ 536870912 ∧ ∀ i, i < len → ¬ 255 < cv A (o + i)
def E (b : Addr) (A : Cell) (o len : Nat) (r : Option Value) (s u : State) : Prop := NewArr .byte "[B" len (fun j => .int (lo8 (cv A (o + j)))) r s u ∧ u.heap.size = s.heap.size + 1
/-- no char of the range above 255: a new byte[] of their low bytes -/
theorem law (l : Launch) (b : Addr) (A : Cell) (o len : Nat) : Law l yN 3 3 1 18 yB 6 (some (.array .byte)) site (P b A o len) (E b A o len) [] 1 len := by
  refine Law.of_walk (plainFor_of_name (by decide +kernel)) (by decide +kernel) (by decide +kernel) (by decide) (fun _ _ h => by rw [h.1]; rfl) (fun _ U U' hal hh h => ⟨h.1, h.2.1.mv hal hh, h.2.2⟩) (fun r U U' V V' h1 hal h2 h => ⟨NewArr.mv r U U' V V' h1 hal h2 h.1, by rw [h1, h2]; exact h.2⟩) ?_
  intro p e s m args below meth c s₁ X0 hexec hbytes hml hret hlk hnm hown hh0 W hP
  obtain ⟨rfl, hA, l1, l2, hp⟩ := hP
  have a31 := hA.1.2.2.2
  have c1 : Steps p.tables e below (s₁.setTop (entryFrame m #[.ref b, .int (Int32.ofNat o), .int (Int32.ofNat len)] 6)) (s₁.setTop (mkF m 0 #[.val (.ref b), .val (.int (Int32.ofNat o)), .val (.int (Int32.ofNat len)), .unset, .unset, .unset] [])) := entry rfl
  have c2 : Steps p.tables e below (s₁.setTop (entryFrame m #[.ref b, .int (Int32.ofNat o), .int (Int32.ofNat len)] 6)) (s₁.setTop (mkF m 1 #[.val (.ref b), .val (.int (Int32.ofNat o)), .val (.int (Int32.ofNat len)), .unset, .unset, .unset] [.int (Int32.ofNat len)])) := c1.trans (by
    refine XS.iloadN X0.here hexec rfl (hb hbytes d0) rfl ?_
    exact Steps.refl _)
  obtain ⟨T3, B3, X3, ba3, bs3, bv3, bh3, bf3, st3⟩ := X0.anew hexec (atype := .byte) (wk W (.arrayClass .byte)) rfl (by show len * 1 ≤ _; omega) (by omega) (g := (mkF m 1 #[.val (.ref b), .val (.int (Int32.ofNat o)), .val (.int (Int32.ofNat len)), .unset, .unset, .unset] [.int (Int32.ofNat len)])) rfl (hb hbytes d1) (rest := []) rfl (Nat.le_refl _) (by show 0 + len ≤ len; omega)
  rw [hh0] at ba3 st3
  have kp3 : XT.Kept s T3 := (XT.Kept.of_eq hh0).push bh3
  have hA3 := hA.keep X3.warmed.alike (kp3 _ _ hA.1.1)
  have hne : b ≠ s.heap.size := hA.1.ne
  have c4 : Steps p.tables e below (s₁.setTop (entryFrame m #[.ref b, .int (Int32.ofNat o), .int (Int32.ofNat len)] 6)) (T3.setTop (mkF m 3 #[.val (.ref b), .val (.int (Int32.ofNat o)), .val (.int (Int32.ofNat len)), .unset, .unset, .unset] [.ref s.heap.size])) := c2.trans (st3 _ (Steps.refl _))
  have c5 : Steps p.tables e below (s₁.setTop (entryFrame m #[.ref b, .int (Int32.ofNat o), .int (Int32.ofNat len)] 6)) (T3.setTop (mkF m 9 #[.val (.ref b), .val (.int (Int32.ofNat o)), .val (.int (Int32.ofNat len)), .val (.ref s.heap.size), .unset, .unset] [.int (Int32.ofNat len), .int 0, .ref s.heap.size, .int (Int32.ofNat o), .ref b])) := c4.trans (by
    refine XS.astoreN X3.here hexec rfl (hb hbytes d3) rfl rfl rfl ?_
    refine XS.aloadN X3.here hexec rfl (hb hbytes d4) rfl rfl ?_
    refine XS.iloadN X3.here hexec rfl (hb hbytes d5) rfl ?_
    refine XS.aloadN X3.here hexec rfl (hb hbytes d6) rfl rfl ?_
    refine iconstV X3.here hexec rfl 0 (hb hbytes d7) (by decide) ?_
    refine XS.iloadN X3.here hexec rfl (hb hbytes d8) rfl ?_
    exact Steps.refl _)
  obtain ⟨v6, T6, X6, E6, g6⟩ := X3.callS hexec (Cmp5.law l b A s.heap.size B3 o 0 len) hown (wks W (staticW U16 115 Cmp5.yN)) (wk W Cmp5.tab) (W := 0) (Nat.le_of_ble_eq_true rfl) (Nat.le_of_ble_eq_true rfl) (Nat.le_refl _) (by show 0 + len + 0 ≤ len; omega) (g := (mkF m 9 #[.val (.ref b), .val (.int (Int32.ofNat o)), .val (.int (Int32.ofNat len)), .val (.ref s.heap.size), .unset, .unset] [.int (Int32.ofNat len), .int (Int32.ofNat 0), .ref s.heap.size, .int (Int32.ofNat o), .ref b])) rfl (by rw [hml]; rfl) c5 (argsL := [.ref b, .int (Int32.ofNat o), .ref s.heap.size, .int (Int32.ofNat 0), .int (Int32.ofNat len)]) (rest := []) rfl rfl (by show 2 * 0 + 0 ≤ _; decide) (hb hbytes d9) (⟨rfl, hA3, ba3, hne, l1, by rw [bs3]; simp, hp⟩)
  obtain ⟨rfl, B6, p6, f6⟩ := E6
  have c7 : Steps p.tables e below (s₁.setTop (entryFrame m #[.ref b, .int (Int32.ofNat o), .int (Int32.ofNat len)] 6)) (T6.setTop (mkF m 12 #[.val (.ref b), .val (.int (Int32.ofNat o)), .val (.int (Int32.ofNat len)), .val (.ref s.heap.size), .unset, .unset] [.int (Int32.ofNat len)])) := g6
  have c8 : Steps p.tables e below (s₁.setTop (entryFrame m #[.ref b, .int (Int32.ofNat o), .int (Int32.ofNat len)] 6)) (T6.setTop (mkF m 58 #[.val (.ref b), .val (.int (Int32.ofNat o)), .val (.int (Int32.ofNat len)), .val (.ref s.heap.size), .val (.int (Int32.ofNat len)), .unset] [.ref s.heap.size])) := c7.trans (by
    refine XS.istore X6.here hexec rfl (hb hbytes d12) rfl rfl ?_
    refine XS.iload X6.here hexec rfl (hb hbytes d14) rfl ?_
    refine XS.iloadN X6.here hexec rfl (hb hbytes d16) rfl ?_
    refine XS.icmpYes X6.here hexec rfl (pc0 := 17) rfl (hb hbytes d17) rfl (ii_eq_t rfl) (by decide) rfl ?_
    refine XS.aloadN X6.here hexec rfl (hb hbytes d57) rfl rfl ?_
    exact Steps.refl _)
  have X8 := X6.wide (L' := []) (cells' := 1) (slots' := len) (fun x hx hlt => by
    simp only [List.nil_append, copyLocs, List.mem_map, List.mem_range] at hx
    obtain ⟨i, -, rfl⟩ := hx
    exact absurd hlt (Nat.lt_irrefl _)) (Nat.le_refl _) (by omega)
  exact ⟨T6, some (.ref s.heap.size), _, _, _, X8, rfl, rfl, rfl, (fun h => by cases h), ⟨⟨rfl, B6, ba3.like (X3.warmed.alike.symm.trans X6.warmed.alike) p6.1 f6.1 f6.2.1 f6.2.2.1, f6.2.1.trans bv3, by rw [X6.warmed.alike.findClass, f6.1]; exact bf3, by rw [f6.2.2.1, bs3]; simp, fun j hj => by rw [f6.2.2.2 j, if_pos (by omega)]; rfl, kp3.put p6 (Nat.le_refl _)⟩, by rw [p6.2.2, bh3, hh0]; simp⟩, fun fs hl => c8.trans (X8.areturnOut hexec rfl hret rfl (hb hbytes d58) hl)⟩
end Cmp3
namespace CodL
def yN : MethodName := ⟨"java/lang/StringUTF16", "coderFromArrayLen", "([BI)B"⟩
abbrev yB : ByteArray := jdk_52_method_15_code
theorem d0 : decode yB 0 = .ok (.iload_n 1, 1) := by decide +kernel
theorem d1 : decode yB 1 = .ok (.aload_n 0, 1) := by decide +kernel
theorem d2 : decode yB 2 = .ok (.arraylength, 1) := by decide +kernel
theorem d3 : decode yB 3 = .ok (.isub, 1) := by decide +kernel
theorem d4 : decode yB 4 = .ok (.bipush 31, 2) := by decide +kernel
theorem d6 : decode yB 6 = .ok (.iushr, 1) := by decide +kernel
theorem d7 : decode yB 7 = .ok (.i2b, 1) := by decide +kernel
theorem d8 : decode yB 8 = .ok (.ireturn, 1) := by decide +kernel
def site : List Cond := []
def tab : Cond := tabOf yN yB 2 (some .byte) site
def P (d : Addr) (B : Cell) (args : Array Value) (s : State) : Prop := args = #[.ref d, .int (Int32.ofNat B.slots.size)] ∧ Arr .byte d B s
def E (r : Option Value) (s u : State) : Prop := XT.PureE (some (.int 0)) r s u
/-- an array as long as the number of chars: LATIN1 -/
theorem law (l : Launch) (d : Addr) (B : Cell) : Law l yN 2 2 0 0 yB 2 (some .byte) site (P d B) E [] 0 0 := by
  refine Law.of_walk (plainFor_of_name (by decide +kernel)) (by decide +kernel) (by decide +kernel) (by decide) (fun _ _ h => by rw [h.1]; rfl) (fun _ U U' hal hh h => ⟨h.1, h.2.mv hal hh⟩) (fun r U U' V V' h1 hal h2 h => XT.PureE.mv r U U' V V' h1 hal h2 h) ?_
  intro p e s m args below meth c s₁ X0 hexec hbytes hml hret hlk hnm hown hh0 W hP
  obtain ⟨rfl, hB⟩ := hP
  have hB0 := hB.mv X0.warmed.alike hh0
  have c1 : Steps p.tables e below (s₁.setTop (entryFrame m #[.ref d, .int (Int32.ofNat B.slots.size)] 2)) (s₁.setTop (mkF m 0 #[.val (.ref d), .val (.int (Int32.ofNat B.slots.size))] [])) := entry rfl
  have c2 : Steps p.tables e below (s₁.setTop (entryFrame m #[.ref d, .int (Int32.ofNat B.slots.size)] 2)) (s₁.setTop (mkF m 2 #[.val (.ref d), .val (.int (Int32.ofNat B.slots.size))] [.ref d, .int (Int32.ofNat B.slots.size)])) := c1.trans (by
    refine XS.iloadN X0.here hexec rfl (hb hbytes d0) rfl ?_
    refine XS.aloadN X0.here hexec rfl (hb hbytes d1) rfl rfl ?_
    exact Steps.refl _)
  have c3 : Steps p.tables e below (s₁.setTop (entryFrame m #[.ref d, .int (Int32.ofNat B.slots.size)] 2)) (s₁.setTop (mkF m 8 #[.val (.ref d), .val (.int (Int32.ofNat B.slots.size))] [.int (lo8 (ushr (Int32.ofNat B.slots.size - Int32.ofNat B.slots.size) 31))])) := c2.trans (by
    refine X0.alen hexec hB0 rfl rfl (hb hbytes d2) ?_
    refine XS.isub X0.here hexec rfl (hb hbytes d3) rfl ?_
    refine bipushV X0.here hexec rfl 31 (hb hbytes d4) (by decide) ?_
    refine iushr X0.here hexec rfl (hb hbytes d6) rfl ?_
    refine i2b X0.here hexec rfl (hb hbytes d7) rfl ?_
    exact Steps.refl _)
  have e0 : lo8 (ushr (Int32.ofNat B.slots.size - Int32.ofNat B.slots.size) 31) = 0 := by rw [Int32.sub_self]; decide
  rw [e0] at c3
  exact ⟨s₁, some (.int 0), _, _, _, X0, rfl, rfl, rfl, (fun h => by cases h), ⟨rfl, hh0⟩, fun fs hl => c3.trans (X0.ireturnOut hexec hret rfl (Or.inr (Or.inr (Or.inl rfl))) (hb hbytes d8) hl)⟩
end CodL
/-- the String at a is Latin-1 over a new byte[] (the heap's one new cell): the low bytes of the len chars of A from o on; every cell but a is kept -/
def Got (a : Addr) (D : Cell) (fV fC : Field) (A : Cell) (o len : Nat) (r : Option Value) (s u : State) : Prop := r = none ∧ ∃ D' V : Cell, Blank "java/lang/String" a D' u ∧ Same D D' [fV.slot, fC.slot] ∧ D'.slots[fV.slot]? = some (.ref s.heap.size) ∧ D'.slots[fC.slot]? = some (.int 0) ∧ Arr .byte s.heap.size V u ∧ V.vm = .none ∧ u.vm.findClass "[B" = some V.cls ∧ V.slots.size = len ∧ (∀ j, j < len → V.slots[j]? = some (.int (lo8 (cv A (o + j))))) ∧ (∀ (y : Addr) (c : Cell), y ≠ a → s.heap[y]? = some c → u.heap[y]? = some c) ∧ u.heap.size = s.heap.size + 1
theorem Got.mv {a : Addr} {D A : Cell} {fV fC : Field} {o len : Nat} : ∀ r (U U' V V' : State), U'.heap = U.heap → V.vm.Alike V'.vm → V'.heap = V.heap → Got a D fV fC A o len r U V → Got a D fV fC A o len r U' V' :=
  fun r U U' V V' h1 hal h2 ⟨e0, D', X, a1, a2, a3, a4, a5, a6, a7, a8, a9, a10, a11⟩ => ⟨e0, D', X, a1.mv hal h2, a2, by rw [h1]; exact a3, a4, by rw [h1]; exact a5.mv hal h2, a6, by rw [hal.findClass]; exact a7, a8, a9, by rw [h1, h2]; exact a10, by rw [h1, h2]; exact a11⟩
namespace New4
def yN : MethodName := ⟨"java/lang/String", "<init>", "([CIILjava/lang/Void;)V"⟩
abbrev yB : ByteArray := jdk_42_method_149_code
theorem d0 : decode yB 0 = .ok (.aload_n 0, 1) := by decide +kernel
theorem d1 : decode yB 1 = .ok (.invokespecial 1, 3) := by decide +kernel
theorem d4 : decode yB 4 = .ok (.iload_n 3, 1) := by decide +kernel
theorem d5 : decode yB 5 = .ok (.ifCond (.ne) 22, 3) := by decide +kernel
theorem d27 : decode yB 27 = .ok (.getstatic 38, 3) := by decide +kernel
theorem d30 : decode yB 30 = .ok (.ifCond (.eq) 28, 3) := by decide +kernel
theorem d33 : decode yB 33 = .ok (.aload_n 1, 1) := by decide +kernel
theorem d34 : decode yB 34 = .ok (.iload_n 2, 1) := by decide +kernel
theorem d35 : decode yB 35 = .ok (.iload_n 3, 1) := by decide +kernel
theorem d36 : decode yB 36 = .ok (.invokestatic 177, 3) := by decide +kernel
theorem d39 : decode yB 39 = .ok (.astore 5, 2) := by decide +kernel
theorem d41 : decode yB 41 = .ok (.aload_n 0, 1) := by decide +kernel
theorem d42 : decode yB 42 = .ok (.aload 5, 2) := by decide +kernel
theorem d44 : decode yB 44 = .ok (.iload_n 3, 1) := by decide +kernel
theorem d45 : decode yB 45 = .ok (.invokestatic 47, 3) := by decide +kernel
theorem d48 : decode yB 48 = .ok (.putfield 15, 3) := by decide +kernel
theorem d51 : decode yB 51 = .ok (.aload_n 0, 1) := by decide +kernel
theorem d52 : decode yB 52 = .ok (.aload 5, 2) := by decide +kernel
theorem d54 : decode yB 54 = .ok (.putfield 9, 3) := by decide +kernel
theorem d57 : decode yB 57 = .ok (.return_, 1) := by decide +kernel
def site : List Cond := [.fieldLink "java/lang/String" 38 "java/lang/String" "COMPACT_STRINGS" "Z", Cmp3.tab, CodL.tab, .laysFinal "java/lang/String" "java/lang/String" "value" "[B", .fieldLink "java/lang/String" 9 "java/lang/String" "value" "[B", .laysFinal "java/lang/String" "java/lang/String" "coder" "B", .fieldLink "java/lang/String" 15 "java/lang/String" "coder" "B"] ++ objW "java/lang/String" 1 ++ staticW "java/lang/String" 177 Cmp3.yN ++ staticW "java/lang/String" 47 CodL.yN
def tab : Cond := tabOf yN yB 6 none site
def P (a : Addr) (D : Cell) (fV fC : Field) (b : Addr) (A : Cell) (z : Int32) (o len : Nat) (args : Array Value) (s : State) : Prop := args = #[.ref a, .ref b, .int (Int32.ofNat o), .int (Int32.ofNat len), .null] ∧ Blank "java/lang/String" a D s ∧ Found "java/lang/String" "value" "[B" fV s ∧ Found "java/lang/String" "coder" "B" fC s ∧ Ch b A s ∧ StaticIs s "java/lang/String" "COMPACT_STRINGS" "Z" (.int z) ∧ ¬ z = 0 ∧ 0 < len ∧ o + len ≤ A.slots.size ∧ len ≤ 536870912 ∧ ∀ i, i < len → ¬ 255 < cv A (o + i)
def E (a : Addr) (D : Cell) (fV fC : Field) (A : Cell) (o len : Nat) (r : Option Value) (s u : State) : Prop := Got a D fV fC A o len r s u
/-- len > 0, no char of the range above 255: a Latin-1 String of their low bytes -/
theorem law (l : Launch) (a : Addr) (D : Cell) (fV fC : Field) (b : Addr) (A : Cell) (z : Int32) (o len : Nat) : Law l yN 5 4 2 35 yB 6 none site (P a D fV fC b A z o len) (E a D fV fC A o len) [⟨a, fC.slot⟩, ⟨a, fV.slot⟩] 1 len := by
  refine Law.of_walk (plainFor_of_name (by decide +kernel)) (by decide +kernel) (by decide +kernel) (by decide) (fun _ _ h => by rw [h.1]; rfl) (fun _ U U' hal hh h => ⟨h.1, h.2.1.mv hal hh, h.2.2.1.al hal, h.2.2.2.1.al hal, h.2.2.2.2.1.mv hal hh, h.2.2.2.2.2.1.there hal hh, h.2.2.2.2.2.2⟩) (fun r U U' V V' h1 hal h2 h => Got.mv r U U' V V' h1 hal h2 h) ?_
  intro p e s m args below meth c s₁ X0 hexec hbytes hml hret hlk hnm hown hh0 W hP
  obtain ⟨rfl, hB, f1, f2, hA, s1, hz, l0, l1, l2, hp⟩ := hP
  have a31 := hA.1.2.2.2
  have c1 : Steps p.tables e below (s₁.setTop (entryFrame m #[.ref a, .ref b, .int (Int32.ofNat o), .int (Int32.ofNat len), .null] 6)) (s₁.setTop (mkF m 0 #[.val (.ref a), .val (.ref b), .val (.int (Int32.ofNat o)), .val (.int (Int32.ofNat len)), .val .null, .unset] [])) := entry rfl
  have c2 : Steps p.tables e below (s₁.setTop (entryFrame m #[.ref a, .ref b, .int (Int32.ofNat o), .int (Int32.ofNat len), .null] 6)) (s₁.setTop (mkF m 1 #[.val (.ref a), .val (.ref b), .val (.int (Int32.ofNat o)), .val (.int (Int32.ofNat len)), .val .null, .unset] [.ref a])) := c1.trans (by
    refine XS.aloadN X0.here hexec rfl (hb hbytes d0) rfl rfl ?_
    exact Steps.refl _)
  obtain ⟨T3, X3, q3, st3⟩ := X0.oinit hexec hown (wks W (objW "java/lang/String" 1)) (g := (mkF m 1 #[.val (.ref a), .val (.ref b), .val (.int (Int32.ofNat o)), .val (.int (Int32.ofNat len)), .val .null, .unset] [.ref a])) rfl (by rw [hml]; rfl) (rest := []) rfl (hb hbytes d1) (W := 0) (by show 2 * 0 + 0 ≤ _; decide) (Nat.le_of_ble_eq_true rfl) (Nat.le_of_ble_eq_true rfl)
  have hh3 := q3.trans hh0
  have c4 : Steps p.tables e below (s₁.setTop (entryFrame m #[.ref a, .ref b, .int (Int32.ofNat o), .int (Int32.ofNat len), .null] 6)) (T3.setTop (mkF m 27 #[.val (.ref a), .val (.ref b), .val (.int (Int32.ofNat o)), .val (.int (Int32.ofNat len)), .val .null, .unset] [])) := (c2.trans (st3 _ (Steps.refl _))).trans (by
    refine XS.iloadN X3.here hexec rfl (hb hbytes d4) rfl ?_
    refine XS.ifYes X3.here hexec rfl (pc0 := 5) rfl (hb hbytes d5) rfl (i0_ne_t (nz32 (by omega) l0)) (by decide) rfl ?_
    exact Steps.refl _)
  obtain ⟨T5, X5, q5, st5⟩ := X3.sget hexec hown (wk W (.fieldLink "java/lang/String" 38 "java/lang/String" "COMPACT_STRINGS" "Z")) s1 (fun _ _ h => by rw [hh3]; exact h) (g := (mkF m 27 #[.val (.ref a), .val (.ref b), .val (.int (Int32.ofNat o)), .val (.int (Int32.ofNat len)), .val .null, .unset] [])) rfl (hb hbytes d27)
  have hh5 := q5.trans hh3
  have c6 : Steps p.tables e below (s₁.setTop (entryFrame m #[.ref a, .ref b, .int (Int32.ofNat o), .int (Int32.ofNat len), .null] 6)) (T5.setTop (mkF m 30 #[.val (.ref a), .val (.ref b), .val (.int (Int32.ofNat o)), .val (.int (Int32.ofNat len)), .val .null, .unset] [.int z])) := c4.trans (st5 _ (Steps.refl _))
  have c7 : Steps p.tables e below (s₁.setTop (entryFrame m #[.ref a, .ref b, .int (Int32.ofNat o), .int (Int32.ofNat len), .null] 6)) (T5.setTop (mkF m 36 #[.val (.ref a), .val (.ref b), .val (.int (Int32.ofNat o)), .val (.int (Int32.ofNat len)), .val .null, .unset] [.int (Int32.ofNat len), .int (Int32.ofNat o), .ref b])) := c6.trans (by
    refine XS.ifNo X5.here hexec rfl (hb hbytes d30) rfl (i0_eq_f hz) ?_
    refine XS.aloadN X5.here hexec rfl (hb hbytes d33) rfl rfl ?_
    refine XS.iloadN X5.here hexec rfl (hb hbytes d34) rfl ?_
    refine XS.iloadN X5.here hexec rfl (hb hbytes d35) rfl ?_
    exact Steps.refl _)
  obtain ⟨v8, T8, X8, E8, g8⟩ := X5.callS hexec (Cmp3.law l b A o len) hown (wks W (staticW "java/lang/String" 177 Cmp3.yN)) (wk W Cmp3.tab) (W := 0) (Nat.le_of_ble_eq_true rfl) (Nat.le_of_ble_eq_true rfl) (Nat.le_refl _) (by show 0 + len ≤ len; omega) (g := (mkF m 36 #[.val (.ref a), .val (.ref b), .val (.int (Int32.ofNat o)), .val (.int (Int32.ofNat len)), .val .null, .unset] [.int (Int32.ofNat len), .int (Int32.ofNat o), .ref b])) rfl (by rw [hml]; rfl) c7 (argsL := [.ref b, .int (Int32.ofNat o), .int (Int32.ofNat len)]) (rest := []) rfl rfl (by show 2 * 0 + 0 ≤ _; decide) (hb hbytes d36) (⟨rfl, hA.mv X5.warmed.alike hh5, l1, l2, hp⟩)
  obtain ⟨e8, z8⟩ := E8
  obtain ⟨rfl, N, n1, n2, n3, n4, n5, n6⟩ := NewArr.mv _ T5 s _ _ hh5.symm (Vm.Alike.refl _) rfl e8
  rw [hh5] at z8
  have hB1 := hB.keep X8.warmed.alike (n6 _ _ hB.1)
  have hne : s.heap.size ≠ a := (Nat.ne_of_lt (Array.getElem?_eq_some_iff.mp hB.1).1).symm
  have c9 : Steps p.tables e below (s₁.setTop (entryFrame m #[.ref a, .ref b, .int (Int32.ofNat o), .int (Int32.ofNat len), .null] 6)) (T8.setTop (mkF m 39 #[.val (.ref a), .val (.ref b), .val (.int (Int32.ofNat o)), .val (.int (Int32.ofNat len)), .val .null, .unset] [.ref s.heap.size])) := g8
  have c10 : Steps p.tables e below (s₁.setTop (entryFrame m #[.ref a, .ref b, .int (Int32.ofNat o), .int (Int32.ofNat len), .null] 6)) (T8.setTop (mkF m 45 #[.val (.ref a), .val (.ref b), .val (.int (Int32.ofNat o)), .val (.int (Int32.ofNat len)), .val .null, .val (.ref s.heap.size)] [.int (Int32.ofNat N.slots.size), .ref s.heap.size, .ref a])) := by
    have hc : Steps p.tables e below (s₁.setTop (entryFrame m #[.ref a, .ref b, .int (Int32.ofNat o), .int (Int32.ofNat len), .null] 6)) (T8.setTop (mkF m 45 #[.val (.ref a), .val (.ref b), .val (.int (Int32.ofNat o)), .val (.int (Int32.ofNat len)), .val .null, .val (.ref s.heap.size)] [.int (Int32.ofNat len), .ref s.heap.size, .ref a])) := c9.trans (by
      refine XS.astore X8.here hexec rfl (hb hbytes d39) rfl rfl rfl ?_
      refine XS.aloadN X8.here hexec rfl (hb hbytes d41) rfl rfl ?_
      refine XS.aload X8.here hexec rfl (hb hbytes d42) rfl rfl ?_
      refine XS.iloadN X8.here hexec rfl (hb hbytes d44) rfl ?_
      exact Steps.refl _)
    rw [n4]; exact hc
  obtain ⟨v11, T11, X11, E11, g11⟩ := X8.callS hexec (CodL.law l s.heap.size N) hown (wks W (staticW "java/lang/String" 47 CodL.yN)) (wk W CodL.tab) (W := 1) (Nat.le_of_ble_eq_true rfl) (Nat.le_of_ble_eq_true rfl) (Nat.le_refl _) (by show 0 + len + 0 ≤ len; omega) (g := (mkF m 45 #[.val (.ref a), .val (.ref b), .val (.int (Int32.ofNat o)), .val (.int (Int32.ofNat len)), .val .null, .val (.ref s.heap.size)] [.int (Int32.ofNat N.slots.size), .ref s.heap.size, .ref a])) rfl (by rw [hml]; rfl) c10 (argsL := [.ref s.heap.size, .int (Int32.ofNat N.slots.size)]) (rest := [.ref a]) rfl rfl (by show 2 * 0 + (1 + 0) ≤ _; decide) (hb hbytes d45) (⟨rfl, n1⟩)
  obtain ⟨rfl, q11⟩ := E11
  have hB11 := hB1.mv (X8.warmed.alike.symm.trans X11.warmed.alike) q11
  have c12 : Steps p.tables e below (s₁.setTop (entryFrame m #[.ref a, .ref b, .int (Int32.ofNat o), .int (Int32.ofNat len), .null] 6)) (T11.setTop (mkF m 48 #[.val (.ref a), .val (.ref b), .val (.int (Int32.ofNat o)), .val (.int (Int32.ofNat len)), .val .null, .val (.ref s.heap.size)] [.int 0, .ref a])) := g11
  obtain ⟨T13, X13, p13, bl13, sl13, st13⟩ := X11.finit hexec hown (wk W (.fieldLink "java/lang/String" 15 "java/lang/String" "coder" "B")) (Or.inr ⟨_, (wk W (.laysFinal "java/lang/String" "java/lang/String" "coder" "B"))⟩) (Or.inl ⟨rfl, hnm⟩) f2 (Or.inl rfl) hB11 (t := .byte) (by decide +kernel) rfl (g := (mkF m 48 #[.val (.ref a), .val (.ref b), .val (.int (Int32.ofNat o)), .val (.int (Int32.ofNat len)), .val .null, .val (.ref s.heap.size)] [.int 0, .ref a])) rfl (rest := []) rfl (hb hbytes d48)
  have c14 : Steps p.tables e below (s₁.setTop (entryFrame m #[.ref a, .ref b, .int (Int32.ofNat o), .int (Int32.ofNat len), .null] 6)) (T13.setTop (mkF m 54 #[.val (.ref a), .val (.ref b), .val (.int (Int32.ofNat o)), .val (.int (Int32.ofNat len)), .val .null, .val (.ref s.heap.size)] [.ref s.heap.size, .ref a])) := (c12.trans (st13 _ (Steps.refl _))).trans (by
    refine XS.aloadN X13.here hexec rfl (hb hbytes d51) rfl rfl ?_
    refine XS.aload X13.here hexec rfl (hb hbytes d52) rfl rfl ?_
    exact Steps.refl _)
  obtain ⟨T15, X15, p15, bl15, sl15, st15⟩ := X13.finit hexec hown (wk W (.fieldLink "java/lang/String" 9 "java/lang/String" "value" "[B")) (Or.inr ⟨_, (wk W (.laysFinal "java/lang/String" "java/lang/String" "value" "[B"))⟩) (Or.inl ⟨rfl, hnm⟩) f1 (Or.inl rfl) bl13 (t := (.array .byte)) (by decide +kernel) rfl (g := (mkF m 54 #[.val (.ref a), .val (.ref b), .val (.int (Int32.ofNat o)), .val (.int (Int32.ofNat len)), .val .null, .val (.ref s.heap.size)] [.ref s.heap.size, .ref a])) rfl (rest := []) rfl (hb hbytes d54)
  have c16 : Steps p.tables e below (s₁.setTop (entryFrame m #[.ref a, .ref b, .int (Int32.ofNat o), .int (Int32.ofNat len), .null] 6)) (T15.setTop (mkF m 57 #[.val (.ref a), .val (.ref b), .val (.int (Int32.ofNat o)), .val (.int (Int32.ofNat len)), .val .null, .val (.ref s.heap.size)] [])) := c14.trans (st15 _ (Steps.refl _))
  have ap := apart (Or.inr ⟨_, (wk W (.laysFinal "java/lang/String" "java/lang/String" "value" "[B"))⟩) (Or.inr ⟨_, (wk W (.laysFinal "java/lang/String" "java/lang/String" "coder" "B"))⟩) f1 f2 (t₁ := .array .byte) (t₂ := .byte) (by decide +kernel) (by decide +kernel) (by decide)
  have al := X8.warmed.alike.symm.trans X15.warmed.alike
  have n7 : T11.heap[s.heap.size]? = some N := by rw [q11]; exact n1.1
  exact ⟨T15, none, _, _, _, X15, by simp, rfl, by omega, (fun _ => rfl), ⟨rfl, _, N, bl15, ((Same.refl D _).set _ (by simp)).set _ (by simp), sl15, (Cell.slots_setSlot_ne _ ap).trans sl13, n1.keep al (p15.other hne (p13.other hne n7)), n2, by rw [al.findClass]; exact n3, n4, n5, fun y c h1 h2 => p15.other h1 (p13.other h1 (by rw [q11]; exact n6 y c h2)), by rw [p15.2.2, p13.2.2, q11]; exact z8⟩, fun fs hl => c16.trans (X15.returnOut hexec hret (hb hbytes d57) hl)⟩
end New4
namespace New1
def yN : MethodName := ⟨"java/lang/String", "<init>", "([C)V"⟩
abbrev yB : ByteArray := jdk_42_method_3_code
theorem d0 : decode yB 0 = .ok (.aload_n 0, 1) := by decide +kernel
theorem d1 : decode yB 1 = .ok (.aload_n 1, 1) := by decide +kernel
theorem d2 : decode yB 2 = .ok (.iconst 0, 1) := by decide +kernel
theorem d3 : decode yB 3 = .ok (.aload_n 1, 1) := by decide +kernel
theorem d4 : decode yB 4 = .ok (.arraylength, 1) := by decide +kernel
theorem d5 : decode yB 5 = .ok (.aconst_null, 1) := by decide +kernel
theorem d6 : decode yB 6 = .ok (.invokespecial 27, 3) := by decide +kernel
theorem d9 : decode yB 9 = .ok (.return_, 1) := by decide +kernel
def site : List Cond := [New4.tab] ++ initW "java/lang/String" 27 New4.yN
def tab : Cond := tabOf yN yB 2 none site
def P (a : Addr) (D : Cell) (fV fC : Field) (b : Addr) (A : Cell) (z : Int32) (args : Array Value) (s : State) : Prop := args = #[.ref a, .ref b] ∧ Blank "java/lang/String" a D s ∧ Found "java/lang/String" "value" "[B" fV s ∧ Found "java/lang/String" "coder" "B" fC s ∧ Ch b A s ∧ StaticIs s "java/lang/String" "COMPACT_STRINGS" "Z" (.int z) ∧ ¬ z = 0 ∧ 0 < A.slots.size ∧ A.slots.size ≤ 536870912 ∧ ∀ i, i < A.slots.size → ¬ 255 < cv A i
def E (a : Addr) (D : Cell) (fV fC : Field) (A : Cell) (r : Option Value) (s u : State) : Prop := Got a D fV fC A 0 A.slots.size r s u
/-- new String(chars), not empty, no char above 255: a Latin-1 String of their low bytes -/
theorem law (l : Launch) (a : Addr) (D : Cell) (fV fC : Field) (b : Addr) (A : Cell) (z : Int32) : Law l yN 2 1 3 52 yB 2 none site (P a D fV fC b A z) (E a D fV fC A) [⟨a, fC.slot⟩, ⟨a, fV.slot⟩] 1 A.slots.size := by
  refine Law.of_walk (plainFor_of_name (by decide +kernel)) (by decide +kernel) (by decide +kernel) (by decide) (fun _ _ h => by rw [h.1]; rfl) (fun _ U U' hal hh h => ⟨h.1, h.2.1.mv hal hh, h.2.2.1.al hal, h.2.2.2.1.al hal, h.2.2.2.2.1.mv hal hh, h.2.2.2.2.2.1.there hal hh, h.2.2.2.2.2.2⟩) (fun r U U' V V' h1 hal h2 h => Got.mv r U U' V V' h1 hal h2 h) ?_
  intro p e s m args below meth c s₁ X0 hexec hbytes hml hret hlk hnm hown hh0 W hP
  obtain ⟨rfl, hB, f1, f2, hA, s1, hz, l0, l2, hp⟩ := hP
  have c1 : Steps p.tables e below (s₁.setTop (entryFrame m #[.ref a, .ref b] 2)) (s₁.setTop (mkF m 0 #[.val (.ref a), .val (.ref b)] [])) := entry rfl
  have c2 : Steps p.tables e below (s₁.setTop (entryFrame m #[.ref a, .ref b] 2)) (s₁.setTop (mkF m 6 #[.val (.ref a), .val (.ref b)] [.null, .int (Int32.ofNat A.slots.size), .int 0, .ref b, .ref a])) := c1.trans (by
    refine XS.aloadN X0.here hexec rfl (hb hbytes d0) rfl rfl ?_
    refine XS.aloadN X0.here hexec rfl (hb hbytes d1) rfl rfl ?_
    refine iconstV X0.here hexec rfl 0 (hb hbytes d2) (by decide) ?_
    refine XS.aloadN X0.here hexec rfl (hb hbytes d3) rfl rfl ?_
    refine X0.alen hexec (hA.1.mv X0.warmed.alike hh0) rfl rfl (hb hbytes d4) ?_
    refine XS.aconstNull X0.here hexec rfl (hb hbytes d5) ?_
    exact Steps.refl _)
  obtain ⟨v3, T3, X3, E3, g3⟩ := X0.callN hexec (New4.law l a D fV fC b A z 0 A.slots.size) rfl hown (wks W (initW "java/lang/String" 27 New4.yN)) (W New4.tab (by simp only [site, List.mem_cons, List.mem_append, true_or, or_true])) (W := 0) (Nat.le_of_ble_eq_true rfl) (Nat.le_of_ble_eq_true rfl) (Nat.le_refl _) (by show 0 + A.slots.size ≤ A.slots.size; omega) (g := (mkF m 6 #[.val (.ref a), .val (.ref b)] [.null, .int (Int32.ofNat A.slots.size), .int (Int32.ofNat 0), .ref b, .ref a])) rfl (by rw [hml]; rfl) c2 (argsL := [.ref b, .int (Int32.ofNat 0), .int (Int32.ofNat A.slots.size), .null]) (rest := []) rfl rfl (by show 2 * 0 + 0 ≤ _; decide) (hb hbytes d6) (⟨rfl, hB.mv X0.warmed.alike hh0, f1.al X0.warmed.alike, f2.al X0.warmed.alike, hA.mv X0.warmed.alike hh0, s1.there X0.warmed.alike hh0, hz, l0, by omega, l2, fun i hi => by rw [Nat.zero_add]; exact hp i hi⟩)
  have e0 := Got.mv _ s₁ s _ _ hh0.symm (Vm.Alike.refl _) rfl E3
  obtain rfl := e0.1
  have c4 : Steps p.tables e below (s₁.setTop (entryFrame m #[.ref a, .ref b] 2)) (T3.setTop (mkF m 9 #[.val (.ref a), .val (.ref b)] [])) := g3
  exact ⟨T3, none, _, _, _, X3, by simp, rfl, by omega, (fun _ => rfl), e0, fun fs hl => c4.trans (X3.returnOut hexec hret (hb hbytes d9) hl)⟩
theorem pays {l : Launch} {R : Room} {p : Program} {e : Env} {below : List Frame} {s : State} {sargs : Array Value} {len W : Nat} (a : Addr) (D : Cell) (fV fC : Field) (b : Addr) (A : Cell) (z : Int32) (htab : tab.before sargs s = true) (hfr : 4 ≤ R.frames) (hlo : W + 65 ≤ R.locals) :
    Back l R p e below s sargs yN len W (fun A₁ a₁ => A₁.cells + 1 ≤ R.cells ∧ A₁.slots + A.slots.size ≤ R.slots ∧ P a D fV fC b A z a₁ A₁.U) (fun A₁ _ v₁ B₁ => E a D fV fC A v₁ A₁.U B₁.U ∧ B₁.locs = A₁.locs ++ [⟨a, fC.slot⟩, ⟨a, fV.slot⟩] ∧ B₁.cells = A₁.cells + 1 ∧ B₁.slots = A₁.slots + A.slots.size) :=
  (law l a D fV fC b A z).pays htab hfr (by omega)
end New1
/-- the byte, read back as charAt reads it, is the char -/
theorem lo8_mask {x : Int32} (h0 : ¬ x < 0) (h1 : ¬ 255 < x) : lo8 x &&& 255 = x := by
  have t : ∀ k : Fin 256, lo8 (Int32.ofNat k.val) &&& 255 = Int32.ofNat k.val := by decide +kernel
  rw [Int32.lt_iff_toInt_lt] at h0 h1
  have e0 : (0 : Int32).toInt = 0 := rfl
  have e1 : (255 : Int32).toInt = 255 := rfl
  obtain ⟨k, hk⟩ : ∃ k : Nat, x.toInt = k := ⟨x.toInt.toNat, by omega⟩
  have hx : x = Int32.ofNat k := Int32.toInt_inj.mp (by rw [hk, Int32.toInt_ofNat_small (by omega)])
  rw [hx]
  exact t ⟨k, by omega⟩
end StrChars
namespace StrChars.Road
open Jvm Sem ClassFile Op Lib Jvm.Stand Jvm.Free Jvm.Free.XT
open Jvm.Lib.Cold (StaticIs)
abbrev ST : String := "java/lang/String"
/-- every table word that New1's law asks, flat -/
abbrev words : List Jvm.Cond := [.code New1.yN New1.yB 2 none, .initialized ST, .methodLink ST 27 New4.yN, .instanceMethod New4.yN,
  .code New4.yN New4.yB 6 none, .fieldLink ST 38 ST "COMPACT_STRINGS" "Z", .laysFinal ST ST "value" "[B", .fieldLink ST 9 ST "value" "[B", .laysFinal ST ST "coder" "B", .fieldLink ST 15 ST "coder" "B",
  .methodLink ST 1 Lib.objectInit, .instanceMethod Lib.objectInit, .code Lib.objectInit ⟨#[0xb1]⟩ 1 none, .methodLink ST 177 Cmp3.yN, .static Cmp3.yN, .methodLink ST 47 CodL.yN, .static CodL.yN,
  .code Cmp3.yN Cmp3.yB 6 (some (.array .byte)), .initialized U16, .arrayClass .byte, .methodLink U16 115 Cmp5.yN, .static Cmp5.yN, .code Cmp5.yN Cmp5.yB 7 (some .int), .code CodL.yN CodL.yB 2 (some .byte)]
theorem tab_of {a : Array Value} {s : State} (h : ∀ w ∈ words, w.before a s = true) : New1.tab.before a s = true := by
  have h5 : Cmp5.tab.before a s = true := unparts (wk h (.code Cmp5.yN Cmp5.yB 7 (some .int))) (wks h (.initialized Cmp5.yN.cls :: Cmp5.site))
  have hc : CodL.tab.before a s = true := unparts (wk h (.code CodL.yN CodL.yB 2 (some .byte))) (wks h (.initialized CodL.yN.cls :: CodL.site))
  have q5 : ∀ w ∈ Cmp5.tab :: words, w.before a s = true := fun w hw => (List.mem_cons.mp hw).elim (fun e => e ▸ h5) (h w)
  have h3 : Cmp3.tab.before a s = true := unparts (wk q5 (.code Cmp3.yN Cmp3.yB 6 (some (.array .byte)))) (wks q5 (.initialized Cmp3.yN.cls :: Cmp3.site))
  have q3 : ∀ w ∈ Cmp3.tab :: CodL.tab :: words, w.before a s = true := fun w hw => (List.mem_cons.mp hw).elim (fun e => e ▸ h3) fun hw => (List.mem_cons.mp hw).elim (fun e => e ▸ hc) (h w)
  have h4 : New4.tab.before a s = true := unparts (wk q3 (.code New4.yN New4.yB 6 none)) (wks q3 (.initialized New4.yN.cls :: New4.site))
  have q4 : ∀ w ∈ New4.tab :: words, w.before a s = true := fun w hw => (List.mem_cons.mp hw).elim (fun e => e ▸ h4) (h w)
  exact unparts (wk q4 (.code New1.yN New1.yB 2 none)) (wks q4 (.initialized New1.yN.cls :: New1.site))
/-- the words ride from the start Z to the walk's own state -/
theorem moved {Z s : State} {a0 args : Array Value} (hZ : Z.Warmed39 s.vm) (hw : ∀ d ∈ words, d.before a0 Z = true) : ∀ d ∈ words, d.before args s = true := fun d hd => by
  have q := hw d hd
  have t : ∀ d ∈ words, d = .arrayClass .byte ∨ (d.onTables && d.keepsFace) = true := by decide +kernel
  rcases t d hd with rfl | t
  · exact RoadKit.mvA hZ q
  · exact RoadKit.mv hZ q t
/-- WHAT COMES BACK, over the tables of the start Z: h the heap at the call, h' behind it -/
def Q (Z : State) (x : Addr) (A : Cell) (h : Heap) (v : Option Value) (h' : Heap) (L : List Loc) : Prop := v = none ∧ (∀ y ∈ L, y.base = x) ∧ RoadKit.Keep h h' [x] ∧ h'.size = h.size + 1 ∧ RoadKit.Exa Z h' x ST ∧ RoadKit.Fld Z h' x ST "value" "[B" (.ref h.size) ∧ RoadKit.Fld Z h' x ST "coder" "B" (.int 0) ∧
  (∃ V : Cell, RoadKit.Arr Z h' h.size V .byte ∧ V.vm = .none ∧ Z.vm.findClass "[B" = some V.cls ∧ V.slots.size = A.slots.size ∧ ∀ j, j < A.slots.size → V.slots[j]? = some (.int (lo8 (cv A j)))) ∧
  ∀ (O n d : String) (w : Value), RoadKit.Fld Z h x O n d w → RoadKit.slotOf Z O n d ≠ RoadKit.slotOf Z ST "value" "[B" → RoadKit.slotOf Z O n d ≠ RoadKit.slotOf Z ST "coder" "B" → RoadKit.Fld Z h' x O n d w
/-- **new String(chars) AT A CALL, IN THE ROAD'S FORM**: for specialBack behind newO: x the fresh String, b the char[] with the cell A -/
theorem back {p : Program} {l : Launch} {e : Env} {R : Room} {s : State} {args : Array Value} {below : List Frame} {len W : Nat} {Z : State} {a0 : Array Value} {h : Heap} (hZ : Z.Warmed39 s.vm) (hw : ∀ d ∈ words, d.before a0 Z = true) {kI : Nat} (wi : (Jvm.Cond.instantiable ST kI).before a0 Z = true)
    {x b : Addr} {A : Cell} {z : Int32} {v0 c0 : Value} (E : RoadKit.Exa Z h x ST) (V : RoadKit.Fld Z h x ST "value" "[B" v0) (C : RoadKit.Fld Z h x ST "coder" "B" c0) (K : RoadKit.Arr Z h b A .char) (hty : Typed .char A) (S : RoadKit.Sta Z h ST "COMPACT_STRINGS" "Z" (.int z)) (hz : ¬ z = 0)
    (l0 : 0 < A.slots.size) (l2 : A.slots.size ≤ 536870912) (hp : ∀ i, i < A.slots.size → ¬ 255 < cv A i) (hfr : 4 ≤ R.frames) (hlo : W + 65 ≤ R.locals) :
    Back l R p e below s args New1.yN len W (fun P a => a = #[.ref x, .ref b] ∧ P.U.heap = h ∧ P.cells + 1 ≤ R.cells ∧ P.slots + A.slots.size ≤ R.slots)
      (fun P _ v B => ∃ L, Q Z x A h v B.U.heap L ∧ B.locs = P.locs ++ L ∧ B.cells = P.cells + 1 ∧ B.slots = P.slots + A.slots.size) := by
  intro m meth c P g ig mk a X hg hsize hdg hW hn hp'
  obtain ⟨rfl, rfl, r1, r2⟩ := hp'
  have al : Z.vm.Alike P.U.vm := hZ.alike.trans X.warmed.alike
  obtain ⟨D, cfV, kV, iV, fV, hD, gV, stV, knV, obV, asV, slV⟩ := id V
  obtain ⟨D', cfC, kC, iC, fC, hD', gC, stC, -, -, asC, slC⟩ := id C
  cases hD.symm.trans hD'
  obtain ⟨D2, kD, e1, e2, e3, e4, e5⟩ := id E
  cases hD.symm.trans e1
  obtain ⟨c2, k2, i1, i2, i3, -⟩ := Cond.instantiable_spec wi
  cases e2.symm.trans i1
  cases e3.symm.trans i2
  obtain ⟨kU, u1, u2⟩ := al.2.2 _ _ e3
  have hB : Blank ST x D P.U := ⟨hD, ⟨knV, fun q hq => by rw [hq] at obV; cases obV⟩, by rw [al.findClass]; exact e2, kU, u1, by rw [u2]; exact i3, by rw [u2]; exact e5 i3⟩
  have F1 : Found ST "value" "[B" fV P.U := ⟨SBG.found_only al ⟨cfV, kV, iV, gV⟩, stV⟩
  have F2 : Found ST "coder" "B" fC P.U := ⟨SBG.found_only al ⟨cfC, kC, iC, gC⟩, stC⟩
  have hA : Ch b A P.U := ⟨⟨K.1, State.isArrayOf_alike al K.2.1, K.2.2, by omega⟩, hty⟩
  have hS : StaticIs P.U ST "COMPACT_STRINGS" "Z" (.int z) := by
    obtain ⟨cfS, iS, kS, fS, st, cS, t1, t2, t3, t4, t5, t6, t7⟩ := S
    exact StaticIs.there (s := { Z with heap := P.U.heap }) ⟨cfS, iS, kS, fS, st, cS, t1, t2, t3, t4, t5, (fun q => by rw [q] at t6; cases t6), t7⟩ al rfl
  obtain ⟨v, B, X', ⟨⟨hv, E', V', q1, q2, q3, q4, q5, q6, q7, q8, q9, q10, q11⟩, hl, hc, hs⟩, st⟩ := New1.pays x D fV fC b A z (tab_of (moved hZ hw)) hfr hlo m meth c P g ig mk _ X hg hsize hdg hW hn ⟨r1, r2, rfl, hB, F1, F2, hA, hS, hz, l0, l2, hp⟩
  have al' : Z.vm.Alike B.U.vm := hZ.alike.trans X'.warmed.alike
  have hsz : E'.slots.size = D.slots.size := by
    obtain ⟨-, -, -, kB, w1, w2, w3⟩ := q1
    obtain ⟨kB', y1, y2⟩ := al'.2.2 _ _ e3
    rw [q2.2.1] at w1
    cases w1.symm.trans y1
    rw [w3, e5 i3, y2]
  refine ⟨v, B, X', ⟨_, ⟨hv, ?_, ⟨by omega, fun y cy hy hn' => q10 y cy (by simpa using hn') hy, fun y cy hy => ?_⟩, q11, ⟨E', _, q1.1, by rw [q2.2.1]; exact e2, by rw [q2.2.1]; exact e3, by rw [q2.1]; exact obV, fun _ => by rw [hsz]; exact e5 i3⟩,
    ⟨E', cfV, kV, iV, fV, q1.1, gV, stV, by rw [q2.1]; exact knV, by rw [q2.1]; exact obV, by rw [q2.2.1]; exact asV, q3⟩, ⟨E', cfC, kC, iC, fC, q1.1, gC, stC, by rw [q2.1]; exact knV, by rw [q2.1]; exact obV, by rw [q2.2.1]; exact asC, q4⟩,
    ⟨V', ⟨q5.1, State.isArrayOf_alike al'.symm q5.2.1, q5.2.2.1⟩, q6, by rw [← al'.findClass]; exact q7, q8, fun j hj => by have := q9 j hj; rwa [Nat.zero_add] at this⟩, fun O n d w F n1 n2 => ?_⟩, hl, hc, hs⟩, st⟩
  · intro y hy
    simp only [List.mem_cons, List.not_mem_nil, or_false] at hy
    rcases hy with rfl | rfl <;> rfl
  · by_cases q : y = x
    · subst q
      cases hD.symm.trans hy
      exact ⟨E', q1.1, q2.2.1, q2.1, hsz⟩
    · exact ⟨cy, q10 y cy q hy, rfl, rfl, rfl⟩
  · obtain ⟨D3, cf, k, i, f, g1, g2, g3, g4, g5, g6, g7⟩ := F
    cases hD.symm.trans g1
    simp only [RoadKit.slotOf, g2, gV, gC, Option.map_some, Option.getD_some] at n1 n2
    exact ⟨E', cf, k, i, f, q1.1, g2, g3, by rw [q2.1]; exact g4, by rw [q2.1]; exact g5, by rw [q2.2.1]; exact g6, by rw [q2.2.2 f.slot (by simp [n1, n2])]; exact g7⟩
end StrChars.Road
namespace StrChars.Road
open Jvm Sem ClassFile Op Lib Jvm.Stand Jvm.Free Jvm.Free.XT
/-- WHAT COMES BACK, the byte[] as a list of values -/
def QA (Z : State) (x : Addr) (zn : Int32) (cs : List Int32) (h : Heap) (v : Option Value) (h' : Heap) (L : List Loc) : Prop := v = none ∧ (∀ y ∈ L, y.base = x) ∧ RoadKit.Keep h h' [x] ∧ h'.size = h.size + 1 ∧ RoadKit.Exa Z h' x ST ∧ RoadKit.Fld Z h' x ST "value" "[B" (.ref h.size) ∧ RoadKit.Fld Z h' x ST "coder" "B" (.int 0) ∧
  (∃ kb, Z.vm.findClass "[B" = some kb ∧ RoadKit.Arv Z h' h.size kb .byte zn (cs.map fun c => .int (lo8 c)) (.int 0)) ∧
  ∀ (O n d : String) (w : Value), RoadKit.Fld Z h x O n d w → RoadKit.slotOf Z O n d ≠ RoadKit.slotOf Z ST "value" "[B" → RoadKit.slotOf Z O n d ≠ RoadKit.slotOf Z ST "coder" "B" → RoadKit.Fld Z h' x O n d w
/-- **new String(chars) AT A CALL, THE ARRAYS AS LISTS**: the char[] at b holds cs, not empty, no char above 255 -/
theorem backArv {p : Program} {l : Launch} {e : Env} {R : Room} {s : State} {args : Array Value} {below : List Frame} {len W : Nat} {Z : State} {a0 : Array Value} {h : Heap} (hZ : Z.Warmed39 s.vm) (hw : ∀ d ∈ words, d.before a0 Z = true) {kI : Nat} (wi : (Jvm.Cond.instantiable ST kI).before a0 Z = true)
    {x b : Addr} {k : ClassId} {zn z : Int32} {cs : List Int32} {dv v0 c0 : Value} (E : RoadKit.Exa Z h x ST) (V : RoadKit.Fld Z h x ST "value" "[B" v0) (C : RoadKit.Fld Z h x ST "coder" "B" c0) (K : RoadKit.Arv Z h b k .char zn (cs.map Value.int) dv) (S : RoadKit.Sta Z h ST "COMPACT_STRINGS" "Z" (.int z)) (hz : ¬ z = 0)
    (hlen : zn.toNatClampNeg = cs.length) (h0 : 0 < cs.length) (hbig : cs.length ≤ 536870912) (hall : ∀ c ∈ cs, ¬ 255 < c) (hfr : 4 ≤ R.frames) (hlo : W + 65 ≤ R.locals) :
    Back l R p e below s args New1.yN len W (fun P a => a = #[.ref x, .ref b] ∧ P.U.heap = h ∧ P.cells + 1 ≤ R.cells ∧ P.slots + cs.length ≤ R.slots)
      (fun P _ v B => ∃ L, QA Z x zn cs h v B.U.heap L ∧ B.locs = P.locs ++ L ∧ B.cells = P.cells + 1 ∧ B.slots = P.slots + cs.length) := by
  obtain ⟨A, K1, K2, K3, K4, K5, K6⟩ := K
  have e : A.slots.size = cs.length := K3.trans hlen
  have hat : ∀ (i : Nat) (hi : i < cs.length), A.slots[i]? = some (.int cs[i]) := fun i hi => by rw [K5 i (by omega)]; simp [List.getD_eq_getElem?_getD, hi]
  have hcv : ∀ (i : Nat) (hi : i < cs.length), cv A i = cs[i] := fun i hi => by unfold cv; rw [hat i hi]
  have hty : Typed .char A := fun i v hv => by
    have hi : i < A.slots.size := (Array.getElem?_eq_some_iff.mp hv).1
    have q := K5 i hi
    rw [hv] at q
    rw [Option.some.inj q]
    exact K6 i hi
  refine Back.mono (back hZ hw wi E V C K1 hty S hz (by omega) (by omega) (fun i hi => by rw [hcv i (by omega)]; exact hall _ (List.getElem_mem _)) hfr hlo) (fun P a hp => ⟨hp.1, hp.2.1, hp.2.2.1, by rw [e]; exact hp.2.2.2⟩) (fun P a v B hp hq => ?_)
  obtain ⟨L, ⟨q1, q2, q3, q4, q5, q6, q7, ⟨V', v1, v2, v3, v4, v5⟩, q9⟩, hl, hc, hs⟩ := hq
  refine ⟨L, ⟨q1, q2, q3, q4, q5, q6, q7, ⟨V'.cls, v3, V', v1, rfl, by rw [v4, e, hlen], K4, fun i hi => ?_, fun i hi => ?_⟩, q9⟩, hl, hc, by rw [hs, e]⟩
  · have hi' : i < cs.length := by omega
    rw [v5 i (by omega), hcv i hi']; simp [List.getD_eq_getElem?_getD, hi']
  · have hi' : i < cs.length := by omega
    simp only [List.getD_eq_getElem?_getD, List.getElem?_map, List.getElem?_eq_getElem hi', Option.map_some, Option.getD_some]
    exact fits_lo8 _
end StrChars.Road
namespace StrChars.Road
open Jvm Sem ClassFile Op Lib Jvm.Stand Jvm.Free Jvm.Free.XT
/-- WHAT COMES BACK, in the writer's own shape -/
def QV (Z : State) (x : Addr) (N : Int32) (bs : List Int32) (h : Heap) (n0 : Nat) (v : Option Value) (h' : Heap) (L : List Loc) : Prop := v = none ∧ RoadKit.Fr n0 L ∧ RoadKit.Keep h h' [x] ∧ RoadKit.Exa Z h' x ST ∧ RoadKit.Fld Z h' x ST "coder" "B" (.int 0) ∧
  ∃ (t : Addr) (kb : ClassId), n0 ≤ t ∧ h.size ≤ t ∧ ¬ t = x ∧ RoadKit.Fld Z h' x ST "value" "[B" (.ref t) ∧ RoadKit.Arv Z h' t kb .byte N (bs.map Value.int) (.int 0)
/-- **new String(chars) AT A CALL, FOR THE WRITER**: a char[] of n known ints, each 0 to 255 -/
theorem backV {p : Program} {l : Launch} {e : Env} {R : Room} {s : State} {args : Array Value} {below : List Frame} {len W : Nat} {Z : State} {a0 : Array Value} {h : Heap} (hZ : Z.Warmed39 s.vm) (hw : ∀ d ∈ words, d.before a0 Z = true) {kI : Nat} (wi : (Jvm.Cond.instantiable ST kI).before a0 Z = true)
    {x b : Addr} {kC : ClassId} {cs bs : List Int32} {d v0 c0 : Value} {z N : Int32} {n n0 : Nat} (hx0 : n0 ≤ x) (hh0 : n0 ≤ h.size) (E : RoadKit.Exa Z h x ST) (V : RoadKit.Fld Z h x ST "value" "[B" v0) (C : RoadKit.Fld Z h x ST "coder" "B" c0) (K : RoadKit.Arv Z h b kC .char N (cs.map Value.int) d) (S : RoadKit.Sta Z h ST "COMPACT_STRINGS" "Z" (.int z)) (hz : ¬ z = 0)
    (hn : cs.length = n) (hN : N = Int32.ofNat n) (l0 : 0 < n) (l2 : n ≤ 4000) (hp : ∀ c ∈ cs, ¬ c < 0 ∧ ¬ (255 : Int32) < c) (hb : bs = cs.map (fun c => c.toInt8.toInt32)) (hfr : 4 ≤ R.frames) (hlo : W + 65 ≤ R.locals) :
    Back l R p e below s args (⟨"java/lang/String", "<init>", "([C)V"⟩ : MethodName) len W (fun P a => a = #[.ref x, .ref b] ∧ P.U.heap = h ∧ P.cells + 1 ≤ R.cells ∧ P.slots + n ≤ R.slots)
      (fun P _ v B => ∃ L, QV Z x N bs h n0 v B.U.heap L ∧ B.locs = P.locs ++ L ∧ B.cells = P.cells + 1 ∧ B.slots = P.slots + n) := by
  subst hn hN hb
  refine Back.mono (backArv hZ hw wi E V C K S hz (n32 (by omega)) l0 (by omega) (fun c hc => (hp c hc).2) hfr hlo) (fun P a hp => hp) (fun P a v B hp hq => ?_)
  obtain ⟨L, ⟨q1, q2, q3, q4, q5, q6, q7, ⟨kb, v1, v2⟩, q9⟩, hl, hc, hs⟩ := hq
  exact ⟨L, ⟨q1, fun y hy => by rw [q2 y hy]; exact hx0, q3, q5, q7, h.size, kb, hh0, Nat.le_refl _, Nat.ne_of_gt E.lt, q6, by rw [List.map_map]; exact v2⟩, hl, hc, hs⟩
end StrChars.Road
namespace StrChars
open Jvm Sem ClassFile Op Lib Jvm.Stand Jvm.Free.XT Jvm.Free.ALB Jvm.Free.JM Jvm.Free
open Jvm.Lib.Cold (StaticIs)
def hi8 (x : Int32) : Int32 := lo8 (x >>> ((8 : Int32) &&& 31))
/-- what StringUTF16.getChar makes of two bytes -/
def pairCh (u v : Int32) : Int32 := (((u &&& 255) <<< ((0 : Int32) &&& 31)) ||| ((v &&& 255) <<< ((8 : Int32) &&& 31))).toUInt32.toUInt16.toUInt32.toInt32
theorem lo8_and (x : Int32) : (lo8 x &&& 255).toBitVec.toNat = x.toBitVec.toNat % 256 := by
  have h : (lo8 x).toBitVec = (x.toBitVec.signExtend 8).signExtend 32 := by rw [lo8, Int8.toBitVec_toInt32, Int32.toBitVec_toInt8]
  rw [Int32.toBitVec_and, BitVec.toNat_and, h]
  have e : ((x.toBitVec.signExtend 8).signExtend 32).toNat % 256 = x.toBitVec.toNat % 256 := by
    rw [BitVec.toNat_signExtend]
    have hlt := x.toBitVec.isLt
    simp only [BitVec.toNat_setWidth, BitVec.toNat_signExtend]
    split <;> split <;> omega
  rw [← e]
  exact Nat.and_two_pow_sub_one_eq_mod _ 8
theorem pair_says {c : Int32} (h0 : ¬ c < 0) (h1 : ¬ 65535 < c) : pairCh (lo8 c) (hi8 c) = c := by
  rw [Int32.lt_iff_toInt_lt] at h0 h1
  have e0 : (0 : Int32).toInt = 0 := rfl
  have e1 : (65535 : Int32).toInt = 65535 := rfl
  have hc : c.toInt = c.toBitVec.toNat := by
    have := c.toBitVec.isLt
    have e : c.toInt = c.toBitVec.toInt := rfl
    rw [e] at h0 h1
    rw [e]
    rw [BitVec.toInt_eq_toNat_cond] at h0 h1 ⊢
    split at h0 <;> split <;> omega
  have hn : c.toBitVec.toNat < 65536 := by omega
  have a1 := lo8_and c
  have a2 : (hi8 c &&& 255).toBitVec.toNat = c.toBitVec.toNat / 256 := by
    rw [hi8, lo8_and]
    have e : ((8 : Int32) &&& 31) = 8 := by decide
    rw [e, Int32.toBitVec_shiftRight]
    have e2 : ((8 : Int32).toBitVec.smod 32) = 8#32 := by decide
    rw [e2, BitVec.sshiftRight_eq', BitVec.toNat_sshiftRight_of_msb_false (by rw [BitVec.msb_eq_false_iff_two_mul_lt]; omega)]
    show c.toBitVec.toNat >>> 8 % 256 = _
    rw [Nat.shiftRight_eq_div_pow]
    omega
  unfold pairCh
  apply Int32.toBitVec_inj.mp
  apply BitVec.eq_of_toNat_eq
  have f0 : ((0 : Int32) &&& 31) = 0 := by decide
  have f8 : ((8 : Int32) &&& 31) = 8 := by decide
  rw [f0, f8]
  have g : (((lo8 c &&& 255) <<< (0 : Int32)) ||| ((hi8 c &&& 255) <<< (8 : Int32))).toBitVec.toNat = c.toBitVec.toNat := by
    rw [Int32.toBitVec_or, Int32.toBitVec_shiftLeft, Int32.toBitVec_shiftLeft]
    have s0 : ((0 : Int32).toBitVec.smod 32) = 0#32 := by decide
    have s8 : ((8 : Int32).toBitVec.smod 32) = 8#32 := by decide
    rw [s0, s8, BitVec.toNat_or]
    simp only [BitVec.shiftLeft_eq', BitVec.toNat_shiftLeft, a1, a2]
    show (c.toBitVec.toNat % 256) <<< 0 % 2 ^ 32 ||| (c.toBitVec.toNat / 256) <<< 8 % 2 ^ 32 = _
    rw [Nat.shiftLeft_zero, Nat.mod_eq_of_lt (show c.toBitVec.toNat % 256 < 2 ^ 32 by omega), Nat.mod_eq_of_lt (show (c.toBitVec.toNat / 256) <<< 8 < 2 ^ 32 by rw [Nat.shiftLeft_eq]; omega), Nat.or_comm, ← Nat.shiftLeft_add_eq_or_of_lt (by omega), Nat.shiftLeft_eq]
    omega
  show BitVec.toNat (((((lo8 c &&& 255) <<< (0 : Int32)) ||| ((hi8 c &&& 255) <<< (8 : Int32))).toBitVec.setWidth 16).setWidth 32) = _
  rw [BitVec.toNat_setWidth, BitVec.toNat_setWidth, g]
  omega
end StrChars
namespace StrChars
open Jvm Sem ClassFile Op Lib Jvm.Stand Jvm.Free.XT Jvm.Free.ALB Jvm.Free.JM Jvm.Free
open Jvm.Lib.Cold (StaticIs)
/-- the array's cell V codes the n chars f 0 .. f (n - 1) by the coder cd, as the JDK does: coder 1 just where some char is above 255 -/
def Cod (cd : Int32) (n : Nat) (f : Nat → Int32) (V : Cell) : Prop := (cd = 0 ∧ V.slots.size = n ∧ ∀ j, j < n → V.slots[j]? = some (.int (lo8 (f j))) ∧ ¬ 255 < f j) ∨ (cd = 1 ∧ V.slots.size = 2 * n ∧ (∀ j, j < n → V.slots[2 * j]? = some (.int (lo8 (f j))) ∧ V.slots[2 * j + 1]? = some (.int (hi8 (f j)))) ∧ ∃ j, j < n ∧ 255 < f j)
/-- **x is a String of the n chars f 0 .. f (n - 1)**, Latin-1 or UTF-16; its array at t has the cell V -/
def Txt (x t : Addr) (V : Cell) (cd : Int32) (n : Nat) (f : Nat → Int32) (U : State) : Prop := Exact "java/lang/String" x U ∧ Has x "java/lang/String" "value" "[B" (.ref t) U ∧ Has x "java/lang/String" "coder" "B" (.int cd) U ∧ XT.Arr .byte t V U ∧ Cod cd n f V ∧ ∀ j, j < n → ¬ f j < 0 ∧ ¬ 65535 < f j
theorem Txt.mv {x t : Addr} {V : Cell} {cd : Int32} {n : Nat} {f : Nat → Int32} {U U' : State} (h : Txt x t V cd n f U) (hal : U.vm.Alike U'.vm) (hh : U'.heap = U.heap) : Txt x t V cd n f U' := ⟨h.1.mv hal hh, h.2.1.mv hal hh, h.2.2.1.mv hal hh, h.2.2.2.1.mv hal hh, h.2.2.2.2⟩
end StrChars
namespace StrChars.Road
open Jvm Sem ClassFile Op Lib Jvm.Stand Jvm.Free Jvm.Free.XT
open Jvm.Lib.Cold (StaticIs)
theorem consq {a : Array Value} {s : State} {c : Jvm.Cond} {L : List Jvm.Cond} (h0 : c.before a s = true) (h : ∀ w ∈ L, w.before a s = true) : ∀ w ∈ c :: L, w.before a s = true := fun w hw => (List.mem_cons.mp hw).elim (fun e => e ▸ h0) (h w)
/-- the bytes of the chars cs, low before high -/
def wideBytes : List Int32 → List Value
  | [] => []
  | c :: cs => .int (lo8 c) :: .int (hi8 c) :: wideBytes cs
theorem wide_lo (d : Value) : ∀ (cs : List Int32) (j : Nat), j < cs.length → (wideBytes cs).getD (2 * j) d = .int (lo8 (cs.getD j 0))
  | [], j, h => absurd h (Nat.not_lt_zero j)
  | c :: cs, 0, _ => rfl
  | c :: cs, j + 1, h => by
    have q := wide_lo d cs j (by simpa using h)
    rw [show 2 * (j + 1) = 2 * j + 1 + 1 from by omega]
    simpa [wideBytes] using q
theorem wide_hi (d : Value) : ∀ (cs : List Int32) (j : Nat), j < cs.length → (wideBytes cs).getD (2 * j + 1) d = .int (hi8 (cs.getD j 0))
  | [], j, h => absurd h (Nat.not_lt_zero j)
  | c :: cs, 0, _ => rfl
  | c :: cs, j + 1, h => by
    have q := wide_hi d cs j (by simpa using h)
    rw [show 2 * (j + 1) + 1 = 2 * j + 1 + 1 + 1 from by omega]
    simpa [wideBytes] using q
theorem low_at (d : Value) (cs : List Int32) (j : Nat) (h : j < cs.length) : (cs.map fun c => Value.int (lo8 c)).getD j d = .int (lo8 (cs.getD j 0)) := by
  simp [List.getD_eq_getElem?_getD, h]
/-- an array of N2 bytes vs codes the chars cs by the coder cd -/
def CodA (cs : List Int32) (cd N2 : Int32) (vs : List Value) : Prop := (cd = 0 ∧ N2 = Int32.ofNat cs.length ∧ vs = (cs.map fun c => Value.int (lo8 c)) ∧ ∀ c ∈ cs, ¬ 255 < c) ∨ (cd = 1 ∧ N2 = Int32.ofNat (2 * cs.length) ∧ vs = wideBytes cs ∧ ∃ c ∈ cs, 255 < c)
theorem CodA.cod {cs : List Int32} {cd N2 : Int32} {vs : List Value} {V : Cell} (h : CodA cs cd N2 vs) (hn : 2 * cs.length < 2 ^ 31) (hs : V.slots.size = N2.toNatClampNeg) (hv : RoadKit.Has V vs (.int 0)) : Cod cd cs.length (fun j => cs.getD j 0) V := by
  rcases h with ⟨rfl, rfl, rfl, h⟩ | ⟨rfl, rfl, rfl, c, hc, hw⟩
  · rw [n32 (by omega)] at hs
    exact Or.inl ⟨rfl, hs, fun j hj => ⟨by rw [hv j (by omega), low_at _ _ _ hj], by
      have e : cs.getD j 0 = cs[j] := by simp [List.getD_eq_getElem?_getD, hj]
      show ¬ 255 < cs.getD j 0
      rw [e]; exact h _ (List.getElem_mem _)⟩⟩
  · rw [n32 (by omega)] at hs
    obtain ⟨j, hj, rfl⟩ := List.getElem_of_mem hc
    exact Or.inr ⟨rfl, hs, fun j hj => ⟨by rw [hv _ (by omega), wide_lo _ _ _ hj], by rw [hv _ (by omega), wide_hi _ _ _ hj]⟩, j, hj, by
      have e : cs.getD j 0 = cs[j] := by simp [List.getD_eq_getElem?_getD, hj]
      show 255 < cs.getD j 0
      rw [e]; exact hw⟩
/-- an object of exactly java/lang/String, its two fields found: as the laws ask it -/
theorem strObj {Z U : State} {a0 : Array Value} {kI : Nat} (wi : (Jvm.Cond.instantiable ST kI).before a0 Z = true) (al : Z.vm.Alike U.vm) {x : Addr} {v0 c0 : Value} (E : RoadKit.Exa Z U.heap x ST) (V : RoadKit.Fld Z U.heap x ST "value" "[B" v0) (C : RoadKit.Fld Z U.heap x ST "coder" "B" c0) :
    ∃ (D : Cell) (fV fC : Field), Blank ST x D U ∧ Found ST "value" "[B" fV U ∧ Found ST "coder" "B" fC U ∧ D.slots[fV.slot]? = some v0 ∧ D.slots[fC.slot]? = some c0 ∧ RoadKit.slotOf Z ST "value" "[B" = fV.slot ∧ RoadKit.slotOf Z ST "coder" "B" = fC.slot := by
  obtain ⟨D, cfV, kV, iV, fV, hD, gV, stV, knV, obV, asV, slV⟩ := V
  obtain ⟨D', cfC, kC, iC, fC, hD', gC, stC, -, -, asC, slC⟩ := C
  cases hD.symm.trans hD'
  obtain ⟨D2, kD, e1, e2, e3, e4, e5⟩ := E
  cases hD.symm.trans e1
  obtain ⟨c2, k2, i1, i2, i3, -⟩ := Cond.instantiable_spec wi
  cases e2.symm.trans i1
  cases e3.symm.trans i2
  obtain ⟨kU, u1, u2⟩ := al.2.2 _ _ e3
  exact ⟨D, fV, fC, ⟨hD, ⟨knV, fun q hq => by rw [hq] at obV; cases obV⟩, by rw [al.findClass]; exact e2, kU, u1, by rw [u2]; exact i3, by rw [u2]; exact e5 i3⟩, ⟨SBG.found_only al ⟨cfV, kV, iV, gV⟩, stV⟩, ⟨SBG.found_only al ⟨cfC, kC, iC, gC⟩, stC⟩, slV, slC, by simp [RoadKit.slotOf, gV], by simp [RoadKit.slotOf, gC]⟩
theorem sta_is {Z U : State} (al : Z.vm.Alike U.vm) {C n d : String} {v : Value} (S : RoadKit.Sta Z U.heap C n d v) : StaticIs U C n d v := by
  obtain ⟨cfS, iS, kS, fS, st, cS, t1, t2, t3, t4, t5, t6, t7⟩ := S
  exact StaticIs.there (s := { Z with heap := U.heap }) ⟨cfS, iS, kS, fS, st, cS, t1, t2, t3, t4, t5, (fun q => by rw [q] at t6; cases t6), t7⟩ al rfl
end StrChars.Road
namespace StrChars
open Jvm Sem ClassFile Op Lib Jvm.Stand Jvm.Free.XT Jvm.Free.ALB Jvm.Free.JM Jvm.Free
open Jvm.Lib.Cold (StaticIs)
/-- what place i of a byte[]'s cell holds -/
def yv (A : Cell) (i : Nat) : Int32 := match A.slots[i]? with | some (.int x) => x | _ => 0
theorem yv_get {a : Addr} {A : Cell} {U : State} (h : XT.Arr .byte a A U) (ht : Typed .byte A) {i : Nat} (hi : i < A.slots.size) : A.slots[i]? = some (.int (yv A i)) := by
  have e := Array.getElem?_eq_getElem hi
  have f := ht i _ e
  unfold yv; rw [e]
  generalize A.slots[i] = v at f
  cases v <;> simp [fits] at f ⊢
/-- the two arrays are equal, place for place -/
def EqC (A B : Cell) : Prop := A.slots.size = B.slots.size ∧ ∀ i, i < A.slots.size → yv A i = yv B i
/-- a boolean that says whether p -/
def Says01 (q : Prop) (r : Option Value) (s u : State) : Prop := ∃ v : Int32, r = some (.int v) ∧ u.heap = s.heap ∧ ((v = 1 ∧ q) ∨ (v = 0 ∧ ¬ q))
theorem Says01.mv {q : Prop} : ∀ r (U U' V V' : State), U'.heap = U.heap → V.vm.Alike V'.vm → V'.heap = V.heap → Says01 q r U V → Says01 q r U' V' :=
  fun r U U' V V' h1 _ h2 ⟨v, a, b, c⟩ => ⟨v, a, by rw [h1, h2]; exact b, c⟩
namespace LEq
def yN : MethodName := ⟨"java/lang/StringLatin1", "equals", "([B[B)Z"⟩
abbrev yB : ByteArray := jdk_43_method_13_code
theorem d0 : decode yB 0 = .ok (.aload_n 0, 1) := by decide +kernel
theorem d1 : decode yB 1 = .ok (.arraylength, 1) := by decide +kernel
theorem d2 : decode yB 2 = .ok (.aload_n 1, 1) := by decide +kernel
theorem d3 : decode yB 3 = .ok (.arraylength, 1) := by decide +kernel
theorem d4 : decode yB 4 = .ok (.if_icmp (.ne) 30, 3) := by decide +kernel
theorem d7 : decode yB 7 = .ok (.iconst 0, 1) := by decide +kernel
theorem d8 : decode yB 8 = .ok (.istore_n 2, 1) := by decide +kernel
theorem d9 : decode yB 9 = .ok (.iload_n 2, 1) := by decide +kernel
theorem d10 : decode yB 10 = .ok (.aload_n 0, 1) := by decide +kernel
theorem d11 : decode yB 11 = .ok (.arraylength, 1) := by decide +kernel
theorem d12 : decode yB 12 = .ok (.if_icmp (.ge) 20, 3) := by decide +kernel
theorem d15 : decode yB 15 = .ok (.aload_n 0, 1) := by decide +kernel
theorem d16 : decode yB 16 = .ok (.iload_n 2, 1) := by decide +kernel
theorem d17 : decode yB 17 = .ok (.baload, 1) := by decide +kernel
theorem d18 : decode yB 18 = .ok (.aload_n 1, 1) := by decide +kernel
theorem d19 : decode yB 19 = .ok (.iload_n 2, 1) := by decide +kernel
theorem d20 : decode yB 20 = .ok (.baload, 1) := by decide +kernel
theorem d21 : decode yB 21 = .ok (.if_icmp (.eq) 5, 3) := by decide +kernel
theorem d24 : decode yB 24 = .ok (.iconst 0, 1) := by decide +kernel
theorem d25 : decode yB 25 = .ok (.ireturn, 1) := by decide +kernel
theorem d26 : decode yB 26 = .ok (.iinc 2 1, 3) := by decide +kernel
theorem d29 : decode yB 29 = .ok (.goto (-20), 3) := by decide +kernel
theorem d32 : decode yB 32 = .ok (.iconst 1, 1) := by decide +kernel
theorem d33 : decode yB 33 = .ok (.ireturn, 1) := by decide +kernel
theorem d34 : decode yB 34 = .ok (.iconst 0, 1) := by decide +kernel
theorem d35 : decode yB 35 = .ok (.ireturn, 1) := by decide +kernel
def site : List Cond := []
def tab : Cond := tabOf yN yB 3 (some .boolean) site
def P (a : Addr) (A : Cell) (b : Addr) (B : Cell) (args : Array Value) (s : State) : Prop := args = #[.ref a, .ref b] ∧ XT.Arr .byte a A s ∧ Typed .byte A ∧ XT.Arr .byte b B s ∧ Typed .byte B
/-- whether two byte[] are equal, place for place -/
theorem law (l : Launch) (a : Addr) (A : Cell) (b : Addr) (B : Cell) : Law l yN 2 2 0 0 yB 3 (some .boolean) site (P a A b B) (Says01 (EqC A B)) [] 0 0 := by
  refine Law.of_walk (plainFor_of_name (by decide +kernel)) (by decide +kernel) (by decide +kernel) (by decide) (fun _ _ h => by rw [h.1]; rfl) (fun _ U U' hal hh h => ⟨h.1, h.2.1.mv hal hh, h.2.2.1, h.2.2.2.1.mv hal hh, h.2.2.2.2⟩) (fun r U U' V V' h1 hal h2 h => Says01.mv r U U' V V' h1 hal h2 h) ?_
  intro p e s m args below meth c s₁ X0 hexec hbytes hml hret hlk hnm hown hh0 W hP
  obtain ⟨rfl, hA, tA, hB, tB⟩ := hP
  have a31 := hA.2.2.2
  have b31 := hB.2.2.2
  have hA0 := hA.mv X0.warmed.alike hh0
  have hB0 := hB.mv X0.warmed.alike hh0
  have c1 : Steps p.tables e below (s₁.setTop (entryFrame m #[.ref a, .ref b] 3)) (s₁.setTop (mkF m 0 #[.val (.ref a), .val (.ref b), .unset] [])) := entry rfl
  have c2 : Steps p.tables e below (s₁.setTop (entryFrame m #[.ref a, .ref b] 3)) (s₁.setTop (mkF m 4 #[.val (.ref a), .val (.ref b), .unset] [.int (Int32.ofNat B.slots.size), .int (Int32.ofNat A.slots.size)])) := c1.trans (by
    refine XS.aloadN X0.here hexec rfl (hb hbytes d0) rfl rfl ?_
    refine X0.alen hexec hA0 rfl rfl (hb hbytes d1) ?_
    refine XS.aloadN X0.here hexec rfl (hb hbytes d2) rfl rfl ?_
    refine X0.alen hexec hB0 rfl rfl (hb hbytes d3) ?_
    exact Steps.refl _)
  by_cases hs : A.slots.size = B.slots.size
  · have c3 : Steps p.tables e below (s₁.setTop (entryFrame m #[.ref a, .ref b] 3)) (s₁.setTop (mkF m 9 #[.val (.ref a), .val (.ref b), .val (.int 0)] [])) := c2.trans (by
      refine XS.icmpNo X0.here hexec rfl (hb hbytes d4) rfl (ii_ne_f (by rw [hs])) ?_
      refine iconstV X0.here hexec rfl 0 (hb hbytes d7) (by decide) ?_
      refine XS.istoreN X0.here hexec rfl (hb hbytes d8) rfl rfl ?_
      exact Steps.refl _)
    have loop : ∀ (r i : Nat), i + r = A.slots.size → (∀ j, j < i → yv A j = yv B j) → Steps p.tables e below (s₁.setTop (entryFrame m #[.ref a, .ref b] 3)) (s₁.setTop (mkF m 9 #[.val (.ref a), .val (.ref b), .val (.int (Int32.ofNat i))] [])) → ∃ (pc : Nat) (Ls : Array Slot) (v : Int32), (pc = 25 ∨ pc = 33) ∧ ((v = 1 ∧ EqC A B) ∨ (v = 0 ∧ ¬ EqC A B)) ∧ Steps p.tables e below (s₁.setTop (entryFrame m #[.ref a, .ref b] 3)) (s₁.setTop (mkF m pc Ls [.int v])) := by
      intro r
      induction r with
      | zero =>
        intro i hi he cl
        exact ⟨33, _, 1, Or.inr rfl, Or.inl ⟨rfl, hs, fun j hj => he j (by omega)⟩, cl.trans (by
          refine XS.iloadN X0.here hexec rfl (hb hbytes d9) rfl ?_
          refine XS.aloadN X0.here hexec rfl (hb hbytes d10) rfl rfl ?_
          refine X0.alen hexec hA0 rfl rfl (hb hbytes d11) ?_
          refine XS.icmpYes X0.here hexec rfl (pc0 := 12) rfl (hb hbytes d12) rfl (ii_ge_t (nlt32 (by omega) (by omega))) (by decide) rfl ?_
          refine iconstV X0.here hexec rfl 1 (hb hbytes d32) (by decide) ?_
          exact Steps.refl _)⟩
      | succ r ih =>
        intro i hi he cl
        have c4 : Steps p.tables e below (s₁.setTop (entryFrame m #[.ref a, .ref b] 3)) (s₁.setTop (mkF m 21 #[.val (.ref a), .val (.ref b), .val (.int (Int32.ofNat i))] [.int (yv B i), .int (yv A i)])) := cl.trans (by
          refine XS.iloadN X0.here hexec rfl (hb hbytes d9) rfl ?_
          refine XS.aloadN X0.here hexec rfl (hb hbytes d10) rfl rfl ?_
          refine X0.alen hexec hA0 rfl rfl (hb hbytes d11) ?_
          refine XS.icmpNo X0.here hexec rfl (hb hbytes d12) rfl (ii_ge_f (lt32 (by omega) (by omega))) ?_
          refine XS.aloadN X0.here hexec rfl (hb hbytes d15) rfl rfl ?_
          refine XS.iloadN X0.here hexec rfl (hb hbytes d16) rfl ?_
          refine X0.aget hexec hA0 rfl (yv_get hA tA (i := i) (by omega)) rfl rfl (hb hbytes d17) ?_
          refine XS.aloadN X0.here hexec rfl (hb hbytes d18) rfl rfl ?_
          refine XS.iloadN X0.here hexec rfl (hb hbytes d19) rfl ?_
          refine X0.aget hexec hB0 rfl (yv_get hB tB (i := i) (by omega)) rfl rfl (hb hbytes d20) ?_
          exact Steps.refl _)
        by_cases hv : yv A i = yv B i
        · have c5 : Steps p.tables e below (s₁.setTop (entryFrame m #[.ref a, .ref b] 3)) (s₁.setTop (mkF m 9 #[.val (.ref a), .val (.ref b), .val (.int (Int32.ofNat i + 1))] [])) := c4.trans (by
            refine XS.icmpYes X0.here hexec rfl (pc0 := 21) rfl (hb hbytes d21) rfl (ii_eq_t hv) (by decide) rfl ?_
            refine iincV X0.here hexec rfl 1 (hb hbytes d26) (by decide) rfl rfl ?_
            refine XS.goto X0.here hexec rfl (pc0 := 29) rfl (hb hbytes d29) (by decide) rfl ?_
            exact Steps.refl _)
          rw [succ32] at c5
          exact ih (i + 1) (by omega) (fun j hj => by
            by_cases e : j = i
            · rw [e]; exact hv
            · exact he j (by omega)) c5
        · exact ⟨25, _, 0, Or.inl rfl, Or.inr ⟨rfl, fun q => hv (q.2 i (by omega))⟩, c4.trans (by
            refine XS.icmpNo X0.here hexec rfl (hb hbytes d21) rfl (ii_eq_f hv) ?_
            refine iconstV X0.here hexec rfl 0 (hb hbytes d24) (by decide) ?_
            exact Steps.refl _)⟩
    obtain ⟨pc, Ls, v, hpc, hv, cz⟩ := loop A.slots.size 0 (by omega) (fun j hj => absurd hj (Nat.not_lt_zero j)) c3
    have nv : narrow .boolean (.int v) = .int v := by rcases hv with ⟨rfl, -⟩ | ⟨rfl, -⟩ <;> rfl
    rcases hpc with rfl | rfl
    · exact ⟨s₁, some (.int v), _, _, _, X0, rfl, rfl, rfl, (fun h => by cases h), ⟨v, rfl, hh0, hv⟩, fun fs hl => cz.trans (X0.ireturnOut hexec hret nv (Or.inr (Or.inl rfl)) (hb hbytes d25) hl)⟩
    · exact ⟨s₁, some (.int v), _, _, _, X0, rfl, rfl, rfl, (fun h => by cases h), ⟨v, rfl, hh0, hv⟩, fun fs hl => cz.trans (X0.ireturnOut hexec hret nv (Or.inr (Or.inl rfl)) (hb hbytes d33) hl)⟩
  · have c3 : Steps p.tables e below (s₁.setTop (entryFrame m #[.ref a, .ref b] 3)) (s₁.setTop (mkF m 35 #[.val (.ref a), .val (.ref b), .unset] [.int 0])) := c2.trans (by
      refine XS.icmpYes X0.here hexec rfl (pc0 := 4) rfl (hb hbytes d4) rfl (ii_ne_t (ne32 a31 b31 hs)) (by decide) rfl ?_
      refine iconstV X0.here hexec rfl 0 (hb hbytes d34) (by decide) ?_
      exact Steps.refl _)
    exact ⟨s₁, some (.int 0), _, _, _, X0, rfl, rfl, rfl, (fun h => by cases h), ⟨0, rfl, hh0, Or.inr ⟨rfl, fun q => hs q.1⟩⟩, fun fs hl => c3.trans (X0.ireturnOut hexec hret rfl (Or.inr (Or.inl rfl)) (hb hbytes d35) hl)⟩
end LEq
theorem Cod.ty {cd : Int32} {n : Nat} {f : Nat → Int32} {V : Cell} (h : Cod cd n f V) : Typed .byte V := fun i v hv => by
  have hi : i < V.slots.size := (Array.getElem?_eq_some_iff.mp hv).1
  rcases h with ⟨-, k1, k2⟩ | ⟨-, k1, k2, -⟩
  · rw [(k2 i (by omega)).1] at hv; cases hv; exact fits_lo8 _
  · rcases Nat.mod_two_eq_zero_or_one i with e | e
    · obtain ⟨j, rfl⟩ : ∃ j, i = 2 * j := ⟨i / 2, by omega⟩
      rw [(k2 j (by omega)).1] at hv; cases hv; exact fits_lo8 _
    · obtain ⟨j, rfl⟩ : ∃ j, i = 2 * j + 1 := ⟨i / 2, by omega⟩
      rw [(k2 j (by omega)).2] at hv; cases hv; exact fits_lo8 _
/-- the same text -/
def SameT (n : Nat) (f : Nat → Int32) (k : Nat) (g : Nat → Int32) : Prop := n = k ∧ ∀ j, j < n → f j = g j
theorem lo8_inj {x y : Int32} (h0 : ¬ x < 0) (h1 : ¬ 255 < x) (k0 : ¬ y < 0) (k1 : ¬ 255 < y) (h : lo8 x = lo8 y) : x = y := by
  rw [← lo8_mask h0 h1, ← lo8_mask k0 k1, h]
/-- arrays coded by one coder are equal just where the texts are -/
theorem Cod.eqv {cd : Int32} {n k : Nat} {f g : Nat → Int32} {V V' : Cell} (h : Cod cd n f V) (h' : Cod cd k g V') (hf : ∀ j, j < n → ¬ f j < 0 ∧ ¬ 65535 < f j) (hg : ∀ j, j < k → ¬ g j < 0 ∧ ¬ 65535 < g j) : EqC V V' ↔ SameT n f k g := by
  have yvv : ∀ {W : Cell} {i : Nat} {x : Int32}, W.slots[i]? = some (.int x) → yv W i = x := fun q => by unfold yv; rw [q]
  rcases h with ⟨rfl, k1, k2⟩ | ⟨rfl, k1, k2, -⟩
  · rcases h' with ⟨-, m1, m2⟩ | ⟨e, -⟩
    · constructor
      · rintro ⟨e1, e2⟩
        refine ⟨by omega, fun j hj => ?_⟩
        have q := e2 j (by omega)
        rw [yvv (k2 j hj).1, yvv (m2 j (by omega)).1] at q
        exact lo8_inj (hf j hj).1 (k2 j hj).2 (hg j (by omega)).1 (m2 j (by omega)).2 q
      · rintro ⟨rfl, e2⟩
        refine ⟨by omega, fun j hj => ?_⟩
        rw [yvv (k2 j (by omega)).1, yvv (m2 j (by omega)).1, e2 j (by omega)]
    · exact absurd e (by decide)
  · rcases h' with ⟨e, -⟩ | ⟨-, m1, m2, -⟩
    · exact absurd e (by decide)
    · constructor
      · rintro ⟨e1, e2⟩
        refine ⟨by omega, fun j hj => ?_⟩
        have q1 := e2 (2 * j) (by omega)
        have q2 := e2 (2 * j + 1) (by omega)
        rw [yvv (k2 j hj).1, yvv (m2 j (by omega)).1] at q1
        rw [yvv (k2 j hj).2, yvv (m2 j (by omega)).2] at q2
        rw [← pair_says (hf j hj).1 (hf j hj).2, ← pair_says (hg j (by omega)).1 (hg j (by omega)).2, q1, q2]
      · rintro ⟨rfl, e2⟩
        refine ⟨by omega, fun i hi => ?_⟩
        rcases Nat.mod_two_eq_zero_or_one i with e | e
        · obtain ⟨j, rfl⟩ : ∃ j, i = 2 * j := ⟨i / 2, by omega⟩
          rw [yvv (k2 j (by omega)).1, yvv (m2 j (by omega)).1, e2 j (by omega)]
        · obtain ⟨j, rfl⟩ : ∃ j, i = 2 * j + 1 := ⟨i / 2, by omega⟩
          rw [yvv (k2 j (by omega)).2, yvv (m2 j (by omega)).2, e2 j (by omega)]
/-- two codings differ: so do the texts -/
theorem Cod.dif {cd cd' : Int32} {n k : Nat} {f g : Nat → Int32} {V V' : Cell} (h : Cod cd n f V) (h' : Cod cd' k g V') (hne : ¬ cd = cd') : ¬ SameT n f k g := by
  rintro ⟨rfl, e⟩
  rcases h with ⟨rfl, -, k2⟩ | ⟨rfl, -, -, j, hj, hw⟩
  · rcases h' with ⟨rfl, -⟩ | ⟨-, -, -, j, hj, hw⟩
    · exact hne rfl
    · exact (k2 j hj).2 (by rw [e j hj]; exact hw)
  · rcases h' with ⟨-, -, m2⟩ | ⟨rfl, -⟩
    · exact (m2 j hj).2 (by rw [← e j hj]; exact hw)
    · exact hne rfl
/-- an object of exactly C is an instance of C -/
theorem cinst {p : Program} {l : Launch} {e : Env} {R : Room} {s : State} {m : MethodId} {args : Array Value} {below : List Frame} {meth : Method} {c : Code} {T : State} {locs : List Loc} {cells slots : Nat} (X : Stand p l e R s m args below meth c T locs cells slots) (hexec : p.tables.exec = Jvm.exec) {own C : String} {index : Nat} (hown : s.vm.findClass own = some m.cls) (hlink : (Cond.classLink own index C).before args s = true) {a : Addr} (hE : Exact C a T)
    {g : JFrame} (hg : g.method = m) {rest : List Value} (hstack : g.stack = .ref a :: rest) (hdg : decode c.code g.pc = .ok (.instanceof index, 3)) :
    ∃ T', Stand p l e R s m args below meth c T' locs cells slots ∧ T'.heap = T.heap ∧ ∀ target, Steps p.tables e below (T'.setTop { g with pc := g.pc + 3, stack := .int 1 :: rest }) target → Steps p.tables e below (T.setTop g) target := by
  obtain ⟨cB, h1, D, h2, h3, h4⟩ := hE
  have h1' : s.vm.findClass C = some cB := by rw [← X.warmed.alike.findClass]; exact h1
  obtain ⟨vm', X', st⟩ := X.instanceofYes hexec hown hlink h2 h4 h1' (by rw [h3]; exact Jvm.Free.SB.assignable_self _ _) hg hstack hdg
  exact ⟨_, X', rfl, st⟩
theorem cself {p : Program} {l : Launch} {e : Env} {R : Room} {s : State} {m : MethodId} {args : Array Value} {below : List Frame} {meth : Method} {c : Code} {T : State} {locs : List Loc} {cells slots : Nat} (X : Stand p l e R s m args below meth c T locs cells slots) (hexec : p.tables.exec = Jvm.exec) {own C : String} {index : Nat} (hown : s.vm.findClass own = some m.cls) (hlink : (Cond.classLink own index C).before args s = true) {a : Addr} (hE : Exact C a T)
    {g : JFrame} (hg : g.method = m) {rest : List Value} (hstack : g.stack = .ref a :: rest) (hdg : decode c.code g.pc = .ok (.checkcast index, 3)) :
    ∃ T', Stand p l e R s m args below meth c T' locs cells slots ∧ T'.heap = T.heap ∧ ∀ target, Steps p.tables e below (T'.setTop { g with pc := g.pc + 3, stack := .ref a :: rest }) target → Steps p.tables e below (T.setTop g) target := by
  obtain ⟨cB, h1, D, h2, h3, h4⟩ := hE
  have h1' : s.vm.findClass C = some cB := by rw [← X.warmed.alike.findClass]; exact h1
  obtain ⟨vm', X', st⟩ := X.checkcastYes hexec hown hlink h2 h4 h1' (by rw [h3]; exact Jvm.Free.SB.assignable_self _ _) hg hstack hdg
  exact ⟨_, X', rfl, fun t h => st t (by rw [← hstack] at h; exact h)⟩
namespace SEq
def yN : MethodName := ⟨"java/lang/String", "equals", "(Ljava/lang/Object;)Z"⟩
abbrev yB : ByteArray := jdk_42_method_66_code
theorem d0 : decode yB 0 = .ok (.aload_n 0, 1) := by decide +kernel
theorem d1 : decode yB 1 = .ok (.aload_n 1, 1) := by decide +kernel
theorem d2 : decode yB 2 = .ok (.if_acmp (.ne) 5, 3) := by decide +kernel
theorem d5 : decode yB 5 = .ok (.iconst 1, 1) := by decide +kernel
theorem d6 : decode yB 6 = .ok (.ireturn, 1) := by decide +kernel
theorem d7 : decode yB 7 = .ok (.aload_n 1, 1) := by decide +kernel
theorem d8 : decode yB 8 = .ok (.instanceof 10, 3) := by decide +kernel
theorem d11 : decode yB 11 = .ok (.ifCond (.eq) 43, 3) := by decide +kernel
theorem d14 : decode yB 14 = .ok (.aload_n 1, 1) := by decide +kernel
theorem d15 : decode yB 15 = .ok (.checkcast 10, 3) := by decide +kernel
theorem d18 : decode yB 18 = .ok (.astore_n 2, 1) := by decide +kernel
theorem d19 : decode yB 19 = .ok (.getstatic 38, 3) := by decide +kernel
theorem d22 : decode yB 22 = .ok (.ifCond (.eq) 14, 3) := by decide +kernel
theorem d25 : decode yB 25 = .ok (.aload_n 0, 1) := by decide +kernel
theorem d26 : decode yB 26 = .ok (.getfield 15, 3) := by decide +kernel
theorem d29 : decode yB 29 = .ok (.aload_n 2, 1) := by decide +kernel
theorem d30 : decode yB 30 = .ok (.getfield 15, 3) := by decide +kernel
theorem d33 : decode yB 33 = .ok (.if_icmp (.ne) 21, 3) := by decide +kernel
theorem d36 : decode yB 36 = .ok (.aload_n 0, 1) := by decide +kernel
theorem d37 : decode yB 37 = .ok (.getfield 9, 3) := by decide +kernel
theorem d40 : decode yB 40 = .ok (.aload_n 2, 1) := by decide +kernel
theorem d41 : decode yB 41 = .ok (.getfield 9, 3) := by decide +kernel
theorem d44 : decode yB 44 = .ok (.invokestatic 541, 3) := by decide +kernel
theorem d47 : decode yB 47 = .ok (.ifCond (.eq) 7, 3) := by decide +kernel
theorem d50 : decode yB 50 = .ok (.iconst 1, 1) := by decide +kernel
theorem d51 : decode yB 51 = .ok (.goto 4, 3) := by decide +kernel
theorem d54 : decode yB 54 = .ok (.iconst 0, 1) := by decide +kernel
theorem d55 : decode yB 55 = .ok (.ireturn, 1) := by decide +kernel
def site : List Cond := [.classLink "java/lang/String" 10 "java/lang/String", .fieldLink "java/lang/String" 38 "java/lang/String" "COMPACT_STRINGS" "Z", .fieldLink "java/lang/String" 15 "java/lang/String" "coder" "B", .fieldLink "java/lang/String" 9 "java/lang/String" "value" "[B", LEq.tab] ++ staticW "java/lang/String" 541 LEq.yN
def tab : Cond := tabOf yN yB 3 (some .boolean) site
def P (x t : Addr) (V : Cell) (cd : Int32) (n : Nat) (f : Nat → Int32) (y t' : Addr) (V' : Cell) (cd' : Int32) (k : Nat) (g : Nat → Int32) (z : Int32) (args : Array Value) (s : State) : Prop := args = #[.ref x, .ref y] ∧ Txt x t V cd n f s ∧ Txt y t' V' cd' k g s ∧ StaticIs s "java/lang/String" "COMPACT_STRINGS" "Z" (.int z) ∧ ¬ z = 0
/-- equals(Object) of two Strings: whether the texts are the same -/
theorem law (l : Launch) (x t : Addr) (V : Cell) (cd : Int32) (n : Nat) (f : Nat → Int32) (y t' : Addr) (V' : Cell) (cd' : Int32) (k : Nat) (g : Nat → Int32) (z : Int32) : Law l yN 2 1 1 14 yB 3 (some .boolean) site (P x t V cd n f y t' V' cd' k g z) (Says01 (SameT n f k g)) [] 0 0 := by
  refine Law.of_walk (plainFor_of_name (by decide +kernel)) (by decide +kernel) (by decide +kernel) (by decide) (fun _ _ h => by rw [h.1]; rfl) (fun _ U U' hal hh h => ⟨h.1, h.2.1.mv hal hh, h.2.2.1.mv hal hh, h.2.2.2.1.there hal hh, h.2.2.2.2⟩) (fun r U U' V V' h1 hal h2 h => Says01.mv r U U' V V' h1 hal h2 h) ?_
  intro p e s m args below meth c s₁ X0 hexec hbytes hml hret hlk hnm hown hh0 W hP
  obtain ⟨rfl, hx, hy, s1, hz⟩ := hP
  have c1 : Steps p.tables e below (s₁.setTop (entryFrame m #[.ref x, .ref y] 3)) (s₁.setTop (mkF m 2 #[.val (.ref x), .val (.ref y), .unset] [.ref y, .ref x])) := Steps.trans (entry rfl) (by
    show Steps p.tables e below (s₁.setTop (mkF m 0 #[.val (.ref x), .val (.ref y), .unset] [])) _
    refine XS.aloadN X0.here hexec rfl (hb hbytes d0) rfl rfl ?_
    refine XS.aloadN X0.here hexec rfl (hb hbytes d1) rfl rfl ?_
    exact Steps.refl _)
  by_cases hxy : x = y
  · have c2 : Steps p.tables e below (s₁.setTop (entryFrame m #[.ref x, .ref y] 3)) (s₁.setTop (mkF m 6 #[.val (.ref x), .val (.ref y), .unset] [.int 1])) := c1.trans (by
      refine acmpNo X0.here hexec rfl (hb hbytes d2) rfl rfl rfl (by simp [acmp, hxy]) ?_
      refine iconstV X0.here hexec rfl 1 (hb hbytes d5) (by decide) ?_
      exact Steps.refl _)
    subst hxy
    have ec : cd = cd' := by
      obtain ⟨D, fd, a1, a2, a3⟩ := hx.2.2.1
      obtain ⟨D', fd', b1, b2, b3⟩ := hy.2.2.1
      cases a1.symm.trans b1
      obtain ⟨q1, q2, q3, q4⟩ := a2.1
      obtain ⟨r1, r2, r3, r4⟩ := b2.1
      cases q4.symm.trans r4
      cases a3.symm.trans b3; rfl
    have et : t = t' := by
      obtain ⟨D, fd, a1, a2, a3⟩ := hx.2.1
      obtain ⟨D', fd', b1, b2, b3⟩ := hy.2.1
      cases a1.symm.trans b1
      obtain ⟨q1, q2, q3, q4⟩ := a2.1
      obtain ⟨r1, r2, r3, r4⟩ := b2.1
      cases q4.symm.trans r4
      cases a3.symm.trans b3; rfl
    subst ec et
    have ev : V = V' := by cases hx.2.2.2.1.1.symm.trans hy.2.2.2.1.1; rfl
    subst ev
    have hs : SameT n f k g := (Cod.eqv hx.2.2.2.2.1 hy.2.2.2.2.1 hx.2.2.2.2.2 hy.2.2.2.2.2).mp ⟨rfl, fun _ _ => rfl⟩
    exact ⟨s₁, some (.int 1), _, _, _, X0, rfl, rfl, rfl, (fun h => by cases h), ⟨1, rfl, hh0, Or.inl ⟨rfl, hs⟩⟩, fun fs hl => c2.trans (X0.ireturnOut hexec hret rfl (Or.inr (Or.inl rfl)) (hb hbytes d6) hl)⟩
  · have c2 : Steps p.tables e below (s₁.setTop (entryFrame m #[.ref x, .ref y] 3)) (s₁.setTop (mkF m 8 #[.val (.ref x), .val (.ref y), .unset] [.ref y])) := c1.trans (by
      refine acmpYes X0.here hexec rfl (pc0 := 2) rfl (hb hbytes d2) rfl rfl rfl (by simp [acmp, hxy]) (by decide) rfl ?_
      refine XS.aloadN X0.here hexec rfl (hb hbytes d7) rfl rfl ?_
      exact Steps.refl _)
    obtain ⟨T3, X3, q3, st3⟩ := cinst X0 hexec hown (wk W (.classLink "java/lang/String" 10 "java/lang/String")) (hy.mv X0.warmed.alike hh0).1 (g := (mkF m 8 #[.val (.ref x), .val (.ref y), .unset] [.ref y])) rfl (rest := []) rfl (hb hbytes d8)
    have hh3 := q3.trans hh0
    have c4 : Steps p.tables e below (s₁.setTop (entryFrame m #[.ref x, .ref y] 3)) (T3.setTop (mkF m 15 #[.val (.ref x), .val (.ref y), .unset] [.ref y])) := (c2.trans (st3 _ (Steps.refl _))).trans (by
      refine XS.ifNo X3.here hexec rfl (hb hbytes d11) rfl (i0_eq_f (by decide)) ?_
      refine XS.aloadN X3.here hexec rfl (hb hbytes d14) rfl rfl ?_
      exact Steps.refl _)
    obtain ⟨T5, X5, q5, st5⟩ := cself X3 hexec hown (wk W (.classLink "java/lang/String" 10 "java/lang/String")) (hy.mv X3.warmed.alike hh3).1 (g := (mkF m 15 #[.val (.ref x), .val (.ref y), .unset] [.ref y])) rfl (rest := []) rfl (hb hbytes d15)
    have hh5 := q5.trans hh3
    have c6 : Steps p.tables e below (s₁.setTop (entryFrame m #[.ref x, .ref y] 3)) (T5.setTop (mkF m 19 #[.val (.ref x), .val (.ref y), .val (.ref y)] [])) := (c4.trans (st5 _ (Steps.refl _))).trans (by
      refine XS.astoreN X5.here hexec rfl (hb hbytes d18) rfl rfl rfl ?_
      exact Steps.refl _)
    obtain ⟨T7, X7, q7, st7⟩ := X5.sget hexec hown (wk W (.fieldLink "java/lang/String" 38 "java/lang/String" "COMPACT_STRINGS" "Z")) s1 (fun _ _ h => by rw [hh5]; exact h) (g := (mkF m 19 #[.val (.ref x), .val (.ref y), .val (.ref y)] [])) rfl (hb hbytes d19)
    have hh7 := q7.trans hh5
    have c8 : Steps p.tables e below (s₁.setTop (entryFrame m #[.ref x, .ref y] 3)) (T7.setTop (mkF m 26 #[.val (.ref x), .val (.ref y), .val (.ref y)] [.ref x])) := (c6.trans (st7 _ (Steps.refl _))).trans (by
      refine XS.ifNo X7.here hexec rfl (hb hbytes d22) rfl (i0_eq_f hz) ?_
      refine XS.aloadN X7.here hexec rfl (hb hbytes d25) rfl rfl ?_
      exact Steps.refl _)
    obtain ⟨T9, X9, q9, st9⟩ := X7.hget hexec hown (wk W (.fieldLink "java/lang/String" 15 "java/lang/String" "coder" "B")) (hx.mv X7.warmed.alike hh7).2.2.1 (g := (mkF m 26 #[.val (.ref x), .val (.ref y), .val (.ref y)] [.ref x])) rfl (rest := []) rfl (hb hbytes d26)
    have hh9 := q9.trans hh7
    have c10 : Steps p.tables e below (s₁.setTop (entryFrame m #[.ref x, .ref y] 3)) (T9.setTop (mkF m 30 #[.val (.ref x), .val (.ref y), .val (.ref y)] [.ref y, .int cd])) := (c8.trans (st9 _ (Steps.refl _))).trans (by
      refine XS.aloadN X9.here hexec rfl (hb hbytes d29) rfl rfl ?_
      exact Steps.refl _)
    obtain ⟨T11, X11, q11, st11⟩ := X9.hget hexec hown (wk W (.fieldLink "java/lang/String" 15 "java/lang/String" "coder" "B")) (hy.mv X9.warmed.alike hh9).2.2.1 (g := (mkF m 30 #[.val (.ref x), .val (.ref y), .val (.ref y)] [.ref y, .int cd])) rfl (rest := [.int cd]) rfl (hb hbytes d30)
    have hh11 := q11.trans hh9
    have c12 : Steps p.tables e below (s₁.setTop (entryFrame m #[.ref x, .ref y] 3)) (T11.setTop (mkF m 33 #[.val (.ref x), .val (.ref y), .val (.ref y)] [.int cd', .int cd])) := c10.trans (st11 _ (Steps.refl _))
    by_cases hcd : cd = cd'
    · subst hcd
      have c13 : Steps p.tables e below (s₁.setTop (entryFrame m #[.ref x, .ref y] 3)) (T11.setTop (mkF m 37 #[.val (.ref x), .val (.ref y), .val (.ref y)] [.ref x])) := c12.trans (by
        refine XS.icmpNo X11.here hexec rfl (hb hbytes d33) rfl (ii_ne_f rfl) ?_
        refine XS.aloadN X11.here hexec rfl (hb hbytes d36) rfl rfl ?_
        exact Steps.refl _)
      obtain ⟨T14, X14, q14, st14⟩ := X11.hget hexec hown (wk W (.fieldLink "java/lang/String" 9 "java/lang/String" "value" "[B")) (hx.mv X11.warmed.alike hh11).2.1 (g := (mkF m 37 #[.val (.ref x), .val (.ref y), .val (.ref y)] [.ref x])) rfl (rest := []) rfl (hb hbytes d37)
      have hh14 := q14.trans hh11
      have c15 : Steps p.tables e below (s₁.setTop (entryFrame m #[.ref x, .ref y] 3)) (T14.setTop (mkF m 41 #[.val (.ref x), .val (.ref y), .val (.ref y)] [.ref y, .ref t])) := (c13.trans (st14 _ (Steps.refl _))).trans (by
        refine XS.aloadN X14.here hexec rfl (hb hbytes d40) rfl rfl ?_
        exact Steps.refl _)
      obtain ⟨T16, X16, q16, st16⟩ := X14.hget hexec hown (wk W (.fieldLink "java/lang/String" 9 "java/lang/String" "value" "[B")) (hy.mv X14.warmed.alike hh14).2.1 (g := (mkF m 41 #[.val (.ref x), .val (.ref y), .val (.ref y)] [.ref y, .ref t])) rfl (rest := [.ref t]) rfl (hb hbytes d41)
      have hh16 := q16.trans hh14
      have c17 : Steps p.tables e below (s₁.setTop (entryFrame m #[.ref x, .ref y] 3)) (T16.setTop (mkF m 44 #[.val (.ref x), .val (.ref y), .val (.ref y)] [.ref t', .ref t])) := c15.trans (st16 _ (Steps.refl _))
      obtain ⟨v18, T18, X18, E18, g18⟩ := X16.callS hexec (LEq.law l t V t' V') hown (wks W (staticW "java/lang/String" 541 LEq.yN)) (wk W LEq.tab) (W := 0) (Nat.le_of_ble_eq_true rfl) (Nat.le_of_ble_eq_true rfl) (Nat.le_refl _) (Nat.le_refl _) (g := (mkF m 44 #[.val (.ref x), .val (.ref y), .val (.ref y)] [.ref t', .ref t])) rfl (by rw [hml]; rfl) c17 (argsL := [.ref t, .ref t']) (rest := []) rfl rfl (by show 2 * 0 + 0 ≤ _; decide) (hb hbytes d44) (⟨rfl, hx.2.2.2.1.mv X16.warmed.alike hh16, hx.2.2.2.2.1.ty, hy.2.2.2.1.mv X16.warmed.alike hh16, hy.2.2.2.2.1.ty⟩)
      obtain ⟨v, rfl, q18, hv⟩ := E18
      have iff := Cod.eqv hx.2.2.2.2.1 hy.2.2.2.2.1 hx.2.2.2.2.2 hy.2.2.2.2.2
      rcases hv with ⟨rfl, he⟩ | ⟨rfl, he⟩
      · have c19 : Steps p.tables e below (s₁.setTop (entryFrame m #[.ref x, .ref y] 3)) (T18.setTop (mkF m 55 #[.val (.ref x), .val (.ref y), .val (.ref y)] [.int 1])) := Steps.trans g18 (by
          refine XS.ifNo X18.here hexec rfl (hb hbytes d47) rfl (i0_eq_f (by decide)) ?_
          refine iconstV X18.here hexec rfl 1 (hb hbytes d50) (by decide) ?_
          refine XS.goto X18.here hexec rfl (pc0 := 51) rfl (hb hbytes d51) (by decide) rfl ?_
          exact Steps.refl _)
        exact ⟨T18, some (.int 1), _, _, _, X18, rfl, rfl, rfl, (fun h => by cases h), ⟨1, rfl, q18.trans hh16, Or.inl ⟨rfl, iff.mp he⟩⟩, fun fs hl => c19.trans (X18.ireturnOut hexec hret rfl (Or.inr (Or.inl rfl)) (hb hbytes d55) hl)⟩
      · have c19 : Steps p.tables e below (s₁.setTop (entryFrame m #[.ref x, .ref y] 3)) (T18.setTop (mkF m 55 #[.val (.ref x), .val (.ref y), .val (.ref y)] [.int 0])) := Steps.trans g18 (by
          refine XS.ifYes X18.here hexec rfl (pc0 := 47) rfl (hb hbytes d47) rfl (i0_eq_t rfl) (by decide) rfl ?_
          refine iconstV X18.here hexec rfl 0 (hb hbytes d54) (by decide) ?_
          exact Steps.refl _)
        exact ⟨T18, some (.int 0), _, _, _, X18, rfl, rfl, rfl, (fun h => by cases h), ⟨0, rfl, q18.trans hh16, Or.inr ⟨rfl, fun q => he (iff.mpr q)⟩⟩, fun fs hl => c19.trans (X18.ireturnOut hexec hret rfl (Or.inr (Or.inl rfl)) (hb hbytes d55) hl)⟩
    · have c13 : Steps p.tables e below (s₁.setTop (entryFrame m #[.ref x, .ref y] 3)) (T11.setTop (mkF m 55 #[.val (.ref x), .val (.ref y), .val (.ref y)] [.int 0])) := c12.trans (by
        refine XS.icmpYes X11.here hexec rfl (pc0 := 33) rfl (hb hbytes d33) rfl (ii_ne_t hcd) (by decide) rfl ?_
        refine iconstV X11.here hexec rfl 0 (hb hbytes d54) (by decide) ?_
        exact Steps.refl _)
      exact ⟨T11, some (.int 0), _, _, _, X11, rfl, rfl, rfl, (fun h => by cases h), ⟨0, rfl, hh11, Or.inr ⟨rfl, Cod.dif hx.2.2.2.2.1 hy.2.2.2.2.1 hcd⟩⟩, fun fs hl => c13.trans (X11.ireturnOut hexec hret rfl (Or.inr (Or.inl rfl)) (hb hbytes d55) hl)⟩
theorem pays {l : Launch} {R : Room} {p : Program} {e : Env} {below : List Frame} {s : State} {sargs : Array Value} {len W : Nat} (x t : Addr) (V : Cell) (cd : Int32) (n : Nat) (f : Nat → Int32) (y t' : Addr) (V' : Cell) (cd' : Int32) (k : Nat) (g : Nat → Int32) (z : Int32) (htab : tab.before sargs s = true) (hfr : 2 ≤ R.frames) (hlo : W + 28 ≤ R.locals) :
    Back l R p e below s sargs yN len W (fun A₁ a₁ => A₁.cells + 0 ≤ R.cells ∧ A₁.slots + 0 ≤ R.slots ∧ P x t V cd n f y t' V' cd' k g z a₁ A₁.U) (fun A₁ _ v₁ B₁ => Says01 (SameT n f k g) v₁ A₁.U B₁.U ∧ B₁.locs = A₁.locs ++ [] ∧ B₁.cells = A₁.cells + 0 ∧ B₁.slots = A₁.slots + 0) :=
  (law l x t V cd n f y t' V' cd' k g z).pays htab hfr (by omega)
end SEq
end StrChars
namespace StrChars.Road
open Jvm Sem ClassFile Op Lib Jvm.Stand Jvm.Free Jvm.Free.XT
open Jvm.Lib.Cold (StaticIs)
/-- the words of String.equals(Object) -/
abbrev wordsEq : List Jvm.Cond := [.code SEq.yN SEq.yB 3 (some .boolean), .initialized ST, .classLink ST 10 ST, .fieldLink ST 38 ST "COMPACT_STRINGS" "Z", .fieldLink ST 15 ST "coder" "B", .fieldLink ST 9 ST "value" "[B", .methodLink ST 541 LEq.yN, .static LEq.yN, .code LEq.yN LEq.yB 3 (some .boolean), .initialized "java/lang/StringLatin1"]
theorem tabEq_of {a : Array Value} {s : State} (h : ∀ w ∈ wordsEq, w.before a s = true) : SEq.tab.before a s = true := by
  have hl : LEq.tab.before a s = true := unparts (wk h (.code LEq.yN LEq.yB 3 (some .boolean))) (wks h (.initialized LEq.yN.cls :: LEq.site))
  have q := consq hl h
  exact unparts (wk q (.code SEq.yN SEq.yB 3 (some .boolean))) (wks q (.initialized SEq.yN.cls :: SEq.site))
theorem movedEq {Z s : State} {a0 args : Array Value} (hZ : Z.Warmed39 s.vm) (hw : ∀ d ∈ wordsEq, d.before a0 Z = true) : ∀ d ∈ wordsEq, d.before args s = true := fun d hd => by
  have t : ∀ d ∈ wordsEq, (d.onTables && d.keepsFace) = true := by decide +kernel
  exact RoadKit.mv hZ (hw d hd) (t d hd)
/-- the road's facts of a String, as the laws ask it -/
theorem txt_of {Z U : State} {a0 : Array Value} {kI : Nat} (wi : (Jvm.Cond.instantiable ST kI).before a0 Z = true) (al : Z.vm.Alike U.vm) {x t : Addr} {kb : ClassId} {cs : List Int32} {cd N2 : Int32} {vs : List Value} (E : RoadKit.Exa Z U.heap x ST) (V : RoadKit.Fld Z U.heap x ST "value" "[B" (.ref t)) (C : RoadKit.Fld Z U.heap x ST "coder" "B" (.int cd)) (K : RoadKit.Arv Z U.heap t kb .byte N2 vs (.int 0)) (hc : CodA cs cd N2 vs) (hb : ∀ c ∈ cs, ¬ c < 0 ∧ ¬ (65535 : Int32) < c) (l2 : cs.length ≤ 4000) :
    ∃ A, Txt x t A cd cs.length (fun j => cs.getD j 0) U := by
  obtain ⟨A, K1, K2, K3, K4, K5, K6⟩ := K
  have hcod := hc.cod (by omega) K3 K5
  obtain ⟨D, fV, fC, hB, F1, F2, g1, g2, -, -⟩ := strObj wi al E V C
  exact ⟨A, ⟨_, hB.2.2.1, D, hB.1, rfl, by cases q : D.vm <;> first | rfl | exact absurd q (hB.2.1.2 _)⟩, Has.of hB F1 g1, Has.of hB F2 g2, ⟨K1.1, State.isArrayOf_alike al K1.2.1, K1.2.2, by rcases hcod with ⟨-, q, -⟩ | ⟨-, q, -⟩ <;> omega⟩, hcod, fun j hj => by
    have e : cs.getD j 0 = cs[j] := by simp [List.getD_eq_getElem?_getD, hj]
    show ¬ cs.getD j 0 < 0 ∧ ¬ 65535 < cs.getD j 0
    rw [e]; exact hb _ (List.getElem_mem _)⟩
theorem same_list (cs ds : List Int32) : SameT cs.length (fun j => cs.getD j 0) ds.length (fun j => ds.getD j 0) ↔ cs = ds := by
  constructor
  · rintro ⟨e, q⟩
    refine List.ext_getElem e fun j h1 h2 => ?_
    have := q j h1
    simpa [List.getD_eq_getElem?_getD, h1, h2] using this
  · rintro rfl
    exact ⟨rfl, fun _ _ => rfl⟩
/-- **equals(Object) OF TWO SUCH STRINGS**: 1 just where the chars are the same -/
theorem eqW {p : Program} {l : Launch} {e : Env} {R : Room} {s : State} {args : Array Value} {below : List Frame} {len W : Nat} {Z : State} {a0 : Array Value} {h : Heap} (hZ : Z.Warmed39 s.vm) (hw : ∀ d ∈ wordsEq, d.before a0 Z = true) {kI : Nat} (wi : (Jvm.Cond.instantiable ST kI).before a0 Z = true)
    {x t : Addr} {kb : ClassId} {cs : List Int32} {cd N2 : Int32} {vs : List Value} (E : RoadKit.Exa Z h x ST) (V : RoadKit.Fld Z h x ST "value" "[B" (.ref t)) (C : RoadKit.Fld Z h x ST "coder" "B" (.int cd)) (K : RoadKit.Arv Z h t kb .byte N2 vs (.int 0)) (hc : CodA cs cd N2 vs) (hb : ∀ c ∈ cs, ¬ c < 0 ∧ ¬ (65535 : Int32) < c) (l2 : cs.length ≤ 4000)
    {y t' : Addr} {kb' : ClassId} {ds : List Int32} {cd' N2' : Int32} {vs' : List Value} (E' : RoadKit.Exa Z h y ST) (V' : RoadKit.Fld Z h y ST "value" "[B" (.ref t')) (C' : RoadKit.Fld Z h y ST "coder" "B" (.int cd')) (K' : RoadKit.Arv Z h t' kb' .byte N2' vs' (.int 0)) (hc' : CodA ds cd' N2' vs') (hb' : ∀ c ∈ ds, ¬ c < 0 ∧ ¬ (65535 : Int32) < c) (l2' : ds.length ≤ 4000)
    {z : Int32} (S : RoadKit.Sta Z h ST "COMPACT_STRINGS" "Z" (.int z)) (hz : ¬ z = 0) (hfr : 2 ≤ R.frames) (hlo : W + 28 ≤ R.locals) :
    Back l R p e below s args (⟨"java/lang/String", "equals", "(Ljava/lang/Object;)Z"⟩ : MethodName) len W (fun P a => a = #[.ref x, .ref y] ∧ P.U.heap = h ∧ P.cells + 0 ≤ R.cells ∧ P.slots + 0 ≤ R.slots)
      (fun P _ v B => ∃ L, (((v = some (.int 1) ∧ cs = ds) ∨ (v = some (.int 0) ∧ ¬ cs = ds)) ∧ L = [] ∧ B.U.heap = h) ∧ B.locs = P.locs ++ L ∧ B.cells = P.cells + 0 ∧ B.slots = P.slots + 0) := by
  intro m meth c P g ig mk a X hg hsize hdg hW hn hp'
  obtain ⟨rfl, rfl, r1, r2⟩ := hp'
  have al : Z.vm.Alike P.U.vm := hZ.alike.trans X.warmed.alike
  obtain ⟨A, hx⟩ := txt_of wi al E V C K hc hb l2
  obtain ⟨A', hy⟩ := txt_of wi al E' V' C' K' hc' hb' l2'
  obtain ⟨v, B, X', ⟨⟨w, hv, hh, hq⟩, hl, hk, hs⟩, st⟩ := SEq.pays x t A cd cs.length (fun j => cs.getD j 0) y t' A' cd' ds.length (fun j => ds.getD j 0) z (tabEq_of (movedEq hZ hw)) hfr hlo m meth c P g ig mk _ X hg hsize hdg hW hn ⟨r1, r2, rfl, hx, hy, sta_is al S, hz⟩
  refine ⟨v, B, X', ⟨[], ⟨?_, rfl, hh⟩, hl, hk, hs⟩, st⟩
  rcases hq with ⟨rfl, q⟩ | ⟨rfl, q⟩
  · exact Or.inl ⟨hv, (same_list cs ds).mp q⟩
  · exact Or.inr ⟨hv, fun e => q ((same_list cs ds).mpr e)⟩
end StrChars.Road
namespace StrChars.Road
open Jvm Sem ClassFile Op Lib Jvm.Stand Jvm.Free Jvm.Free.XT
open Jvm.Lib.Cold (StaticIs)
/-- what backV says of its String, as the contracts of this text ask it: cs's low bytes, coder 0 -/
theorem codOf {cs : List Int32} {n : Nat} (hn : cs.length = n) (hb : ∀ c ∈ cs, ¬ 255 < c) : CodA cs 0 (Int32.ofNat n) ((cs.map lo8).map Value.int) := Or.inl ⟨rfl, by rw [hn], by simp [List.map_map, Function.comp_def], hb⟩
end StrChars.Road
end Jvm.Pilot.@@N@@
namespace Jvm.Pilot.@@N@@
open Jvm Jvm.ClassFile Sem Op Lib Jvm.Free Jvm.Stand Jvm.LawKit Jvm.RoadKit Bundle Jvm.Pilot.@@N@@.Jvm.D
def own_EL : List (String × Nat) := [("java/lang/String", 7)]
theorem own_EW {Z : State} {a0 : Array Value} (hw : ∀ d ∈ tables_1, d.before a0 Z = true) : EW Z a0 own_EL := (EW.cons (hw _ (List.mem_of_getElem? (i := 18) rfl)) (by decide) EW.nil)
theorem own_wS {Z : State} {a0 : Array Value} (hw : ∀ d ∈ tables_1, d.before a0 Z = true) : ∀ a ∈ Bundle.stringAtoms, a.before a0 Z = true := fun d hd => hw d ((by decide +kernel : ∀ d ∈ Bundle.stringAtoms, d ∈ tables_1) d hd)
theorem own_and255 (x : Int32) : ¬ nar .char ((x &&& (255 : Int32)).toUInt32.toUInt16.toUInt32.toInt32) < 0 ∧ ¬ (255 : Int32) < nar .char ((x &&& (255 : Int32)).toUInt32.toUInt16.toUInt32.toInt32) := by
  have h := c_i2c (x &&& (255 : Int32)); have h2 := c_and x 255 (by decide)
  have h3 := c_i2c ((x &&& (255 : Int32)).toUInt32.toUInt16.toUInt32.toInt32)
  have e : (255 : Int32).toInt = 255 := by decide
  have z : (0 : Int32).toInt = 0 := by decide
  show ¬ ((x &&& (255 : Int32)).toUInt32.toUInt16.toUInt32.toInt32).toUInt32.toUInt16.toUInt32.toInt32 < 0 ∧ ¬ (255 : Int32) < ((x &&& (255 : Int32)).toUInt32.toUInt16.toUInt32.toInt32).toUInt32.toUInt16.toUInt32.toInt32
  simp only [Int32.lt_iff_toInt_lt]
  omega
theorem own_narc (x : Int32) : nar .char (x.toUInt32.toUInt16.toUInt32.toInt32) = x.toUInt32.toUInt16.toUInt32.toInt32 := by
  show (x.toUInt32.toUInt16.toUInt32.toInt32).toUInt32.toUInt16.toUInt32.toInt32 = _
  simp only [UInt32.toUInt32_toInt32, UInt16.toUInt16_toUInt32]
theorem own_narb (x : Int32) : nar .byte (x.toInt8.toInt32) = x.toInt8.toInt32 := by
  show (x.toInt8.toInt32).toInt8.toInt32 = _
  simp
theorem own_ci (x : Int32) : ¬ (x &&& (255 : Int32)).toUInt32.toUInt16.toUInt32.toInt32 < 0 ∧ ¬ (255 : Int32) < (x &&& (255 : Int32)).toUInt32.toUInt16.toUInt32.toInt32 := by
  have h := c_i2c (x &&& (255 : Int32)); have h2 := c_and x 255 (by decide)
  have e : (255 : Int32).toInt = 255 := by decide
  have z : (0 : Int32).toInt = 0 := by decide
  simp only [Int32.lt_iff_toInt_lt]
  omega


/-- a String at a spells cs (each 0 to 255) -/
def Str (Z : State) (h : Heap) (a : Addr) (cs : List Int32) : Prop := ∃ (t : Addr) (kb : ClassId), Exa Z h a "java/lang/String" ∧ Fld Z h a "java/lang/String" "coder" "B" (.int 0) ∧ Fld Z h a "java/lang/String" "value" "[B" (.ref t) ∧ Arv Z h t kb .byte (Int32.ofNat cs.length) ((cs.map (fun c => c.toInt8.toInt32)).map Value.int) (.int 0)
theorem Str.exa {Z : State} {h : Heap} {a : Addr} {cs : List Int32} (F : Str Z h a cs) : Exa Z h a "java/lang/String" := by obtain ⟨t, kb, E, -⟩ := F; exact E
theorem Str.lt {Z : State} {h : Heap} {a : Addr} {cs : List Int32} (F : Str Z h a cs) : a < h.size := F.exa.lt
theorem Str.ext {Z : State} {h h' : Heap} {a : Addr} {cs : List Int32} (F : Str Z h a cs) (E : Ext h h') : Str Z h' a cs := by obtain ⟨t, kb, x, c, v, k⟩ := F; exact ⟨t, kb, x.ext E, c.ext E, v.ext E, k.ext E⟩
theorem Str.keep0 {Z : State} {h h' : Heap} {a : Addr} {cs : List Int32} (F : Str Z h a cs) (K : Keep h h' []) : Str Z h' a cs := by obtain ⟨t, kb, x, c, v, k⟩ := F; exact ⟨t, kb, x.keep K, c.keep K nin0, v.keep K nin0, k.keep K nin0⟩
theorem Str.keepE {Z : State} {h h' : Heap} {a b : Addr} {C : String} {cs : List Int32} (F : Str Z h a cs) (K : Keep h h' [b]) (E : Exa Z h b C) (hC : C ≠ "java/lang/String") {a0 : Array Value} {n : Nat} (w : (Cond.instantiable C n).before a0 Z = true) : Str Z h' a cs := by
  obtain ⟨t, kb, x, c, v, k⟩ := F
  have n1 : a ≠ b := Ne.symm (Exa.ne E x hC)
  have n2 : t ≠ b := Ne.symm (Exa.neArv E k w)
  exact ⟨t, kb, x.keep K, c.keep K (ninS n1 nin0), v.keep K (ninS n1 nin0), k.keep K (ninS n2 nin0)⟩
theorem Str.wrE {Z : State} {h h' : Heap} {a b : Addr} {C : String} {cs : List Int32} {sl : Nat} {v : Value} (F : Str Z h a cs) (W : Wr h h' b sl v) (E : Exa Z h b C) (hC : C ≠ "java/lang/String") {a0 : Array Value} {n : Nat} (w : (Cond.instantiable C n).before a0 Z = true) : Str Z h' a cs := F.keepE (Keep.of_wr W) E hC w
theorem own_up {cs : List Int32} (hb : ∀ c ∈ cs, ¬ c < 0 ∧ ¬ (255 : Int32) < c) : ∀ c ∈ cs, ¬ c < 0 ∧ ¬ (65535 : Int32) < c := fun c hc => by
  have h := hb c hc
  have e1 : (255 : Int32).toInt = 255 := by decide
  have e2 : (65535 : Int32).toInt = 65535 := by decide
  simp only [Int32.lt_iff_toInt_lt] at h ⊢
  omega

theorem own_eqB {p : Program} {l : Launch} {e : Env} {R : Room} {s : State} {args : Array Value} {below : List Frame} {len W : Nat} {Z : State} {a0 : Array Value} {h : Heap} {x y : Addr} {cs ds : List Int32} {z : Int32} (hZ : Z.Warmed39 s.vm) (hw : ∀ d ∈ tables_1, d.before a0 Z = true) (F : Str Z h x cs) (hb : ∀ c ∈ cs, ¬ c < 0 ∧ ¬ (255 : Int32) < c) (l2 : cs.length ≤ 4000) (F' : Str Z h y ds) (hb' : ∀ c ∈ ds, ¬ c < 0 ∧ ¬ (255 : Int32) < c) (l2' : ds.length ≤ 4000)
    (S : Sta Z h "java/lang/String" "COMPACT_STRINGS" "Z" (.int z)) (hz : ¬ z = 0) (hfr : 2 ≤ R.frames) (hlo : W + 28 ≤ R.locals) :
    Back l R p e below s args (⟨"java/lang/String", "equals", "(Ljava/lang/Object;)Z"⟩ : MethodName) len W (fun P a => a = #[.ref x, .ref y] ∧ P.U.heap = h ∧ P.cells + 0 ≤ R.cells ∧ P.slots + 0 ≤ R.slots)
      (fun P _ v B => ∃ L, (((v = some (.int 1) ∧ cs = ds) ∨ (v = some (.int 0) ∧ ¬ cs = ds)) ∧ L = [] ∧ B.U.heap = h) ∧ B.locs = P.locs ++ L ∧ B.cells = P.cells + 0 ∧ B.slots = P.slots + 0) := by
  obtain ⟨t, kb, E, C, V, K⟩ := F
  obtain ⟨t', kb', E', C', V', K'⟩ := F'
  exact StrChars.Road.eqW hZ (fun d hd => hw d ((by decide +kernel : ∀ d ∈ StrChars.Road.wordsEq, d ∈ tables_1) d hd)) (kI := 4) (hw _ (List.mem_of_getElem? (i := 6) rfl)) E V C K (StrChars.Road.codOf rfl fun c hc => (hb c hc).2) (own_up hb) l2 E' V' C' K' (StrChars.Road.codOf rfl fun c hc => (hb' c hc).2) (own_up hb') l2' S hz hfr hlo

theorem own_nc {x : Int32} (h : ¬ x < 0 ∧ ¬ (255 : Int32) < x) : nar .char x = x := by
  have a := c_i2c x
  have e : (255 : Int32).toInt = 255 := by decide
  have z : (0 : Int32).toInt = 0 := by decide
  show x.toUInt32.toUInt16.toUInt32.toInt32 = x
  simp only [Int32.lt_iff_toInt_lt] at h
  rw [← Int32.toInt_inj]
  omega
theorem own_nb {x : Int32} (h : ¬ x < 0 ∧ ¬ (255 : Int32) < x) : ¬ nar .char x < 0 ∧ ¬ (255 : Int32) < nar .char x := by rw [own_nc h]; exact h
theorem own_len {Z : State} {args : Array Value} {t : Term} {a : Addr} {c : Cell} {ty : FieldType} {z : Int32} (et : t.eval args Z none [] Z = some (.ref a)) (A : Arr Z Z.heap a c ty) (hl : (Term.length t).eval args Z none [] Z = some (.int z)) : c.slots.size < 2 ^ 31 ∧ c.slots.size.toInt32 = z := by
  have q := A.fin (Vm.Alike.refl _)
  simp [Term.eval, et, q] at hl
  exact ⟨hl.1, hl.2⟩
theorem own_elR {Z : State} {args : Array Value} {t F : Term} {a y : Addr} {c : Cell} {ty : FieldType} {j : Int32} (et : t.eval args Z none [] Z = some (.ref a)) (A : Arr Z Z.heap a c ty) (hj : ¬ j < 0) (hF : F.eval args Z none [] Z = some (.ref y)) (h : (Cond.eq (Term.elem t (Term.int j)) F).value args Z none Z [] = some true) : c.slots[j.toNatClampNeg]? = some (.ref y) := by
  obtain ⟨x, y', e1, e2, k1, k2⟩ := cmp_v (Or.inl h)
  cases hF.symm.trans e2
  have hx : x.isRef = true := by cases x <;> simp_all [Kin, Value.isRef]
  have q := gotT (eq_R e1 e2 hx rfl) h
  rw [elem_f et (Term.int_eval j) (A.fin (Vm.Alike.refl _)) hj] at e1
  rw [e1, q]
theorem own_elI {Z : State} {args : Array Value} {t : Term} {a : Addr} {c : Cell} {ty : FieldType} {j y : Int32} (et : t.eval args Z none [] Z = some (.ref a)) (A : Arr Z Z.heap a c ty) (hj : ¬ j < 0) (h : (Cond.eq (Term.elem t (Term.int j)) (Term.int y)).value args Z none Z [] = some true) : c.slots[j.toNatClampNeg]? = some (.int y) := by
  have q := eqv_i (Term.int_eval y) h
  rw [elem_f et (Term.int_eval j) (A.fin (Vm.Alike.refl _)) hj] at q
  exact q
theorem own_safe_new {Z : State} {EL : List (String × Nat)} {vm : Vm} {h : Heap} {x : Addr} (hal : Z.vm.Alike vm) (E : Exa Z h x "java/lang/String") (F : Fld Z h x "java/lang/String" "value" "[B" .null) : Safe Z EL vm h x := fun B => by
  obtain ⟨p, hp, u, a, hb, q, hqa, S, hy⟩ := B
  obtain ⟨cS, ⟨⟨s1, s2, s3, ⟨cv, kv, iv, s4, s4'⟩, ⟨cc, kc, ic, s5, s5'⟩, s6, s7, s8, s9, s10, s11, s12, s13, s14, s15, s16⟩, hfS, hcS⟩, ⟨kS, k1, k2, k3⟩, hB, hbyt⟩ := S
  rcases hy with hy | hy
  · obtain ⟨cell, cf, k, i, f, h1, h2, h3, h4, h5, h6, h7⟩ := F
    obtain ⟨kv', z4⟩ := ff_back (U := Wst Z vm h) hal s4
    subst hy
    have s1' : h[q.sa]? = some q.sC := s1
    cases h1.symm.trans s1'
    cases h2.symm.trans z4
    cases h7.symm.trans s8
  · obtain ⟨cell, k, h1, h2, -⟩ := E
    subst hy
    have s10' : h[q.sd]? = some q.SA := s10
    cases h1.symm.trans s10'
    have hB' : vm.findClass "[B" = some q.SA.cls := hB
    rw [hal.findClass] at hB'
    exact ids_ne h2 hB' (by decide) rfl
theorem ef_0 (m : MethodId) (x0 : Addr) (x1 : Addr) (x2 : Int32) (x3 : Int32) : entryFrame m #[(.ref x0), (.ref x1), (.int x2), (.int x3), .null] 6 = mkF m 0 #[.val (.ref x0), .val (.ref x1), .val (.int x2), .val (.int x3), .val .null, .unset] [] := by first | (simp [entryFrame, mkF, argsToLocals, Value.category]; done) | rfl
theorem d_jdk_42_method_149_code_0 : decode jdk_42_method_149_code 0 = .ok (.aload_n 0, 1) := by decide +kernel
theorem d_jdk_42_method_149_code_1 : decode jdk_42_method_149_code 1 = .ok (.invokespecial 1, 3) := by decide +kernel
theorem d_jdk_42_method_149_code_4 : decode jdk_42_method_149_code 4 = .ok (.iload_n 3, 1) := by decide +kernel
theorem d_jdk_42_method_149_code_5 : decode jdk_42_method_149_code 5 = .ok (.ifCond .ne 22, 3) := by decide +kernel
theorem d_jdk_42_method_149_code_8 : decode jdk_42_method_149_code 8 = .ok (.aload_n 0, 1) := by decide +kernel
theorem d_jdk_42_method_149_code_9 : decode jdk_42_method_149_code 9 = .ok (.ldc 7, 2) := by decide +kernel
theorem d_jdk_42_method_149_code_11 : decode jdk_42_method_149_code 11 = .ok (.getfield 9, 3) := by decide +kernel
theorem d_jdk_42_method_149_code_14 : decode jdk_42_method_149_code 14 = .ok (.putfield 9, 3) := by decide +kernel
theorem d_jdk_42_method_149_code_17 : decode jdk_42_method_149_code 17 = .ok (.aload_n 0, 1) := by decide +kernel
theorem d_jdk_42_method_149_code_18 : decode jdk_42_method_149_code 18 = .ok (.ldc 7, 2) := by decide +kernel
theorem d_jdk_42_method_149_code_20 : decode jdk_42_method_149_code 20 = .ok (.getfield 15, 3) := by decide +kernel
theorem d_jdk_42_method_149_code_23 : decode jdk_42_method_149_code 23 = .ok (.putfield 15, 3) := by decide +kernel
theorem d_jdk_42_method_149_code_26 : decode jdk_42_method_149_code 26 = .ok (.return_, 1) := by decide +kernel
theorem pn_14 : plainName "java/lang/String" = true := by first | (simp [plainName, overriddenIn]; done) | decide +kernel
set_option maxRecDepth 65536 in
set_option maxHeartbeats 40000000 in
theorem rm_sv0 (l : Launch) (Z : State) (a0 : Array Value) (hw : ∀ d ∈ tables_1, d.before a0 Z = true) (ws : List Jvm.Cond) (a : Addr) (b : Addr) (h0 : Heap) (n0 : Nat) (Z0 : n0 ≤ h0.size) (O0 : Old Z n0 h0) (E_a : Exa Z h0 a "java/lang/String") (F_v : Fld Z h0 a "java/lang/String" "value" "[B" .null) (F_c : Fld Z h0 a "java/lang/String" "coder" "B" (.int (0 : Int32))) (g_a : n0 ≤ a) :
    CtrW l Z own_EL (⟨"java/lang/String", "<init>", "([CIILjava/lang/Void;)V"⟩ : MethodName) jdk_42_method_149_code 6 ((Option.none : Option Jvm.ClassFile.FieldType)) ws ({ frames := 1, cells := 4, slots := 8, locals := 12 } : Room) #[(.ref a), (.ref b), (.int (0 : Int32)), (.int (0 : Int32)), .null] h0 (fun v h L => v = none ∧ Fr n0 L ∧ Keep h0 h [a] ∧ Str Z h a []) := by
  refine CtrW.of (MetFree.of_bodySF (plainFor_of_name pn_14) hisR ?_)
  intro p e s m args below meth c s₁ Bd hml0 hP hK
  obtain ⟨rfl, hZ0, hh, hC⟩ := hP
  have hx := Bd.exec
  have hby := Bd.bytes
  have hml : c.maxLocals = 6 := hml0
  have hZ : Z.Warmed39 (s.setVm s.vm).vm := hZ0
  have hown : (s.setVm s.vm).vm.findClass "java/lang/String" = some m.cls := findClass_of_methodNamed Bd.named
  have hnm := (name_of_methodNamed Bd.named Bd.method).1
  have X0 : Stand p l e ({ frames := 1, cells := 4, slots := 8, locals := 12 } : Room) (s.setVm s.vm) m #[(.ref a), (.ref b), (.int (0 : Int32)), (.int (0 : Int32)), .null] below meth c s₁ [] 0 0 := Stand.of_body Bd
  have e0 : s₁.heap = h0 := by rw [← hh, Bd.state]; rfl
  have N0 := Fr.nil n0
  have K0 : Keep h0 h0 [a] := Keep.refl h0 [a]
  have hS : s.Since s.vm 0 := (State.WarmedH.refl s).since 0
  have hk : 0 ≤ h0.size := Nat.zero_le _
  have R0 : CHr Z own_EL s.vm h0 s.vm h0 := CHr.refl hC
  show OwnGoW p e below s Z own_EL (fun v h L => v = none ∧ Fr n0 L ∧ Keep h0 h [a] ∧ Str Z h a []) ({ frames := 1, cells := 4, slots := 8, locals := 12 } : Room).cells ({ frames := 1, cells := 4, slots := 8, locals := 12 } : Room).slots _
  refine gsW (S' := s₁.setTop (mkF m 0 #[.val (.ref a), .val (.ref b), .val (.int (0 : Int32)), .val (.int (0 : Int32)), .val .null, .unset] [])) (fun tg kg => castTop (ef_0 m a b (0 : Int32) (0 : Int32)) kg) ?_
  have sfa0 : Safe Z own_EL s.vm h0 a := own_safe_new hZ0.alike E_a F_v
  have c1 : ∀ tg, Steps p.tables e below (s₁.setTop (mkF m 1 #[.val (.ref a), .val (.ref b), .val (.int (0 : Int32)), .val (.int (0 : Int32)), .val .null, .unset] [(.ref a)])) tg → Steps p.tables e below (s₁.setTop (mkF m 0 #[.val (.ref a), .val (.ref b), .val (.int (0 : Int32)), .val (.int (0 : Int32)), .val .null, .unset] [])) tg := fun tg kg => by
    refine XS.aloadN X0.here hx rfl (hb hby d_jdk_42_method_149_code_0) rfl rfl ?_
    show Steps p.tables e below (s₁.setTop (mkF m 1 #[.val (.ref a), .val (.ref b), .val (.int (0 : Int32)), .val (.int (0 : Int32)), .val .null, .unset] [(.ref a)])) tg
    exact kg
  refine gsW c1 ?_
  obtain ⟨T2, X2, e2, st2⟩ := initO X0 hx hZ hown (hw _ (List.mem_of_getElem? (i := 15) rfl)) (hw _ (List.mem_of_getElem? (i := 16) rfl)) (hw _ (List.mem_of_getElem? (i := 17) rfl)) e0 (g := (mkF m 1 #[.val (.ref a), .val (.ref b), .val (.int (0 : Int32)), .val (.int (0 : Int32)), .val .null, .unset] [(.ref a)])) rfl (by rw [hml]; rfl) rfl (hb hby d_jdk_42_method_149_code_1) (by decide) (W := 0) (by show 2 * 0 + _ ≤ _; exact Nat.le_of_eq rfl) (by decide)
  refine gsW st2 ?_
  show OwnGoW p e below s Z own_EL _ _ _ (T2.setTop (mkF m 4 #[.val (.ref a), .val (.ref b), .val (.int (0 : Int32)), .val (.int (0 : Int32)), .val .null, .unset] []))
  have c3 : ∀ tg, Steps p.tables e below (T2.setTop (mkF m 9 #[.val (.ref a), .val (.ref b), .val (.int (0 : Int32)), .val (.int (0 : Int32)), .val .null, .unset] [(.ref a)])) tg → Steps p.tables e below (T2.setTop (mkF m 4 #[.val (.ref a), .val (.ref b), .val (.int (0 : Int32)), .val (.int (0 : Int32)), .val .null, .unset] [])) tg := fun tg kg => by
    refine XS.iloadN X2.here hx rfl (hb hby d_jdk_42_method_149_code_4) rfl ?_
    show Steps p.tables e below (T2.setTop (mkF m 5 #[.val (.ref a), .val (.ref b), .val (.int (0 : Int32)), .val (.int (0 : Int32)), .val .null, .unset] [(.int (0 : Int32))])) tg
    refine XS.ifNo X2.here hx rfl (hb hby d_jdk_42_method_149_code_5) rfl ((if0 _ _).trans (teq (by decide : (0 : Int32) = (0 : Int32))).2) ?_
    show Steps p.tables e below (T2.setTop (mkF m 8 #[.val (.ref a), .val (.ref b), .val (.int (0 : Int32)), .val (.int (0 : Int32)), .val .null, .unset] [])) tg
    refine XS.aloadN X2.here hx rfl (hb hby d_jdk_42_method_149_code_8) rfl rfl ?_
    show Steps p.tables e below (T2.setTop (mkF m 9 #[.val (.ref a), .val (.ref b), .val (.int (0 : Int32)), .val (.int (0 : Int32)), .val .null, .unset] [(.ref a)])) tg
    exact kg
  refine gsW c3 ?_
  obtain ⟨a4, T4, h4, k4, t4, kb4, X4, e4, E4, hS, hk4, hZ, hown, g4e, g4c, g4v, g4a, -, -, r4x, -, ne4, st4⟩ := ldcCH X2 hx hZ hown (hw _ (List.mem_of_getElem? (i := 18) rfl)) (own_wS hw) e2 hS hk (own_EW hw) (List.mem_of_getElem? (i := 0) rfl) R0.1 (vs := ((([] : List Int32).map (fun c => c.toInt8.toInt32)).map Value.int)) (z := (0 : Int32)) ⟨by decide, by rfl⟩ (by decide) rfl (g := (mkF m 9 #[.val (.ref a), .val (.ref b), .val (.int (0 : Int32)), .val (.int (0 : Int32)), .val .null, .unset] [(.ref a)])) rfl (hb hby d_jdk_42_method_149_code_9) (n := 0) (by decide) (by decide) (by decide) (by decide)
  have r5 : CHr Z own_EL s.vm h0 T4.vm h4 := r4x
  have R5 : CHr Z own_EL s.vm h0 T4.vm h4 := R0.trans r5
  have Z5 : n0 ≤ h4.size := Nat.le_trans Z0 E4.1
  have O5 : Old Z n0 h4 := O0.ext E4
  have K5 : Keep h0 h4 [a] := K0.ext E4
  have T4q : Str Z h4 a4 ([] : List Int32) := ⟨_, _, g4e, g4c, g4v, g4a⟩
  have f6 := (r5.safe (Nat.lt_of_lt_of_le E_a.lt (Nat.le_refl _)) sfa0)
  refine gsW st4 ?_
  show OwnGoW p e below s Z own_EL _ _ _ (T4.setTop (mkF m 11 #[.val (.ref a), .val (.ref b), .val (.int (0 : Int32)), .val (.int (0 : Int32)), .val .null, .unset] [(.ref a4), (.ref a)]))
  obtain ⟨T7, X7, e7, st7⟩ := getF X4 hx hZ hown (host := "") (Or.inl (hw _ (List.mem_of_getElem? (i := 24) rfl))) Via.refl e4 g4v (g := (mkF m 11 #[.val (.ref a), .val (.ref b), .val (.int (0 : Int32)), .val (.int (0 : Int32)), .val .null, .unset] [(.ref a4), (.ref a)])) rfl rfl (hb hby d_jdk_42_method_149_code_11)
  refine gsW st7 ?_
  show OwnGoW p e below s Z own_EL _ _ _ (T7.setTop (mkF m 14 #[.val (.ref a), .val (.ref b), .val (.int (0 : Int32)), .val (.int (0 : Int32)), .val .null, .unset] [(.ref t4), (.ref a)]))
  have f8 := (F_v.ext E4)
  have f9 := (E_a.ext E4)
  obtain ⟨T10, h10, X10, e10, W10, st10⟩ := putF X7 hx hZ hown (host := "") (Or.inl (hw _ (List.mem_of_getElem? (i := 24) rfl))) Via.refl e7 f8 f9 (Or.inr ⟨(hw _ (List.mem_of_getElem? (i := 20) rfl)), rfl, hnm⟩) (hw _ (List.mem_of_getElem? (i := 6) rfl)) (ty := (.array .byte)) (by decide) rfl rfl (g := (mkF m 14 #[.val (.ref a), .val (.ref b), .val (.int (0 : Int32)), .val (.int (0 : Int32)), .val .null, .unset] [(.ref t4), (.ref a)])) rfl rfl (hb hby d_jdk_42_method_149_code_14)
  have N10 := Fr.snoc X10 N0 g_a
  have Fw10 := f8.same W10
  have r11 : CHr Z own_EL T4.vm h4 T4.vm h10 := CHr.wr W10 f6 R5.1
  have R11 : CHr Z own_EL s.vm h0 T4.vm h10 := R5.trans r11
  have Z11 : n0 ≤ h10.size := Nat.le_trans Z5 (Keep.of_wr W10).1
  have O11 : Old Z n0 h10 := O5.wr W10 g_a
  have K11 : Keep h0 h10 [a] := K5.wr W10 (Or.inl (List.mem_of_getElem? (i := 0) rfl))
  refine gsW st10 ?_
  show OwnGoW p e below s Z own_EL _ _ _ (T10.setTop (mkF m 17 #[.val (.ref a), .val (.ref b), .val (.int (0 : Int32)), .val (.int (0 : Int32)), .val .null, .unset] []))
  have c12 : ∀ tg, Steps p.tables e below (T10.setTop (mkF m 18 #[.val (.ref a), .val (.ref b), .val (.int (0 : Int32)), .val (.int (0 : Int32)), .val .null, .unset] [(.ref a)])) tg → Steps p.tables e below (T10.setTop (mkF m 17 #[.val (.ref a), .val (.ref b), .val (.int (0 : Int32)), .val (.int (0 : Int32)), .val .null, .unset] [])) tg := fun tg kg => by
    refine XS.aloadN X10.here hx rfl (hb hby d_jdk_42_method_149_code_17) rfl rfl ?_
    show Steps p.tables e below (T10.setTop (mkF m 18 #[.val (.ref a), .val (.ref b), .val (.int (0 : Int32)), .val (.int (0 : Int32)), .val .null, .unset] [(.ref a)])) tg
    exact kg
  refine gsW c12 ?_
  obtain ⟨a13, T13, h13, k13, t13, kb13, X13, e13, E13, hS, hk13, hZ, hown, g13e, g13c, g13v, g13a, -, -, r13x, -, ne13, st13⟩ := ldcCH X10 hx hZ hown (hw _ (List.mem_of_getElem? (i := 18) rfl)) (own_wS hw) e10 hS (Nat.le_trans hk4 (Keep.of_wr W10).1) (own_EW hw) (List.mem_of_getElem? (i := 0) rfl) R11.1 (vs := ((([] : List Int32).map (fun c => c.toInt8.toInt32)).map Value.int)) (z := (0 : Int32)) ⟨by decide, by rfl⟩ (by decide) rfl (g := (mkF m 18 #[.val (.ref a), .val (.ref b), .val (.int (0 : Int32)), .val (.int (0 : Int32)), .val .null, .unset] [(.ref a)])) rfl (hb hby d_jdk_42_method_149_code_18) (n := 0) (by decide) (by decide) (by decide) (by decide)
  have r14 : CHr Z own_EL T4.vm h10 T13.vm h13 := r13x
  have R14 : CHr Z own_EL s.vm h0 T13.vm h13 := R11.trans r14
  have Z14 : n0 ≤ h13.size := Nat.le_trans Z11 E13.1
  have O14 : Old Z n0 h13 := O11.ext E13
  have K14 : Keep h0 h13 [a] := K11.ext E13
  have T13q : Str Z h13 a13 ([] : List Int32) := ⟨_, _, g13e, g13c, g13v, g13a⟩
  have f15 := (r14.safe (Nat.lt_of_lt_of_le E_a.lt (Nat.le_trans E4.1 (Keep.of_wr W10).1)) (r11.safe (Nat.lt_of_lt_of_le E_a.lt E4.1) f6))
  refine gsW st13 ?_
  show OwnGoW p e below s Z own_EL _ _ _ (T13.setTop (mkF m 20 #[.val (.ref a), .val (.ref b), .val (.int (0 : Int32)), .val (.int (0 : Int32)), .val .null, .unset] [(.ref a13), (.ref a)]))
  obtain ⟨T16, X16, e16, st16⟩ := getF X13 hx hZ hown (host := "") (Or.inl (hw _ (List.mem_of_getElem? (i := 25) rfl))) Via.refl e13 g13c (g := (mkF m 20 #[.val (.ref a), .val (.ref b), .val (.int (0 : Int32)), .val (.int (0 : Int32)), .val .null, .unset] [(.ref a13), (.ref a)])) rfl rfl (hb hby d_jdk_42_method_149_code_20)
  refine gsW st16 ?_
  show OwnGoW p e below s Z own_EL _ _ _ (T16.setTop (mkF m 23 #[.val (.ref a), .val (.ref b), .val (.int (0 : Int32)), .val (.int (0 : Int32)), .val .null, .unset] [(.int (0 : Int32)), (.ref a)]))
  have f17 := (((F_c.ext E4).other W10 (Or.inr (slot_ne (Or.inr (hw _ (List.mem_of_getElem? (i := 21) rfl))) (Or.inr (hw _ (List.mem_of_getElem? (i := 20) rfl))) (by decide) (t := .byte) (t' := (.array .byte)) (by decide) (by decide)))).ext E13)
  have f18 := ((f9.wr W10).ext E13)
  obtain ⟨T19, h19, X19, e19, W19, st19⟩ := putFN X16 hx hZ hown (hw _ (List.mem_of_getElem? (i := 25) rfl)) Via.refl e16 f17 f18 (Or.inr ⟨(hw _ (List.mem_of_getElem? (i := 21) rfl)), rfl, hnm⟩) (hw _ (List.mem_of_getElem? (i := 6) rfl)) (ty := .byte) (v' := (.int (0 : Int32))) (by decide) rfl rfl (g := (mkF m 23 #[.val (.ref a), .val (.ref b), .val (.int (0 : Int32)), .val (.int (0 : Int32)), .val .null, .unset] [(.int (0 : Int32)), (.ref a)])) rfl rfl (hb hby d_jdk_42_method_149_code_23)
  have N19 := Fr.snoc X19 N10 g_a
  have Fw19 := f17.same W19
  have r20 : CHr Z own_EL T13.vm h13 T13.vm h19 := CHr.wr W19 f15 R14.1
  have R20 : CHr Z own_EL s.vm h0 T13.vm h19 := R14.trans r20
  have Z20 : n0 ≤ h19.size := Nat.le_trans Z14 (Keep.of_wr W19).1
  have O20 : Old Z n0 h19 := O14.wr W19 g_a
  have K20 : Keep h0 h19 [a] := K14.wr W19 (Or.inl (List.mem_of_getElem? (i := 0) rfl))
  refine gsW st19 ?_
  show OwnGoW p e below s Z own_EL _ _ _ (T19.setTop (mkF m 26 #[.val (.ref a), .val (.ref b), .val (.int (0 : Int32)), .val (.int (0 : Int32)), .val .null, .unset] []))
  have f21 := (f18.wr W19)
  have f22 := ((Fw10.ext E13).other W19 (Or.inr (slot_ne (Or.inr (hw _ (List.mem_of_getElem? (i := 20) rfl))) (Or.inr (hw _ (List.mem_of_getElem? (i := 21) rfl))) (by decide) (t := (.array .byte)) (t' := .byte) (by decide) (by decide))))
  have f23 := (((g4a.other W10 (Ne.symm (ne4 _ f6).2)).ext E13).other W19 (Ne.symm (ne4 _ f6).2))
  refine goutW (v := none) X19 hS (Nat.le_trans hk13 (Keep.of_wr W19).1) hZ (own_EW hw) hh e19 R20 Bd.notSynchronized (fun _ => rfl) (by decide) (by decide) ?_ (fun fs hr => X19.returnOut hx Bd.returns (hb hby d_jdk_42_method_149_code_26) hr)
  exact ⟨rfl, N19, K20, _, _, f21, Fw19, f22, f23⟩
theorem ef_15 (m : MethodId) (x0 : Addr) (x1 : Addr) : entryFrame m #[(.ref x0), (.ref x1)] 2 = mkF m 0 #[.val (.ref x0), .val (.ref x1)] [] := by first | (simp [entryFrame, mkF, argsToLocals, Value.category]; done) | rfl
theorem d_jdk_42_method_3_code_0 : decode jdk_42_method_3_code 0 = .ok (.aload_n 0, 1) := by decide +kernel
theorem d_jdk_42_method_3_code_1 : decode jdk_42_method_3_code 1 = .ok (.aload_n 1, 1) := by decide +kernel
theorem d_jdk_42_method_3_code_2 : decode jdk_42_method_3_code 2 = .ok (.iconst 0, 1) := by decide +kernel
theorem d_jdk_42_method_3_code_3 : decode jdk_42_method_3_code 3 = .ok (.aload_n 1, 1) := by decide +kernel
theorem d_jdk_42_method_3_code_4 : decode jdk_42_method_3_code 4 = .ok (.arraylength, 1) := by decide +kernel
theorem d_jdk_42_method_3_code_5 : decode jdk_42_method_3_code 5 = .ok (.aconst_null, 1) := by decide +kernel
theorem d_jdk_42_method_3_code_6 : decode jdk_42_method_3_code 6 = .ok (.invokespecial 27, 3) := by decide +kernel
theorem pd_23 : parseMethodDescriptor "([CIILjava/lang/Void;)V" = some ⟨[(.array .char), .int, .int, (.object "java/lang/Void")], none⟩ := by decide +kernel
theorem d_jdk_42_method_3_code_9 : decode jdk_42_method_3_code 9 = .ok (.return_, 1) := by decide +kernel
set_option maxRecDepth 65536 in
set_option maxHeartbeats 40000000 in
theorem rm_s0 (l : Launch) (Z : State) (a0 : Array Value) (hw : ∀ d ∈ tables_1, d.before a0 Z = true) (ws : List Jvm.Cond) (a : Addr) (b : Addr) (kb : ClassId) (h0 : Heap) (n0 : Nat) (Z0 : n0 ≤ h0.size) (O0 : Old Z n0 h0) (E_a : Exa Z h0 a "java/lang/String") (F_v : Fld Z h0 a "java/lang/String" "value" "[B" .null) (F_c : Fld Z h0 a "java/lang/String" "coder" "B" (.int (0 : Int32))) (g_a : n0 ≤ a) (V_b : Arv Z h0 b kb .char (0 : Int32) [] (.int (0 : Int32))) :
    CtrW l Z own_EL (⟨"java/lang/String", "<init>", "([C)V"⟩ : MethodName) jdk_42_method_3_code 2 ((Option.none : Option Jvm.ClassFile.FieldType)) ws ({ frames := 2, cells := 4, slots := 8, locals := 30 } : Room) #[(.ref a), (.ref b)] h0 (fun v h L => v = none ∧ Fr n0 L ∧ Keep h0 h [a] ∧ Str Z h a []) := by
  refine CtrW.of (MetFree.of_bodySF (plainFor_of_name pn_14) hisR ?_)
  intro p e s m args below meth c s₁ Bd hml0 hP hK
  obtain ⟨rfl, hZ0, hh, hC⟩ := hP
  have hx := Bd.exec
  have hby := Bd.bytes
  have hml : c.maxLocals = 2 := hml0
  have hZ : Z.Warmed39 (s.setVm s.vm).vm := hZ0
  have hown : (s.setVm s.vm).vm.findClass "java/lang/String" = some m.cls := findClass_of_methodNamed Bd.named
  have hnm := (name_of_methodNamed Bd.named Bd.method).1
  have X0 : Stand p l e ({ frames := 2, cells := 4, slots := 8, locals := 30 } : Room) (s.setVm s.vm) m #[(.ref a), (.ref b)] below meth c s₁ [] 0 0 := Stand.of_body Bd
  have e0 : s₁.heap = h0 := by rw [← hh, Bd.state]; rfl
  have N0 := Fr.nil n0
  have K0 : Keep h0 h0 [a] := Keep.refl h0 [a]
  have hS : s.Since s.vm 0 := (State.WarmedH.refl s).since 0
  have hk : 0 ≤ h0.size := Nat.zero_le _
  have R0 : CHr Z own_EL s.vm h0 s.vm h0 := CHr.refl hC
  show OwnGoW p e below s Z own_EL (fun v h L => v = none ∧ Fr n0 L ∧ Keep h0 h [a] ∧ Str Z h a []) ({ frames := 2, cells := 4, slots := 8, locals := 30 } : Room).cells ({ frames := 2, cells := 4, slots := 8, locals := 30 } : Room).slots _
  refine gsW (S' := s₁.setTop (mkF m 0 #[.val (.ref a), .val (.ref b)] [])) (fun tg kg => castTop (ef_15 m a b) kg) ?_
  have c1 : ∀ tg, Steps p.tables e below (s₁.setTop (mkF m 4 #[.val (.ref a), .val (.ref b)] [(.ref b), (.int (0 : Int32)), (.ref b), (.ref a)])) tg → Steps p.tables e below (s₁.setTop (mkF m 0 #[.val (.ref a), .val (.ref b)] [])) tg := fun tg kg => by
    refine XS.aloadN X0.here hx rfl (hb hby d_jdk_42_method_3_code_0) rfl rfl ?_
    show Steps p.tables e below (s₁.setTop (mkF m 1 #[.val (.ref a), .val (.ref b)] [(.ref a)])) tg
    refine XS.aloadN X0.here hx rfl (hb hby d_jdk_42_method_3_code_1) rfl rfl ?_
    show Steps p.tables e below (s₁.setTop (mkF m 2 #[.val (.ref a), .val (.ref b)] [(.ref b), (.ref a)])) tg
    refine XS.iconst X0.here hx rfl (hb hby d_jdk_42_method_3_code_2) ?_
    show Steps p.tables e below (s₁.setTop (mkF m 3 #[.val (.ref a), .val (.ref b)] [(.int (0 : Int32)), (.ref b), (.ref a)])) tg
    refine XS.aloadN X0.here hx rfl (hb hby d_jdk_42_method_3_code_3) rfl rfl ?_
    show Steps p.tables e below (s₁.setTop (mkF m 4 #[.val (.ref a), .val (.ref b)] [(.ref b), (.int (0 : Int32)), (.ref b), (.ref a)])) tg
    exact kg
  refine gsW c1 ?_
  obtain ⟨cl2, A2, a2q, a2S, a2N, a2H, a2G⟩ := id V_b
  have c3 : ∀ tg, Steps p.tables e below (s₁.setTop (mkF m 6 #[.val (.ref a), .val (.ref b)] [.null, (.int (0 : Int32)), (.int (0 : Int32)), (.ref b), (.ref a)])) tg → Steps p.tables e below (s₁.setTop (mkF m 4 #[.val (.ref a), .val (.ref b)] [(.ref b), (.int (0 : Int32)), (.ref b), (.ref a)])) tg := fun tg kg => by
    refine X0.arraylength hx (by rw [e0]; exact A2.1) (State.isArrayOf_alike hZ.alike A2.2.1) (g := (mkF m 4 #[.val (.ref a), .val (.ref b)] [(.ref b), (.int (0 : Int32)), (.ref b), (.ref a)])) rfl rfl (hb hby d_jdk_42_method_3_code_4) _ ?_; rw [len_of a2S a2N]
    show Steps p.tables e below (s₁.setTop (mkF m 5 #[.val (.ref a), .val (.ref b)] [(.int (0 : Int32)), (.int (0 : Int32)), (.ref b), (.ref a)])) tg
    refine XS.aconstNull X0.here hx rfl (hb hby d_jdk_42_method_3_code_5) ?_
    show Steps p.tables e below (s₁.setTop (mkF m 6 #[.val (.ref a), .val (.ref b)] [.null, (.int (0 : Int32)), (.int (0 : Int32)), (.ref b), (.ref a)])) tg
    exact kg
  refine gsW c3 ?_
  obtain ⟨_, _, ⟨T4, L4, k4, n4⟩, -, Xq4, hSq4, gq4, ⟨Lc4, hQ4, l4, y4, z4, rq4⟩, st4⟩ := X0.specialBackS hx (y := (⟨"java/lang/String", "<init>", "([CIILjava/lang/Void;)V"⟩ : MethodName)) rfl hown (mvT hZ (hw _ (List.mem_of_getElem? (i := 11) rfl))) (mvT hZ (hw _ (List.mem_of_getElem? (i := 12) rfl))) (mvT hZ (hw _ (List.mem_of_getElem? (i := 14) rfl))) (by decide) (backCW (W := 0) (rm_sv0 l Z a0 hw [] a b h0 n0 Z0 O0 E_a F_v F_c g_a) hZ (hw _ (List.mem_of_getElem? (i := 14) rfl)) (hw _ (List.mem_of_getElem? (i := 7) rfl)) (by decide) (by decide) (own_EW hw) R0.1) (g := (mkF m 6 #[.val (.ref a), .val (.ref b)] [.null, (.int (0 : Int32)), (.int (0 : Int32)), (.ref b), (.ref a)])) rfl (by rw [hml]; rfl) (Steps.refl _) (a := a) (argsL := [(.ref b), (.int (0 : Int32)), (.int (0 : Int32)), .null]) (rest := []) (lenOf pd_23 rfl) rfl (by show 2 * 0 + _ ≤ _; exact Nat.le_of_eq rfl) (hb hby d_jdk_42_method_3_code_6) (fun _ _ => ⟨rfl, e0, (by decide : 0 + 4 ≤ _), (by decide : 0 + 8 ≤ _)⟩)
  dsimp only [Pt.U, Pt.locs, Pt.cells, Pt.slots] at Xq4 hSq4 gq4 rq4 l4 y4 z4 st4 hQ4
  subst l4 y4 z4
  obtain ⟨X4, hS, hZ, hown⟩ := rebS hS (Nat.le_trans hk (Nat.le_of_eq (congrArg Array.size (e0 : s₁.heap = h0).symm))) Xq4 hSq4 gq4 hZ hown
  obtain ⟨rfl, N4q, K4q, T4q⟩ := hQ4
  have N4 := Fr.app N0 N4q
  have r5 : CHr Z own_EL s.vm h0 T4.vm T4.heap := rq4
  have R5 : CHr Z own_EL s.vm h0 T4.vm T4.heap := R0.trans r5
  have Z5 : n0 ≤ T4.heap.size := Nat.le_trans Z0 K4q.1
  have O5 : Old Z n0 T4.heap := O0.keep K4q (allS g_a all0)
  have K5 : Keep h0 T4.heap [a] := K0.trans K4q (allS (Or.inl (List.mem_of_getElem? (i := 0) rfl)) all0)
  refine gsW (fun _ k => st4.trans k) ?_
  show OwnGoW p e below s Z own_EL _ _ _ (T4.setTop (mkF m 9 #[.val (.ref a), .val (.ref b)] []))
  refine goutW (v := none) X4 hS (Nat.le_refl T4.heap.size) hZ (own_EW hw) hh rfl R5 Bd.notSynchronized (fun _ => rfl) (by decide) (by decide) ?_ (fun fs hr => X4.returnOut hx Bd.returns (hb hby d_jdk_42_method_3_code_9) hr)
  exact ⟨rfl, N4, K5, T4q⟩
theorem ef_25 (m : MethodId) (x0 : Int32) : entryFrame m #[(.int x0)] 3 = mkF m 0 #[.val (.int x0), .unset, .unset] [] := by first | (simp [entryFrame, mkF, argsToLocals, Value.category]; done) | rfl
theorem d_method_2_code_0 : decode method_2_code 0 = .ok (.iload_n 0, 1) := by decide +kernel
theorem d_method_2_code_1 : decode method_2_code 1 = .ok (.bipush 8, 2) := by decide +kernel
theorem d_method_2_code_3 : decode method_2_code 3 = .ok (.iushr, 1) := by decide +kernel
theorem d_method_2_code_4 : decode method_2_code 4 = .ok (.iconst 3, 1) := by decide +kernel
theorem d_method_2_code_5 : decode method_2_code 5 = .ok (.iand, 1) := by decide +kernel
theorem d_method_2_code_6 : decode method_2_code 6 = .ok (.istore_n 1, 1) := by decide +kernel
theorem d_method_2_code_7 : decode method_2_code 7 = .ok (.iload_n 1, 1) := by decide +kernel
theorem d_method_2_code_8 : decode method_2_code 8 = .ok (.ifCond .ne 10, 3) := by decide +kernel
theorem d_method_2_code_11 : decode method_2_code 11 = .ok (.iload_n 0, 1) := by decide +kernel
theorem d_method_2_code_12 : decode method_2_code 12 = .ok (.sipush 255, 3) := by decide +kernel
theorem d_method_2_code_15 : decode method_2_code 15 = .ok (.iand, 1) := by decide +kernel
theorem d_method_2_code_16 : decode method_2_code 16 = .ok (.i2c, 1) := by decide +kernel
theorem d_method_2_code_17 : decode method_2_code 17 = .ok (.ireturn, 1) := by decide +kernel
theorem d_method_2_code_18 : decode method_2_code 18 = .ok (.iload_n 0, 1) := by decide +kernel
theorem d_method_2_code_19 : decode method_2_code 19 = .ok (.sipush 255, 3) := by decide +kernel
theorem d_method_2_code_22 : decode method_2_code 22 = .ok (.iand, 1) := by decide +kernel
theorem d_method_2_code_23 : decode method_2_code 23 = .ok (.iconst 3, 1) := by decide +kernel
theorem d_method_2_code_24 : decode method_2_code 24 = .ok (.irem, 1) := by decide +kernel
theorem d_method_2_code_25 : decode method_2_code 25 = .ok (.istore_n 2, 1) := by decide +kernel
theorem d_method_2_code_26 : decode method_2_code 26 = .ok (.iload_n 2, 1) := by decide +kernel
theorem d_method_2_code_27 : decode method_2_code 27 = .ok (.ifCond .ne 6, 3) := by decide +kernel
theorem d_method_2_code_30 : decode method_2_code 30 = .ok (.bipush 60, 2) := by decide +kernel
theorem d_method_2_code_32 : decode method_2_code 32 = .ok (.ireturn, 1) := by decide +kernel
theorem d_method_2_code_33 : decode method_2_code 33 = .ok (.iload_n 2, 1) := by decide +kernel
theorem d_method_2_code_34 : decode method_2_code 34 = .ok (.iconst 1, 1) := by decide +kernel
theorem d_method_2_code_35 : decode method_2_code 35 = .ok (.if_icmp .ne 6, 3) := by decide +kernel
theorem d_method_2_code_38 : decode method_2_code 38 = .ok (.bipush 61, 2) := by decide +kernel
theorem d_method_2_code_40 : decode method_2_code 40 = .ok (.ireturn, 1) := by decide +kernel
theorem d_method_2_code_41 : decode method_2_code 41 = .ok (.bipush 62, 2) := by decide +kernel
theorem d_method_2_code_43 : decode method_2_code 43 = .ok (.ireturn, 1) := by decide +kernel
theorem pn_56 : plainName "com/example/tranche/tranche/terms/ComparisonWrittenPinLaw" = true := by first | (simp [plainName, overriddenIn]; done) | decide +kernel
set_option maxRecDepth 65536 in
set_option maxHeartbeats 40000000 in
theorem rm_pk (l : Launch) (Z : State) (a0 : Array Value) (hw : ∀ d ∈ tables_1, d.before a0 Z = true) (ws : List Jvm.Cond) (p1 : Int32) (h0 : Heap) (n0 : Nat) (Z0 : n0 ≤ h0.size) (O0 : Old Z n0 h0)  :
    Ctr l Z (⟨"com/example/tranche/tranche/terms/ComparisonWrittenPinLaw", "pick", "(I)C"⟩ : MethodName) method_2_code 3 ((Option.some Jvm.ClassFile.FieldType.char)) ws ({ frames := 0, cells := 0, slots := 0, locals := 0 } : Room) #[(.int p1)] h0 (fun v h L => ∃ c : Int32, v = some (.int c) ∧ Fr n0 L ∧ Keep h0 h [] ∧ (¬ c < 0 ∧ ¬ (255 : Int32) < c)) := by
  refine Ctr.of (MetFree.of_bodySF (plainFor_of_name pn_56) hisR ?_)
  intro p e s m args below meth c s₁ Bd hml0 hP hK
  obtain ⟨rfl, hZ, hh⟩ := hP
  have hx := Bd.exec
  have hby := Bd.bytes
  have hml : c.maxLocals = 3 := hml0
  have hown : s.vm.findClass "com/example/tranche/tranche/terms/ComparisonWrittenPinLaw" = some m.cls := findClass_of_methodNamed Bd.named
  have hnm := (name_of_methodNamed Bd.named Bd.method).1
  have X0 : Stand p l e ({ frames := 0, cells := 0, slots := 0, locals := 0 } : Room) s m #[(.int p1)] below meth c s₁ [] 0 0 := Stand.of_body Bd
  have e0 : s₁.heap = h0 := by rw [← hh, Bd.state]; rfl
  have N0 := Fr.nil n0
  have K0 : Keep h0 h0 [] := Keep.refl h0 []
  show OwnGo p e below s (fun v h L => ∃ c : Int32, v = some (.int c) ∧ Fr n0 L ∧ Keep h0 h [] ∧ (¬ c < 0 ∧ ¬ (255 : Int32) < c)) ({ frames := 0, cells := 0, slots := 0, locals := 0 } : Room).cells ({ frames := 0, cells := 0, slots := 0, locals := 0 } : Room).slots _
  refine gs (S' := s₁.setTop (mkF m 0 #[.val (.int p1), .unset, .unset] [])) (fun tg kg => castTop (ef_25 m p1) kg) ?_
  have c1 : ∀ tg, Steps p.tables e below (s₁.setTop (mkF m 8 #[.val (.int p1), .val (.int (((p1.toUInt32 >>> ((8 : Int32) &&& 31).toUInt32).toInt32) &&& (3 : Int32))), .unset] [(.int (((p1.toUInt32 >>> ((8 : Int32) &&& 31).toUInt32).toInt32) &&& (3 : Int32)))])) tg → Steps p.tables e below (s₁.setTop (mkF m 0 #[.val (.int p1), .unset, .unset] [])) tg := fun tg kg => by
    refine XS.iloadN X0.here hx rfl (hb hby d_method_2_code_0) rfl ?_
    show Steps p.tables e below (s₁.setTop (mkF m 1 #[.val (.int p1), .unset, .unset] [(.int p1)])) tg
    refine XS.bipush X0.here hx rfl (hb hby d_method_2_code_1) ?_
    show Steps p.tables e below (s₁.setTop (mkF m 3 #[.val (.int p1), .unset, .unset] [(.int (8 : Int32)), (.int p1)])) tg
    refine XS.iushr X0.here hx rfl (hb hby d_method_2_code_3) rfl ?_
    show Steps p.tables e below (s₁.setTop (mkF m 4 #[.val (.int p1), .unset, .unset] [(.int ((p1.toUInt32 >>> ((8 : Int32) &&& 31).toUInt32).toInt32))])) tg
    refine XS.iconst X0.here hx rfl (hb hby d_method_2_code_4) ?_
    show Steps p.tables e below (s₁.setTop (mkF m 5 #[.val (.int p1), .unset, .unset] [(.int (3 : Int32)), (.int ((p1.toUInt32 >>> ((8 : Int32) &&& 31).toUInt32).toInt32))])) tg
    refine XS.iand X0.here hx rfl (hb hby d_method_2_code_5) rfl ?_
    show Steps p.tables e below (s₁.setTop (mkF m 6 #[.val (.int p1), .unset, .unset] [(.int (((p1.toUInt32 >>> ((8 : Int32) &&& 31).toUInt32).toInt32) &&& (3 : Int32)))])) tg
    refine XS.istoreN X0.here hx rfl (hb hby d_method_2_code_6) rfl (l' := #[.val (.int p1), .val (.int (((p1.toUInt32 >>> ((8 : Int32) &&& 31).toUInt32).toInt32) &&& (3 : Int32))), .unset]) rfl ?_
    show Steps p.tables e below (s₁.setTop (mkF m 7 #[.val (.int p1), .val (.int (((p1.toUInt32 >>> ((8 : Int32) &&& 31).toUInt32).toInt32) &&& (3 : Int32))), .unset] [])) tg
    refine XS.iloadN X0.here hx rfl (hb hby d_method_2_code_7) rfl ?_
    show Steps p.tables e below (s₁.setTop (mkF m 8 #[.val (.int p1), .val (.int (((p1.toUInt32 >>> ((8 : Int32) &&& 31).toUInt32).toInt32) &&& (3 : Int32))), .unset] [(.int (((p1.toUInt32 >>> ((8 : Int32) &&& 31).toUInt32).toInt32) &&& (3 : Int32)))])) tg
    exact kg
  refine gs c1 ?_
  by_cases hc2 : (((p1.toUInt32 >>> ((8 : Int32) &&& 31).toUInt32).toInt32) &&& (3 : Int32)) = (0 : Int32)
  · have c3 : ∀ tg, Steps p.tables e below (s₁.setTop (mkF m 17 #[.val (.int p1), .val (.int (((p1.toUInt32 >>> ((8 : Int32) &&& 31).toUInt32).toInt32) &&& (3 : Int32))), .unset] [(.int ((p1 &&& (255 : Int32)).toUInt32.toUInt16.toUInt32.toInt32))])) tg → Steps p.tables e below (s₁.setTop (mkF m 8 #[.val (.int p1), .val (.int (((p1.toUInt32 >>> ((8 : Int32) &&& 31).toUInt32).toInt32) &&& (3 : Int32))), .unset] [(.int (((p1.toUInt32 >>> ((8 : Int32) &&& 31).toUInt32).toInt32) &&& (3 : Int32)))])) tg := fun tg kg => by
      refine XS.ifNo X0.here hx rfl (hb hby d_method_2_code_8) rfl ((if0 _ _).trans (teq hc2).2) ?_
      show Steps p.tables e below (s₁.setTop (mkF m 11 #[.val (.int p1), .val (.int (((p1.toUInt32 >>> ((8 : Int32) &&& 31).toUInt32).toInt32) &&& (3 : Int32))), .unset] [])) tg
      refine XS.iloadN X0.here hx rfl (hb hby d_method_2_code_11) rfl ?_
      show Steps p.tables e below (s₁.setTop (mkF m 12 #[.val (.int p1), .val (.int (((p1.toUInt32 >>> ((8 : Int32) &&& 31).toUInt32).toInt32) &&& (3 : Int32))), .unset] [(.int p1)])) tg
      refine XS.sipush X0.here hx rfl (hb hby d_method_2_code_12) ?_
      show Steps p.tables e below (s₁.setTop (mkF m 15 #[.val (.int p1), .val (.int (((p1.toUInt32 >>> ((8 : Int32) &&& 31).toUInt32).toInt32) &&& (3 : Int32))), .unset] [(.int (255 : Int32)), (.int p1)])) tg
      refine XS.iand X0.here hx rfl (hb hby d_method_2_code_15) rfl ?_
      show Steps p.tables e below (s₁.setTop (mkF m 16 #[.val (.int p1), .val (.int (((p1.toUInt32 >>> ((8 : Int32) &&& 31).toUInt32).toInt32) &&& (3 : Int32))), .unset] [(.int (p1 &&& (255 : Int32)))])) tg
      refine XS.i2c X0.here hx rfl (hb hby d_method_2_code_16) rfl ?_
      show Steps p.tables e below (s₁.setTop (mkF m 17 #[.val (.int p1), .val (.int (((p1.toUInt32 >>> ((8 : Int32) &&& 31).toUInt32).toInt32) &&& (3 : Int32))), .unset] [(.int ((p1 &&& (255 : Int32)).toUInt32.toUInt16.toUInt32.toInt32))])) tg
      exact kg
    refine gs c3 ?_
    refine gout (v := some (.int (nar .char ((p1 &&& (255 : Int32)).toUInt32.toUInt16.toUInt32.toInt32)))) X0 Bd.notSynchronized (fun h => by rw [Bd.returns] at h; cases h) (by decide) (by decide) ?_ (fun fs hr => retN X0 hx (t := .char) Bd.returns (by simp) (hb hby d_method_2_code_17) hr)
    rw [e0]
    exact ⟨_, rfl, N0, K0, own_and255 _⟩
  · have c4 : ∀ tg, Steps p.tables e below (s₁.setTop (mkF m 27 #[.val (.int p1), .val (.int (((p1.toUInt32 >>> ((8 : Int32) &&& 31).toUInt32).toInt32) &&& (3 : Int32))), .val (.int ((p1 &&& (255 : Int32)) % (3 : Int32)))] [(.int ((p1 &&& (255 : Int32)) % (3 : Int32)))])) tg → Steps p.tables e below (s₁.setTop (mkF m 8 #[.val (.int p1), .val (.int (((p1.toUInt32 >>> ((8 : Int32) &&& 31).toUInt32).toInt32) &&& (3 : Int32))), .unset] [(.int (((p1.toUInt32 >>> ((8 : Int32) &&& 31).toUInt32).toInt32) &&& (3 : Int32)))])) tg := fun tg kg => by
      refine XS.ifYes X0.here hx rfl (pc0 := 8) (pc' := 18) rfl (hb hby d_method_2_code_8) rfl ((if0 _ _).trans (feq hc2).2) (by decide) (by decide) ?_
      show Steps p.tables e below (s₁.setTop (mkF m 18 #[.val (.int p1), .val (.int (((p1.toUInt32 >>> ((8 : Int32) &&& 31).toUInt32).toInt32) &&& (3 : Int32))), .unset] [])) tg
      refine XS.iloadN X0.here hx rfl (hb hby d_method_2_code_18) rfl ?_
      show Steps p.tables e below (s₁.setTop (mkF m 19 #[.val (.int p1), .val (.int (((p1.toUInt32 >>> ((8 : Int32) &&& 31).toUInt32).toInt32) &&& (3 : Int32))), .unset] [(.int p1)])) tg
      refine XS.sipush X0.here hx rfl (hb hby d_method_2_code_19) ?_
      show Steps p.tables e below (s₁.setTop (mkF m 22 #[.val (.int p1), .val (.int (((p1.toUInt32 >>> ((8 : Int32) &&& 31).toUInt32).toInt32) &&& (3 : Int32))), .unset] [(.int (255 : Int32)), (.int p1)])) tg
      refine XS.iand X0.here hx rfl (hb hby d_method_2_code_22) rfl ?_
      show Steps p.tables e below (s₁.setTop (mkF m 23 #[.val (.int p1), .val (.int (((p1.toUInt32 >>> ((8 : Int32) &&& 31).toUInt32).toInt32) &&& (3 : Int32))), .unset] [(.int (p1 &&& (255 : Int32)))])) tg
      refine XS.iconst X0.here hx rfl (hb hby d_method_2_code_23) ?_
      show Steps p.tables e below (s₁.setTop (mkF m 24 #[.val (.int p1), .val (.int (((p1.toUInt32 >>> ((8 : Int32) &&& 31).toUInt32).toInt32) &&& (3 : Int32))), .unset] [(.int (3 : Int32)), (.int (p1 &&& (255 : Int32)))])) tg
      refine Jvm.RoadKit.iremM X0 hx (g := (mkF m 24 #[.val (.int p1), .val (.int (((p1.toUInt32 >>> ((8 : Int32) &&& 31).toUInt32).toInt32) &&& (3 : Int32))), .unset] [(.int (3 : Int32)), (.int (p1 &&& (255 : Int32)))])) rfl (hb hby d_method_2_code_24) rfl (by decide) ?_
      show Steps p.tables e below (s₁.setTop (mkF m 25 #[.val (.int p1), .val (.int (((p1.toUInt32 >>> ((8 : Int32) &&& 31).toUInt32).toInt32) &&& (3 : Int32))), .unset] [(.int ((p1 &&& (255 : Int32)) % (3 : Int32)))])) tg
      refine XS.istoreN X0.here hx rfl (hb hby d_method_2_code_25) rfl (l' := #[.val (.int p1), .val (.int (((p1.toUInt32 >>> ((8 : Int32) &&& 31).toUInt32).toInt32) &&& (3 : Int32))), .val (.int ((p1 &&& (255 : Int32)) % (3 : Int32)))]) rfl ?_
      show Steps p.tables e below (s₁.setTop (mkF m 26 #[.val (.int p1), .val (.int (((p1.toUInt32 >>> ((8 : Int32) &&& 31).toUInt32).toInt32) &&& (3 : Int32))), .val (.int ((p1 &&& (255 : Int32)) % (3 : Int32)))] [])) tg
      refine XS.iloadN X0.here hx rfl (hb hby d_method_2_code_26) rfl ?_
      show Steps p.tables e below (s₁.setTop (mkF m 27 #[.val (.int p1), .val (.int (((p1.toUInt32 >>> ((8 : Int32) &&& 31).toUInt32).toInt32) &&& (3 : Int32))), .val (.int ((p1 &&& (255 : Int32)) % (3 : Int32)))] [(.int ((p1 &&& (255 : Int32)) % (3 : Int32)))])) tg
      exact kg
    refine gs c4 ?_
    by_cases hc5 : ((p1 &&& (255 : Int32)) % (3 : Int32)) = (0 : Int32)
    · have c6 : ∀ tg, Steps p.tables e below (s₁.setTop (mkF m 32 #[.val (.int p1), .val (.int (((p1.toUInt32 >>> ((8 : Int32) &&& 31).toUInt32).toInt32) &&& (3 : Int32))), .val (.int ((p1 &&& (255 : Int32)) % (3 : Int32)))] [(.int (60 : Int32))])) tg → Steps p.tables e below (s₁.setTop (mkF m 27 #[.val (.int p1), .val (.int (((p1.toUInt32 >>> ((8 : Int32) &&& 31).toUInt32).toInt32) &&& (3 : Int32))), .val (.int ((p1 &&& (255 : Int32)) % (3 : Int32)))] [(.int ((p1 &&& (255 : Int32)) % (3 : Int32)))])) tg := fun tg kg => by
        refine XS.ifNo X0.here hx rfl (hb hby d_method_2_code_27) rfl ((if0 _ _).trans (teq hc5).2) ?_
        show Steps p.tables e below (s₁.setTop (mkF m 30 #[.val (.int p1), .val (.int (((p1.toUInt32 >>> ((8 : Int32) &&& 31).toUInt32).toInt32) &&& (3 : Int32))), .val (.int ((p1 &&& (255 : Int32)) % (3 : Int32)))] [])) tg
        refine XS.bipush X0.here hx rfl (hb hby d_method_2_code_30) ?_
        show Steps p.tables e below (s₁.setTop (mkF m 32 #[.val (.int p1), .val (.int (((p1.toUInt32 >>> ((8 : Int32) &&& 31).toUInt32).toInt32) &&& (3 : Int32))), .val (.int ((p1 &&& (255 : Int32)) % (3 : Int32)))] [(.int (60 : Int32))])) tg
        exact kg
      refine gs c6 ?_
      refine gout (v := some (.int (nar .char (60 : Int32)))) X0 Bd.notSynchronized (fun h => by rw [Bd.returns] at h; cases h) (by decide) (by decide) ?_ (fun fs hr => retN X0 hx (t := .char) Bd.returns (by simp) (hb hby d_method_2_code_32) hr)
      rw [e0]
      exact ⟨_, rfl, N0, K0, by decide⟩
    · have c7 : ∀ tg, Steps p.tables e below (s₁.setTop (mkF m 35 #[.val (.int p1), .val (.int (((p1.toUInt32 >>> ((8 : Int32) &&& 31).toUInt32).toInt32) &&& (3 : Int32))), .val (.int ((p1 &&& (255 : Int32)) % (3 : Int32)))] [(.int (1 : Int32)), (.int ((p1 &&& (255 : Int32)) % (3 : Int32)))])) tg → Steps p.tables e below (s₁.setTop (mkF m 27 #[.val (.int p1), .val (.int (((p1.toUInt32 >>> ((8 : Int32) &&& 31).toUInt32).toInt32) &&& (3 : Int32))), .val (.int ((p1 &&& (255 : Int32)) % (3 : Int32)))] [(.int ((p1 &&& (255 : Int32)) % (3 : Int32)))])) tg := fun tg kg => by
        refine XS.ifYes X0.here hx rfl (pc0 := 27) (pc' := 33) rfl (hb hby d_method_2_code_27) rfl ((if0 _ _).trans (feq hc5).2) (by decide) (by decide) ?_
        show Steps p.tables e below (s₁.setTop (mkF m 33 #[.val (.int p1), .val (.int (((p1.toUInt32 >>> ((8 : Int32) &&& 31).toUInt32).toInt32) &&& (3 : Int32))), .val (.int ((p1 &&& (255 : Int32)) % (3 : Int32)))] [])) tg
        refine XS.iloadN X0.here hx rfl (hb hby d_method_2_code_33) rfl ?_
        show Steps p.tables e below (s₁.setTop (mkF m 34 #[.val (.int p1), .val (.int (((p1.toUInt32 >>> ((8 : Int32) &&& 31).toUInt32).toInt32) &&& (3 : Int32))), .val (.int ((p1 &&& (255 : Int32)) % (3 : Int32)))] [(.int ((p1 &&& (255 : Int32)) % (3 : Int32)))])) tg
        refine XS.iconst X0.here hx rfl (hb hby d_method_2_code_34) ?_
        show Steps p.tables e below (s₁.setTop (mkF m 35 #[.val (.int p1), .val (.int (((p1.toUInt32 >>> ((8 : Int32) &&& 31).toUInt32).toInt32) &&& (3 : Int32))), .val (.int ((p1 &&& (255 : Int32)) % (3 : Int32)))] [(.int (1 : Int32)), (.int ((p1 &&& (255 : Int32)) % (3 : Int32)))])) tg
        exact kg
      refine gs c7 ?_
      by_cases hc8 : ((p1 &&& (255 : Int32)) % (3 : Int32)) = (1 : Int32)
      · have c9 : ∀ tg, Steps p.tables e below (s₁.setTop (mkF m 40 #[.val (.int p1), .val (.int (((p1.toUInt32 >>> ((8 : Int32) &&& 31).toUInt32).toInt32) &&& (3 : Int32))), .val (.int ((p1 &&& (255 : Int32)) % (3 : Int32)))] [(.int (61 : Int32))])) tg → Steps p.tables e below (s₁.setTop (mkF m 35 #[.val (.int p1), .val (.int (((p1.toUInt32 >>> ((8 : Int32) &&& 31).toUInt32).toInt32) &&& (3 : Int32))), .val (.int ((p1 &&& (255 : Int32)) % (3 : Int32)))] [(.int (1 : Int32)), (.int ((p1 &&& (255 : Int32)) % (3 : Int32)))])) tg := fun tg kg => by
          refine XS.icmpNo X0.here hx rfl (hb hby d_method_2_code_35) rfl (teq hc8).2 ?_
          show Steps p.tables e below (s₁.setTop (mkF m 38 #[.val (.int p1), .val (.int (((p1.toUInt32 >>> ((8 : Int32) &&& 31).toUInt32).toInt32) &&& (3 : Int32))), .val (.int ((p1 &&& (255 : Int32)) % (3 : Int32)))] [])) tg
          refine XS.bipush X0.here hx rfl (hb hby d_method_2_code_38) ?_
          show Steps p.tables e below (s₁.setTop (mkF m 40 #[.val (.int p1), .val (.int (((p1.toUInt32 >>> ((8 : Int32) &&& 31).toUInt32).toInt32) &&& (3 : Int32))), .val (.int ((p1 &&& (255 : Int32)) % (3 : Int32)))] [(.int (61 : Int32))])) tg
          exact kg
        refine gs c9 ?_
        refine gout (v := some (.int (nar .char (61 : Int32)))) X0 Bd.notSynchronized (fun h => by rw [Bd.returns] at h; cases h) (by decide) (by decide) ?_ (fun fs hr => retN X0 hx (t := .char) Bd.returns (by simp) (hb hby d_method_2_code_40) hr)
        rw [e0]
        exact ⟨_, rfl, N0, K0, by decide⟩
      · have c10 : ∀ tg, Steps p.tables e below (s₁.setTop (mkF m 43 #[.val (.int p1), .val (.int (((p1.toUInt32 >>> ((8 : Int32) &&& 31).toUInt32).toInt32) &&& (3 : Int32))), .val (.int ((p1 &&& (255 : Int32)) % (3 : Int32)))] [(.int (62 : Int32))])) tg → Steps p.tables e below (s₁.setTop (mkF m 35 #[.val (.int p1), .val (.int (((p1.toUInt32 >>> ((8 : Int32) &&& 31).toUInt32).toInt32) &&& (3 : Int32))), .val (.int ((p1 &&& (255 : Int32)) % (3 : Int32)))] [(.int (1 : Int32)), (.int ((p1 &&& (255 : Int32)) % (3 : Int32)))])) tg := fun tg kg => by
          refine XS.icmpYes X0.here hx rfl (pc0 := 35) (pc' := 41) rfl (hb hby d_method_2_code_35) rfl (feq hc8).2 (by decide) (by decide) ?_
          show Steps p.tables e below (s₁.setTop (mkF m 41 #[.val (.int p1), .val (.int (((p1.toUInt32 >>> ((8 : Int32) &&& 31).toUInt32).toInt32) &&& (3 : Int32))), .val (.int ((p1 &&& (255 : Int32)) % (3 : Int32)))] [])) tg
          refine XS.bipush X0.here hx rfl (hb hby d_method_2_code_41) ?_
          show Steps p.tables e below (s₁.setTop (mkF m 43 #[.val (.int p1), .val (.int (((p1.toUInt32 >>> ((8 : Int32) &&& 31).toUInt32).toInt32) &&& (3 : Int32))), .val (.int ((p1 &&& (255 : Int32)) % (3 : Int32)))] [(.int (62 : Int32))])) tg
          exact kg
        refine gs c10 ?_
        refine gout (v := some (.int (nar .char (62 : Int32)))) X0 Bd.notSynchronized (fun h => by rw [Bd.returns] at h; cases h) (by decide) (by decide) ?_ (fun fs hr => retN X0 hx (t := .char) Bd.returns (by simp) (hb hby d_method_2_code_43) hr)
        rw [e0]
        exact ⟨_, rfl, N0, K0, by decide⟩
theorem ef_57 (m : MethodId)  : entryFrame m #[] 1 = mkF m 0 #[.unset] [] := by first | (simp [entryFrame, mkF, argsToLocals, Value.category]; done) | rfl
theorem d_jdk_32_method_1_code_0 : decode jdk_32_method_1_code 0 = .ok (.getstatic 1, 3) := by decide +kernel
theorem d_jdk_32_method_1_code_3 : decode jdk_32_method_1_code 3 = .ok (.astore_n 0, 1) := by decide +kernel
theorem d_jdk_32_method_1_code_4 : decode jdk_32_method_1_code 4 = .ok (.aload_n 0, 1) := by decide +kernel
theorem d_jdk_32_method_1_code_5 : decode jdk_32_method_1_code 5 = .ok (.areturn, 1) := by decide +kernel
theorem pn_62 : plainName "java/util/Optional" = true := by first | (simp [plainName, overriddenIn]; done) | decide +kernel
set_option maxRecDepth 65536 in
set_option maxHeartbeats 40000000 in
theorem rm_oe (l : Launch) (Z : State) (a0 : Array Value) (hw : ∀ d ∈ tables_1, d.before a0 Z = true) (ws : List Jvm.Cond) (oe : Addr) (h0 : Heap) (n0 : Nat) (Z0 : n0 ≤ h0.size) (O0 : Old Z n0 h0) (S_oe : Sta Z Z.heap "java/util/Optional" "EMPTY" "Ljava/util/Optional;" (.ref oe)) :
    Ctr l Z (⟨"java/util/Optional", "empty", "()Ljava/util/Optional;"⟩ : MethodName) jdk_32_method_1_code 1 ((Option.some (Jvm.ClassFile.FieldType.object "java/util/Optional"))) ws ({ frames := 0, cells := 0, slots := 0, locals := 0 } : Room) #[] h0 (fun v h L => v = some (.ref oe) ∧ Fr n0 L ∧ Keep h0 h []) := by
  refine Ctr.of (MetFree.of_bodySF (plainFor_of_name pn_62) hisR ?_)
  intro p e s m args below meth c s₁ Bd hml0 hP hK
  obtain ⟨rfl, hZ, hh⟩ := hP
  have hx := Bd.exec
  have hby := Bd.bytes
  have hml : c.maxLocals = 1 := hml0
  have hown : s.vm.findClass "java/util/Optional" = some m.cls := findClass_of_methodNamed Bd.named
  have hnm := (name_of_methodNamed Bd.named Bd.method).1
  have X0 : Stand p l e ({ frames := 0, cells := 0, slots := 0, locals := 0 } : Room) s m #[] below meth c s₁ [] 0 0 := Stand.of_body Bd
  have e0 : s₁.heap = h0 := by rw [← hh, Bd.state]; rfl
  have N0 := Fr.nil n0
  have K0 : Keep h0 h0 [] := Keep.refl h0 []
  show OwnGo p e below s (fun v h L => v = some (.ref oe) ∧ Fr n0 L ∧ Keep h0 h []) ({ frames := 0, cells := 0, slots := 0, locals := 0 } : Room).cells ({ frames := 0, cells := 0, slots := 0, locals := 0 } : Room).slots _
  refine gs (S' := s₁.setTop (mkF m 0 #[.unset] [])) (fun tg kg => castTop (ef_57 m ) kg) ?_
  obtain ⟨T1, X1, e1, st1⟩ := getS2 X0 hx hZ hown (host := "") (Or.inl (hw _ (List.mem_of_getElem? (i := 34) rfl))) Via.refl e0 (S_oe.ext O0.2) (g := (mkF m 0 #[.unset] [])) rfl (hb hby d_jdk_32_method_1_code_0)
  refine gs st1 ?_
  show OwnGo p e below s _ _ _ (T1.setTop (mkF m 3 #[.unset] [(.ref oe)]))
  have c2 : ∀ tg, Steps p.tables e below (T1.setTop (mkF m 5 #[.val (.ref oe)] [(.ref oe)])) tg → Steps p.tables e below (T1.setTop (mkF m 3 #[.unset] [(.ref oe)])) tg := fun tg kg => by
    refine XS.astoreN X1.here hx rfl (hb hby d_jdk_32_method_1_code_3) rfl rfl (l' := #[.val (.ref oe)]) rfl ?_
    show Steps p.tables e below (T1.setTop (mkF m 4 #[.val (.ref oe)] [])) tg
    refine XS.aloadN X1.here hx rfl (hb hby d_jdk_32_method_1_code_4) rfl rfl ?_
    show Steps p.tables e below (T1.setTop (mkF m 5 #[.val (.ref oe)] [(.ref oe)])) tg
    exact kg
  refine gs c2 ?_
  refine gout (v := some (.ref oe)) X1 Bd.notSynchronized (fun h => by rw [Bd.returns] at h; cases h) (by decide) (by decide) ?_ (fun fs hr => retOut X1 hx Bd.returns rfl (Or.inr (Or.inr (Or.inr (Or.inr ⟨rfl, rfl, rfl⟩)))) (hb hby d_jdk_32_method_1_code_5) hr)
  rw [e1]
  exact ⟨rfl, N0, K0⟩
theorem ef_63 (m : MethodId)  : entryFrame m #[] 0 = mkF m 0 #[] [] := by first | (simp [entryFrame, mkF, argsToLocals, Value.category]; done) | rfl
theorem d_prog_36_method_1_code_0 : decode prog_36_method_1_code 0 = .ok (.getstatic 16, 3) := by decide +kernel
theorem d_prog_36_method_1_code_3 : decode prog_36_method_1_code 3 = .ok (.invokevirtual 20, 3) := by decide +kernel
theorem d_prog_36_method_1_code_6 : decode prog_36_method_1_code 6 = .ok (.checkcast 21, 3) := by decide +kernel
theorem d_prog_36_method_1_code_9 : decode prog_36_method_1_code 9 = .ok (.areturn, 1) := by decide +kernel
theorem pn_68 : plainName "com/example/tranche/tranche/terms/Comparison" = true := by first | (simp [plainName, overriddenIn]; done) | decide +kernel
set_option maxRecDepth 65536 in
set_option maxHeartbeats 40000000 in
theorem rm_va (l : Launch) (Z : State) (a0 : Array Value) (hw : ∀ d ∈ tables_1, d.before a0 Z = true) (ws : List Jvm.Cond) (va : Addr) (kv : ClassId) (en0 : Addr) (en1 : Addr) (en2 : Addr) (en3 : Addr) (h0 : Heap) (n0 : Nat) (Z0 : n0 ≤ h0.size) (O0 : Old Z n0 h0) (S_va : Sta Z Z.heap "com/example/tranche/tranche/terms/Comparison" "$VALUES" "[Lcom/example/tranche/tranche/terms/Comparison;" (.ref va)) (V_va : Arv Z Z.heap va kv (.object "com/example/tranche/tranche/terms/Comparison") (4 : Int32) [(.ref en0), (.ref en1), (.ref en2), (.ref en3)] .null) (E_va : Exa Z Z.heap va "[Lcom/example/tranche/tranche/terms/Comparison;") :
    Ctr l Z (⟨"com/example/tranche/tranche/terms/Comparison", "values", "()[Lcom/example/tranche/tranche/terms/Comparison;"⟩ : MethodName) prog_36_method_1_code 0 ((Option.some (Jvm.ClassFile.FieldType.array (Jvm.ClassFile.FieldType.object "com/example/tranche/tranche/terms/Comparison")))) ws ({ frames := 1, cells := 1, slots := 4, locals := 14 } : Room) #[] h0 (fun v h L => ∃ a : Addr, v = some (.ref a) ∧ Fr n0 L ∧ Keep h0 h [] ∧ Arv Z h a kv (.object "com/example/tranche/tranche/terms/Comparison") (4 : Int32) [(.ref en0), (.ref en1), (.ref en2), (.ref en3)] .null) := by
  refine Ctr.of (MetFree.of_bodySF (plainFor_of_name pn_68) hisR ?_)
  intro p e s m args below meth c s₁ Bd hml0 hP hK
  obtain ⟨rfl, hZ, hh⟩ := hP
  have hx := Bd.exec
  have hby := Bd.bytes
  have hml : c.maxLocals = 0 := hml0
  have hown : s.vm.findClass "com/example/tranche/tranche/terms/Comparison" = some m.cls := findClass_of_methodNamed Bd.named
  have hnm := (name_of_methodNamed Bd.named Bd.method).1
  have X0 : Stand p l e ({ frames := 1, cells := 1, slots := 4, locals := 14 } : Room) s m #[] below meth c s₁ [] 0 0 := Stand.of_body Bd
  have e0 : s₁.heap = h0 := by rw [← hh, Bd.state]; rfl
  have N0 := Fr.nil n0
  have K0 : Keep h0 h0 [] := Keep.refl h0 []
  show OwnGo p e below s (fun v h L => ∃ a : Addr, v = some (.ref a) ∧ Fr n0 L ∧ Keep h0 h [] ∧ Arv Z h a kv (.object "com/example/tranche/tranche/terms/Comparison") (4 : Int32) [(.ref en0), (.ref en1), (.ref en2), (.ref en3)] .null) ({ frames := 1, cells := 1, slots := 4, locals := 14 } : Room).cells ({ frames := 1, cells := 1, slots := 4, locals := 14 } : Room).slots _
  refine gs (S' := s₁.setTop (mkF m 0 #[] [])) (fun tg kg => castTop (ef_63 m ) kg) ?_
  obtain ⟨T1, X1, e1, st1⟩ := getS2 X0 hx hZ hown (host := "") (Or.inl (hw _ (List.mem_of_getElem? (i := 38) rfl))) Via.refl e0 (S_va.ext O0.2) (g := (mkF m 0 #[] [])) rfl (hb hby d_prog_36_method_1_code_0)
  refine gs st1 ?_
  show OwnGo p e below s _ _ _ (T1.setTop (mkF m 3 #[] [(.ref va)]))
  obtain ⟨T2, h2, X2, e2, E2, V2, A2, st2⟩ := cloneH X1 hx hZ hown (hw _ (List.mem_of_getElem? (i := 40) rfl)) (hw _ (List.mem_of_getElem? (i := 41) rfl)) (hw _ (List.mem_of_getElem? (i := 45) rfl)) (hw _ (List.mem_of_getElem? (i := 43) rfl)) (hw _ (List.mem_of_getElem? (i := 44) rfl)) (hw _ (List.mem_of_getElem? (i := 46) rfl)) e1 (V_va.ext O0.2).arh (E_va.ext O0.2) (g := (mkF m 3 #[] [(.ref va)])) rfl (by rw [hml]; rfl) rfl (hb hby d_prog_36_method_1_code_3) (by decide) (W := 0) (cap := 4) (by show 2 * 0 + _ ≤ _; exact Nat.le_of_eq rfl) (by decide) (by decide) (by decide) (by decide)
  obtain ⟨b2, q2⟩ : ∃ z, z = h0.size := ⟨_, rfl⟩
  rw [← q2] at V2 A2 st2
  have g_b2 : n0 ≤ b2 := Nat.le_trans Z0 (Nat.le_of_eq q2.symm)
  have sz_b2 : h0.size ≤ b2 := Nat.le_trans K0.1 (Nat.le_of_eq q2.symm)
  have Z3 : n0 ≤ h2.size := Nat.le_trans Z0 E2.1
  have O3 : Old Z n0 h2 := O0.ext E2
  have K3 : Keep h0 h2 [] := K0.ext E2
  have Vc2 : Arv Z h2 b2 kv (.object "com/example/tranche/tranche/terms/Comparison") (4 : Int32) [(.ref en0), (.ref en1), (.ref en2), (.ref en3)] .null := V2
  refine gs st2 ?_
  show OwnGo p e below s _ _ _ (T2.setTop (mkF m 6 #[] [(.ref b2)]))
  obtain ⟨T4, X4, e4, st4⟩ := castY X2 hx hZ hown (hw _ (List.mem_of_getElem? (i := 52) rfl)) e2 (Ins.self A2) (g := (mkF m 6 #[] [(.ref b2)])) rfl rfl (hb hby d_prog_36_method_1_code_6)
  refine gs st4 ?_
  show OwnGo p e below s _ _ _ (T4.setTop (mkF m 9 #[] [(.ref b2)]))
  refine gout (v := some (.ref b2)) X4 Bd.notSynchronized (fun h => by rw [Bd.returns] at h; cases h) (by decide) (by decide) ?_ (fun fs hr => retOut X4 hx Bd.returns rfl (Or.inr (Or.inr (Or.inr (Or.inr ⟨rfl, rfl, rfl⟩)))) (hb hby d_prog_36_method_1_code_9) hr)
  rw [e4]
  exact ⟨_, rfl, N0, K3, Vc2⟩
theorem ef_69 (m : MethodId) (x0 : Addr) : entryFrame m #[(.ref x0)] 1 = mkF m 0 #[.val (.ref x0)] [] := by first | (simp [entryFrame, mkF, argsToLocals, Value.category]; done) | rfl
theorem d_jdk_31_method_10_code_0 : decode jdk_31_method_10_code 0 = .ok (.aload_n 0, 1) := by decide +kernel
theorem d_jdk_31_method_10_code_1 : decode jdk_31_method_10_code 1 = .ok (.ifnonnull 11, 3) := by decide +kernel
theorem d_jdk_31_method_10_code_12 : decode jdk_31_method_10_code 12 = .ok (.aload_n 0, 1) := by decide +kernel
theorem d_jdk_31_method_10_code_13 : decode jdk_31_method_10_code 13 = .ok (.areturn, 1) := by decide +kernel
theorem pn_74 : plainName "java/util/Objects" = true := by first | (simp [plainName, overriddenIn]; done) | decide +kernel
set_option maxRecDepth 65536 in
set_option maxHeartbeats 40000000 in
theorem rm_rn1 (l : Launch) (Z : State) (a0 : Array Value) (hw : ∀ d ∈ tables_1, d.before a0 Z = true) (ws : List Jvm.Cond) (a : Addr) (h0 : Heap) (n0 : Nat) (Z0 : n0 ≤ h0.size) (O0 : Old Z n0 h0)  :
    Ctr l Z (⟨"java/util/Objects", "requireNonNull", "(Ljava/lang/Object;)Ljava/lang/Object;"⟩ : MethodName) jdk_31_method_10_code 1 ((Option.some (Jvm.ClassFile.FieldType.object "java/lang/Object"))) ws ({ frames := 0, cells := 0, slots := 0, locals := 0 } : Room) #[(.ref a)] h0 (fun v h L => v = some (.ref a) ∧ Fr n0 L ∧ Keep h0 h []) := by
  refine Ctr.of (MetFree.of_bodySF (plainFor_of_name pn_74) hisR ?_)
  intro p e s m args below meth c s₁ Bd hml0 hP hK
  obtain ⟨rfl, hZ, hh⟩ := hP
  have hx := Bd.exec
  have hby := Bd.bytes
  have hml : c.maxLocals = 1 := hml0
  have hown : s.vm.findClass "java/util/Objects" = some m.cls := findClass_of_methodNamed Bd.named
  have hnm := (name_of_methodNamed Bd.named Bd.method).1
  have X0 : Stand p l e ({ frames := 0, cells := 0, slots := 0, locals := 0 } : Room) s m #[(.ref a)] below meth c s₁ [] 0 0 := Stand.of_body Bd
  have e0 : s₁.heap = h0 := by rw [← hh, Bd.state]; rfl
  have N0 := Fr.nil n0
  have K0 : Keep h0 h0 [] := Keep.refl h0 []
  show OwnGo p e below s (fun v h L => v = some (.ref a) ∧ Fr n0 L ∧ Keep h0 h []) ({ frames := 0, cells := 0, slots := 0, locals := 0 } : Room).cells ({ frames := 0, cells := 0, slots := 0, locals := 0 } : Room).slots _
  refine gs (S' := s₁.setTop (mkF m 0 #[.val (.ref a)] [])) (fun tg kg => castTop (ef_69 m a) kg) ?_
  have c1 : ∀ tg, Steps p.tables e below (s₁.setTop (mkF m 13 #[.val (.ref a)] [(.ref a)])) tg → Steps p.tables e below (s₁.setTop (mkF m 0 #[.val (.ref a)] [])) tg := fun tg kg => by
    refine XS.aloadN X0.here hx rfl (hb hby d_jdk_31_method_10_code_0) rfl rfl ?_
    show Steps p.tables e below (s₁.setTop (mkF m 1 #[.val (.ref a)] [(.ref a)])) tg
    refine XS.ifnonnullYes X0.here hx rfl (pc0 := 1) (pc' := 12) rfl (hb hby d_jdk_31_method_10_code_1) rfl (by decide) (by decide) ?_
    show Steps p.tables e below (s₁.setTop (mkF m 12 #[.val (.ref a)] [])) tg
    refine XS.aloadN X0.here hx rfl (hb hby d_jdk_31_method_10_code_12) rfl rfl ?_
    show Steps p.tables e below (s₁.setTop (mkF m 13 #[.val (.ref a)] [(.ref a)])) tg
    exact kg
  refine gs c1 ?_
  refine gout (v := some (.ref a)) X0 Bd.notSynchronized (fun h => by rw [Bd.returns] at h; cases h) (by decide) (by decide) ?_ (fun fs hr => retOut X0 hx Bd.returns rfl (Or.inr (Or.inr (Or.inr (Or.inr ⟨rfl, rfl, rfl⟩)))) (hb hby d_jdk_31_method_10_code_13) hr)
  rw [e0]
  exact ⟨rfl, N0, K0⟩
theorem ef_75 (m : MethodId) (x0 : Addr) (x1 : Addr) : entryFrame m #[(.ref x0), (.ref x1)] 2 = mkF m 0 #[.val (.ref x0), .val (.ref x1)] [] := by first | (simp [entryFrame, mkF, argsToLocals, Value.category]; done) | rfl
theorem d_jdk_32_method_2_code_0 : decode jdk_32_method_2_code 0 = .ok (.aload_n 0, 1) := by decide +kernel
theorem d_jdk_32_method_2_code_1 : decode jdk_32_method_2_code 1 = .ok (.invokespecial 7, 3) := by decide +kernel
theorem d_jdk_32_method_2_code_4 : decode jdk_32_method_2_code 4 = .ok (.aload_n 0, 1) := by decide +kernel
theorem d_jdk_32_method_2_code_5 : decode jdk_32_method_2_code 5 = .ok (.aload_n 1, 1) := by decide +kernel
theorem d_jdk_32_method_2_code_6 : decode jdk_32_method_2_code 6 = .ok (.putfield 13, 3) := by decide +kernel
theorem d_jdk_32_method_2_code_9 : decode jdk_32_method_2_code 9 = .ok (.return_, 1) := by decide +kernel
set_option maxRecDepth 65536 in
set_option maxHeartbeats 40000000 in
theorem rm_oi (l : Launch) (Z : State) (a0 : Array Value) (hw : ∀ d ∈ tables_1, d.before a0 Z = true) (ws : List Jvm.Cond) (a : Addr) (x : Addr) (h0 : Heap) (n0 : Nat) (Z0 : n0 ≤ h0.size) (O0 : Old Z n0 h0) (E_a : Exa Z h0 a "java/util/Optional") (F_v : Fld Z h0 a "java/util/Optional" "value" "Ljava/lang/Object;" .null) (g_a : n0 ≤ a) :
    Ctr l Z (⟨"java/util/Optional", "<init>", "(Ljava/lang/Object;)V"⟩ : MethodName) jdk_32_method_2_code 2 ((Option.none : Option Jvm.ClassFile.FieldType)) ws ({ frames := 1, cells := 0, slots := 0, locals := 12 } : Room) #[(.ref a), (.ref x)] h0 (fun v h L => v = none ∧ Fr n0 L ∧ Keep h0 h [a] ∧ Fld Z h a "java/util/Optional" "value" "Ljava/lang/Object;" (.ref x)) := by
  refine Ctr.of (MetFree.of_bodySF (plainFor_of_name pn_62) hisR ?_)
  intro p e s m args below meth c s₁ Bd hml0 hP hK
  obtain ⟨rfl, hZ, hh⟩ := hP
  have hx := Bd.exec
  have hby := Bd.bytes
  have hml : c.maxLocals = 2 := hml0
  have hown : s.vm.findClass "java/util/Optional" = some m.cls := findClass_of_methodNamed Bd.named
  have hnm := (name_of_methodNamed Bd.named Bd.method).1
  have X0 : Stand p l e ({ frames := 1, cells := 0, slots := 0, locals := 12 } : Room) s m #[(.ref a), (.ref x)] below meth c s₁ [] 0 0 := Stand.of_body Bd
  have e0 : s₁.heap = h0 := by rw [← hh, Bd.state]; rfl
  have N0 := Fr.nil n0
  have K0 : Keep h0 h0 [a] := Keep.refl h0 [a]
  show OwnGo p e below s (fun v h L => v = none ∧ Fr n0 L ∧ Keep h0 h [a] ∧ Fld Z h a "java/util/Optional" "value" "Ljava/lang/Object;" (.ref x)) ({ frames := 1, cells := 0, slots := 0, locals := 12 } : Room).cells ({ frames := 1, cells := 0, slots := 0, locals := 12 } : Room).slots _
  refine gs (S' := s₁.setTop (mkF m 0 #[.val (.ref a), .val (.ref x)] [])) (fun tg kg => castTop (ef_75 m a x) kg) ?_
  have c1 : ∀ tg, Steps p.tables e below (s₁.setTop (mkF m 1 #[.val (.ref a), .val (.ref x)] [(.ref a)])) tg → Steps p.tables e below (s₁.setTop (mkF m 0 #[.val (.ref a), .val (.ref x)] [])) tg := fun tg kg => by
    refine XS.aloadN X0.here hx rfl (hb hby d_jdk_32_method_2_code_0) rfl rfl ?_
    show Steps p.tables e below (s₁.setTop (mkF m 1 #[.val (.ref a), .val (.ref x)] [(.ref a)])) tg
    exact kg
  refine gs c1 ?_
  obtain ⟨T2, X2, e2, st2⟩ := initO X0 hx hZ hown (hw _ (List.mem_of_getElem? (i := 97) rfl)) (hw _ (List.mem_of_getElem? (i := 16) rfl)) (hw _ (List.mem_of_getElem? (i := 17) rfl)) e0 (g := (mkF m 1 #[.val (.ref a), .val (.ref x)] [(.ref a)])) rfl (by rw [hml]; rfl) rfl (hb hby d_jdk_32_method_2_code_1) (by decide) (W := 0) (by show 2 * 0 + _ ≤ _; exact Nat.le_of_eq rfl) (by decide)
  refine gs st2 ?_
  show OwnGo p e below s _ _ _ (T2.setTop (mkF m 4 #[.val (.ref a), .val (.ref x)] []))
  have c3 : ∀ tg, Steps p.tables e below (T2.setTop (mkF m 6 #[.val (.ref a), .val (.ref x)] [(.ref x), (.ref a)])) tg → Steps p.tables e below (T2.setTop (mkF m 4 #[.val (.ref a), .val (.ref x)] [])) tg := fun tg kg => by
    refine XS.aloadN X2.here hx rfl (hb hby d_jdk_32_method_2_code_4) rfl rfl ?_
    show Steps p.tables e below (T2.setTop (mkF m 5 #[.val (.ref a), .val (.ref x)] [(.ref a)])) tg
    refine XS.aloadN X2.here hx rfl (hb hby d_jdk_32_method_2_code_5) rfl rfl ?_
    show Steps p.tables e below (T2.setTop (mkF m 6 #[.val (.ref a), .val (.ref x)] [(.ref x), (.ref a)])) tg
    exact kg
  refine gs c3 ?_
  obtain ⟨T4, h4, X4, e4, W4, st4⟩ := putF X2 hx hZ hown (host := "") (Or.inl (hw _ (List.mem_of_getElem? (i := 72) rfl))) Via.refl e2 F_v E_a (Or.inr ⟨(hw _ (List.mem_of_getElem? (i := 73) rfl)), rfl, hnm⟩) (hw _ (List.mem_of_getElem? (i := 88) rfl)) (ty := (.object "java/lang/Object")) (by decide) rfl rfl (g := (mkF m 6 #[.val (.ref a), .val (.ref x)] [(.ref x), (.ref a)])) rfl rfl (hb hby d_jdk_32_method_2_code_6)
  have N4 := Fr.snoc X4 N0 g_a
  have Fw4 := F_v.same W4
  have Z5 : n0 ≤ h4.size := Nat.le_trans Z0 (Keep.of_wr W4).1
  have O5 : Old Z n0 h4 := O0.wr W4 g_a
  have K5 : Keep h0 h4 [a] := K0.wr W4 (Or.inl (List.mem_of_getElem? (i := 0) rfl))
  refine gs st4 ?_
  show OwnGo p e below s _ _ _ (T4.setTop (mkF m 9 #[.val (.ref a), .val (.ref x)] []))
  refine gout (v := none) X4 Bd.notSynchronized (fun _ => rfl) (by decide) (by decide) ?_ (fun fs hr => X4.returnOut hx Bd.returns (hb hby d_jdk_32_method_2_code_9) hr)
  rw [e4]
  exact ⟨rfl, N4, K5, Fw4⟩
theorem ef_82 (m : MethodId) (x0 : Addr) : entryFrame m #[(.ref x0)] 1 = mkF m 0 #[.val (.ref x0)] [] := by first | (simp [entryFrame, mkF, argsToLocals, Value.category]; done) | rfl
theorem d_jdk_32_method_3_code_0 : decode jdk_32_method_3_code 0 = .ok (.new 2, 3) := by decide +kernel
theorem d_jdk_32_method_3_code_3 : decode jdk_32_method_3_code 3 = .ok (.dup, 1) := by decide +kernel
theorem d_jdk_32_method_3_code_4 : decode jdk_32_method_3_code 4 = .ok (.aload_n 0, 1) := by decide +kernel
theorem d_jdk_32_method_3_code_5 : decode jdk_32_method_3_code 5 = .ok (.invokestatic 17, 3) := by decide +kernel
theorem pd_87 : parseMethodDescriptor "(Ljava/lang/Object;)Ljava/lang/Object;" = some ⟨[(.object "java/lang/Object")], some (.object "java/lang/Object")⟩ := by decide +kernel
theorem d_jdk_32_method_3_code_8 : decode jdk_32_method_3_code 8 = .ok (.invokespecial 23, 3) := by decide +kernel
theorem pd_89 : parseMethodDescriptor "(Ljava/lang/Object;)V" = some ⟨[(.object "java/lang/Object")], none⟩ := by decide +kernel
theorem d_jdk_32_method_3_code_11 : decode jdk_32_method_3_code 11 = .ok (.areturn, 1) := by decide +kernel
set_option maxRecDepth 65536 in
set_option maxHeartbeats 40000000 in
theorem rm_of (l : Launch) (Z : State) (a0 : Array Value) (hw : ∀ d ∈ tables_1, d.before a0 Z = true) (ws : List Jvm.Cond) (x : Addr) (h0 : Heap) (n0 : Nat) (Z0 : n0 ≤ h0.size) (O0 : Old Z n0 h0)  :
    Ctr l Z (⟨"java/util/Optional", "of", "(Ljava/lang/Object;)Ljava/util/Optional;"⟩ : MethodName) jdk_32_method_3_code 1 ((Option.some (Jvm.ClassFile.FieldType.object "java/util/Optional"))) ws ({ frames := 2, cells := 1, slots := 1, locals := 40 } : Room) #[(.ref x)] h0 (fun v h L => ∃ a : Addr, v = some (.ref a) ∧ Fr n0 L ∧ Keep h0 h [] ∧ Exa Z h a "java/util/Optional" ∧ Fld Z h a "java/util/Optional" "value" "Ljava/lang/Object;" (.ref x)) := by
  refine Ctr.of (MetFree.of_bodySF (plainFor_of_name pn_62) hisR ?_)
  intro p e s m args below meth c s₁ Bd hml0 hP hK
  obtain ⟨rfl, hZ, hh⟩ := hP
  have hx := Bd.exec
  have hby := Bd.bytes
  have hml : c.maxLocals = 1 := hml0
  have hown : s.vm.findClass "java/util/Optional" = some m.cls := findClass_of_methodNamed Bd.named
  have hnm := (name_of_methodNamed Bd.named Bd.method).1
  have X0 : Stand p l e ({ frames := 2, cells := 1, slots := 1, locals := 40 } : Room) s m #[(.ref x)] below meth c s₁ [] 0 0 := Stand.of_body Bd
  have e0 : s₁.heap = h0 := by rw [← hh, Bd.state]; rfl
  have N0 := Fr.nil n0
  have K0 : Keep h0 h0 [] := Keep.refl h0 []
  show OwnGo p e below s (fun v h L => ∃ a : Addr, v = some (.ref a) ∧ Fr n0 L ∧ Keep h0 h [] ∧ Exa Z h a "java/util/Optional" ∧ Fld Z h a "java/util/Optional" "value" "Ljava/lang/Object;" (.ref x)) ({ frames := 2, cells := 1, slots := 1, locals := 40 } : Room).cells ({ frames := 2, cells := 1, slots := 1, locals := 40 } : Room).slots _
  refine gs (S' := s₁.setTop (mkF m 0 #[.val (.ref x)] [])) (fun tg kg => castTop (ef_82 m x) kg) ?_
  obtain ⟨T1, h1, X1, e1, E1, A1, D1, -, st1⟩ := newO X0 hx hZ hown (hw _ (List.mem_of_getElem? (i := 87) rfl)) (hw _ (List.mem_of_getElem? (i := 88) rfl)) (hw _ (List.mem_of_getElem? (i := 32) rfl)) e0 (g := (mkF m 0 #[.val (.ref x)] [])) rfl (hb hby d_jdk_32_method_3_code_0) (by decide) (by decide)
  obtain ⟨b1, q1⟩ : ∃ z, z = h0.size := ⟨_, rfl⟩
  rw [← q1] at A1 D1 st1
  have g_b1 : n0 ≤ b1 := Nat.le_trans Z0 (Nat.le_of_eq q1.symm)
  have sz_b1 : h0.size ≤ b1 := Nat.le_trans K0.1 (Nat.le_of_eq q1.symm)
  have Z2 : n0 ≤ h1.size := Nat.le_trans Z0 E1.1
  have O2 : Old Z n0 h1 := O0.ext E1
  have K2 : Keep h0 h1 [] := K0.ext E1
  have F_value_b1 : Fld Z h1 b1 "java/util/Optional" "value" "Ljava/lang/Object;" .null := D1 (Or.inr (hw _ (List.mem_of_getElem? (i := 73) rfl))) (ty := (.object "java/lang/Object")) (by decide)
  refine gs st1 ?_
  show OwnGo p e below s _ _ _ (T1.setTop (mkF m 3 #[.val (.ref x)] [(.ref b1)]))
  have c3 : ∀ tg, Steps p.tables e below (T1.setTop (mkF m 5 #[.val (.ref x)] [(.ref x), (.ref b1), (.ref b1)])) tg → Steps p.tables e below (T1.setTop (mkF m 3 #[.val (.ref x)] [(.ref b1)])) tg := fun tg kg => by
    refine XS.dup X1.here hx rfl (hb hby d_jdk_32_method_3_code_3) rfl rfl ?_
    show Steps p.tables e below (T1.setTop (mkF m 4 #[.val (.ref x)] [(.ref b1), (.ref b1)])) tg
    refine XS.aloadN X1.here hx rfl (hb hby d_jdk_32_method_3_code_4) rfl rfl ?_
    show Steps p.tables e below (T1.setTop (mkF m 5 #[.val (.ref x)] [(.ref x), (.ref b1), (.ref b1)])) tg
    exact kg
  refine gs c3 ?_
  obtain ⟨_, _, ⟨T4, L4, k4, n4⟩, -, X4, ⟨Lc4, hQ4, l4, y4, z4⟩, st4⟩ := Jvm.LawKit.callS X1 hx (y := (⟨"java/util/Objects", "requireNonNull", "(Ljava/lang/Object;)Ljava/lang/Object;"⟩ : MethodName)) hown (mvT hZ (hw _ (List.mem_of_getElem? (i := 89) rfl))) (mvT hZ (hw _ (List.mem_of_getElem? (i := 90) rfl))) (mvT hZ (hw _ (List.mem_of_getElem? (i := 91) rfl))) (mvT hZ (hw _ (List.mem_of_getElem? (i := 92) rfl))) (by decide) (backC (W := 2) (rm_rn1 l Z a0 hw [] x h1 n0 Z2 O2 ) hZ (hw _ (List.mem_of_getElem? (i := 92) rfl)) (hw _ (List.mem_of_getElem? (i := 91) rfl)) (by decide) (by decide)) (g := (mkF m 5 #[.val (.ref x)] [(.ref x), (.ref b1), (.ref b1)])) rfl (by rw [hml]; rfl) (argsL := [(.ref x)]) (rest := [(.ref b1), (.ref b1)]) (lenOf pd_87 rfl) rfl (by show 2 * 0 + _ ≤ _; exact Nat.le_of_eq rfl) (hb hby d_jdk_32_method_3_code_5) (fun _ _ => ⟨rfl, e1, (by decide : 1 + 0 ≤ _), (by decide : 1 + 0 ≤ _)⟩)
  dsimp only [Pt.U, Pt.locs, Pt.cells, Pt.slots] at X4 l4 y4 z4 st4 hQ4
  subst l4 y4 z4
  obtain ⟨rfl, N4q, K4q⟩ := hQ4
  have N4 := Fr.app N0 N4q
  have Z5 : n0 ≤ T4.heap.size := Nat.le_trans Z2 K4q.1
  have O5 : Old Z n0 T4.heap := O2.keep K4q all0
  have K5 : Keep h0 T4.heap [] := K2.trans K4q all0
  refine gs st4 ?_
  show OwnGo p e below s _ _ _ (T4.setTop (mkF m 8 #[.val (.ref x)] [(.ref x), (.ref b1), (.ref b1)]))
  have f6 := (A1.keep K4q)
  have f7 := (F_value_b1.keep K4q nin0)
  obtain ⟨_, _, ⟨T8, L8, k8, n8⟩, -, X8, ⟨Lc8, hQ8, l8, y8, z8⟩, st8⟩ := X4.specialBack hx (y := (⟨"java/util/Optional", "<init>", "(Ljava/lang/Object;)V"⟩ : MethodName)) rfl hown (mvT hZ (hw _ (List.mem_of_getElem? (i := 93) rfl))) (mvT hZ (hw _ (List.mem_of_getElem? (i := 94) rfl))) (mvT hZ (hw _ (List.mem_of_getElem? (i := 96) rfl))) (by decide) (backC (W := 1) (rm_oi l Z a0 hw [] b1 x T4.heap n0 Z5 O5 f6 f7 g_b1) hZ (hw _ (List.mem_of_getElem? (i := 96) rfl)) (hw _ (List.mem_of_getElem? (i := 32) rfl)) (by decide) (by decide)) (g := (mkF m 8 #[.val (.ref x)] [(.ref x), (.ref b1), (.ref b1)])) rfl (by rw [hml]; rfl) (Steps.refl _) (a := b1) (argsL := [(.ref x)]) (rest := [(.ref b1)]) (lenOf pd_89 rfl) rfl (by show 2 * 0 + _ ≤ _; exact Nat.le_of_eq rfl) (hb hby d_jdk_32_method_3_code_8) (fun _ _ => ⟨rfl, rfl, (by decide : 1 + 0 ≤ _), (by decide : 1 + 0 ≤ _)⟩)
  dsimp only [Pt.U, Pt.locs, Pt.cells, Pt.slots] at X8 l8 y8 z8 st8 hQ8
  subst l8 y8 z8
  obtain ⟨rfl, N8q, K8q, F8v⟩ := hQ8
  have N8 := Fr.app N4 N8q
  have Z9 : n0 ≤ T8.heap.size := Nat.le_trans Z5 K8q.1
  have O9 : Old Z n0 T8.heap := O5.keep K8q (allS g_b1 all0)
  have K9 : Keep h0 T8.heap [] := K5.trans K8q (allS (Or.inr sz_b1) all0)
  refine gs (fun _ k => st8.trans k) ?_
  show OwnGo p e below s _ _ _ (T8.setTop (mkF m 11 #[.val (.ref x)] [(.ref b1)]))
  have f10 := (f6.keep K8q)
  refine gout (v := some (.ref b1)) X8 Bd.notSynchronized (fun h => by rw [Bd.returns] at h; cases h) (by decide) (by decide) ?_ (fun fs hr => retOut X8 hx Bd.returns rfl (Or.inr (Or.inr (Or.inr (Or.inr ⟨rfl, rfl, rfl⟩)))) (hb hby d_jdk_32_method_3_code_11) hr)
  exact ⟨_, rfl, N8, K9, f10, F8v⟩
theorem ef_91 (m : MethodId) (x0 : Addr) : entryFrame m #[(.ref x0)] 6 = mkF m 0 #[.val (.ref x0), .unset, .unset, .unset, .unset, .unset] [] := by first | (simp [entryFrame, mkF, argsToLocals, Value.category]; done) | rfl
theorem d_prog_36_method_4_code_0 : decode prog_36_method_4_code 0 = .ok (.invokestatic 39, 3) := by decide +kernel
theorem pd_93 : parseMethodDescriptor "()Ljava/util/Optional;" = some ⟨[], some (.object "java/util/Optional")⟩ := by decide +kernel
theorem d_prog_36_method_4_code_3 : decode prog_36_method_4_code 3 = .ok (.astore_n 1, 1) := by decide +kernel
theorem d_prog_36_method_4_code_4 : decode prog_36_method_4_code 4 = .ok (.invokestatic 45, 3) := by decide +kernel
theorem pd_96 : parseMethodDescriptor "()[Lcom/example/tranche/tranche/terms/Comparison;" = some ⟨[], some (.array (.object "com/example/tranche/tranche/terms/Comparison"))⟩ := by decide +kernel
theorem d_prog_36_method_4_code_7 : decode prog_36_method_4_code 7 = .ok (.astore_n 2, 1) := by decide +kernel
theorem d_prog_36_method_4_code_8 : decode prog_36_method_4_code 8 = .ok (.aload_n 2, 1) := by decide +kernel
theorem d_prog_36_method_4_code_9 : decode prog_36_method_4_code 9 = .ok (.arraylength, 1) := by decide +kernel
theorem d_prog_36_method_4_code_10 : decode prog_36_method_4_code 10 = .ok (.istore_n 3, 1) := by decide +kernel
theorem d_prog_36_method_4_code_11 : decode prog_36_method_4_code 11 = .ok (.iconst 0, 1) := by decide +kernel
theorem d_prog_36_method_4_code_12 : decode prog_36_method_4_code 12 = .ok (.istore 4, 2) := by decide +kernel
theorem d_prog_36_method_4_code_14 : decode prog_36_method_4_code 14 = .ok (.iload 4, 2) := by decide +kernel
theorem d_prog_36_method_4_code_16 : decode prog_36_method_4_code 16 = .ok (.iload_n 3, 1) := by decide +kernel
theorem d_prog_36_method_4_code_17 : decode prog_36_method_4_code 17 = .ok (.if_icmp .ge 33, 3) := by decide +kernel
theorem d_prog_36_method_4_code_20 : decode prog_36_method_4_code 20 = .ok (.aload_n 2, 1) := by decide +kernel
theorem d_prog_36_method_4_code_21 : decode prog_36_method_4_code 21 = .ok (.iload 4, 2) := by decide +kernel
theorem d_prog_36_method_4_code_23 : decode prog_36_method_4_code 23 = .ok (.aaload, 1) := by decide +kernel
theorem d_prog_36_method_4_code_24 : decode prog_36_method_4_code 24 = .ok (.astore 5, 2) := by decide +kernel
theorem d_prog_36_method_4_code_26 : decode prog_36_method_4_code 26 = .ok (.aload 5, 2) := by decide +kernel
theorem d_prog_36_method_4_code_28 : decode prog_36_method_4_code 28 = .ok (.getfield 35, 3) := by decide +kernel
theorem d_prog_36_method_4_code_31 : decode prog_36_method_4_code 31 = .ok (.aload_n 0, 1) := by decide +kernel
theorem d_prog_36_method_4_code_32 : decode prog_36_method_4_code 32 = .ok (.invokevirtual 49, 3) := by decide +kernel
theorem pd_114 : parseMethodDescriptor "(Ljava/lang/Object;)Z" = some ⟨[(.object "java/lang/Object")], some .boolean⟩ := by decide +kernel
theorem d_prog_36_method_4_code_35 : decode prog_36_method_4_code 35 = .ok (.ifCond .eq 9, 3) := by decide +kernel
theorem d_prog_36_method_4_code_38 : decode prog_36_method_4_code 38 = .ok (.aload 5, 2) := by decide +kernel
theorem d_prog_36_method_4_code_40 : decode prog_36_method_4_code 40 = .ok (.invokestatic 55, 3) := by decide +kernel
theorem pd_118 : parseMethodDescriptor "(Ljava/lang/Object;)Ljava/util/Optional;" = some ⟨[(.object "java/lang/Object")], some (.object "java/util/Optional")⟩ := by decide +kernel
theorem d_prog_36_method_4_code_43 : decode prog_36_method_4_code 43 = .ok (.astore_n 1, 1) := by decide +kernel
theorem d_prog_36_method_4_code_44 : decode prog_36_method_4_code 44 = .ok (.iinc 4 1, 3) := by decide +kernel
theorem d_prog_36_method_4_code_47 : decode prog_36_method_4_code 47 = .ok (.goto (-33), 3) := by decide +kernel
theorem d_prog_36_method_4_code_50 : decode prog_36_method_4_code 50 = .ok (.aload_n 1, 1) := by decide +kernel
theorem d_prog_36_method_4_code_51 : decode prog_36_method_4_code 51 = .ok (.areturn, 1) := by decide +kernel
set_option maxRecDepth 65536 in
set_option maxHeartbeats 40000000 in
theorem rm_wr0 (l : Launch) (Z : State) (a0 : Array Value) (hw : ∀ d ∈ tables_1, d.before a0 Z = true) (ws : List Jvm.Cond) (a : Addr) (cs : List Int32) (z : Int32) (oe : Addr) (va : Addr) (kv : ClassId) (en0 : Addr) (en1 : Addr) (en2 : Addr) (en3 : Addr) (sn0 : Addr) (sn1 : Addr) (sn2 : Addr) (sn3 : Addr) (h0 : Heap) (n0 : Nat) (Z0 : n0 ≤ h0.size) (O0 : Old Z n0 h0) (S0 : Sta Z Z.heap "java/lang/String" "COMPACT_STRINGS" "Z" (.int z)) (hz : ¬ z = 0) (T_a : Str Z h0 a cs) (hbd : ∀ c ∈ cs, ¬ c < 0 ∧ ¬ (255 : Int32) < c) (hl : cs.length ≤ 4000) (S_oe : Sta Z Z.heap "java/util/Optional" "EMPTY" "Ljava/util/Optional;" (.ref oe)) (S_va : Sta Z Z.heap "com/example/tranche/tranche/terms/Comparison" "$VALUES" "[Lcom/example/tranche/tranche/terms/Comparison;" (.ref va)) (V_va : Arv Z Z.heap va kv (.object "com/example/tranche/tranche/terms/Comparison") (4 : Int32) [(.ref en0), (.ref en1), (.ref en2), (.ref en3)] .null) (E_va : Exa Z Z.heap va "[Lcom/example/tranche/tranche/terms/Comparison;") (F_e0 : Fld Z Z.heap en0 "com/example/tranche/tranche/terms/Comparison" "written" "Ljava/lang/String;" (.ref sn0)) (F_e1 : Fld Z Z.heap en1 "com/example/tranche/tranche/terms/Comparison" "written" "Ljava/lang/String;" (.ref sn1)) (F_e2 : Fld Z Z.heap en2 "com/example/tranche/tranche/terms/Comparison" "written" "Ljava/lang/String;" (.ref sn2)) (F_e3 : Fld Z Z.heap en3 "com/example/tranche/tranche/terms/Comparison" "written" "Ljava/lang/String;" (.ref sn3)) (T_s0 : Str Z Z.heap sn0 ([60] : List Int32)) (T_s1 : Str Z Z.heap sn1 ([60, 61] : List Int32)) (T_s2 : Str Z Z.heap sn2 ([62] : List Int32)) (T_s3 : Str Z Z.heap sn3 ([62, 61] : List Int32)) (q : cs = ([60] : List Int32)) :
    Ctr l Z (⟨"com/example/tranche/tranche/terms/Comparison", "written", "(Ljava/lang/String;)Ljava/util/Optional;"⟩ : MethodName) prog_36_method_4_code 6 ((Option.some (Jvm.ClassFile.FieldType.object "java/util/Optional"))) ws ({ frames := 3, cells := 2, slots := 5, locals := 60 } : Room) #[(.ref a)] h0 (fun v h L => ∃ a : Addr, v = some (.ref a) ∧ Fr n0 L ∧ Keep h0 h [] ∧ Exa Z h a "java/util/Optional" ∧ Fld Z h a "java/util/Optional" "value" "Ljava/lang/Object;" (.ref en0)) := by
  refine Ctr.of (MetFree.of_bodySF (plainFor_of_name pn_68) hisR ?_)
  intro p e s m args below meth c s₁ Bd hml0 hP hK
  obtain ⟨rfl, hZ, hh⟩ := hP
  have hx := Bd.exec
  have hby := Bd.bytes
  have hml : c.maxLocals = 6 := hml0
  have hown : s.vm.findClass "com/example/tranche/tranche/terms/Comparison" = some m.cls := findClass_of_methodNamed Bd.named
  have hnm := (name_of_methodNamed Bd.named Bd.method).1
  have X0 : Stand p l e ({ frames := 3, cells := 2, slots := 5, locals := 60 } : Room) s m #[(.ref a)] below meth c s₁ [] 0 0 := Stand.of_body Bd
  have e0 : s₁.heap = h0 := by rw [← hh, Bd.state]; rfl
  have N0 := Fr.nil n0
  have K0 : Keep h0 h0 [] := Keep.refl h0 []
  show OwnGo p e below s (fun v h L => ∃ a : Addr, v = some (.ref a) ∧ Fr n0 L ∧ Keep h0 h [] ∧ Exa Z h a "java/util/Optional" ∧ Fld Z h a "java/util/Optional" "value" "Ljava/lang/Object;" (.ref en0)) ({ frames := 3, cells := 2, slots := 5, locals := 60 } : Room).cells ({ frames := 3, cells := 2, slots := 5, locals := 60 } : Room).slots _
  refine gs (S' := s₁.setTop (mkF m 0 #[.val (.ref a), .unset, .unset, .unset, .unset, .unset] [])) (fun tg kg => castTop (ef_91 m a) kg) ?_
  obtain ⟨_, _, ⟨T1, L1, k1, n1⟩, -, X1, ⟨Lc1, hQ1, l1, y1, z1⟩, st1⟩ := Jvm.LawKit.callS X0 hx (y := (⟨"java/util/Optional", "empty", "()Ljava/util/Optional;"⟩ : MethodName)) hown (mvT hZ (hw _ (List.mem_of_getElem? (i := 30) rfl))) (mvT hZ (hw _ (List.mem_of_getElem? (i := 31) rfl))) (mvT hZ (hw _ (List.mem_of_getElem? (i := 32) rfl))) (mvT hZ (hw _ (List.mem_of_getElem? (i := 33) rfl))) (by decide) (backC (W := 0) (rm_oe l Z a0 hw [] oe h0 n0 Z0 O0 S_oe) hZ (hw _ (List.mem_of_getElem? (i := 33) rfl)) (hw _ (List.mem_of_getElem? (i := 32) rfl)) (by decide) (by decide)) (g := (mkF m 0 #[.val (.ref a), .unset, .unset, .unset, .unset, .unset] [])) rfl (by rw [hml]; rfl) (argsL := []) (rest := []) (lenOf pd_93 rfl) rfl (by show 2 * 0 + _ ≤ _; exact Nat.le_of_eq rfl) (hb hby d_prog_36_method_4_code_0) (fun _ _ => ⟨rfl, e0, (by decide : 0 + 0 ≤ _), (by decide : 0 + 0 ≤ _)⟩)
  dsimp only [Pt.U, Pt.locs, Pt.cells, Pt.slots] at X1 l1 y1 z1 st1 hQ1
  subst l1 y1 z1
  obtain ⟨rfl, N1q, K1q⟩ := hQ1
  have N1 := Fr.app N0 N1q
  have Z2 : n0 ≤ T1.heap.size := Nat.le_trans Z0 K1q.1
  have O2 : Old Z n0 T1.heap := O0.keep K1q all0
  have K2 : Keep h0 T1.heap [] := K0.trans K1q all0
  refine gs st1 ?_
  show OwnGo p e below s _ _ _ (T1.setTop (mkF m 3 #[.val (.ref a), .unset, .unset, .unset, .unset, .unset] [(.ref oe)]))
  have c3 : ∀ tg, Steps p.tables e below (T1.setTop (mkF m 4 #[.val (.ref a), .val (.ref oe), .unset, .unset, .unset, .unset] [])) tg → Steps p.tables e below (T1.setTop (mkF m 3 #[.val (.ref a), .unset, .unset, .unset, .unset, .unset] [(.ref oe)])) tg := fun tg kg => by
    refine XS.astoreN X1.here hx rfl (hb hby d_prog_36_method_4_code_3) rfl rfl (l' := #[.val (.ref a), .val (.ref oe), .unset, .unset, .unset, .unset]) rfl ?_
    show Steps p.tables e below (T1.setTop (mkF m 4 #[.val (.ref a), .val (.ref oe), .unset, .unset, .unset, .unset] [])) tg
    exact kg
  refine gs c3 ?_
  obtain ⟨_, _, ⟨T4, L4, k4, n4⟩, -, X4, ⟨Lc4, hQ4, l4, y4, z4⟩, st4⟩ := Jvm.LawKit.callS X1 hx (y := (⟨"com/example/tranche/tranche/terms/Comparison", "values", "()[Lcom/example/tranche/tranche/terms/Comparison;"⟩ : MethodName)) hown (mvT hZ (hw _ (List.mem_of_getElem? (i := 35) rfl))) (mvT hZ (hw _ (List.mem_of_getElem? (i := 36) rfl))) (mvT hZ (hw _ (List.mem_of_getElem? (i := 28) rfl))) (mvT hZ (hw _ (List.mem_of_getElem? (i := 37) rfl))) (by decide) (backC (W := 0) (rm_va l Z a0 hw [] va kv en0 en1 en2 en3 T1.heap n0 Z2 O2 S_va V_va E_va) hZ (hw _ (List.mem_of_getElem? (i := 37) rfl)) (hw _ (List.mem_of_getElem? (i := 28) rfl)) (by decide) (by decide)) (g := (mkF m 4 #[.val (.ref a), .val (.ref oe), .unset, .unset, .unset, .unset] [])) rfl (by rw [hml]; rfl) (argsL := []) (rest := []) (lenOf pd_96 rfl) rfl (by show 2 * 0 + _ ≤ _; exact Nat.le_of_eq rfl) (hb hby d_prog_36_method_4_code_4) (fun _ _ => ⟨rfl, rfl, (by decide : 0 + 1 ≤ _), (by decide : 0 + 4 ≤ _)⟩)
  dsimp only [Pt.U, Pt.locs, Pt.cells, Pt.slots] at X4 l4 y4 z4 st4 hQ4
  subst l4 y4 z4
  obtain ⟨a4, rfl, N4q, K4q, V4q⟩ := hQ4
  have N4 := Fr.app N1 N4q
  have Z5 : n0 ≤ T4.heap.size := Nat.le_trans Z2 K4q.1
  have O5 : Old Z n0 T4.heap := O2.keep K4q all0
  have K5 : Keep h0 T4.heap [] := K2.trans K4q all0
  refine gs st4 ?_
  show OwnGo p e below s _ _ _ (T4.setTop (mkF m 7 #[.val (.ref a), .val (.ref oe), .unset, .unset, .unset, .unset] [(.ref a4)]))
  have c6 : ∀ tg, Steps p.tables e below (T4.setTop (mkF m 9 #[.val (.ref a), .val (.ref oe), .val (.ref a4), .unset, .unset, .unset] [(.ref a4)])) tg → Steps p.tables e below (T4.setTop (mkF m 7 #[.val (.ref a), .val (.ref oe), .unset, .unset, .unset, .unset] [(.ref a4)])) tg := fun tg kg => by
    refine XS.astoreN X4.here hx rfl (hb hby d_prog_36_method_4_code_7) rfl rfl (l' := #[.val (.ref a), .val (.ref oe), .val (.ref a4), .unset, .unset, .unset]) rfl ?_
    show Steps p.tables e below (T4.setTop (mkF m 8 #[.val (.ref a), .val (.ref oe), .val (.ref a4), .unset, .unset, .unset] [])) tg
    refine XS.aloadN X4.here hx rfl (hb hby d_prog_36_method_4_code_8) rfl rfl ?_
    show Steps p.tables e below (T4.setTop (mkF m 9 #[.val (.ref a), .val (.ref oe), .val (.ref a4), .unset, .unset, .unset] [(.ref a4)])) tg
    exact kg
  refine gs c6 ?_
  obtain ⟨cl7, A7, a7q, a7S, a7N, a7H, a7G⟩ := id V4q
  have c8 : ∀ tg, Steps p.tables e below (T4.setTop (mkF m 23 #[.val (.ref a), .val (.ref oe), .val (.ref a4), .val (.int (4 : Int32)), .val (.int (0 : Int32)), .unset] [(.int (0 : Int32)), (.ref a4)])) tg → Steps p.tables e below (T4.setTop (mkF m 9 #[.val (.ref a), .val (.ref oe), .val (.ref a4), .unset, .unset, .unset] [(.ref a4)])) tg := fun tg kg => by
    refine X4.arraylength hx A7.1 (State.isArrayOf_alike hZ.alike A7.2.1) (g := (mkF m 9 #[.val (.ref a), .val (.ref oe), .val (.ref a4), .unset, .unset, .unset] [(.ref a4)])) rfl rfl (hb hby d_prog_36_method_4_code_9) _ ?_; rw [len_of a7S a7N]
    show Steps p.tables e below (T4.setTop (mkF m 10 #[.val (.ref a), .val (.ref oe), .val (.ref a4), .unset, .unset, .unset] [(.int (4 : Int32))])) tg
    refine XS.istoreN X4.here hx rfl (hb hby d_prog_36_method_4_code_10) rfl (l' := #[.val (.ref a), .val (.ref oe), .val (.ref a4), .val (.int (4 : Int32)), .unset, .unset]) rfl ?_
    show Steps p.tables e below (T4.setTop (mkF m 11 #[.val (.ref a), .val (.ref oe), .val (.ref a4), .val (.int (4 : Int32)), .unset, .unset] [])) tg
    refine XS.iconst X4.here hx rfl (hb hby d_prog_36_method_4_code_11) ?_
    show Steps p.tables e below (T4.setTop (mkF m 12 #[.val (.ref a), .val (.ref oe), .val (.ref a4), .val (.int (4 : Int32)), .unset, .unset] [(.int (0 : Int32))])) tg
    refine XS.istore X4.here hx rfl (hb hby d_prog_36_method_4_code_12) rfl (l' := #[.val (.ref a), .val (.ref oe), .val (.ref a4), .val (.int (4 : Int32)), .val (.int (0 : Int32)), .unset]) rfl ?_
    show Steps p.tables e below (T4.setTop (mkF m 14 #[.val (.ref a), .val (.ref oe), .val (.ref a4), .val (.int (4 : Int32)), .val (.int (0 : Int32)), .unset] [])) tg
    refine XS.iload X4.here hx rfl (hb hby d_prog_36_method_4_code_14) rfl ?_
    show Steps p.tables e below (T4.setTop (mkF m 16 #[.val (.ref a), .val (.ref oe), .val (.ref a4), .val (.int (4 : Int32)), .val (.int (0 : Int32)), .unset] [(.int (0 : Int32))])) tg
    refine XS.iloadN X4.here hx rfl (hb hby d_prog_36_method_4_code_16) rfl ?_
    show Steps p.tables e below (T4.setTop (mkF m 17 #[.val (.ref a), .val (.ref oe), .val (.ref a4), .val (.int (4 : Int32)), .val (.int (0 : Int32)), .unset] [(.int (4 : Int32)), (.int (0 : Int32))])) tg
    refine XS.icmpNo X4.here hx rfl (hb hby d_prog_36_method_4_code_17) rfl (tlt (by decide : (0 : Int32) < (4 : Int32))).2.1 ?_
    show Steps p.tables e below (T4.setTop (mkF m 20 #[.val (.ref a), .val (.ref oe), .val (.ref a4), .val (.int (4 : Int32)), .val (.int (0 : Int32)), .unset] [])) tg
    refine XS.aloadN X4.here hx rfl (hb hby d_prog_36_method_4_code_20) rfl rfl ?_
    show Steps p.tables e below (T4.setTop (mkF m 21 #[.val (.ref a), .val (.ref oe), .val (.ref a4), .val (.int (4 : Int32)), .val (.int (0 : Int32)), .unset] [(.ref a4)])) tg
    refine XS.iload X4.here hx rfl (hb hby d_prog_36_method_4_code_21) rfl ?_
    show Steps p.tables e below (T4.setTop (mkF m 23 #[.val (.ref a), .val (.ref oe), .val (.ref a4), .val (.int (4 : Int32)), .val (.int (0 : Int32)), .unset] [(.int (0 : Int32)), (.ref a4)])) tg
    exact kg
  refine gs c8 ?_
  obtain ⟨cl9, A9, a9q, a9S, a9N, a9H, a9G⟩ := id V4q
  have hi9 := inb_of a9S (j := (0 : Int32)) ⟨by decide, by decide⟩
  have c10 : ∀ tg, Steps p.tables e below (T4.setTop (mkF m 28 #[.val (.ref a), .val (.ref oe), .val (.ref a4), .val (.int (4 : Int32)), .val (.int (0 : Int32)), .val (.ref en0)] [(.ref en0)])) tg → Steps p.tables e below (T4.setTop (mkF m 23 #[.val (.ref a), .val (.ref oe), .val (.ref a4), .val (.int (4 : Int32)), .val (.int (0 : Int32)), .unset] [(.int (0 : Int32)), (.ref a4)])) tg := fun tg kg => by
    refine X4.aaload hx (j := (0 : Int32)) (v := (.ref en0)) A9.1 (State.isArrayOf_alike hZ.alike A9.2.1) rfl A9.2.2 hi9 (Has.at a9H hi9 rfl) (g := (mkF m 23 #[.val (.ref a), .val (.ref oe), .val (.ref a4), .val (.int (4 : Int32)), .val (.int (0 : Int32)), .unset] [(.int (0 : Int32)), (.ref a4)])) rfl rfl (hb hby d_prog_36_method_4_code_23) _ ?_
    show Steps p.tables e below (T4.setTop (mkF m 24 #[.val (.ref a), .val (.ref oe), .val (.ref a4), .val (.int (4 : Int32)), .val (.int (0 : Int32)), .unset] [(.ref en0)])) tg
    refine XS.astore X4.here hx rfl (hb hby d_prog_36_method_4_code_24) rfl rfl (l' := #[.val (.ref a), .val (.ref oe), .val (.ref a4), .val (.int (4 : Int32)), .val (.int (0 : Int32)), .val (.ref en0)]) rfl ?_
    show Steps p.tables e below (T4.setTop (mkF m 26 #[.val (.ref a), .val (.ref oe), .val (.ref a4), .val (.int (4 : Int32)), .val (.int (0 : Int32)), .val (.ref en0)] [])) tg
    refine XS.aload X4.here hx rfl (hb hby d_prog_36_method_4_code_26) rfl rfl ?_
    show Steps p.tables e below (T4.setTop (mkF m 28 #[.val (.ref a), .val (.ref oe), .val (.ref a4), .val (.int (4 : Int32)), .val (.int (0 : Int32)), .val (.ref en0)] [(.ref en0)])) tg
    exact kg
  refine gs c10 ?_
  have f11 := (((F_e0.ext O0.2).keep K1q nin0).keep K4q nin0)
  obtain ⟨T12, X12, e12, st12⟩ := getF X4 hx hZ hown (host := "") (Or.inl (hw _ (List.mem_of_getElem? (i := 54) rfl))) Via.refl rfl f11 (g := (mkF m 28 #[.val (.ref a), .val (.ref oe), .val (.ref a4), .val (.int (4 : Int32)), .val (.int (0 : Int32)), .val (.ref en0)] [(.ref en0)])) rfl rfl (hb hby d_prog_36_method_4_code_28)
  refine gs st12 ?_
  show OwnGo p e below s _ _ _ (T12.setTop (mkF m 31 #[.val (.ref a), .val (.ref oe), .val (.ref a4), .val (.int (4 : Int32)), .val (.int (0 : Int32)), .val (.ref en0)] [(.ref sn0)]))
  have c13 : ∀ tg, Steps p.tables e below (T12.setTop (mkF m 32 #[.val (.ref a), .val (.ref oe), .val (.ref a4), .val (.int (4 : Int32)), .val (.int (0 : Int32)), .val (.ref en0)] [(.ref a), (.ref sn0)])) tg → Steps p.tables e below (T12.setTop (mkF m 31 #[.val (.ref a), .val (.ref oe), .val (.ref a4), .val (.int (4 : Int32)), .val (.int (0 : Int32)), .val (.ref en0)] [(.ref sn0)])) tg := fun tg kg => by
    refine XS.aloadN X12.here hx rfl (hb hby d_prog_36_method_4_code_31) rfl rfl ?_
    show Steps p.tables e below (T12.setTop (mkF m 32 #[.val (.ref a), .val (.ref oe), .val (.ref a4), .val (.int (4 : Int32)), .val (.int (0 : Int32)), .val (.ref en0)] [(.ref a), (.ref sn0)])) tg
    exact kg
  refine gs c13 ?_
  have f14 := (((T_s0.ext O0.2).keep0 K1q).keep0 K4q)
  have f15 := ((T_a.keep0 K1q).keep0 K4q)
  obtain ⟨cq16, kq16, q16a, q16b, q16c⟩ := isOf hZ e12 f14.exa
  obtain ⟨_, _, ⟨T16, L16, k16, n16⟩, -, X16, ⟨Lc16, hQ16, l16, y16, z16⟩, st16⟩ := X12.virtualBack hx (y := (⟨"java/lang/String", "equals", "(Ljava/lang/Object;)Z"⟩ : MethodName)) (z := (⟨"java/lang/String", "equals", "(Ljava/lang/Object;)Z"⟩ : MethodName)) hown (mvT hZ (hw _ (List.mem_of_getElem? (i := 56) rfl))) (mvT hZ (hw _ (List.mem_of_getElem? (i := 57) rfl))) (notFace_of_selects (args := #[]) (mvT hZ (hw _ (List.mem_of_getElem? (i := 59) rfl)))) (mvT hZ (hw _ (List.mem_of_getElem? (i := 59) rfl))) (mvT hZ (hw _ (List.mem_of_getElem? (i := 58) rfl))) (by decide) (own_eqB (W := 0) hZ hw f14 (by decide) (by decide) f15 hbd hl (S0.ext O5.2) hz (by decide) (by decide)) q16a q16c (g := (mkF m 32 #[.val (.ref a), .val (.ref oe), .val (.ref a4), .val (.int (4 : Int32)), .val (.int (0 : Int32)), .val (.ref en0)] [(.ref a), (.ref sn0)])) rfl (by rw [hml]; rfl) (Steps.refl _) (argsL := [(.ref a)]) (rest := []) (lenOf pd_114 rfl) rfl (by show 2 * 0 + _ ≤ _; exact Nat.le_of_eq rfl) (hb hby d_prog_36_method_4_code_32) (fun _ _ => ⟨rfl, e12, (by decide : 1 + 0 ≤ _), (by decide : 4 + 0 ≤ _)⟩)
  dsimp only [Pt.U, Pt.locs, Pt.cells, Pt.slots] at X16 l16 y16 z16 st16 hQ16
  subst l16 y16 z16
  replace hQ16 := (show _ ∧ _ ∧ _ from by rcases hQ16 with ⟨⟨u1, u2⟩ | ⟨u1, u2⟩, u3, u4⟩; exact ⟨u1, u3, u4⟩; exact absurd q.symm u2)
  obtain ⟨rfl, rfl, e16q⟩ := hQ16
  have N16 := Fr.app N4 (Fr.nil n0)
  refine gs (fun _ k => st16.trans k) ?_
  show OwnGo p e below s _ _ _ (T16.setTop (mkF m 35 #[.val (.ref a), .val (.ref oe), .val (.ref a4), .val (.int (4 : Int32)), .val (.int (0 : Int32)), .val (.ref en0)] [(.int (1 : Int32))]))
  have c17 : ∀ tg, Steps p.tables e below (T16.setTop (mkF m 40 #[.val (.ref a), .val (.ref oe), .val (.ref a4), .val (.int (4 : Int32)), .val (.int (0 : Int32)), .val (.ref en0)] [(.ref en0)])) tg → Steps p.tables e below (T16.setTop (mkF m 35 #[.val (.ref a), .val (.ref oe), .val (.ref a4), .val (.int (4 : Int32)), .val (.int (0 : Int32)), .val (.ref en0)] [(.int (1 : Int32))])) tg := fun tg kg => by
    refine XS.ifNo X16.here hx rfl (hb hby d_prog_36_method_4_code_35) rfl ((if0 _ _).trans (feq (by decide : ¬ ((1 : Int32) = (0 : Int32)))).1) ?_
    show Steps p.tables e below (T16.setTop (mkF m 38 #[.val (.ref a), .val (.ref oe), .val (.ref a4), .val (.int (4 : Int32)), .val (.int (0 : Int32)), .val (.ref en0)] [])) tg
    refine XS.aload X16.here hx rfl (hb hby d_prog_36_method_4_code_38) rfl rfl ?_
    show Steps p.tables e below (T16.setTop (mkF m 40 #[.val (.ref a), .val (.ref oe), .val (.ref a4), .val (.int (4 : Int32)), .val (.int (0 : Int32)), .val (.ref en0)] [(.ref en0)])) tg
    exact kg
  refine gs c17 ?_
  obtain ⟨_, _, ⟨T18, L18, k18, n18⟩, -, X18, ⟨Lc18, hQ18, l18, y18, z18⟩, st18⟩ := Jvm.LawKit.callS X16 hx (y := (⟨"java/util/Optional", "of", "(Ljava/lang/Object;)Ljava/util/Optional;"⟩ : MethodName)) hown (mvT hZ (hw _ (List.mem_of_getElem? (i := 84) rfl))) (mvT hZ (hw _ (List.mem_of_getElem? (i := 85) rfl))) (mvT hZ (hw _ (List.mem_of_getElem? (i := 32) rfl))) (mvT hZ (hw _ (List.mem_of_getElem? (i := 86) rfl))) (by decide) (backC (W := 0) (rm_of l Z a0 hw [] en0 T4.heap n0 Z5 O5 ) hZ (hw _ (List.mem_of_getElem? (i := 86) rfl)) (hw _ (List.mem_of_getElem? (i := 32) rfl)) (by decide) (by decide)) (g := (mkF m 40 #[.val (.ref a), .val (.ref oe), .val (.ref a4), .val (.int (4 : Int32)), .val (.int (0 : Int32)), .val (.ref en0)] [(.ref en0)])) rfl (by rw [hml]; rfl) (argsL := [(.ref en0)]) (rest := []) (lenOf pd_118 rfl) rfl (by show 2 * 0 + _ ≤ _; exact Nat.le_of_eq rfl) (hb hby d_prog_36_method_4_code_40) (fun _ _ => ⟨rfl, e16q, (by decide : 1 + 1 ≤ _), (by decide : 4 + 1 ≤ _)⟩)
  dsimp only [Pt.U, Pt.locs, Pt.cells, Pt.slots] at X18 l18 y18 z18 st18 hQ18
  subst l18 y18 z18
  obtain ⟨a18, rfl, N18q, K18q, E18q, F18v⟩ := hQ18
  have N18 := Fr.app N16 N18q
  have Z19 : n0 ≤ T18.heap.size := Nat.le_trans Z5 K18q.1
  have O19 : Old Z n0 T18.heap := O5.keep K18q all0
  have K19 : Keep h0 T18.heap [] := K5.trans K18q all0
  refine gs st18 ?_
  show OwnGo p e below s _ _ _ (T18.setTop (mkF m 43 #[.val (.ref a), .val (.ref oe), .val (.ref a4), .val (.int (4 : Int32)), .val (.int (0 : Int32)), .val (.ref en0)] [(.ref a18)]))
  have c20 : ∀ tg, Steps p.tables e below (T18.setTop (mkF m 23 #[.val (.ref a), .val (.ref a18), .val (.ref a4), .val (.int (4 : Int32)), .val (.int (1 : Int32)), .val (.ref en0)] [(.int (1 : Int32)), (.ref a4)])) tg → Steps p.tables e below (T18.setTop (mkF m 43 #[.val (.ref a), .val (.ref oe), .val (.ref a4), .val (.int (4 : Int32)), .val (.int (0 : Int32)), .val (.ref en0)] [(.ref a18)])) tg := fun tg kg => by
    refine XS.astoreN X18.here hx rfl (hb hby d_prog_36_method_4_code_43) rfl rfl (l' := #[.val (.ref a), .val (.ref a18), .val (.ref a4), .val (.int (4 : Int32)), .val (.int (0 : Int32)), .val (.ref en0)]) rfl ?_
    show Steps p.tables e below (T18.setTop (mkF m 44 #[.val (.ref a), .val (.ref a18), .val (.ref a4), .val (.int (4 : Int32)), .val (.int (0 : Int32)), .val (.ref en0)] [])) tg
    refine XS.iinc X18.here hx rfl (hb hby d_prog_36_method_4_code_44) rfl (l' := #[.val (.ref a), .val (.ref a18), .val (.ref a4), .val (.int (4 : Int32)), .val (.int (1 : Int32)), .val (.ref en0)]) rfl ?_
    show Steps p.tables e below (T18.setTop (mkF m 47 #[.val (.ref a), .val (.ref a18), .val (.ref a4), .val (.int (4 : Int32)), .val (.int (1 : Int32)), .val (.ref en0)] [])) tg
    refine XS.goto X18.here hx rfl (pc0 := 47) (pc' := 14) rfl (hb hby d_prog_36_method_4_code_47) (by decide) (by decide) ?_
    show Steps p.tables e below (T18.setTop (mkF m 14 #[.val (.ref a), .val (.ref a18), .val (.ref a4), .val (.int (4 : Int32)), .val (.int (1 : Int32)), .val (.ref en0)] [])) tg
    refine XS.iload X18.here hx rfl (hb hby d_prog_36_method_4_code_14) rfl ?_
    show Steps p.tables e below (T18.setTop (mkF m 16 #[.val (.ref a), .val (.ref a18), .val (.ref a4), .val (.int (4 : Int32)), .val (.int (1 : Int32)), .val (.ref en0)] [(.int (1 : Int32))])) tg
    refine XS.iloadN X18.here hx rfl (hb hby d_prog_36_method_4_code_16) rfl ?_
    show Steps p.tables e below (T18.setTop (mkF m 17 #[.val (.ref a), .val (.ref a18), .val (.ref a4), .val (.int (4 : Int32)), .val (.int (1 : Int32)), .val (.ref en0)] [(.int (4 : Int32)), (.int (1 : Int32))])) tg
    refine XS.icmpNo X18.here hx rfl (hb hby d_prog_36_method_4_code_17) rfl (tlt (by decide : (1 : Int32) < (4 : Int32))).2.1 ?_
    show Steps p.tables e below (T18.setTop (mkF m 20 #[.val (.ref a), .val (.ref a18), .val (.ref a4), .val (.int (4 : Int32)), .val (.int (1 : Int32)), .val (.ref en0)] [])) tg
    refine XS.aloadN X18.here hx rfl (hb hby d_prog_36_method_4_code_20) rfl rfl ?_
    show Steps p.tables e below (T18.setTop (mkF m 21 #[.val (.ref a), .val (.ref a18), .val (.ref a4), .val (.int (4 : Int32)), .val (.int (1 : Int32)), .val (.ref en0)] [(.ref a4)])) tg
    refine XS.iload X18.here hx rfl (hb hby d_prog_36_method_4_code_21) rfl ?_
    show Steps p.tables e below (T18.setTop (mkF m 23 #[.val (.ref a), .val (.ref a18), .val (.ref a4), .val (.int (4 : Int32)), .val (.int (1 : Int32)), .val (.ref en0)] [(.int (1 : Int32)), (.ref a4)])) tg
    exact kg
  refine gs c20 ?_
  have f21 := (V4q.keep K18q nin0)
  obtain ⟨cl22, A22, a22q, a22S, a22N, a22H, a22G⟩ := id f21
  have hi22 := inb_of a22S (j := (1 : Int32)) ⟨by decide, by decide⟩
  have c23 : ∀ tg, Steps p.tables e below (T18.setTop (mkF m 28 #[.val (.ref a), .val (.ref a18), .val (.ref a4), .val (.int (4 : Int32)), .val (.int (1 : Int32)), .val (.ref en1)] [(.ref en1)])) tg → Steps p.tables e below (T18.setTop (mkF m 23 #[.val (.ref a), .val (.ref a18), .val (.ref a4), .val (.int (4 : Int32)), .val (.int (1 : Int32)), .val (.ref en0)] [(.int (1 : Int32)), (.ref a4)])) tg := fun tg kg => by
    refine X18.aaload hx (j := (1 : Int32)) (v := (.ref en1)) A22.1 (State.isArrayOf_alike hZ.alike A22.2.1) rfl A22.2.2 hi22 (Has.at a22H hi22 rfl) (g := (mkF m 23 #[.val (.ref a), .val (.ref a18), .val (.ref a4), .val (.int (4 : Int32)), .val (.int (1 : Int32)), .val (.ref en0)] [(.int (1 : Int32)), (.ref a4)])) rfl rfl (hb hby d_prog_36_method_4_code_23) _ ?_
    show Steps p.tables e below (T18.setTop (mkF m 24 #[.val (.ref a), .val (.ref a18), .val (.ref a4), .val (.int (4 : Int32)), .val (.int (1 : Int32)), .val (.ref en0)] [(.ref en1)])) tg
    refine XS.astore X18.here hx rfl (hb hby d_prog_36_method_4_code_24) rfl rfl (l' := #[.val (.ref a), .val (.ref a18), .val (.ref a4), .val (.int (4 : Int32)), .val (.int (1 : Int32)), .val (.ref en1)]) rfl ?_
    show Steps p.tables e below (T18.setTop (mkF m 26 #[.val (.ref a), .val (.ref a18), .val (.ref a4), .val (.int (4 : Int32)), .val (.int (1 : Int32)), .val (.ref en1)] [])) tg
    refine XS.aload X18.here hx rfl (hb hby d_prog_36_method_4_code_26) rfl rfl ?_
    show Steps p.tables e below (T18.setTop (mkF m 28 #[.val (.ref a), .val (.ref a18), .val (.ref a4), .val (.int (4 : Int32)), .val (.int (1 : Int32)), .val (.ref en1)] [(.ref en1)])) tg
    exact kg
  refine gs c23 ?_
  have f24 := ((((F_e1.ext O0.2).keep K1q nin0).keep K4q nin0).keep K18q nin0)
  obtain ⟨T25, X25, e25, st25⟩ := getF X18 hx hZ hown (host := "") (Or.inl (hw _ (List.mem_of_getElem? (i := 54) rfl))) Via.refl rfl f24 (g := (mkF m 28 #[.val (.ref a), .val (.ref a18), .val (.ref a4), .val (.int (4 : Int32)), .val (.int (1 : Int32)), .val (.ref en1)] [(.ref en1)])) rfl rfl (hb hby d_prog_36_method_4_code_28)
  refine gs st25 ?_
  show OwnGo p e below s _ _ _ (T25.setTop (mkF m 31 #[.val (.ref a), .val (.ref a18), .val (.ref a4), .val (.int (4 : Int32)), .val (.int (1 : Int32)), .val (.ref en1)] [(.ref sn1)]))
  have c26 : ∀ tg, Steps p.tables e below (T25.setTop (mkF m 32 #[.val (.ref a), .val (.ref a18), .val (.ref a4), .val (.int (4 : Int32)), .val (.int (1 : Int32)), .val (.ref en1)] [(.ref a), (.ref sn1)])) tg → Steps p.tables e below (T25.setTop (mkF m 31 #[.val (.ref a), .val (.ref a18), .val (.ref a4), .val (.int (4 : Int32)), .val (.int (1 : Int32)), .val (.ref en1)] [(.ref sn1)])) tg := fun tg kg => by
    refine XS.aloadN X25.here hx rfl (hb hby d_prog_36_method_4_code_31) rfl rfl ?_
    show Steps p.tables e below (T25.setTop (mkF m 32 #[.val (.ref a), .val (.ref a18), .val (.ref a4), .val (.int (4 : Int32)), .val (.int (1 : Int32)), .val (.ref en1)] [(.ref a), (.ref sn1)])) tg
    exact kg
  refine gs c26 ?_
  have f27 := ((((T_s1.ext O0.2).keep0 K1q).keep0 K4q).keep0 K18q)
  have f28 := (f15.keep0 K18q)
  obtain ⟨cq29, kq29, q29a, q29b, q29c⟩ := isOf hZ e25 f27.exa
  obtain ⟨_, _, ⟨T29, L29, k29, n29⟩, -, X29, ⟨Lc29, hQ29, l29, y29, z29⟩, st29⟩ := X25.virtualBack hx (y := (⟨"java/lang/String", "equals", "(Ljava/lang/Object;)Z"⟩ : MethodName)) (z := (⟨"java/lang/String", "equals", "(Ljava/lang/Object;)Z"⟩ : MethodName)) hown (mvT hZ (hw _ (List.mem_of_getElem? (i := 56) rfl))) (mvT hZ (hw _ (List.mem_of_getElem? (i := 57) rfl))) (notFace_of_selects (args := #[]) (mvT hZ (hw _ (List.mem_of_getElem? (i := 59) rfl)))) (mvT hZ (hw _ (List.mem_of_getElem? (i := 59) rfl))) (mvT hZ (hw _ (List.mem_of_getElem? (i := 58) rfl))) (by decide) (own_eqB (W := 0) hZ hw f27 (by decide) (by decide) f28 hbd hl (S0.ext O19.2) hz (by decide) (by decide)) q29a q29c (g := (mkF m 32 #[.val (.ref a), .val (.ref a18), .val (.ref a4), .val (.int (4 : Int32)), .val (.int (1 : Int32)), .val (.ref en1)] [(.ref a), (.ref sn1)])) rfl (by rw [hml]; rfl) (Steps.refl _) (argsL := [(.ref a)]) (rest := []) (lenOf pd_114 rfl) rfl (by show 2 * 0 + _ ≤ _; exact Nat.le_of_eq rfl) (hb hby d_prog_36_method_4_code_32) (fun _ _ => ⟨rfl, e25, (by decide : 2 + 0 ≤ _), (by decide : 5 + 0 ≤ _)⟩)
  dsimp only [Pt.U, Pt.locs, Pt.cells, Pt.slots] at X29 l29 y29 z29 st29 hQ29
  subst l29 y29 z29
  replace hQ29 := (show _ ∧ _ ∧ _ from by rcases hQ29 with ⟨⟨u1, u2⟩ | ⟨u1, u2⟩, u3, u4⟩; exact absurd u2 (by rw [q]; decide); exact ⟨u1, u3, u4⟩)
  obtain ⟨rfl, rfl, e29q⟩ := hQ29
  have N29 := Fr.app N18 (Fr.nil n0)
  refine gs (fun _ k => st29.trans k) ?_
  show OwnGo p e below s _ _ _ (T29.setTop (mkF m 35 #[.val (.ref a), .val (.ref a18), .val (.ref a4), .val (.int (4 : Int32)), .val (.int (1 : Int32)), .val (.ref en1)] [(.int (0 : Int32))]))
  have c30 : ∀ tg, Steps p.tables e below (T29.setTop (mkF m 23 #[.val (.ref a), .val (.ref a18), .val (.ref a4), .val (.int (4 : Int32)), .val (.int (2 : Int32)), .val (.ref en1)] [(.int (2 : Int32)), (.ref a4)])) tg → Steps p.tables e below (T29.setTop (mkF m 35 #[.val (.ref a), .val (.ref a18), .val (.ref a4), .val (.int (4 : Int32)), .val (.int (1 : Int32)), .val (.ref en1)] [(.int (0 : Int32))])) tg := fun tg kg => by
    refine XS.ifYes X29.here hx rfl (pc0 := 35) (pc' := 44) rfl (hb hby d_prog_36_method_4_code_35) rfl ((if0 _ _).trans (teq (by decide : (0 : Int32) = (0 : Int32))).1) (by decide) (by decide) ?_
    show Steps p.tables e below (T29.setTop (mkF m 44 #[.val (.ref a), .val (.ref a18), .val (.ref a4), .val (.int (4 : Int32)), .val (.int (1 : Int32)), .val (.ref en1)] [])) tg
    refine XS.iinc X29.here hx rfl (hb hby d_prog_36_method_4_code_44) rfl (l' := #[.val (.ref a), .val (.ref a18), .val (.ref a4), .val (.int (4 : Int32)), .val (.int (2 : Int32)), .val (.ref en1)]) rfl ?_
    show Steps p.tables e below (T29.setTop (mkF m 47 #[.val (.ref a), .val (.ref a18), .val (.ref a4), .val (.int (4 : Int32)), .val (.int (2 : Int32)), .val (.ref en1)] [])) tg
    refine XS.goto X29.here hx rfl (pc0 := 47) (pc' := 14) rfl (hb hby d_prog_36_method_4_code_47) (by decide) (by decide) ?_
    show Steps p.tables e below (T29.setTop (mkF m 14 #[.val (.ref a), .val (.ref a18), .val (.ref a4), .val (.int (4 : Int32)), .val (.int (2 : Int32)), .val (.ref en1)] [])) tg
    refine XS.iload X29.here hx rfl (hb hby d_prog_36_method_4_code_14) rfl ?_
    show Steps p.tables e below (T29.setTop (mkF m 16 #[.val (.ref a), .val (.ref a18), .val (.ref a4), .val (.int (4 : Int32)), .val (.int (2 : Int32)), .val (.ref en1)] [(.int (2 : Int32))])) tg
    refine XS.iloadN X29.here hx rfl (hb hby d_prog_36_method_4_code_16) rfl ?_
    show Steps p.tables e below (T29.setTop (mkF m 17 #[.val (.ref a), .val (.ref a18), .val (.ref a4), .val (.int (4 : Int32)), .val (.int (2 : Int32)), .val (.ref en1)] [(.int (4 : Int32)), (.int (2 : Int32))])) tg
    refine XS.icmpNo X29.here hx rfl (hb hby d_prog_36_method_4_code_17) rfl (tlt (by decide : (2 : Int32) < (4 : Int32))).2.1 ?_
    show Steps p.tables e below (T29.setTop (mkF m 20 #[.val (.ref a), .val (.ref a18), .val (.ref a4), .val (.int (4 : Int32)), .val (.int (2 : Int32)), .val (.ref en1)] [])) tg
    refine XS.aloadN X29.here hx rfl (hb hby d_prog_36_method_4_code_20) rfl rfl ?_
    show Steps p.tables e below (T29.setTop (mkF m 21 #[.val (.ref a), .val (.ref a18), .val (.ref a4), .val (.int (4 : Int32)), .val (.int (2 : Int32)), .val (.ref en1)] [(.ref a4)])) tg
    refine XS.iload X29.here hx rfl (hb hby d_prog_36_method_4_code_21) rfl ?_
    show Steps p.tables e below (T29.setTop (mkF m 23 #[.val (.ref a), .val (.ref a18), .val (.ref a4), .val (.int (4 : Int32)), .val (.int (2 : Int32)), .val (.ref en1)] [(.int (2 : Int32)), (.ref a4)])) tg
    exact kg
  refine gs c30 ?_
  obtain ⟨cl31, A31, a31q, a31S, a31N, a31H, a31G⟩ := id f21
  have hi31 := inb_of a31S (j := (2 : Int32)) ⟨by decide, by decide⟩
  have c32 : ∀ tg, Steps p.tables e below (T29.setTop (mkF m 28 #[.val (.ref a), .val (.ref a18), .val (.ref a4), .val (.int (4 : Int32)), .val (.int (2 : Int32)), .val (.ref en2)] [(.ref en2)])) tg → Steps p.tables e below (T29.setTop (mkF m 23 #[.val (.ref a), .val (.ref a18), .val (.ref a4), .val (.int (4 : Int32)), .val (.int (2 : Int32)), .val (.ref en1)] [(.int (2 : Int32)), (.ref a4)])) tg := fun tg kg => by
    refine X29.aaload hx (j := (2 : Int32)) (v := (.ref en2)) (by rw [e29q]; exact A31.1) (State.isArrayOf_alike hZ.alike A31.2.1) rfl A31.2.2 hi31 (Has.at a31H hi31 rfl) (g := (mkF m 23 #[.val (.ref a), .val (.ref a18), .val (.ref a4), .val (.int (4 : Int32)), .val (.int (2 : Int32)), .val (.ref en1)] [(.int (2 : Int32)), (.ref a4)])) rfl rfl (hb hby d_prog_36_method_4_code_23) _ ?_
    show Steps p.tables e below (T29.setTop (mkF m 24 #[.val (.ref a), .val (.ref a18), .val (.ref a4), .val (.int (4 : Int32)), .val (.int (2 : Int32)), .val (.ref en1)] [(.ref en2)])) tg
    refine XS.astore X29.here hx rfl (hb hby d_prog_36_method_4_code_24) rfl rfl (l' := #[.val (.ref a), .val (.ref a18), .val (.ref a4), .val (.int (4 : Int32)), .val (.int (2 : Int32)), .val (.ref en2)]) rfl ?_
    show Steps p.tables e below (T29.setTop (mkF m 26 #[.val (.ref a), .val (.ref a18), .val (.ref a4), .val (.int (4 : Int32)), .val (.int (2 : Int32)), .val (.ref en2)] [])) tg
    refine XS.aload X29.here hx rfl (hb hby d_prog_36_method_4_code_26) rfl rfl ?_
    show Steps p.tables e below (T29.setTop (mkF m 28 #[.val (.ref a), .val (.ref a18), .val (.ref a4), .val (.int (4 : Int32)), .val (.int (2 : Int32)), .val (.ref en2)] [(.ref en2)])) tg
    exact kg
  refine gs c32 ?_
  have f33 := ((((F_e2.ext O0.2).keep K1q nin0).keep K4q nin0).keep K18q nin0)
  obtain ⟨T34, X34, e34, st34⟩ := getF X29 hx hZ hown (host := "") (Or.inl (hw _ (List.mem_of_getElem? (i := 54) rfl))) Via.refl e29q f33 (g := (mkF m 28 #[.val (.ref a), .val (.ref a18), .val (.ref a4), .val (.int (4 : Int32)), .val (.int (2 : Int32)), .val (.ref en2)] [(.ref en2)])) rfl rfl (hb hby d_prog_36_method_4_code_28)
  refine gs st34 ?_
  show OwnGo p e below s _ _ _ (T34.setTop (mkF m 31 #[.val (.ref a), .val (.ref a18), .val (.ref a4), .val (.int (4 : Int32)), .val (.int (2 : Int32)), .val (.ref en2)] [(.ref sn2)]))
  have c35 : ∀ tg, Steps p.tables e below (T34.setTop (mkF m 32 #[.val (.ref a), .val (.ref a18), .val (.ref a4), .val (.int (4 : Int32)), .val (.int (2 : Int32)), .val (.ref en2)] [(.ref a), (.ref sn2)])) tg → Steps p.tables e below (T34.setTop (mkF m 31 #[.val (.ref a), .val (.ref a18), .val (.ref a4), .val (.int (4 : Int32)), .val (.int (2 : Int32)), .val (.ref en2)] [(.ref sn2)])) tg := fun tg kg => by
    refine XS.aloadN X34.here hx rfl (hb hby d_prog_36_method_4_code_31) rfl rfl ?_
    show Steps p.tables e below (T34.setTop (mkF m 32 #[.val (.ref a), .val (.ref a18), .val (.ref a4), .val (.int (4 : Int32)), .val (.int (2 : Int32)), .val (.ref en2)] [(.ref a), (.ref sn2)])) tg
    exact kg
  refine gs c35 ?_
  have f36 := ((((T_s2.ext O0.2).keep0 K1q).keep0 K4q).keep0 K18q)
  obtain ⟨cq37, kq37, q37a, q37b, q37c⟩ := isOf hZ e34 f36.exa
  obtain ⟨_, _, ⟨T37, L37, k37, n37⟩, -, X37, ⟨Lc37, hQ37, l37, y37, z37⟩, st37⟩ := X34.virtualBack hx (y := (⟨"java/lang/String", "equals", "(Ljava/lang/Object;)Z"⟩ : MethodName)) (z := (⟨"java/lang/String", "equals", "(Ljava/lang/Object;)Z"⟩ : MethodName)) hown (mvT hZ (hw _ (List.mem_of_getElem? (i := 56) rfl))) (mvT hZ (hw _ (List.mem_of_getElem? (i := 57) rfl))) (notFace_of_selects (args := #[]) (mvT hZ (hw _ (List.mem_of_getElem? (i := 59) rfl)))) (mvT hZ (hw _ (List.mem_of_getElem? (i := 59) rfl))) (mvT hZ (hw _ (List.mem_of_getElem? (i := 58) rfl))) (by decide) (own_eqB (W := 0) hZ hw f36 (by decide) (by decide) f28 hbd hl (S0.ext O19.2) hz (by decide) (by decide)) q37a q37c (g := (mkF m 32 #[.val (.ref a), .val (.ref a18), .val (.ref a4), .val (.int (4 : Int32)), .val (.int (2 : Int32)), .val (.ref en2)] [(.ref a), (.ref sn2)])) rfl (by rw [hml]; rfl) (Steps.refl _) (argsL := [(.ref a)]) (rest := []) (lenOf pd_114 rfl) rfl (by show 2 * 0 + _ ≤ _; exact Nat.le_of_eq rfl) (hb hby d_prog_36_method_4_code_32) (fun _ _ => ⟨rfl, e34, (by decide : 2 + 0 ≤ _), (by decide : 5 + 0 ≤ _)⟩)
  dsimp only [Pt.U, Pt.locs, Pt.cells, Pt.slots] at X37 l37 y37 z37 st37 hQ37
  subst l37 y37 z37
  replace hQ37 := (show _ ∧ _ ∧ _ from by rcases hQ37 with ⟨⟨u1, u2⟩ | ⟨u1, u2⟩, u3, u4⟩; exact absurd u2 (by rw [q]; decide); exact ⟨u1, u3, u4⟩)
  obtain ⟨rfl, rfl, e37q⟩ := hQ37
  have N37 := Fr.app N29 (Fr.nil n0)
  refine gs (fun _ k => st37.trans k) ?_
  show OwnGo p e below s _ _ _ (T37.setTop (mkF m 35 #[.val (.ref a), .val (.ref a18), .val (.ref a4), .val (.int (4 : Int32)), .val (.int (2 : Int32)), .val (.ref en2)] [(.int (0 : Int32))]))
  have c38 : ∀ tg, Steps p.tables e below (T37.setTop (mkF m 23 #[.val (.ref a), .val (.ref a18), .val (.ref a4), .val (.int (4 : Int32)), .val (.int (3 : Int32)), .val (.ref en2)] [(.int (3 : Int32)), (.ref a4)])) tg → Steps p.tables e below (T37.setTop (mkF m 35 #[.val (.ref a), .val (.ref a18), .val (.ref a4), .val (.int (4 : Int32)), .val (.int (2 : Int32)), .val (.ref en2)] [(.int (0 : Int32))])) tg := fun tg kg => by
    refine XS.ifYes X37.here hx rfl (pc0 := 35) (pc' := 44) rfl (hb hby d_prog_36_method_4_code_35) rfl ((if0 _ _).trans (teq (by decide : (0 : Int32) = (0 : Int32))).1) (by decide) (by decide) ?_
    show Steps p.tables e below (T37.setTop (mkF m 44 #[.val (.ref a), .val (.ref a18), .val (.ref a4), .val (.int (4 : Int32)), .val (.int (2 : Int32)), .val (.ref en2)] [])) tg
    refine XS.iinc X37.here hx rfl (hb hby d_prog_36_method_4_code_44) rfl (l' := #[.val (.ref a), .val (.ref a18), .val (.ref a4), .val (.int (4 : Int32)), .val (.int (3 : Int32)), .val (.ref en2)]) rfl ?_
    show Steps p.tables e below (T37.setTop (mkF m 47 #[.val (.ref a), .val (.ref a18), .val (.ref a4), .val (.int (4 : Int32)), .val (.int (3 : Int32)), .val (.ref en2)] [])) tg
    refine XS.goto X37.here hx rfl (pc0 := 47) (pc' := 14) rfl (hb hby d_prog_36_method_4_code_47) (by decide) (by decide) ?_
    show Steps p.tables e below (T37.setTop (mkF m 14 #[.val (.ref a), .val (.ref a18), .val (.ref a4), .val (.int (4 : Int32)), .val (.int (3 : Int32)), .val (.ref en2)] [])) tg
    refine XS.iload X37.here hx rfl (hb hby d_prog_36_method_4_code_14) rfl ?_
    show Steps p.tables e below (T37.setTop (mkF m 16 #[.val (.ref a), .val (.ref a18), .val (.ref a4), .val (.int (4 : Int32)), .val (.int (3 : Int32)), .val (.ref en2)] [(.int (3 : Int32))])) tg
    refine XS.iloadN X37.here hx rfl (hb hby d_prog_36_method_4_code_16) rfl ?_
    show Steps p.tables e below (T37.setTop (mkF m 17 #[.val (.ref a), .val (.ref a18), .val (.ref a4), .val (.int (4 : Int32)), .val (.int (3 : Int32)), .val (.ref en2)] [(.int (4 : Int32)), (.int (3 : Int32))])) tg
    refine XS.icmpNo X37.here hx rfl (hb hby d_prog_36_method_4_code_17) rfl (tlt (by decide : (3 : Int32) < (4 : Int32))).2.1 ?_
    show Steps p.tables e below (T37.setTop (mkF m 20 #[.val (.ref a), .val (.ref a18), .val (.ref a4), .val (.int (4 : Int32)), .val (.int (3 : Int32)), .val (.ref en2)] [])) tg
    refine XS.aloadN X37.here hx rfl (hb hby d_prog_36_method_4_code_20) rfl rfl ?_
    show Steps p.tables e below (T37.setTop (mkF m 21 #[.val (.ref a), .val (.ref a18), .val (.ref a4), .val (.int (4 : Int32)), .val (.int (3 : Int32)), .val (.ref en2)] [(.ref a4)])) tg
    refine XS.iload X37.here hx rfl (hb hby d_prog_36_method_4_code_21) rfl ?_
    show Steps p.tables e below (T37.setTop (mkF m 23 #[.val (.ref a), .val (.ref a18), .val (.ref a4), .val (.int (4 : Int32)), .val (.int (3 : Int32)), .val (.ref en2)] [(.int (3 : Int32)), (.ref a4)])) tg
    exact kg
  refine gs c38 ?_
  obtain ⟨cl39, A39, a39q, a39S, a39N, a39H, a39G⟩ := id f21
  have hi39 := inb_of a39S (j := (3 : Int32)) ⟨by decide, by decide⟩
  have c40 : ∀ tg, Steps p.tables e below (T37.setTop (mkF m 28 #[.val (.ref a), .val (.ref a18), .val (.ref a4), .val (.int (4 : Int32)), .val (.int (3 : Int32)), .val (.ref en3)] [(.ref en3)])) tg → Steps p.tables e below (T37.setTop (mkF m 23 #[.val (.ref a), .val (.ref a18), .val (.ref a4), .val (.int (4 : Int32)), .val (.int (3 : Int32)), .val (.ref en2)] [(.int (3 : Int32)), (.ref a4)])) tg := fun tg kg => by
    refine X37.aaload hx (j := (3 : Int32)) (v := (.ref en3)) (by rw [e37q]; exact A39.1) (State.isArrayOf_alike hZ.alike A39.2.1) rfl A39.2.2 hi39 (Has.at a39H hi39 rfl) (g := (mkF m 23 #[.val (.ref a), .val (.ref a18), .val (.ref a4), .val (.int (4 : Int32)), .val (.int (3 : Int32)), .val (.ref en2)] [(.int (3 : Int32)), (.ref a4)])) rfl rfl (hb hby d_prog_36_method_4_code_23) _ ?_
    show Steps p.tables e below (T37.setTop (mkF m 24 #[.val (.ref a), .val (.ref a18), .val (.ref a4), .val (.int (4 : Int32)), .val (.int (3 : Int32)), .val (.ref en2)] [(.ref en3)])) tg
    refine XS.astore X37.here hx rfl (hb hby d_prog_36_method_4_code_24) rfl rfl (l' := #[.val (.ref a), .val (.ref a18), .val (.ref a4), .val (.int (4 : Int32)), .val (.int (3 : Int32)), .val (.ref en3)]) rfl ?_
    show Steps p.tables e below (T37.setTop (mkF m 26 #[.val (.ref a), .val (.ref a18), .val (.ref a4), .val (.int (4 : Int32)), .val (.int (3 : Int32)), .val (.ref en3)] [])) tg
    refine XS.aload X37.here hx rfl (hb hby d_prog_36_method_4_code_26) rfl rfl ?_
    show Steps p.tables e below (T37.setTop (mkF m 28 #[.val (.ref a), .val (.ref a18), .val (.ref a4), .val (.int (4 : Int32)), .val (.int (3 : Int32)), .val (.ref en3)] [(.ref en3)])) tg
    exact kg
  refine gs c40 ?_
  have f41 := ((((F_e3.ext O0.2).keep K1q nin0).keep K4q nin0).keep K18q nin0)
  obtain ⟨T42, X42, e42, st42⟩ := getF X37 hx hZ hown (host := "") (Or.inl (hw _ (List.mem_of_getElem? (i := 54) rfl))) Via.refl e37q f41 (g := (mkF m 28 #[.val (.ref a), .val (.ref a18), .val (.ref a4), .val (.int (4 : Int32)), .val (.int (3 : Int32)), .val (.ref en3)] [(.ref en3)])) rfl rfl (hb hby d_prog_36_method_4_code_28)
  refine gs st42 ?_
  show OwnGo p e below s _ _ _ (T42.setTop (mkF m 31 #[.val (.ref a), .val (.ref a18), .val (.ref a4), .val (.int (4 : Int32)), .val (.int (3 : Int32)), .val (.ref en3)] [(.ref sn3)]))
  have c43 : ∀ tg, Steps p.tables e below (T42.setTop (mkF m 32 #[.val (.ref a), .val (.ref a18), .val (.ref a4), .val (.int (4 : Int32)), .val (.int (3 : Int32)), .val (.ref en3)] [(.ref a), (.ref sn3)])) tg → Steps p.tables e below (T42.setTop (mkF m 31 #[.val (.ref a), .val (.ref a18), .val (.ref a4), .val (.int (4 : Int32)), .val (.int (3 : Int32)), .val (.ref en3)] [(.ref sn3)])) tg := fun tg kg => by
    refine XS.aloadN X42.here hx rfl (hb hby d_prog_36_method_4_code_31) rfl rfl ?_
    show Steps p.tables e below (T42.setTop (mkF m 32 #[.val (.ref a), .val (.ref a18), .val (.ref a4), .val (.int (4 : Int32)), .val (.int (3 : Int32)), .val (.ref en3)] [(.ref a), (.ref sn3)])) tg
    exact kg
  refine gs c43 ?_
  have f44 := ((((T_s3.ext O0.2).keep0 K1q).keep0 K4q).keep0 K18q)
  obtain ⟨cq45, kq45, q45a, q45b, q45c⟩ := isOf hZ e42 f44.exa
  obtain ⟨_, _, ⟨T45, L45, k45, n45⟩, -, X45, ⟨Lc45, hQ45, l45, y45, z45⟩, st45⟩ := X42.virtualBack hx (y := (⟨"java/lang/String", "equals", "(Ljava/lang/Object;)Z"⟩ : MethodName)) (z := (⟨"java/lang/String", "equals", "(Ljava/lang/Object;)Z"⟩ : MethodName)) hown (mvT hZ (hw _ (List.mem_of_getElem? (i := 56) rfl))) (mvT hZ (hw _ (List.mem_of_getElem? (i := 57) rfl))) (notFace_of_selects (args := #[]) (mvT hZ (hw _ (List.mem_of_getElem? (i := 59) rfl)))) (mvT hZ (hw _ (List.mem_of_getElem? (i := 59) rfl))) (mvT hZ (hw _ (List.mem_of_getElem? (i := 58) rfl))) (by decide) (own_eqB (W := 0) hZ hw f44 (by decide) (by decide) f28 hbd hl (S0.ext O19.2) hz (by decide) (by decide)) q45a q45c (g := (mkF m 32 #[.val (.ref a), .val (.ref a18), .val (.ref a4), .val (.int (4 : Int32)), .val (.int (3 : Int32)), .val (.ref en3)] [(.ref a), (.ref sn3)])) rfl (by rw [hml]; rfl) (Steps.refl _) (argsL := [(.ref a)]) (rest := []) (lenOf pd_114 rfl) rfl (by show 2 * 0 + _ ≤ _; exact Nat.le_of_eq rfl) (hb hby d_prog_36_method_4_code_32) (fun _ _ => ⟨rfl, e42, (by decide : 2 + 0 ≤ _), (by decide : 5 + 0 ≤ _)⟩)
  dsimp only [Pt.U, Pt.locs, Pt.cells, Pt.slots] at X45 l45 y45 z45 st45 hQ45
  subst l45 y45 z45
  replace hQ45 := (show _ ∧ _ ∧ _ from by rcases hQ45 with ⟨⟨u1, u2⟩ | ⟨u1, u2⟩, u3, u4⟩; exact absurd u2 (by rw [q]; decide); exact ⟨u1, u3, u4⟩)
  obtain ⟨rfl, rfl, e45q⟩ := hQ45
  have N45 := Fr.app N37 (Fr.nil n0)
  refine gs (fun _ k => st45.trans k) ?_
  show OwnGo p e below s _ _ _ (T45.setTop (mkF m 35 #[.val (.ref a), .val (.ref a18), .val (.ref a4), .val (.int (4 : Int32)), .val (.int (3 : Int32)), .val (.ref en3)] [(.int (0 : Int32))]))
  have c46 : ∀ tg, Steps p.tables e below (T45.setTop (mkF m 51 #[.val (.ref a), .val (.ref a18), .val (.ref a4), .val (.int (4 : Int32)), .val (.int (4 : Int32)), .val (.ref en3)] [(.ref a18)])) tg → Steps p.tables e below (T45.setTop (mkF m 35 #[.val (.ref a), .val (.ref a18), .val (.ref a4), .val (.int (4 : Int32)), .val (.int (3 : Int32)), .val (.ref en3)] [(.int (0 : Int32))])) tg := fun tg kg => by
    refine XS.ifYes X45.here hx rfl (pc0 := 35) (pc' := 44) rfl (hb hby d_prog_36_method_4_code_35) rfl ((if0 _ _).trans (teq (by decide : (0 : Int32) = (0 : Int32))).1) (by decide) (by decide) ?_
    show Steps p.tables e below (T45.setTop (mkF m 44 #[.val (.ref a), .val (.ref a18), .val (.ref a4), .val (.int (4 : Int32)), .val (.int (3 : Int32)), .val (.ref en3)] [])) tg
    refine XS.iinc X45.here hx rfl (hb hby d_prog_36_method_4_code_44) rfl (l' := #[.val (.ref a), .val (.ref a18), .val (.ref a4), .val (.int (4 : Int32)), .val (.int (4 : Int32)), .val (.ref en3)]) rfl ?_
    show Steps p.tables e below (T45.setTop (mkF m 47 #[.val (.ref a), .val (.ref a18), .val (.ref a4), .val (.int (4 : Int32)), .val (.int (4 : Int32)), .val (.ref en3)] [])) tg
    refine XS.goto X45.here hx rfl (pc0 := 47) (pc' := 14) rfl (hb hby d_prog_36_method_4_code_47) (by decide) (by decide) ?_
    show Steps p.tables e below (T45.setTop (mkF m 14 #[.val (.ref a), .val (.ref a18), .val (.ref a4), .val (.int (4 : Int32)), .val (.int (4 : Int32)), .val (.ref en3)] [])) tg
    refine XS.iload X45.here hx rfl (hb hby d_prog_36_method_4_code_14) rfl ?_
    show Steps p.tables e below (T45.setTop (mkF m 16 #[.val (.ref a), .val (.ref a18), .val (.ref a4), .val (.int (4 : Int32)), .val (.int (4 : Int32)), .val (.ref en3)] [(.int (4 : Int32))])) tg
    refine XS.iloadN X45.here hx rfl (hb hby d_prog_36_method_4_code_16) rfl ?_
    show Steps p.tables e below (T45.setTop (mkF m 17 #[.val (.ref a), .val (.ref a18), .val (.ref a4), .val (.int (4 : Int32)), .val (.int (4 : Int32)), .val (.ref en3)] [(.int (4 : Int32)), (.int (4 : Int32))])) tg
    refine XS.icmpYes X45.here hx rfl (pc0 := 17) (pc' := 50) rfl (hb hby d_prog_36_method_4_code_17) rfl (flt (by decide : ¬ ((4 : Int32) < (4 : Int32)))).2.1 (by decide) (by decide) ?_
    show Steps p.tables e below (T45.setTop (mkF m 50 #[.val (.ref a), .val (.ref a18), .val (.ref a4), .val (.int (4 : Int32)), .val (.int (4 : Int32)), .val (.ref en3)] [])) tg
    refine XS.aloadN X45.here hx rfl (hb hby d_prog_36_method_4_code_50) rfl rfl ?_
    show Steps p.tables e below (T45.setTop (mkF m 51 #[.val (.ref a), .val (.ref a18), .val (.ref a4), .val (.int (4 : Int32)), .val (.int (4 : Int32)), .val (.ref en3)] [(.ref a18)])) tg
    exact kg
  refine gs c46 ?_
  refine gout (v := some (.ref a18)) X45 Bd.notSynchronized (fun h => by rw [Bd.returns] at h; cases h) (by decide) (by decide) ?_ (fun fs hr => retOut X45 hx Bd.returns rfl (Or.inr (Or.inr (Or.inr (Or.inr ⟨rfl, rfl, rfl⟩)))) (hb hby d_prog_36_method_4_code_51) hr)
  rw [e45q]
  exact ⟨_, rfl, N45, K19, E18q, F18v⟩
theorem ef_124 (m : MethodId) (x0 : Addr) : entryFrame m #[(.ref x0)] 6 = mkF m 0 #[.val (.ref x0), .unset, .unset, .unset, .unset, .unset] [] := by first | (simp [entryFrame, mkF, argsToLocals, Value.category]; done) | rfl
set_option maxRecDepth 65536 in
set_option maxHeartbeats 40000000 in
theorem rm_wr1 (l : Launch) (Z : State) (a0 : Array Value) (hw : ∀ d ∈ tables_1, d.before a0 Z = true) (ws : List Jvm.Cond) (a : Addr) (cs : List Int32) (z : Int32) (oe : Addr) (va : Addr) (kv : ClassId) (en0 : Addr) (en1 : Addr) (en2 : Addr) (en3 : Addr) (sn0 : Addr) (sn1 : Addr) (sn2 : Addr) (sn3 : Addr) (h0 : Heap) (n0 : Nat) (Z0 : n0 ≤ h0.size) (O0 : Old Z n0 h0) (S0 : Sta Z Z.heap "java/lang/String" "COMPACT_STRINGS" "Z" (.int z)) (hz : ¬ z = 0) (T_a : Str Z h0 a cs) (hbd : ∀ c ∈ cs, ¬ c < 0 ∧ ¬ (255 : Int32) < c) (hl : cs.length ≤ 4000) (S_oe : Sta Z Z.heap "java/util/Optional" "EMPTY" "Ljava/util/Optional;" (.ref oe)) (S_va : Sta Z Z.heap "com/example/tranche/tranche/terms/Comparison" "$VALUES" "[Lcom/example/tranche/tranche/terms/Comparison;" (.ref va)) (V_va : Arv Z Z.heap va kv (.object "com/example/tranche/tranche/terms/Comparison") (4 : Int32) [(.ref en0), (.ref en1), (.ref en2), (.ref en3)] .null) (E_va : Exa Z Z.heap va "[Lcom/example/tranche/tranche/terms/Comparison;") (F_e0 : Fld Z Z.heap en0 "com/example/tranche/tranche/terms/Comparison" "written" "Ljava/lang/String;" (.ref sn0)) (F_e1 : Fld Z Z.heap en1 "com/example/tranche/tranche/terms/Comparison" "written" "Ljava/lang/String;" (.ref sn1)) (F_e2 : Fld Z Z.heap en2 "com/example/tranche/tranche/terms/Comparison" "written" "Ljava/lang/String;" (.ref sn2)) (F_e3 : Fld Z Z.heap en3 "com/example/tranche/tranche/terms/Comparison" "written" "Ljava/lang/String;" (.ref sn3)) (T_s0 : Str Z Z.heap sn0 ([60] : List Int32)) (T_s1 : Str Z Z.heap sn1 ([60, 61] : List Int32)) (T_s2 : Str Z Z.heap sn2 ([62] : List Int32)) (T_s3 : Str Z Z.heap sn3 ([62, 61] : List Int32)) (q : cs = ([60, 61] : List Int32)) :
    Ctr l Z (⟨"com/example/tranche/tranche/terms/Comparison", "written", "(Ljava/lang/String;)Ljava/util/Optional;"⟩ : MethodName) prog_36_method_4_code 6 ((Option.some (Jvm.ClassFile.FieldType.object "java/util/Optional"))) ws ({ frames := 3, cells := 2, slots := 5, locals := 60 } : Room) #[(.ref a)] h0 (fun v h L => ∃ a : Addr, v = some (.ref a) ∧ Fr n0 L ∧ Keep h0 h [] ∧ Exa Z h a "java/util/Optional" ∧ Fld Z h a "java/util/Optional" "value" "Ljava/lang/Object;" (.ref en1)) := by
  refine Ctr.of (MetFree.of_bodySF (plainFor_of_name pn_68) hisR ?_)
  intro p e s m args below meth c s₁ Bd hml0 hP hK
  obtain ⟨rfl, hZ, hh⟩ := hP
  have hx := Bd.exec
  have hby := Bd.bytes
  have hml : c.maxLocals = 6 := hml0
  have hown : s.vm.findClass "com/example/tranche/tranche/terms/Comparison" = some m.cls := findClass_of_methodNamed Bd.named
  have hnm := (name_of_methodNamed Bd.named Bd.method).1
  have X0 : Stand p l e ({ frames := 3, cells := 2, slots := 5, locals := 60 } : Room) s m #[(.ref a)] below meth c s₁ [] 0 0 := Stand.of_body Bd
  have e0 : s₁.heap = h0 := by rw [← hh, Bd.state]; rfl
  have N0 := Fr.nil n0
  have K0 : Keep h0 h0 [] := Keep.refl h0 []
  show OwnGo p e below s (fun v h L => ∃ a : Addr, v = some (.ref a) ∧ Fr n0 L ∧ Keep h0 h [] ∧ Exa Z h a "java/util/Optional" ∧ Fld Z h a "java/util/Optional" "value" "Ljava/lang/Object;" (.ref en1)) ({ frames := 3, cells := 2, slots := 5, locals := 60 } : Room).cells ({ frames := 3, cells := 2, slots := 5, locals := 60 } : Room).slots _
  refine gs (S' := s₁.setTop (mkF m 0 #[.val (.ref a), .unset, .unset, .unset, .unset, .unset] [])) (fun tg kg => castTop (ef_124 m a) kg) ?_
  obtain ⟨_, _, ⟨T1, L1, k1, n1⟩, -, X1, ⟨Lc1, hQ1, l1, y1, z1⟩, st1⟩ := Jvm.LawKit.callS X0 hx (y := (⟨"java/util/Optional", "empty", "()Ljava/util/Optional;"⟩ : MethodName)) hown (mvT hZ (hw _ (List.mem_of_getElem? (i := 30) rfl))) (mvT hZ (hw _ (List.mem_of_getElem? (i := 31) rfl))) (mvT hZ (hw _ (List.mem_of_getElem? (i := 32) rfl))) (mvT hZ (hw _ (List.mem_of_getElem? (i := 33) rfl))) (by decide) (backC (W := 0) (rm_oe l Z a0 hw [] oe h0 n0 Z0 O0 S_oe) hZ (hw _ (List.mem_of_getElem? (i := 33) rfl)) (hw _ (List.mem_of_getElem? (i := 32) rfl)) (by decide) (by decide)) (g := (mkF m 0 #[.val (.ref a), .unset, .unset, .unset, .unset, .unset] [])) rfl (by rw [hml]; rfl) (argsL := []) (rest := []) (lenOf pd_93 rfl) rfl (by show 2 * 0 + _ ≤ _; exact Nat.le_of_eq rfl) (hb hby d_prog_36_method_4_code_0) (fun _ _ => ⟨rfl, e0, (by decide : 0 + 0 ≤ _), (by decide : 0 + 0 ≤ _)⟩)
  dsimp only [Pt.U, Pt.locs, Pt.cells, Pt.slots] at X1 l1 y1 z1 st1 hQ1
  subst l1 y1 z1
  obtain ⟨rfl, N1q, K1q⟩ := hQ1
  have N1 := Fr.app N0 N1q
  have Z2 : n0 ≤ T1.heap.size := Nat.le_trans Z0 K1q.1
  have O2 : Old Z n0 T1.heap := O0.keep K1q all0
  have K2 : Keep h0 T1.heap [] := K0.trans K1q all0
  refine gs st1 ?_
  show OwnGo p e below s _ _ _ (T1.setTop (mkF m 3 #[.val (.ref a), .unset, .unset, .unset, .unset, .unset] [(.ref oe)]))
  have c3 : ∀ tg, Steps p.tables e below (T1.setTop (mkF m 4 #[.val (.ref a), .val (.ref oe), .unset, .unset, .unset, .unset] [])) tg → Steps p.tables e below (T1.setTop (mkF m 3 #[.val (.ref a), .unset, .unset, .unset, .unset, .unset] [(.ref oe)])) tg := fun tg kg => by
    refine XS.astoreN X1.here hx rfl (hb hby d_prog_36_method_4_code_3) rfl rfl (l' := #[.val (.ref a), .val (.ref oe), .unset, .unset, .unset, .unset]) rfl ?_
    show Steps p.tables e below (T1.setTop (mkF m 4 #[.val (.ref a), .val (.ref oe), .unset, .unset, .unset, .unset] [])) tg
    exact kg
  refine gs c3 ?_
  obtain ⟨_, _, ⟨T4, L4, k4, n4⟩, -, X4, ⟨Lc4, hQ4, l4, y4, z4⟩, st4⟩ := Jvm.LawKit.callS X1 hx (y := (⟨"com/example/tranche/tranche/terms/Comparison", "values", "()[Lcom/example/tranche/tranche/terms/Comparison;"⟩ : MethodName)) hown (mvT hZ (hw _ (List.mem_of_getElem? (i := 35) rfl))) (mvT hZ (hw _ (List.mem_of_getElem? (i := 36) rfl))) (mvT hZ (hw _ (List.mem_of_getElem? (i := 28) rfl))) (mvT hZ (hw _ (List.mem_of_getElem? (i := 37) rfl))) (by decide) (backC (W := 0) (rm_va l Z a0 hw [] va kv en0 en1 en2 en3 T1.heap n0 Z2 O2 S_va V_va E_va) hZ (hw _ (List.mem_of_getElem? (i := 37) rfl)) (hw _ (List.mem_of_getElem? (i := 28) rfl)) (by decide) (by decide)) (g := (mkF m 4 #[.val (.ref a), .val (.ref oe), .unset, .unset, .unset, .unset] [])) rfl (by rw [hml]; rfl) (argsL := []) (rest := []) (lenOf pd_96 rfl) rfl (by show 2 * 0 + _ ≤ _; exact Nat.le_of_eq rfl) (hb hby d_prog_36_method_4_code_4) (fun _ _ => ⟨rfl, rfl, (by decide : 0 + 1 ≤ _), (by decide : 0 + 4 ≤ _)⟩)
  dsimp only [Pt.U, Pt.locs, Pt.cells, Pt.slots] at X4 l4 y4 z4 st4 hQ4
  subst l4 y4 z4
  obtain ⟨a4, rfl, N4q, K4q, V4q⟩ := hQ4
  have N4 := Fr.app N1 N4q
  have Z5 : n0 ≤ T4.heap.size := Nat.le_trans Z2 K4q.1
  have O5 : Old Z n0 T4.heap := O2.keep K4q all0
  have K5 : Keep h0 T4.heap [] := K2.trans K4q all0
  refine gs st4 ?_
  show OwnGo p e below s _ _ _ (T4.setTop (mkF m 7 #[.val (.ref a), .val (.ref oe), .unset, .unset, .unset, .unset] [(.ref a4)]))
  have c6 : ∀ tg, Steps p.tables e below (T4.setTop (mkF m 9 #[.val (.ref a), .val (.ref oe), .val (.ref a4), .unset, .unset, .unset] [(.ref a4)])) tg → Steps p.tables e below (T4.setTop (mkF m 7 #[.val (.ref a), .val (.ref oe), .unset, .unset, .unset, .unset] [(.ref a4)])) tg := fun tg kg => by
    refine XS.astoreN X4.here hx rfl (hb hby d_prog_36_method_4_code_7) rfl rfl (l' := #[.val (.ref a), .val (.ref oe), .val (.ref a4), .unset, .unset, .unset]) rfl ?_
    show Steps p.tables e below (T4.setTop (mkF m 8 #[.val (.ref a), .val (.ref oe), .val (.ref a4), .unset, .unset, .unset] [])) tg
    refine XS.aloadN X4.here hx rfl (hb hby d_prog_36_method_4_code_8) rfl rfl ?_
    show Steps p.tables e below (T4.setTop (mkF m 9 #[.val (.ref a), .val (.ref oe), .val (.ref a4), .unset, .unset, .unset] [(.ref a4)])) tg
    exact kg
  refine gs c6 ?_
  obtain ⟨cl7, A7, a7q, a7S, a7N, a7H, a7G⟩ := id V4q
  have c8 : ∀ tg, Steps p.tables e below (T4.setTop (mkF m 23 #[.val (.ref a), .val (.ref oe), .val (.ref a4), .val (.int (4 : Int32)), .val (.int (0 : Int32)), .unset] [(.int (0 : Int32)), (.ref a4)])) tg → Steps p.tables e below (T4.setTop (mkF m 9 #[.val (.ref a), .val (.ref oe), .val (.ref a4), .unset, .unset, .unset] [(.ref a4)])) tg := fun tg kg => by
    refine X4.arraylength hx A7.1 (State.isArrayOf_alike hZ.alike A7.2.1) (g := (mkF m 9 #[.val (.ref a), .val (.ref oe), .val (.ref a4), .unset, .unset, .unset] [(.ref a4)])) rfl rfl (hb hby d_prog_36_method_4_code_9) _ ?_; rw [len_of a7S a7N]
    show Steps p.tables e below (T4.setTop (mkF m 10 #[.val (.ref a), .val (.ref oe), .val (.ref a4), .unset, .unset, .unset] [(.int (4 : Int32))])) tg
    refine XS.istoreN X4.here hx rfl (hb hby d_prog_36_method_4_code_10) rfl (l' := #[.val (.ref a), .val (.ref oe), .val (.ref a4), .val (.int (4 : Int32)), .unset, .unset]) rfl ?_
    show Steps p.tables e below (T4.setTop (mkF m 11 #[.val (.ref a), .val (.ref oe), .val (.ref a4), .val (.int (4 : Int32)), .unset, .unset] [])) tg
    refine XS.iconst X4.here hx rfl (hb hby d_prog_36_method_4_code_11) ?_
    show Steps p.tables e below (T4.setTop (mkF m 12 #[.val (.ref a), .val (.ref oe), .val (.ref a4), .val (.int (4 : Int32)), .unset, .unset] [(.int (0 : Int32))])) tg
    refine XS.istore X4.here hx rfl (hb hby d_prog_36_method_4_code_12) rfl (l' := #[.val (.ref a), .val (.ref oe), .val (.ref a4), .val (.int (4 : Int32)), .val (.int (0 : Int32)), .unset]) rfl ?_
    show Steps p.tables e below (T4.setTop (mkF m 14 #[.val (.ref a), .val (.ref oe), .val (.ref a4), .val (.int (4 : Int32)), .val (.int (0 : Int32)), .unset] [])) tg
    refine XS.iload X4.here hx rfl (hb hby d_prog_36_method_4_code_14) rfl ?_
    show Steps p.tables e below (T4.setTop (mkF m 16 #[.val (.ref a), .val (.ref oe), .val (.ref a4), .val (.int (4 : Int32)), .val (.int (0 : Int32)), .unset] [(.int (0 : Int32))])) tg
    refine XS.iloadN X4.here hx rfl (hb hby d_prog_36_method_4_code_16) rfl ?_
    show Steps p.tables e below (T4.setTop (mkF m 17 #[.val (.ref a), .val (.ref oe), .val (.ref a4), .val (.int (4 : Int32)), .val (.int (0 : Int32)), .unset] [(.int (4 : Int32)), (.int (0 : Int32))])) tg
    refine XS.icmpNo X4.here hx rfl (hb hby d_prog_36_method_4_code_17) rfl (tlt (by decide : (0 : Int32) < (4 : Int32))).2.1 ?_
    show Steps p.tables e below (T4.setTop (mkF m 20 #[.val (.ref a), .val (.ref oe), .val (.ref a4), .val (.int (4 : Int32)), .val (.int (0 : Int32)), .unset] [])) tg
    refine XS.aloadN X4.here hx rfl (hb hby d_prog_36_method_4_code_20) rfl rfl ?_
    show Steps p.tables e below (T4.setTop (mkF m 21 #[.val (.ref a), .val (.ref oe), .val (.ref a4), .val (.int (4 : Int32)), .val (.int (0 : Int32)), .unset] [(.ref a4)])) tg
    refine XS.iload X4.here hx rfl (hb hby d_prog_36_method_4_code_21) rfl ?_
    show Steps p.tables e below (T4.setTop (mkF m 23 #[.val (.ref a), .val (.ref oe), .val (.ref a4), .val (.int (4 : Int32)), .val (.int (0 : Int32)), .unset] [(.int (0 : Int32)), (.ref a4)])) tg
    exact kg
  refine gs c8 ?_
  obtain ⟨cl9, A9, a9q, a9S, a9N, a9H, a9G⟩ := id V4q
  have hi9 := inb_of a9S (j := (0 : Int32)) ⟨by decide, by decide⟩
  have c10 : ∀ tg, Steps p.tables e below (T4.setTop (mkF m 28 #[.val (.ref a), .val (.ref oe), .val (.ref a4), .val (.int (4 : Int32)), .val (.int (0 : Int32)), .val (.ref en0)] [(.ref en0)])) tg → Steps p.tables e below (T4.setTop (mkF m 23 #[.val (.ref a), .val (.ref oe), .val (.ref a4), .val (.int (4 : Int32)), .val (.int (0 : Int32)), .unset] [(.int (0 : Int32)), (.ref a4)])) tg := fun tg kg => by
    refine X4.aaload hx (j := (0 : Int32)) (v := (.ref en0)) A9.1 (State.isArrayOf_alike hZ.alike A9.2.1) rfl A9.2.2 hi9 (Has.at a9H hi9 rfl) (g := (mkF m 23 #[.val (.ref a), .val (.ref oe), .val (.ref a4), .val (.int (4 : Int32)), .val (.int (0 : Int32)), .unset] [(.int (0 : Int32)), (.ref a4)])) rfl rfl (hb hby d_prog_36_method_4_code_23) _ ?_
    show Steps p.tables e below (T4.setTop (mkF m 24 #[.val (.ref a), .val (.ref oe), .val (.ref a4), .val (.int (4 : Int32)), .val (.int (0 : Int32)), .unset] [(.ref en0)])) tg
    refine XS.astore X4.here hx rfl (hb hby d_prog_36_method_4_code_24) rfl rfl (l' := #[.val (.ref a), .val (.ref oe), .val (.ref a4), .val (.int (4 : Int32)), .val (.int (0 : Int32)), .val (.ref en0)]) rfl ?_
    show Steps p.tables e below (T4.setTop (mkF m 26 #[.val (.ref a), .val (.ref oe), .val (.ref a4), .val (.int (4 : Int32)), .val (.int (0 : Int32)), .val (.ref en0)] [])) tg
    refine XS.aload X4.here hx rfl (hb hby d_prog_36_method_4_code_26) rfl rfl ?_
    show Steps p.tables e below (T4.setTop (mkF m 28 #[.val (.ref a), .val (.ref oe), .val (.ref a4), .val (.int (4 : Int32)), .val (.int (0 : Int32)), .val (.ref en0)] [(.ref en0)])) tg
    exact kg
  refine gs c10 ?_
  have f11 := (((F_e0.ext O0.2).keep K1q nin0).keep K4q nin0)
  obtain ⟨T12, X12, e12, st12⟩ := getF X4 hx hZ hown (host := "") (Or.inl (hw _ (List.mem_of_getElem? (i := 54) rfl))) Via.refl rfl f11 (g := (mkF m 28 #[.val (.ref a), .val (.ref oe), .val (.ref a4), .val (.int (4 : Int32)), .val (.int (0 : Int32)), .val (.ref en0)] [(.ref en0)])) rfl rfl (hb hby d_prog_36_method_4_code_28)
  refine gs st12 ?_
  show OwnGo p e below s _ _ _ (T12.setTop (mkF m 31 #[.val (.ref a), .val (.ref oe), .val (.ref a4), .val (.int (4 : Int32)), .val (.int (0 : Int32)), .val (.ref en0)] [(.ref sn0)]))
  have c13 : ∀ tg, Steps p.tables e below (T12.setTop (mkF m 32 #[.val (.ref a), .val (.ref oe), .val (.ref a4), .val (.int (4 : Int32)), .val (.int (0 : Int32)), .val (.ref en0)] [(.ref a), (.ref sn0)])) tg → Steps p.tables e below (T12.setTop (mkF m 31 #[.val (.ref a), .val (.ref oe), .val (.ref a4), .val (.int (4 : Int32)), .val (.int (0 : Int32)), .val (.ref en0)] [(.ref sn0)])) tg := fun tg kg => by
    refine XS.aloadN X12.here hx rfl (hb hby d_prog_36_method_4_code_31) rfl rfl ?_
    show Steps p.tables e below (T12.setTop (mkF m 32 #[.val (.ref a), .val (.ref oe), .val (.ref a4), .val (.int (4 : Int32)), .val (.int (0 : Int32)), .val (.ref en0)] [(.ref a), (.ref sn0)])) tg
    exact kg
  refine gs c13 ?_
  have f14 := (((T_s0.ext O0.2).keep0 K1q).keep0 K4q)
  have f15 := ((T_a.keep0 K1q).keep0 K4q)
  obtain ⟨cq16, kq16, q16a, q16b, q16c⟩ := isOf hZ e12 f14.exa
  obtain ⟨_, _, ⟨T16, L16, k16, n16⟩, -, X16, ⟨Lc16, hQ16, l16, y16, z16⟩, st16⟩ := X12.virtualBack hx (y := (⟨"java/lang/String", "equals", "(Ljava/lang/Object;)Z"⟩ : MethodName)) (z := (⟨"java/lang/String", "equals", "(Ljava/lang/Object;)Z"⟩ : MethodName)) hown (mvT hZ (hw _ (List.mem_of_getElem? (i := 56) rfl))) (mvT hZ (hw _ (List.mem_of_getElem? (i := 57) rfl))) (notFace_of_selects (args := #[]) (mvT hZ (hw _ (List.mem_of_getElem? (i := 59) rfl)))) (mvT hZ (hw _ (List.mem_of_getElem? (i := 59) rfl))) (mvT hZ (hw _ (List.mem_of_getElem? (i := 58) rfl))) (by decide) (own_eqB (W := 0) hZ hw f14 (by decide) (by decide) f15 hbd hl (S0.ext O5.2) hz (by decide) (by decide)) q16a q16c (g := (mkF m 32 #[.val (.ref a), .val (.ref oe), .val (.ref a4), .val (.int (4 : Int32)), .val (.int (0 : Int32)), .val (.ref en0)] [(.ref a), (.ref sn0)])) rfl (by rw [hml]; rfl) (Steps.refl _) (argsL := [(.ref a)]) (rest := []) (lenOf pd_114 rfl) rfl (by show 2 * 0 + _ ≤ _; exact Nat.le_of_eq rfl) (hb hby d_prog_36_method_4_code_32) (fun _ _ => ⟨rfl, e12, (by decide : 1 + 0 ≤ _), (by decide : 4 + 0 ≤ _)⟩)
  dsimp only [Pt.U, Pt.locs, Pt.cells, Pt.slots] at X16 l16 y16 z16 st16 hQ16
  subst l16 y16 z16
  replace hQ16 := (show _ ∧ _ ∧ _ from by rcases hQ16 with ⟨⟨u1, u2⟩ | ⟨u1, u2⟩, u3, u4⟩; exact absurd u2 (by rw [q]; decide); exact ⟨u1, u3, u4⟩)
  obtain ⟨rfl, rfl, e16q⟩ := hQ16
  have N16 := Fr.app N4 (Fr.nil n0)
  refine gs (fun _ k => st16.trans k) ?_
  show OwnGo p e below s _ _ _ (T16.setTop (mkF m 35 #[.val (.ref a), .val (.ref oe), .val (.ref a4), .val (.int (4 : Int32)), .val (.int (0 : Int32)), .val (.ref en0)] [(.int (0 : Int32))]))
  have c17 : ∀ tg, Steps p.tables e below (T16.setTop (mkF m 23 #[.val (.ref a), .val (.ref oe), .val (.ref a4), .val (.int (4 : Int32)), .val (.int (1 : Int32)), .val (.ref en0)] [(.int (1 : Int32)), (.ref a4)])) tg → Steps p.tables e below (T16.setTop (mkF m 35 #[.val (.ref a), .val (.ref oe), .val (.ref a4), .val (.int (4 : Int32)), .val (.int (0 : Int32)), .val (.ref en0)] [(.int (0 : Int32))])) tg := fun tg kg => by
    refine XS.ifYes X16.here hx rfl (pc0 := 35) (pc' := 44) rfl (hb hby d_prog_36_method_4_code_35) rfl ((if0 _ _).trans (teq (by decide : (0 : Int32) = (0 : Int32))).1) (by decide) (by decide) ?_
    show Steps p.tables e below (T16.setTop (mkF m 44 #[.val (.ref a), .val (.ref oe), .val (.ref a4), .val (.int (4 : Int32)), .val (.int (0 : Int32)), .val (.ref en0)] [])) tg
    refine XS.iinc X16.here hx rfl (hb hby d_prog_36_method_4_code_44) rfl (l' := #[.val (.ref a), .val (.ref oe), .val (.ref a4), .val (.int (4 : Int32)), .val (.int (1 : Int32)), .val (.ref en0)]) rfl ?_
    show Steps p.tables e below (T16.setTop (mkF m 47 #[.val (.ref a), .val (.ref oe), .val (.ref a4), .val (.int (4 : Int32)), .val (.int (1 : Int32)), .val (.ref en0)] [])) tg
    refine XS.goto X16.here hx rfl (pc0 := 47) (pc' := 14) rfl (hb hby d_prog_36_method_4_code_47) (by decide) (by decide) ?_
    show Steps p.tables e below (T16.setTop (mkF m 14 #[.val (.ref a), .val (.ref oe), .val (.ref a4), .val (.int (4 : Int32)), .val (.int (1 : Int32)), .val (.ref en0)] [])) tg
    refine XS.iload X16.here hx rfl (hb hby d_prog_36_method_4_code_14) rfl ?_
    show Steps p.tables e below (T16.setTop (mkF m 16 #[.val (.ref a), .val (.ref oe), .val (.ref a4), .val (.int (4 : Int32)), .val (.int (1 : Int32)), .val (.ref en0)] [(.int (1 : Int32))])) tg
    refine XS.iloadN X16.here hx rfl (hb hby d_prog_36_method_4_code_16) rfl ?_
    show Steps p.tables e below (T16.setTop (mkF m 17 #[.val (.ref a), .val (.ref oe), .val (.ref a4), .val (.int (4 : Int32)), .val (.int (1 : Int32)), .val (.ref en0)] [(.int (4 : Int32)), (.int (1 : Int32))])) tg
    refine XS.icmpNo X16.here hx rfl (hb hby d_prog_36_method_4_code_17) rfl (tlt (by decide : (1 : Int32) < (4 : Int32))).2.1 ?_
    show Steps p.tables e below (T16.setTop (mkF m 20 #[.val (.ref a), .val (.ref oe), .val (.ref a4), .val (.int (4 : Int32)), .val (.int (1 : Int32)), .val (.ref en0)] [])) tg
    refine XS.aloadN X16.here hx rfl (hb hby d_prog_36_method_4_code_20) rfl rfl ?_
    show Steps p.tables e below (T16.setTop (mkF m 21 #[.val (.ref a), .val (.ref oe), .val (.ref a4), .val (.int (4 : Int32)), .val (.int (1 : Int32)), .val (.ref en0)] [(.ref a4)])) tg
    refine XS.iload X16.here hx rfl (hb hby d_prog_36_method_4_code_21) rfl ?_
    show Steps p.tables e below (T16.setTop (mkF m 23 #[.val (.ref a), .val (.ref oe), .val (.ref a4), .val (.int (4 : Int32)), .val (.int (1 : Int32)), .val (.ref en0)] [(.int (1 : Int32)), (.ref a4)])) tg
    exact kg
  refine gs c17 ?_
  obtain ⟨cl18, A18, a18q, a18S, a18N, a18H, a18G⟩ := id V4q
  have hi18 := inb_of a18S (j := (1 : Int32)) ⟨by decide, by decide⟩
  have c19 : ∀ tg, Steps p.tables e below (T16.setTop (mkF m 28 #[.val (.ref a), .val (.ref oe), .val (.ref a4), .val (.int (4 : Int32)), .val (.int (1 : Int32)), .val (.ref en1)] [(.ref en1)])) tg → Steps p.tables e below (T16.setTop (mkF m 23 #[.val (.ref a), .val (.ref oe), .val (.ref a4), .val (.int (4 : Int32)), .val (.int (1 : Int32)), .val (.ref en0)] [(.int (1 : Int32)), (.ref a4)])) tg := fun tg kg => by
    refine X16.aaload hx (j := (1 : Int32)) (v := (.ref en1)) (by rw [e16q]; exact A18.1) (State.isArrayOf_alike hZ.alike A18.2.1) rfl A18.2.2 hi18 (Has.at a18H hi18 rfl) (g := (mkF m 23 #[.val (.ref a), .val (.ref oe), .val (.ref a4), .val (.int (4 : Int32)), .val (.int (1 : Int32)), .val (.ref en0)] [(.int (1 : Int32)), (.ref a4)])) rfl rfl (hb hby d_prog_36_method_4_code_23) _ ?_
    show Steps p.tables e below (T16.setTop (mkF m 24 #[.val (.ref a), .val (.ref oe), .val (.ref a4), .val (.int (4 : Int32)), .val (.int (1 : Int32)), .val (.ref en0)] [(.ref en1)])) tg
    refine XS.astore X16.here hx rfl (hb hby d_prog_36_method_4_code_24) rfl rfl (l' := #[.val (.ref a), .val (.ref oe), .val (.ref a4), .val (.int (4 : Int32)), .val (.int (1 : Int32)), .val (.ref en1)]) rfl ?_
    show Steps p.tables e below (T16.setTop (mkF m 26 #[.val (.ref a), .val (.ref oe), .val (.ref a4), .val (.int (4 : Int32)), .val (.int (1 : Int32)), .val (.ref en1)] [])) tg
    refine XS.aload X16.here hx rfl (hb hby d_prog_36_method_4_code_26) rfl rfl ?_
    show Steps p.tables e below (T16.setTop (mkF m 28 #[.val (.ref a), .val (.ref oe), .val (.ref a4), .val (.int (4 : Int32)), .val (.int (1 : Int32)), .val (.ref en1)] [(.ref en1)])) tg
    exact kg
  refine gs c19 ?_
  have f20 := (((F_e1.ext O0.2).keep K1q nin0).keep K4q nin0)
  obtain ⟨T21, X21, e21, st21⟩ := getF X16 hx hZ hown (host := "") (Or.inl (hw _ (List.mem_of_getElem? (i := 54) rfl))) Via.refl e16q f20 (g := (mkF m 28 #[.val (.ref a), .val (.ref oe), .val (.ref a4), .val (.int (4 : Int32)), .val (.int (1 : Int32)), .val (.ref en1)] [(.ref en1)])) rfl rfl (hb hby d_prog_36_method_4_code_28)
  refine gs st21 ?_
  show OwnGo p e below s _ _ _ (T21.setTop (mkF m 31 #[.val (.ref a), .val (.ref oe), .val (.ref a4), .val (.int (4 : Int32)), .val (.int (1 : Int32)), .val (.ref en1)] [(.ref sn1)]))
  have c22 : ∀ tg, Steps p.tables e below (T21.setTop (mkF m 32 #[.val (.ref a), .val (.ref oe), .val (.ref a4), .val (.int (4 : Int32)), .val (.int (1 : Int32)), .val (.ref en1)] [(.ref a), (.ref sn1)])) tg → Steps p.tables e below (T21.setTop (mkF m 31 #[.val (.ref a), .val (.ref oe), .val (.ref a4), .val (.int (4 : Int32)), .val (.int (1 : Int32)), .val (.ref en1)] [(.ref sn1)])) tg := fun tg kg => by
    refine XS.aloadN X21.here hx rfl (hb hby d_prog_36_method_4_code_31) rfl rfl ?_
    show Steps p.tables e below (T21.setTop (mkF m 32 #[.val (.ref a), .val (.ref oe), .val (.ref a4), .val (.int (4 : Int32)), .val (.int (1 : Int32)), .val (.ref en1)] [(.ref a), (.ref sn1)])) tg
    exact kg
  refine gs c22 ?_
  have f23 := (((T_s1.ext O0.2).keep0 K1q).keep0 K4q)
  obtain ⟨cq24, kq24, q24a, q24b, q24c⟩ := isOf hZ e21 f23.exa
  obtain ⟨_, _, ⟨T24, L24, k24, n24⟩, -, X24, ⟨Lc24, hQ24, l24, y24, z24⟩, st24⟩ := X21.virtualBack hx (y := (⟨"java/lang/String", "equals", "(Ljava/lang/Object;)Z"⟩ : MethodName)) (z := (⟨"java/lang/String", "equals", "(Ljava/lang/Object;)Z"⟩ : MethodName)) hown (mvT hZ (hw _ (List.mem_of_getElem? (i := 56) rfl))) (mvT hZ (hw _ (List.mem_of_getElem? (i := 57) rfl))) (notFace_of_selects (args := #[]) (mvT hZ (hw _ (List.mem_of_getElem? (i := 59) rfl)))) (mvT hZ (hw _ (List.mem_of_getElem? (i := 59) rfl))) (mvT hZ (hw _ (List.mem_of_getElem? (i := 58) rfl))) (by decide) (own_eqB (W := 0) hZ hw f23 (by decide) (by decide) f15 hbd hl (S0.ext O5.2) hz (by decide) (by decide)) q24a q24c (g := (mkF m 32 #[.val (.ref a), .val (.ref oe), .val (.ref a4), .val (.int (4 : Int32)), .val (.int (1 : Int32)), .val (.ref en1)] [(.ref a), (.ref sn1)])) rfl (by rw [hml]; rfl) (Steps.refl _) (argsL := [(.ref a)]) (rest := []) (lenOf pd_114 rfl) rfl (by show 2 * 0 + _ ≤ _; exact Nat.le_of_eq rfl) (hb hby d_prog_36_method_4_code_32) (fun _ _ => ⟨rfl, e21, (by decide : 1 + 0 ≤ _), (by decide : 4 + 0 ≤ _)⟩)
  dsimp only [Pt.U, Pt.locs, Pt.cells, Pt.slots] at X24 l24 y24 z24 st24 hQ24
  subst l24 y24 z24
  replace hQ24 := (show _ ∧ _ ∧ _ from by rcases hQ24 with ⟨⟨u1, u2⟩ | ⟨u1, u2⟩, u3, u4⟩; exact ⟨u1, u3, u4⟩; exact absurd q.symm u2)
  obtain ⟨rfl, rfl, e24q⟩ := hQ24
  have N24 := Fr.app N16 (Fr.nil n0)
  refine gs (fun _ k => st24.trans k) ?_
  show OwnGo p e below s _ _ _ (T24.setTop (mkF m 35 #[.val (.ref a), .val (.ref oe), .val (.ref a4), .val (.int (4 : Int32)), .val (.int (1 : Int32)), .val (.ref en1)] [(.int (1 : Int32))]))
  have c25 : ∀ tg, Steps p.tables e below (T24.setTop (mkF m 40 #[.val (.ref a), .val (.ref oe), .val (.ref a4), .val (.int (4 : Int32)), .val (.int (1 : Int32)), .val (.ref en1)] [(.ref en1)])) tg → Steps p.tables e below (T24.setTop (mkF m 35 #[.val (.ref a), .val (.ref oe), .val (.ref a4), .val (.int (4 : Int32)), .val (.int (1 : Int32)), .val (.ref en1)] [(.int (1 : Int32))])) tg := fun tg kg => by
    refine XS.ifNo X24.here hx rfl (hb hby d_prog_36_method_4_code_35) rfl ((if0 _ _).trans (feq (by decide : ¬ ((1 : Int32) = (0 : Int32)))).1) ?_
    show Steps p.tables e below (T24.setTop (mkF m 38 #[.val (.ref a), .val (.ref oe), .val (.ref a4), .val (.int (4 : Int32)), .val (.int (1 : Int32)), .val (.ref en1)] [])) tg
    refine XS.aload X24.here hx rfl (hb hby d_prog_36_method_4_code_38) rfl rfl ?_
    show Steps p.tables e below (T24.setTop (mkF m 40 #[.val (.ref a), .val (.ref oe), .val (.ref a4), .val (.int (4 : Int32)), .val (.int (1 : Int32)), .val (.ref en1)] [(.ref en1)])) tg
    exact kg
  refine gs c25 ?_
  obtain ⟨_, _, ⟨T26, L26, k26, n26⟩, -, X26, ⟨Lc26, hQ26, l26, y26, z26⟩, st26⟩ := Jvm.LawKit.callS X24 hx (y := (⟨"java/util/Optional", "of", "(Ljava/lang/Object;)Ljava/util/Optional;"⟩ : MethodName)) hown (mvT hZ (hw _ (List.mem_of_getElem? (i := 84) rfl))) (mvT hZ (hw _ (List.mem_of_getElem? (i := 85) rfl))) (mvT hZ (hw _ (List.mem_of_getElem? (i := 32) rfl))) (mvT hZ (hw _ (List.mem_of_getElem? (i := 86) rfl))) (by decide) (backC (W := 0) (rm_of l Z a0 hw [] en1 T4.heap n0 Z5 O5 ) hZ (hw _ (List.mem_of_getElem? (i := 86) rfl)) (hw _ (List.mem_of_getElem? (i := 32) rfl)) (by decide) (by decide)) (g := (mkF m 40 #[.val (.ref a), .val (.ref oe), .val (.ref a4), .val (.int (4 : Int32)), .val (.int (1 : Int32)), .val (.ref en1)] [(.ref en1)])) rfl (by rw [hml]; rfl) (argsL := [(.ref en1)]) (rest := []) (lenOf pd_118 rfl) rfl (by show 2 * 0 + _ ≤ _; exact Nat.le_of_eq rfl) (hb hby d_prog_36_method_4_code_40) (fun _ _ => ⟨rfl, e24q, (by decide : 1 + 1 ≤ _), (by decide : 4 + 1 ≤ _)⟩)
  dsimp only [Pt.U, Pt.locs, Pt.cells, Pt.slots] at X26 l26 y26 z26 st26 hQ26
  subst l26 y26 z26
  obtain ⟨a26, rfl, N26q, K26q, E26q, F26v⟩ := hQ26
  have N26 := Fr.app N24 N26q
  have Z27 : n0 ≤ T26.heap.size := Nat.le_trans Z5 K26q.1
  have O27 : Old Z n0 T26.heap := O5.keep K26q all0
  have K27 : Keep h0 T26.heap [] := K5.trans K26q all0
  refine gs st26 ?_
  show OwnGo p e below s _ _ _ (T26.setTop (mkF m 43 #[.val (.ref a), .val (.ref oe), .val (.ref a4), .val (.int (4 : Int32)), .val (.int (1 : Int32)), .val (.ref en1)] [(.ref a26)]))
  have c28 : ∀ tg, Steps p.tables e below (T26.setTop (mkF m 23 #[.val (.ref a), .val (.ref a26), .val (.ref a4), .val (.int (4 : Int32)), .val (.int (2 : Int32)), .val (.ref en1)] [(.int (2 : Int32)), (.ref a4)])) tg → Steps p.tables e below (T26.setTop (mkF m 43 #[.val (.ref a), .val (.ref oe), .val (.ref a4), .val (.int (4 : Int32)), .val (.int (1 : Int32)), .val (.ref en1)] [(.ref a26)])) tg := fun tg kg => by
    refine XS.astoreN X26.here hx rfl (hb hby d_prog_36_method_4_code_43) rfl rfl (l' := #[.val (.ref a), .val (.ref a26), .val (.ref a4), .val (.int (4 : Int32)), .val (.int (1 : Int32)), .val (.ref en1)]) rfl ?_
    show Steps p.tables e below (T26.setTop (mkF m 44 #[.val (.ref a), .val (.ref a26), .val (.ref a4), .val (.int (4 : Int32)), .val (.int (1 : Int32)), .val (.ref en1)] [])) tg
    refine XS.iinc X26.here hx rfl (hb hby d_prog_36_method_4_code_44) rfl (l' := #[.val (.ref a), .val (.ref a26), .val (.ref a4), .val (.int (4 : Int32)), .val (.int (2 : Int32)), .val (.ref en1)]) rfl ?_
    show Steps p.tables e below (T26.setTop (mkF m 47 #[.val (.ref a), .val (.ref a26), .val (.ref a4), .val (.int (4 : Int32)), .val (.int (2 : Int32)), .val (.ref en1)] [])) tg
    refine XS.goto X26.here hx rfl (pc0 := 47) (pc' := 14) rfl (hb hby d_prog_36_method_4_code_47) (by decide) (by decide) ?_
    show Steps p.tables e below (T26.setTop (mkF m 14 #[.val (.ref a), .val (.ref a26), .val (.ref a4), .val (.int (4 : Int32)), .val (.int (2 : Int32)), .val (.ref en1)] [])) tg
    refine XS.iload X26.here hx rfl (hb hby d_prog_36_method_4_code_14) rfl ?_
    show Steps p.tables e below (T26.setTop (mkF m 16 #[.val (.ref a), .val (.ref a26), .val (.ref a4), .val (.int (4 : Int32)), .val (.int (2 : Int32)), .val (.ref en1)] [(.int (2 : Int32))])) tg
    refine XS.iloadN X26.here hx rfl (hb hby d_prog_36_method_4_code_16) rfl ?_
    show Steps p.tables e below (T26.setTop (mkF m 17 #[.val (.ref a), .val (.ref a26), .val (.ref a4), .val (.int (4 : Int32)), .val (.int (2 : Int32)), .val (.ref en1)] [(.int (4 : Int32)), (.int (2 : Int32))])) tg
    refine XS.icmpNo X26.here hx rfl (hb hby d_prog_36_method_4_code_17) rfl (tlt (by decide : (2 : Int32) < (4 : Int32))).2.1 ?_
    show Steps p.tables e below (T26.setTop (mkF m 20 #[.val (.ref a), .val (.ref a26), .val (.ref a4), .val (.int (4 : Int32)), .val (.int (2 : Int32)), .val (.ref en1)] [])) tg
    refine XS.aloadN X26.here hx rfl (hb hby d_prog_36_method_4_code_20) rfl rfl ?_
    show Steps p.tables e below (T26.setTop (mkF m 21 #[.val (.ref a), .val (.ref a26), .val (.ref a4), .val (.int (4 : Int32)), .val (.int (2 : Int32)), .val (.ref en1)] [(.ref a4)])) tg
    refine XS.iload X26.here hx rfl (hb hby d_prog_36_method_4_code_21) rfl ?_
    show Steps p.tables e below (T26.setTop (mkF m 23 #[.val (.ref a), .val (.ref a26), .val (.ref a4), .val (.int (4 : Int32)), .val (.int (2 : Int32)), .val (.ref en1)] [(.int (2 : Int32)), (.ref a4)])) tg
    exact kg
  refine gs c28 ?_
  have f29 := (V4q.keep K26q nin0)
  obtain ⟨cl30, A30, a30q, a30S, a30N, a30H, a30G⟩ := id f29
  have hi30 := inb_of a30S (j := (2 : Int32)) ⟨by decide, by decide⟩
  have c31 : ∀ tg, Steps p.tables e below (T26.setTop (mkF m 28 #[.val (.ref a), .val (.ref a26), .val (.ref a4), .val (.int (4 : Int32)), .val (.int (2 : Int32)), .val (.ref en2)] [(.ref en2)])) tg → Steps p.tables e below (T26.setTop (mkF m 23 #[.val (.ref a), .val (.ref a26), .val (.ref a4), .val (.int (4 : Int32)), .val (.int (2 : Int32)), .val (.ref en1)] [(.int (2 : Int32)), (.ref a4)])) tg := fun tg kg => by
    refine X26.aaload hx (j := (2 : Int32)) (v := (.ref en2)) A30.1 (State.isArrayOf_alike hZ.alike A30.2.1) rfl A30.2.2 hi30 (Has.at a30H hi30 rfl) (g := (mkF m 23 #[.val (.ref a), .val (.ref a26), .val (.ref a4), .val (.int (4 : Int32)), .val (.int (2 : Int32)), .val (.ref en1)] [(.int (2 : Int32)), (.ref a4)])) rfl rfl (hb hby d_prog_36_method_4_code_23) _ ?_
    show Steps p.tables e below (T26.setTop (mkF m 24 #[.val (.ref a), .val (.ref a26), .val (.ref a4), .val (.int (4 : Int32)), .val (.int (2 : Int32)), .val (.ref en1)] [(.ref en2)])) tg
    refine XS.astore X26.here hx rfl (hb hby d_prog_36_method_4_code_24) rfl rfl (l' := #[.val (.ref a), .val (.ref a26), .val (.ref a4), .val (.int (4 : Int32)), .val (.int (2 : Int32)), .val (.ref en2)]) rfl ?_
    show Steps p.tables e below (T26.setTop (mkF m 26 #[.val (.ref a), .val (.ref a26), .val (.ref a4), .val (.int (4 : Int32)), .val (.int (2 : Int32)), .val (.ref en2)] [])) tg
    refine XS.aload X26.here hx rfl (hb hby d_prog_36_method_4_code_26) rfl rfl ?_
    show Steps p.tables e below (T26.setTop (mkF m 28 #[.val (.ref a), .val (.ref a26), .val (.ref a4), .val (.int (4 : Int32)), .val (.int (2 : Int32)), .val (.ref en2)] [(.ref en2)])) tg
    exact kg
  refine gs c31 ?_
  have f32 := ((((F_e2.ext O0.2).keep K1q nin0).keep K4q nin0).keep K26q nin0)
  obtain ⟨T33, X33, e33, st33⟩ := getF X26 hx hZ hown (host := "") (Or.inl (hw _ (List.mem_of_getElem? (i := 54) rfl))) Via.refl rfl f32 (g := (mkF m 28 #[.val (.ref a), .val (.ref a26), .val (.ref a4), .val (.int (4 : Int32)), .val (.int (2 : Int32)), .val (.ref en2)] [(.ref en2)])) rfl rfl (hb hby d_prog_36_method_4_code_28)
  refine gs st33 ?_
  show OwnGo p e below s _ _ _ (T33.setTop (mkF m 31 #[.val (.ref a), .val (.ref a26), .val (.ref a4), .val (.int (4 : Int32)), .val (.int (2 : Int32)), .val (.ref en2)] [(.ref sn2)]))
  have c34 : ∀ tg, Steps p.tables e below (T33.setTop (mkF m 32 #[.val (.ref a), .val (.ref a26), .val (.ref a4), .val (.int (4 : Int32)), .val (.int (2 : Int32)), .val (.ref en2)] [(.ref a), (.ref sn2)])) tg → Steps p.tables e below (T33.setTop (mkF m 31 #[.val (.ref a), .val (.ref a26), .val (.ref a4), .val (.int (4 : Int32)), .val (.int (2 : Int32)), .val (.ref en2)] [(.ref sn2)])) tg := fun tg kg => by
    refine XS.aloadN X33.here hx rfl (hb hby d_prog_36_method_4_code_31) rfl rfl ?_
    show Steps p.tables e below (T33.setTop (mkF m 32 #[.val (.ref a), .val (.ref a26), .val (.ref a4), .val (.int (4 : Int32)), .val (.int (2 : Int32)), .val (.ref en2)] [(.ref a), (.ref sn2)])) tg
    exact kg
  refine gs c34 ?_
  have f35 := ((((T_s2.ext O0.2).keep0 K1q).keep0 K4q).keep0 K26q)
  have f36 := (f15.keep0 K26q)
  obtain ⟨cq37, kq37, q37a, q37b, q37c⟩ := isOf hZ e33 f35.exa
  obtain ⟨_, _, ⟨T37, L37, k37, n37⟩, -, X37, ⟨Lc37, hQ37, l37, y37, z37⟩, st37⟩ := X33.virtualBack hx (y := (⟨"java/lang/String", "equals", "(Ljava/lang/Object;)Z"⟩ : MethodName)) (z := (⟨"java/lang/String", "equals", "(Ljava/lang/Object;)Z"⟩ : MethodName)) hown (mvT hZ (hw _ (List.mem_of_getElem? (i := 56) rfl))) (mvT hZ (hw _ (List.mem_of_getElem? (i := 57) rfl))) (notFace_of_selects (args := #[]) (mvT hZ (hw _ (List.mem_of_getElem? (i := 59) rfl)))) (mvT hZ (hw _ (List.mem_of_getElem? (i := 59) rfl))) (mvT hZ (hw _ (List.mem_of_getElem? (i := 58) rfl))) (by decide) (own_eqB (W := 0) hZ hw f35 (by decide) (by decide) f36 hbd hl (S0.ext O27.2) hz (by decide) (by decide)) q37a q37c (g := (mkF m 32 #[.val (.ref a), .val (.ref a26), .val (.ref a4), .val (.int (4 : Int32)), .val (.int (2 : Int32)), .val (.ref en2)] [(.ref a), (.ref sn2)])) rfl (by rw [hml]; rfl) (Steps.refl _) (argsL := [(.ref a)]) (rest := []) (lenOf pd_114 rfl) rfl (by show 2 * 0 + _ ≤ _; exact Nat.le_of_eq rfl) (hb hby d_prog_36_method_4_code_32) (fun _ _ => ⟨rfl, e33, (by decide : 2 + 0 ≤ _), (by decide : 5 + 0 ≤ _)⟩)
  dsimp only [Pt.U, Pt.locs, Pt.cells, Pt.slots] at X37 l37 y37 z37 st37 hQ37
  subst l37 y37 z37
  replace hQ37 := (show _ ∧ _ ∧ _ from by rcases hQ37 with ⟨⟨u1, u2⟩ | ⟨u1, u2⟩, u3, u4⟩; exact absurd u2 (by rw [q]; decide); exact ⟨u1, u3, u4⟩)
  obtain ⟨rfl, rfl, e37q⟩ := hQ37
  have N37 := Fr.app N26 (Fr.nil n0)
  refine gs (fun _ k => st37.trans k) ?_
  show OwnGo p e below s _ _ _ (T37.setTop (mkF m 35 #[.val (.ref a), .val (.ref a26), .val (.ref a4), .val (.int (4 : Int32)), .val (.int (2 : Int32)), .val (.ref en2)] [(.int (0 : Int32))]))
  have c38 : ∀ tg, Steps p.tables e below (T37.setTop (mkF m 23 #[.val (.ref a), .val (.ref a26), .val (.ref a4), .val (.int (4 : Int32)), .val (.int (3 : Int32)), .val (.ref en2)] [(.int (3 : Int32)), (.ref a4)])) tg → Steps p.tables e below (T37.setTop (mkF m 35 #[.val (.ref a), .val (.ref a26), .val (.ref a4), .val (.int (4 : Int32)), .val (.int (2 : Int32)), .val (.ref en2)] [(.int (0 : Int32))])) tg := fun tg kg => by
    refine XS.ifYes X37.here hx rfl (pc0 := 35) (pc' := 44) rfl (hb hby d_prog_36_method_4_code_35) rfl ((if0 _ _).trans (teq (by decide : (0 : Int32) = (0 : Int32))).1) (by decide) (by decide) ?_
    show Steps p.tables e below (T37.setTop (mkF m 44 #[.val (.ref a), .val (.ref a26), .val (.ref a4), .val (.int (4 : Int32)), .val (.int (2 : Int32)), .val (.ref en2)] [])) tg
    refine XS.iinc X37.here hx rfl (hb hby d_prog_36_method_4_code_44) rfl (l' := #[.val (.ref a), .val (.ref a26), .val (.ref a4), .val (.int (4 : Int32)), .val (.int (3 : Int32)), .val (.ref en2)]) rfl ?_
    show Steps p.tables e below (T37.setTop (mkF m 47 #[.val (.ref a), .val (.ref a26), .val (.ref a4), .val (.int (4 : Int32)), .val (.int (3 : Int32)), .val (.ref en2)] [])) tg
    refine XS.goto X37.here hx rfl (pc0 := 47) (pc' := 14) rfl (hb hby d_prog_36_method_4_code_47) (by decide) (by decide) ?_
    show Steps p.tables e below (T37.setTop (mkF m 14 #[.val (.ref a), .val (.ref a26), .val (.ref a4), .val (.int (4 : Int32)), .val (.int (3 : Int32)), .val (.ref en2)] [])) tg
    refine XS.iload X37.here hx rfl (hb hby d_prog_36_method_4_code_14) rfl ?_
    show Steps p.tables e below (T37.setTop (mkF m 16 #[.val (.ref a), .val (.ref a26), .val (.ref a4), .val (.int (4 : Int32)), .val (.int (3 : Int32)), .val (.ref en2)] [(.int (3 : Int32))])) tg
    refine XS.iloadN X37.here hx rfl (hb hby d_prog_36_method_4_code_16) rfl ?_
    show Steps p.tables e below (T37.setTop (mkF m 17 #[.val (.ref a), .val (.ref a26), .val (.ref a4), .val (.int (4 : Int32)), .val (.int (3 : Int32)), .val (.ref en2)] [(.int (4 : Int32)), (.int (3 : Int32))])) tg
    refine XS.icmpNo X37.here hx rfl (hb hby d_prog_36_method_4_code_17) rfl (tlt (by decide : (3 : Int32) < (4 : Int32))).2.1 ?_
    show Steps p.tables e below (T37.setTop (mkF m 20 #[.val (.ref a), .val (.ref a26), .val (.ref a4), .val (.int (4 : Int32)), .val (.int (3 : Int32)), .val (.ref en2)] [])) tg
    refine XS.aloadN X37.here hx rfl (hb hby d_prog_36_method_4_code_20) rfl rfl ?_
    show Steps p.tables e below (T37.setTop (mkF m 21 #[.val (.ref a), .val (.ref a26), .val (.ref a4), .val (.int (4 : Int32)), .val (.int (3 : Int32)), .val (.ref en2)] [(.ref a4)])) tg
    refine XS.iload X37.here hx rfl (hb hby d_prog_36_method_4_code_21) rfl ?_
    show Steps p.tables e below (T37.setTop (mkF m 23 #[.val (.ref a), .val (.ref a26), .val (.ref a4), .val (.int (4 : Int32)), .val (.int (3 : Int32)), .val (.ref en2)] [(.int (3 : Int32)), (.ref a4)])) tg
    exact kg
  refine gs c38 ?_
  obtain ⟨cl39, A39, a39q, a39S, a39N, a39H, a39G⟩ := id f29
  have hi39 := inb_of a39S (j := (3 : Int32)) ⟨by decide, by decide⟩
  have c40 : ∀ tg, Steps p.tables e below (T37.setTop (mkF m 28 #[.val (.ref a), .val (.ref a26), .val (.ref a4), .val (.int (4 : Int32)), .val (.int (3 : Int32)), .val (.ref en3)] [(.ref en3)])) tg → Steps p.tables e below (T37.setTop (mkF m 23 #[.val (.ref a), .val (.ref a26), .val (.ref a4), .val (.int (4 : Int32)), .val (.int (3 : Int32)), .val (.ref en2)] [(.int (3 : Int32)), (.ref a4)])) tg := fun tg kg => by
    refine X37.aaload hx (j := (3 : Int32)) (v := (.ref en3)) (by rw [e37q]; exact A39.1) (State.isArrayOf_alike hZ.alike A39.2.1) rfl A39.2.2 hi39 (Has.at a39H hi39 rfl) (g := (mkF m 23 #[.val (.ref a), .val (.ref a26), .val (.ref a4), .val (.int (4 : Int32)), .val (.int (3 : Int32)), .val (.ref en2)] [(.int (3 : Int32)), (.ref a4)])) rfl rfl (hb hby d_prog_36_method_4_code_23) _ ?_
    show Steps p.tables e below (T37.setTop (mkF m 24 #[.val (.ref a), .val (.ref a26), .val (.ref a4), .val (.int (4 : Int32)), .val (.int (3 : Int32)), .val (.ref en2)] [(.ref en3)])) tg
    refine XS.astore X37.here hx rfl (hb hby d_prog_36_method_4_code_24) rfl rfl (l' := #[.val (.ref a), .val (.ref a26), .val (.ref a4), .val (.int (4 : Int32)), .val (.int (3 : Int32)), .val (.ref en3)]) rfl ?_
    show Steps p.tables e below (T37.setTop (mkF m 26 #[.val (.ref a), .val (.ref a26), .val (.ref a4), .val (.int (4 : Int32)), .val (.int (3 : Int32)), .val (.ref en3)] [])) tg
    refine XS.aload X37.here hx rfl (hb hby d_prog_36_method_4_code_26) rfl rfl ?_
    show Steps p.tables e below (T37.setTop (mkF m 28 #[.val (.ref a), .val (.ref a26), .val (.ref a4), .val (.int (4 : Int32)), .val (.int (3 : Int32)), .val (.ref en3)] [(.ref en3)])) tg
    exact kg
  refine gs c40 ?_
  have f41 := ((((F_e3.ext O0.2).keep K1q nin0).keep K4q nin0).keep K26q nin0)
  obtain ⟨T42, X42, e42, st42⟩ := getF X37 hx hZ hown (host := "") (Or.inl (hw _ (List.mem_of_getElem? (i := 54) rfl))) Via.refl e37q f41 (g := (mkF m 28 #[.val (.ref a), .val (.ref a26), .val (.ref a4), .val (.int (4 : Int32)), .val (.int (3 : Int32)), .val (.ref en3)] [(.ref en3)])) rfl rfl (hb hby d_prog_36_method_4_code_28)
  refine gs st42 ?_
  show OwnGo p e below s _ _ _ (T42.setTop (mkF m 31 #[.val (.ref a), .val (.ref a26), .val (.ref a4), .val (.int (4 : Int32)), .val (.int (3 : Int32)), .val (.ref en3)] [(.ref sn3)]))
  have c43 : ∀ tg, Steps p.tables e below (T42.setTop (mkF m 32 #[.val (.ref a), .val (.ref a26), .val (.ref a4), .val (.int (4 : Int32)), .val (.int (3 : Int32)), .val (.ref en3)] [(.ref a), (.ref sn3)])) tg → Steps p.tables e below (T42.setTop (mkF m 31 #[.val (.ref a), .val (.ref a26), .val (.ref a4), .val (.int (4 : Int32)), .val (.int (3 : Int32)), .val (.ref en3)] [(.ref sn3)])) tg := fun tg kg => by
    refine XS.aloadN X42.here hx rfl (hb hby d_prog_36_method_4_code_31) rfl rfl ?_
    show Steps p.tables e below (T42.setTop (mkF m 32 #[.val (.ref a), .val (.ref a26), .val (.ref a4), .val (.int (4 : Int32)), .val (.int (3 : Int32)), .val (.ref en3)] [(.ref a), (.ref sn3)])) tg
    exact kg
  refine gs c43 ?_
  have f44 := ((((T_s3.ext O0.2).keep0 K1q).keep0 K4q).keep0 K26q)
  obtain ⟨cq45, kq45, q45a, q45b, q45c⟩ := isOf hZ e42 f44.exa
  obtain ⟨_, _, ⟨T45, L45, k45, n45⟩, -, X45, ⟨Lc45, hQ45, l45, y45, z45⟩, st45⟩ := X42.virtualBack hx (y := (⟨"java/lang/String", "equals", "(Ljava/lang/Object;)Z"⟩ : MethodName)) (z := (⟨"java/lang/String", "equals", "(Ljava/lang/Object;)Z"⟩ : MethodName)) hown (mvT hZ (hw _ (List.mem_of_getElem? (i := 56) rfl))) (mvT hZ (hw _ (List.mem_of_getElem? (i := 57) rfl))) (notFace_of_selects (args := #[]) (mvT hZ (hw _ (List.mem_of_getElem? (i := 59) rfl)))) (mvT hZ (hw _ (List.mem_of_getElem? (i := 59) rfl))) (mvT hZ (hw _ (List.mem_of_getElem? (i := 58) rfl))) (by decide) (own_eqB (W := 0) hZ hw f44 (by decide) (by decide) f36 hbd hl (S0.ext O27.2) hz (by decide) (by decide)) q45a q45c (g := (mkF m 32 #[.val (.ref a), .val (.ref a26), .val (.ref a4), .val (.int (4 : Int32)), .val (.int (3 : Int32)), .val (.ref en3)] [(.ref a), (.ref sn3)])) rfl (by rw [hml]; rfl) (Steps.refl _) (argsL := [(.ref a)]) (rest := []) (lenOf pd_114 rfl) rfl (by show 2 * 0 + _ ≤ _; exact Nat.le_of_eq rfl) (hb hby d_prog_36_method_4_code_32) (fun _ _ => ⟨rfl, e42, (by decide : 2 + 0 ≤ _), (by decide : 5 + 0 ≤ _)⟩)
  dsimp only [Pt.U, Pt.locs, Pt.cells, Pt.slots] at X45 l45 y45 z45 st45 hQ45
  subst l45 y45 z45
  replace hQ45 := (show _ ∧ _ ∧ _ from by rcases hQ45 with ⟨⟨u1, u2⟩ | ⟨u1, u2⟩, u3, u4⟩; exact absurd u2 (by rw [q]; decide); exact ⟨u1, u3, u4⟩)
  obtain ⟨rfl, rfl, e45q⟩ := hQ45
  have N45 := Fr.app N37 (Fr.nil n0)
  refine gs (fun _ k => st45.trans k) ?_
  show OwnGo p e below s _ _ _ (T45.setTop (mkF m 35 #[.val (.ref a), .val (.ref a26), .val (.ref a4), .val (.int (4 : Int32)), .val (.int (3 : Int32)), .val (.ref en3)] [(.int (0 : Int32))]))
  have c46 : ∀ tg, Steps p.tables e below (T45.setTop (mkF m 51 #[.val (.ref a), .val (.ref a26), .val (.ref a4), .val (.int (4 : Int32)), .val (.int (4 : Int32)), .val (.ref en3)] [(.ref a26)])) tg → Steps p.tables e below (T45.setTop (mkF m 35 #[.val (.ref a), .val (.ref a26), .val (.ref a4), .val (.int (4 : Int32)), .val (.int (3 : Int32)), .val (.ref en3)] [(.int (0 : Int32))])) tg := fun tg kg => by
    refine XS.ifYes X45.here hx rfl (pc0 := 35) (pc' := 44) rfl (hb hby d_prog_36_method_4_code_35) rfl ((if0 _ _).trans (teq (by decide : (0 : Int32) = (0 : Int32))).1) (by decide) (by decide) ?_
    show Steps p.tables e below (T45.setTop (mkF m 44 #[.val (.ref a), .val (.ref a26), .val (.ref a4), .val (.int (4 : Int32)), .val (.int (3 : Int32)), .val (.ref en3)] [])) tg
    refine XS.iinc X45.here hx rfl (hb hby d_prog_36_method_4_code_44) rfl (l' := #[.val (.ref a), .val (.ref a26), .val (.ref a4), .val (.int (4 : Int32)), .val (.int (4 : Int32)), .val (.ref en3)]) rfl ?_
    show Steps p.tables e below (T45.setTop (mkF m 47 #[.val (.ref a), .val (.ref a26), .val (.ref a4), .val (.int (4 : Int32)), .val (.int (4 : Int32)), .val (.ref en3)] [])) tg
    refine XS.goto X45.here hx rfl (pc0 := 47) (pc' := 14) rfl (hb hby d_prog_36_method_4_code_47) (by decide) (by decide) ?_
    show Steps p.tables e below (T45.setTop (mkF m 14 #[.val (.ref a), .val (.ref a26), .val (.ref a4), .val (.int (4 : Int32)), .val (.int (4 : Int32)), .val (.ref en3)] [])) tg
    refine XS.iload X45.here hx rfl (hb hby d_prog_36_method_4_code_14) rfl ?_
    show Steps p.tables e below (T45.setTop (mkF m 16 #[.val (.ref a), .val (.ref a26), .val (.ref a4), .val (.int (4 : Int32)), .val (.int (4 : Int32)), .val (.ref en3)] [(.int (4 : Int32))])) tg
    refine XS.iloadN X45.here hx rfl (hb hby d_prog_36_method_4_code_16) rfl ?_
    show Steps p.tables e below (T45.setTop (mkF m 17 #[.val (.ref a), .val (.ref a26), .val (.ref a4), .val (.int (4 : Int32)), .val (.int (4 : Int32)), .val (.ref en3)] [(.int (4 : Int32)), (.int (4 : Int32))])) tg
    refine XS.icmpYes X45.here hx rfl (pc0 := 17) (pc' := 50) rfl (hb hby d_prog_36_method_4_code_17) rfl (flt (by decide : ¬ ((4 : Int32) < (4 : Int32)))).2.1 (by decide) (by decide) ?_
    show Steps p.tables e below (T45.setTop (mkF m 50 #[.val (.ref a), .val (.ref a26), .val (.ref a4), .val (.int (4 : Int32)), .val (.int (4 : Int32)), .val (.ref en3)] [])) tg
    refine XS.aloadN X45.here hx rfl (hb hby d_prog_36_method_4_code_50) rfl rfl ?_
    show Steps p.tables e below (T45.setTop (mkF m 51 #[.val (.ref a), .val (.ref a26), .val (.ref a4), .val (.int (4 : Int32)), .val (.int (4 : Int32)), .val (.ref en3)] [(.ref a26)])) tg
    exact kg
  refine gs c46 ?_
  refine gout (v := some (.ref a26)) X45 Bd.notSynchronized (fun h => by rw [Bd.returns] at h; cases h) (by decide) (by decide) ?_ (fun fs hr => retOut X45 hx Bd.returns rfl (Or.inr (Or.inr (Or.inr (Or.inr ⟨rfl, rfl, rfl⟩)))) (hb hby d_prog_36_method_4_code_51) hr)
  rw [e45q]
  exact ⟨_, rfl, N45, K27, E26q, F26v⟩
theorem ef_125 (m : MethodId) (x0 : Addr) : entryFrame m #[(.ref x0)] 6 = mkF m 0 #[.val (.ref x0), .unset, .unset, .unset, .unset, .unset] [] := by first | (simp [entryFrame, mkF, argsToLocals, Value.category]; done) | rfl
set_option maxRecDepth 65536 in
set_option maxHeartbeats 40000000 in
theorem rm_wr2 (l : Launch) (Z : State) (a0 : Array Value) (hw : ∀ d ∈ tables_1, d.before a0 Z = true) (ws : List Jvm.Cond) (a : Addr) (cs : List Int32) (z : Int32) (oe : Addr) (va : Addr) (kv : ClassId) (en0 : Addr) (en1 : Addr) (en2 : Addr) (en3 : Addr) (sn0 : Addr) (sn1 : Addr) (sn2 : Addr) (sn3 : Addr) (h0 : Heap) (n0 : Nat) (Z0 : n0 ≤ h0.size) (O0 : Old Z n0 h0) (S0 : Sta Z Z.heap "java/lang/String" "COMPACT_STRINGS" "Z" (.int z)) (hz : ¬ z = 0) (T_a : Str Z h0 a cs) (hbd : ∀ c ∈ cs, ¬ c < 0 ∧ ¬ (255 : Int32) < c) (hl : cs.length ≤ 4000) (S_oe : Sta Z Z.heap "java/util/Optional" "EMPTY" "Ljava/util/Optional;" (.ref oe)) (S_va : Sta Z Z.heap "com/example/tranche/tranche/terms/Comparison" "$VALUES" "[Lcom/example/tranche/tranche/terms/Comparison;" (.ref va)) (V_va : Arv Z Z.heap va kv (.object "com/example/tranche/tranche/terms/Comparison") (4 : Int32) [(.ref en0), (.ref en1), (.ref en2), (.ref en3)] .null) (E_va : Exa Z Z.heap va "[Lcom/example/tranche/tranche/terms/Comparison;") (F_e0 : Fld Z Z.heap en0 "com/example/tranche/tranche/terms/Comparison" "written" "Ljava/lang/String;" (.ref sn0)) (F_e1 : Fld Z Z.heap en1 "com/example/tranche/tranche/terms/Comparison" "written" "Ljava/lang/String;" (.ref sn1)) (F_e2 : Fld Z Z.heap en2 "com/example/tranche/tranche/terms/Comparison" "written" "Ljava/lang/String;" (.ref sn2)) (F_e3 : Fld Z Z.heap en3 "com/example/tranche/tranche/terms/Comparison" "written" "Ljava/lang/String;" (.ref sn3)) (T_s0 : Str Z Z.heap sn0 ([60] : List Int32)) (T_s1 : Str Z Z.heap sn1 ([60, 61] : List Int32)) (T_s2 : Str Z Z.heap sn2 ([62] : List Int32)) (T_s3 : Str Z Z.heap sn3 ([62, 61] : List Int32)) (q : cs = ([62] : List Int32)) :
    Ctr l Z (⟨"com/example/tranche/tranche/terms/Comparison", "written", "(Ljava/lang/String;)Ljava/util/Optional;"⟩ : MethodName) prog_36_method_4_code 6 ((Option.some (Jvm.ClassFile.FieldType.object "java/util/Optional"))) ws ({ frames := 3, cells := 2, slots := 5, locals := 60 } : Room) #[(.ref a)] h0 (fun v h L => ∃ a : Addr, v = some (.ref a) ∧ Fr n0 L ∧ Keep h0 h [] ∧ Exa Z h a "java/util/Optional" ∧ Fld Z h a "java/util/Optional" "value" "Ljava/lang/Object;" (.ref en2)) := by
  refine Ctr.of (MetFree.of_bodySF (plainFor_of_name pn_68) hisR ?_)
  intro p e s m args below meth c s₁ Bd hml0 hP hK
  obtain ⟨rfl, hZ, hh⟩ := hP
  have hx := Bd.exec
  have hby := Bd.bytes
  have hml : c.maxLocals = 6 := hml0
  have hown : s.vm.findClass "com/example/tranche/tranche/terms/Comparison" = some m.cls := findClass_of_methodNamed Bd.named
  have hnm := (name_of_methodNamed Bd.named Bd.method).1
  have X0 : Stand p l e ({ frames := 3, cells := 2, slots := 5, locals := 60 } : Room) s m #[(.ref a)] below meth c s₁ [] 0 0 := Stand.of_body Bd
  have e0 : s₁.heap = h0 := by rw [← hh, Bd.state]; rfl
  have N0 := Fr.nil n0
  have K0 : Keep h0 h0 [] := Keep.refl h0 []
  show OwnGo p e below s (fun v h L => ∃ a : Addr, v = some (.ref a) ∧ Fr n0 L ∧ Keep h0 h [] ∧ Exa Z h a "java/util/Optional" ∧ Fld Z h a "java/util/Optional" "value" "Ljava/lang/Object;" (.ref en2)) ({ frames := 3, cells := 2, slots := 5, locals := 60 } : Room).cells ({ frames := 3, cells := 2, slots := 5, locals := 60 } : Room).slots _
  refine gs (S' := s₁.setTop (mkF m 0 #[.val (.ref a), .unset, .unset, .unset, .unset, .unset] [])) (fun tg kg => castTop (ef_125 m a) kg) ?_
  obtain ⟨_, _, ⟨T1, L1, k1, n1⟩, -, X1, ⟨Lc1, hQ1, l1, y1, z1⟩, st1⟩ := Jvm.LawKit.callS X0 hx (y := (⟨"java/util/Optional", "empty", "()Ljava/util/Optional;"⟩ : MethodName)) hown (mvT hZ (hw _ (List.mem_of_getElem? (i := 30) rfl))) (mvT hZ (hw _ (List.mem_of_getElem? (i := 31) rfl))) (mvT hZ (hw _ (List.mem_of_getElem? (i := 32) rfl))) (mvT hZ (hw _ (List.mem_of_getElem? (i := 33) rfl))) (by decide) (backC (W := 0) (rm_oe l Z a0 hw [] oe h0 n0 Z0 O0 S_oe) hZ (hw _ (List.mem_of_getElem? (i := 33) rfl)) (hw _ (List.mem_of_getElem? (i := 32) rfl)) (by decide) (by decide)) (g := (mkF m 0 #[.val (.ref a), .unset, .unset, .unset, .unset, .unset] [])) rfl (by rw [hml]; rfl) (argsL := []) (rest := []) (lenOf pd_93 rfl) rfl (by show 2 * 0 + _ ≤ _; exact Nat.le_of_eq rfl) (hb hby d_prog_36_method_4_code_0) (fun _ _ => ⟨rfl, e0, (by decide : 0 + 0 ≤ _), (by decide : 0 + 0 ≤ _)⟩)
  dsimp only [Pt.U, Pt.locs, Pt.cells, Pt.slots] at X1 l1 y1 z1 st1 hQ1
  subst l1 y1 z1
  obtain ⟨rfl, N1q, K1q⟩ := hQ1
  have N1 := Fr.app N0 N1q
  have Z2 : n0 ≤ T1.heap.size := Nat.le_trans Z0 K1q.1
  have O2 : Old Z n0 T1.heap := O0.keep K1q all0
  have K2 : Keep h0 T1.heap [] := K0.trans K1q all0
  refine gs st1 ?_
  show OwnGo p e below s _ _ _ (T1.setTop (mkF m 3 #[.val (.ref a), .unset, .unset, .unset, .unset, .unset] [(.ref oe)]))
  have c3 : ∀ tg, Steps p.tables e below (T1.setTop (mkF m 4 #[.val (.ref a), .val (.ref oe), .unset, .unset, .unset, .unset] [])) tg → Steps p.tables e below (T1.setTop (mkF m 3 #[.val (.ref a), .unset, .unset, .unset, .unset, .unset] [(.ref oe)])) tg := fun tg kg => by
    refine XS.astoreN X1.here hx rfl (hb hby d_prog_36_method_4_code_3) rfl rfl (l' := #[.val (.ref a), .val (.ref oe), .unset, .unset, .unset, .unset]) rfl ?_
    show Steps p.tables e below (T1.setTop (mkF m 4 #[.val (.ref a), .val (.ref oe), .unset, .unset, .unset, .unset] [])) tg
    exact kg
  refine gs c3 ?_
  obtain ⟨_, _, ⟨T4, L4, k4, n4⟩, -, X4, ⟨Lc4, hQ4, l4, y4, z4⟩, st4⟩ := Jvm.LawKit.callS X1 hx (y := (⟨"com/example/tranche/tranche/terms/Comparison", "values", "()[Lcom/example/tranche/tranche/terms/Comparison;"⟩ : MethodName)) hown (mvT hZ (hw _ (List.mem_of_getElem? (i := 35) rfl))) (mvT hZ (hw _ (List.mem_of_getElem? (i := 36) rfl))) (mvT hZ (hw _ (List.mem_of_getElem? (i := 28) rfl))) (mvT hZ (hw _ (List.mem_of_getElem? (i := 37) rfl))) (by decide) (backC (W := 0) (rm_va l Z a0 hw [] va kv en0 en1 en2 en3 T1.heap n0 Z2 O2 S_va V_va E_va) hZ (hw _ (List.mem_of_getElem? (i := 37) rfl)) (hw _ (List.mem_of_getElem? (i := 28) rfl)) (by decide) (by decide)) (g := (mkF m 4 #[.val (.ref a), .val (.ref oe), .unset, .unset, .unset, .unset] [])) rfl (by rw [hml]; rfl) (argsL := []) (rest := []) (lenOf pd_96 rfl) rfl (by show 2 * 0 + _ ≤ _; exact Nat.le_of_eq rfl) (hb hby d_prog_36_method_4_code_4) (fun _ _ => ⟨rfl, rfl, (by decide : 0 + 1 ≤ _), (by decide : 0 + 4 ≤ _)⟩)
  dsimp only [Pt.U, Pt.locs, Pt.cells, Pt.slots] at X4 l4 y4 z4 st4 hQ4
  subst l4 y4 z4
  obtain ⟨a4, rfl, N4q, K4q, V4q⟩ := hQ4
  have N4 := Fr.app N1 N4q
  have Z5 : n0 ≤ T4.heap.size := Nat.le_trans Z2 K4q.1
  have O5 : Old Z n0 T4.heap := O2.keep K4q all0
  have K5 : Keep h0 T4.heap [] := K2.trans K4q all0
  refine gs st4 ?_
  show OwnGo p e below s _ _ _ (T4.setTop (mkF m 7 #[.val (.ref a), .val (.ref oe), .unset, .unset, .unset, .unset] [(.ref a4)]))
  have c6 : ∀ tg, Steps p.tables e below (T4.setTop (mkF m 9 #[.val (.ref a), .val (.ref oe), .val (.ref a4), .unset, .unset, .unset] [(.ref a4)])) tg → Steps p.tables e below (T4.setTop (mkF m 7 #[.val (.ref a), .val (.ref oe), .unset, .unset, .unset, .unset] [(.ref a4)])) tg := fun tg kg => by
    refine XS.astoreN X4.here hx rfl (hb hby d_prog_36_method_4_code_7) rfl rfl (l' := #[.val (.ref a), .val (.ref oe), .val (.ref a4), .unset, .unset, .unset]) rfl ?_
    show Steps p.tables e below (T4.setTop (mkF m 8 #[.val (.ref a), .val (.ref oe), .val (.ref a4), .unset, .unset, .unset] [])) tg
    refine XS.aloadN X4.here hx rfl (hb hby d_prog_36_method_4_code_8) rfl rfl ?_
    show Steps p.tables e below (T4.setTop (mkF m 9 #[.val (.ref a), .val (.ref oe), .val (.ref a4), .unset, .unset, .unset] [(.ref a4)])) tg
    exact kg
  refine gs c6 ?_
  obtain ⟨cl7, A7, a7q, a7S, a7N, a7H, a7G⟩ := id V4q
  have c8 : ∀ tg, Steps p.tables e below (T4.setTop (mkF m 23 #[.val (.ref a), .val (.ref oe), .val (.ref a4), .val (.int (4 : Int32)), .val (.int (0 : Int32)), .unset] [(.int (0 : Int32)), (.ref a4)])) tg → Steps p.tables e below (T4.setTop (mkF m 9 #[.val (.ref a), .val (.ref oe), .val (.ref a4), .unset, .unset, .unset] [(.ref a4)])) tg := fun tg kg => by
    refine X4.arraylength hx A7.1 (State.isArrayOf_alike hZ.alike A7.2.1) (g := (mkF m 9 #[.val (.ref a), .val (.ref oe), .val (.ref a4), .unset, .unset, .unset] [(.ref a4)])) rfl rfl (hb hby d_prog_36_method_4_code_9) _ ?_; rw [len_of a7S a7N]
    show Steps p.tables e below (T4.setTop (mkF m 10 #[.val (.ref a), .val (.ref oe), .val (.ref a4), .unset, .unset, .unset] [(.int (4 : Int32))])) tg
    refine XS.istoreN X4.here hx rfl (hb hby d_prog_36_method_4_code_10) rfl (l' := #[.val (.ref a), .val (.ref oe), .val (.ref a4), .val (.int (4 : Int32)), .unset, .unset]) rfl ?_
    show Steps p.tables e below (T4.setTop (mkF m 11 #[.val (.ref a), .val (.ref oe), .val (.ref a4), .val (.int (4 : Int32)), .unset, .unset] [])) tg
    refine XS.iconst X4.here hx rfl (hb hby d_prog_36_method_4_code_11) ?_
    show Steps p.tables e below (T4.setTop (mkF m 12 #[.val (.ref a), .val (.ref oe), .val (.ref a4), .val (.int (4 : Int32)), .unset, .unset] [(.int (0 : Int32))])) tg
    refine XS.istore X4.here hx rfl (hb hby d_prog_36_method_4_code_12) rfl (l' := #[.val (.ref a), .val (.ref oe), .val (.ref a4), .val (.int (4 : Int32)), .val (.int (0 : Int32)), .unset]) rfl ?_
    show Steps p.tables e below (T4.setTop (mkF m 14 #[.val (.ref a), .val (.ref oe), .val (.ref a4), .val (.int (4 : Int32)), .val (.int (0 : Int32)), .unset] [])) tg
    refine XS.iload X4.here hx rfl (hb hby d_prog_36_method_4_code_14) rfl ?_
    show Steps p.tables e below (T4.setTop (mkF m 16 #[.val (.ref a), .val (.ref oe), .val (.ref a4), .val (.int (4 : Int32)), .val (.int (0 : Int32)), .unset] [(.int (0 : Int32))])) tg
    refine XS.iloadN X4.here hx rfl (hb hby d_prog_36_method_4_code_16) rfl ?_
    show Steps p.tables e below (T4.setTop (mkF m 17 #[.val (.ref a), .val (.ref oe), .val (.ref a4), .val (.int (4 : Int32)), .val (.int (0 : Int32)), .unset] [(.int (4 : Int32)), (.int (0 : Int32))])) tg
    refine XS.icmpNo X4.here hx rfl (hb hby d_prog_36_method_4_code_17) rfl (tlt (by decide : (0 : Int32) < (4 : Int32))).2.1 ?_
    show Steps p.tables e below (T4.setTop (mkF m 20 #[.val (.ref a), .val (.ref oe), .val (.ref a4), .val (.int (4 : Int32)), .val (.int (0 : Int32)), .unset] [])) tg
    refine XS.aloadN X4.here hx rfl (hb hby d_prog_36_method_4_code_20) rfl rfl ?_
    show Steps p.tables e below (T4.setTop (mkF m 21 #[.val (.ref a), .val (.ref oe), .val (.ref a4), .val (.int (4 : Int32)), .val (.int (0 : Int32)), .unset] [(.ref a4)])) tg
    refine XS.iload X4.here hx rfl (hb hby d_prog_36_method_4_code_21) rfl ?_
    show Steps p.tables e below (T4.setTop (mkF m 23 #[.val (.ref a), .val (.ref oe), .val (.ref a4), .val (.int (4 : Int32)), .val (.int (0 : Int32)), .unset] [(.int (0 : Int32)), (.ref a4)])) tg
    exact kg
  refine gs c8 ?_
  obtain ⟨cl9, A9, a9q, a9S, a9N, a9H, a9G⟩ := id V4q
  have hi9 := inb_of a9S (j := (0 : Int32)) ⟨by decide, by decide⟩
  have c10 : ∀ tg, Steps p.tables e below (T4.setTop (mkF m 28 #[.val (.ref a), .val (.ref oe), .val (.ref a4), .val (.int (4 : Int32)), .val (.int (0 : Int32)), .val (.ref en0)] [(.ref en0)])) tg → Steps p.tables e below (T4.setTop (mkF m 23 #[.val (.ref a), .val (.ref oe), .val (.ref a4), .val (.int (4 : Int32)), .val (.int (0 : Int32)), .unset] [(.int (0 : Int32)), (.ref a4)])) tg := fun tg kg => by
    refine X4.aaload hx (j := (0 : Int32)) (v := (.ref en0)) A9.1 (State.isArrayOf_alike hZ.alike A9.2.1) rfl A9.2.2 hi9 (Has.at a9H hi9 rfl) (g := (mkF m 23 #[.val (.ref a), .val (.ref oe), .val (.ref a4), .val (.int (4 : Int32)), .val (.int (0 : Int32)), .unset] [(.int (0 : Int32)), (.ref a4)])) rfl rfl (hb hby d_prog_36_method_4_code_23) _ ?_
    show Steps p.tables e below (T4.setTop (mkF m 24 #[.val (.ref a), .val (.ref oe), .val (.ref a4), .val (.int (4 : Int32)), .val (.int (0 : Int32)), .unset] [(.ref en0)])) tg
    refine XS.astore X4.here hx rfl (hb hby d_prog_36_method_4_code_24) rfl rfl (l' := #[.val (.ref a), .val (.ref oe), .val (.ref a4), .val (.int (4 : Int32)), .val (.int (0 : Int32)), .val (.ref en0)]) rfl ?_
    show Steps p.tables e below (T4.setTop (mkF m 26 #[.val (.ref a), .val (.ref oe), .val (.ref a4), .val (.int (4 : Int32)), .val (.int (0 : Int32)), .val (.ref en0)] [])) tg
    refine XS.aload X4.here hx rfl (hb hby d_prog_36_method_4_code_26) rfl rfl ?_
    show Steps p.tables e below (T4.setTop (mkF m 28 #[.val (.ref a), .val (.ref oe), .val (.ref a4), .val (.int (4 : Int32)), .val (.int (0 : Int32)), .val (.ref en0)] [(.ref en0)])) tg
    exact kg
  refine gs c10 ?_
  have f11 := (((F_e0.ext O0.2).keep K1q nin0).keep K4q nin0)
  obtain ⟨T12, X12, e12, st12⟩ := getF X4 hx hZ hown (host := "") (Or.inl (hw _ (List.mem_of_getElem? (i := 54) rfl))) Via.refl rfl f11 (g := (mkF m 28 #[.val (.ref a), .val (.ref oe), .val (.ref a4), .val (.int (4 : Int32)), .val (.int (0 : Int32)), .val (.ref en0)] [(.ref en0)])) rfl rfl (hb hby d_prog_36_method_4_code_28)
  refine gs st12 ?_
  show OwnGo p e below s _ _ _ (T12.setTop (mkF m 31 #[.val (.ref a), .val (.ref oe), .val (.ref a4), .val (.int (4 : Int32)), .val (.int (0 : Int32)), .val (.ref en0)] [(.ref sn0)]))
  have c13 : ∀ tg, Steps p.tables e below (T12.setTop (mkF m 32 #[.val (.ref a), .val (.ref oe), .val (.ref a4), .val (.int (4 : Int32)), .val (.int (0 : Int32)), .val (.ref en0)] [(.ref a), (.ref sn0)])) tg → Steps p.tables e below (T12.setTop (mkF m 31 #[.val (.ref a), .val (.ref oe), .val (.ref a4), .val (.int (4 : Int32)), .val (.int (0 : Int32)), .val (.ref en0)] [(.ref sn0)])) tg := fun tg kg => by
    refine XS.aloadN X12.here hx rfl (hb hby d_prog_36_method_4_code_31) rfl rfl ?_
    show Steps p.tables e below (T12.setTop (mkF m 32 #[.val (.ref a), .val (.ref oe), .val (.ref a4), .val (.int (4 : Int32)), .val (.int (0 : Int32)), .val (.ref en0)] [(.ref a), (.ref sn0)])) tg
    exact kg
  refine gs c13 ?_
  have f14 := (((T_s0.ext O0.2).keep0 K1q).keep0 K4q)
  have f15 := ((T_a.keep0 K1q).keep0 K4q)
  obtain ⟨cq16, kq16, q16a, q16b, q16c⟩ := isOf hZ e12 f14.exa
  obtain ⟨_, _, ⟨T16, L16, k16, n16⟩, -, X16, ⟨Lc16, hQ16, l16, y16, z16⟩, st16⟩ := X12.virtualBack hx (y := (⟨"java/lang/String", "equals", "(Ljava/lang/Object;)Z"⟩ : MethodName)) (z := (⟨"java/lang/String", "equals", "(Ljava/lang/Object;)Z"⟩ : MethodName)) hown (mvT hZ (hw _ (List.mem_of_getElem? (i := 56) rfl))) (mvT hZ (hw _ (List.mem_of_getElem? (i := 57) rfl))) (notFace_of_selects (args := #[]) (mvT hZ (hw _ (List.mem_of_getElem? (i := 59) rfl)))) (mvT hZ (hw _ (List.mem_of_getElem? (i := 59) rfl))) (mvT hZ (hw _ (List.mem_of_getElem? (i := 58) rfl))) (by decide) (own_eqB (W := 0) hZ hw f14 (by decide) (by decide) f15 hbd hl (S0.ext O5.2) hz (by decide) (by decide)) q16a q16c (g := (mkF m 32 #[.val (.ref a), .val (.ref oe), .val (.ref a4), .val (.int (4 : Int32)), .val (.int (0 : Int32)), .val (.ref en0)] [(.ref a), (.ref sn0)])) rfl (by rw [hml]; rfl) (Steps.refl _) (argsL := [(.ref a)]) (rest := []) (lenOf pd_114 rfl) rfl (by show 2 * 0 + _ ≤ _; exact Nat.le_of_eq rfl) (hb hby d_prog_36_method_4_code_32) (fun _ _ => ⟨rfl, e12, (by decide : 1 + 0 ≤ _), (by decide : 4 + 0 ≤ _)⟩)
  dsimp only [Pt.U, Pt.locs, Pt.cells, Pt.slots] at X16 l16 y16 z16 st16 hQ16
  subst l16 y16 z16
  replace hQ16 := (show _ ∧ _ ∧ _ from by rcases hQ16 with ⟨⟨u1, u2⟩ | ⟨u1, u2⟩, u3, u4⟩; exact absurd u2 (by rw [q]; decide); exact ⟨u1, u3, u4⟩)
  obtain ⟨rfl, rfl, e16q⟩ := hQ16
  have N16 := Fr.app N4 (Fr.nil n0)
  refine gs (fun _ k => st16.trans k) ?_
  show OwnGo p e below s _ _ _ (T16.setTop (mkF m 35 #[.val (.ref a), .val (.ref oe), .val (.ref a4), .val (.int (4 : Int32)), .val (.int (0 : Int32)), .val (.ref en0)] [(.int (0 : Int32))]))
  have c17 : ∀ tg, Steps p.tables e below (T16.setTop (mkF m 23 #[.val (.ref a), .val (.ref oe), .val (.ref a4), .val (.int (4 : Int32)), .val (.int (1 : Int32)), .val (.ref en0)] [(.int (1 : Int32)), (.ref a4)])) tg → Steps p.tables e below (T16.setTop (mkF m 35 #[.val (.ref a), .val (.ref oe), .val (.ref a4), .val (.int (4 : Int32)), .val (.int (0 : Int32)), .val (.ref en0)] [(.int (0 : Int32))])) tg := fun tg kg => by
    refine XS.ifYes X16.here hx rfl (pc0 := 35) (pc' := 44) rfl (hb hby d_prog_36_method_4_code_35) rfl ((if0 _ _).trans (teq (by decide : (0 : Int32) = (0 : Int32))).1) (by decide) (by decide) ?_
    show Steps p.tables e below (T16.setTop (mkF m 44 #[.val (.ref a), .val (.ref oe), .val (.ref a4), .val (.int (4 : Int32)), .val (.int (0 : Int32)), .val (.ref en0)] [])) tg
    refine XS.iinc X16.here hx rfl (hb hby d_prog_36_method_4_code_44) rfl (l' := #[.val (.ref a), .val (.ref oe), .val (.ref a4), .val (.int (4 : Int32)), .val (.int (1 : Int32)), .val (.ref en0)]) rfl ?_
    show Steps p.tables e below (T16.setTop (mkF m 47 #[.val (.ref a), .val (.ref oe), .val (.ref a4), .val (.int (4 : Int32)), .val (.int (1 : Int32)), .val (.ref en0)] [])) tg
    refine XS.goto X16.here hx rfl (pc0 := 47) (pc' := 14) rfl (hb hby d_prog_36_method_4_code_47) (by decide) (by decide) ?_
    show Steps p.tables e below (T16.setTop (mkF m 14 #[.val (.ref a), .val (.ref oe), .val (.ref a4), .val (.int (4 : Int32)), .val (.int (1 : Int32)), .val (.ref en0)] [])) tg
    refine XS.iload X16.here hx rfl (hb hby d_prog_36_method_4_code_14) rfl ?_
    show Steps p.tables e below (T16.setTop (mkF m 16 #[.val (.ref a), .val (.ref oe), .val (.ref a4), .val (.int (4 : Int32)), .val (.int (1 : Int32)), .val (.ref en0)] [(.int (1 : Int32))])) tg
    refine XS.iloadN X16.here hx rfl (hb hby d_prog_36_method_4_code_16) rfl ?_
    show Steps p.tables e below (T16.setTop (mkF m 17 #[.val (.ref a), .val (.ref oe), .val (.ref a4), .val (.int (4 : Int32)), .val (.int (1 : Int32)), .val (.ref en0)] [(.int (4 : Int32)), (.int (1 : Int32))])) tg
    refine XS.icmpNo X16.here hx rfl (hb hby d_prog_36_method_4_code_17) rfl (tlt (by decide : (1 : Int32) < (4 : Int32))).2.1 ?_
    show Steps p.tables e below (T16.setTop (mkF m 20 #[.val (.ref a), .val (.ref oe), .val (.ref a4), .val (.int (4 : Int32)), .val (.int (1 : Int32)), .val (.ref en0)] [])) tg
    refine XS.aloadN X16.here hx rfl (hb hby d_prog_36_method_4_code_20) rfl rfl ?_
    show Steps p.tables e below (T16.setTop (mkF m 21 #[.val (.ref a), .val (.ref oe), .val (.ref a4), .val (.int (4 : Int32)), .val (.int (1 : Int32)), .val (.ref en0)] [(.ref a4)])) tg
    refine XS.iload X16.here hx rfl (hb hby d_prog_36_method_4_code_21) rfl ?_
    show Steps p.tables e below (T16.setTop (mkF m 23 #[.val (.ref a), .val (.ref oe), .val (.ref a4), .val (.int (4 : Int32)), .val (.int (1 : Int32)), .val (.ref en0)] [(.int (1 : Int32)), (.ref a4)])) tg
    exact kg
  refine gs c17 ?_
  obtain ⟨cl18, A18, a18q, a18S, a18N, a18H, a18G⟩ := id V4q
  have hi18 := inb_of a18S (j := (1 : Int32)) ⟨by decide, by decide⟩
  have c19 : ∀ tg, Steps p.tables e below (T16.setTop (mkF m 28 #[.val (.ref a), .val (.ref oe), .val (.ref a4), .val (.int (4 : Int32)), .val (.int (1 : Int32)), .val (.ref en1)] [(.ref en1)])) tg → Steps p.tables e below (T16.setTop (mkF m 23 #[.val (.ref a), .val (.ref oe), .val (.ref a4), .val (.int (4 : Int32)), .val (.int (1 : Int32)), .val (.ref en0)] [(.int (1 : Int32)), (.ref a4)])) tg := fun tg kg => by
    refine X16.aaload hx (j := (1 : Int32)) (v := (.ref en1)) (by rw [e16q]; exact A18.1) (State.isArrayOf_alike hZ.alike A18.2.1) rfl A18.2.2 hi18 (Has.at a18H hi18 rfl) (g := (mkF m 23 #[.val (.ref a), .val (.ref oe), .val (.ref a4), .val (.int (4 : Int32)), .val (.int (1 : Int32)), .val (.ref en0)] [(.int (1 : Int32)), (.ref a4)])) rfl rfl (hb hby d_prog_36_method_4_code_23) _ ?_
    show Steps p.tables e below (T16.setTop (mkF m 24 #[.val (.ref a), .val (.ref oe), .val (.ref a4), .val (.int (4 : Int32)), .val (.int (1 : Int32)), .val (.ref en0)] [(.ref en1)])) tg
    refine XS.astore X16.here hx rfl (hb hby d_prog_36_method_4_code_24) rfl rfl (l' := #[.val (.ref a), .val (.ref oe), .val (.ref a4), .val (.int (4 : Int32)), .val (.int (1 : Int32)), .val (.ref en1)]) rfl ?_
    show Steps p.tables e below (T16.setTop (mkF m 26 #[.val (.ref a), .val (.ref oe), .val (.ref a4), .val (.int (4 : Int32)), .val (.int (1 : Int32)), .val (.ref en1)] [])) tg
    refine XS.aload X16.here hx rfl (hb hby d_prog_36_method_4_code_26) rfl rfl ?_
    show Steps p.tables e below (T16.setTop (mkF m 28 #[.val (.ref a), .val (.ref oe), .val (.ref a4), .val (.int (4 : Int32)), .val (.int (1 : Int32)), .val (.ref en1)] [(.ref en1)])) tg
    exact kg
  refine gs c19 ?_
  have f20 := (((F_e1.ext O0.2).keep K1q nin0).keep K4q nin0)
  obtain ⟨T21, X21, e21, st21⟩ := getF X16 hx hZ hown (host := "") (Or.inl (hw _ (List.mem_of_getElem? (i := 54) rfl))) Via.refl e16q f20 (g := (mkF m 28 #[.val (.ref a), .val (.ref oe), .val (.ref a4), .val (.int (4 : Int32)), .val (.int (1 : Int32)), .val (.ref en1)] [(.ref en1)])) rfl rfl (hb hby d_prog_36_method_4_code_28)
  refine gs st21 ?_
  show OwnGo p e below s _ _ _ (T21.setTop (mkF m 31 #[.val (.ref a), .val (.ref oe), .val (.ref a4), .val (.int (4 : Int32)), .val (.int (1 : Int32)), .val (.ref en1)] [(.ref sn1)]))
  have c22 : ∀ tg, Steps p.tables e below (T21.setTop (mkF m 32 #[.val (.ref a), .val (.ref oe), .val (.ref a4), .val (.int (4 : Int32)), .val (.int (1 : Int32)), .val (.ref en1)] [(.ref a), (.ref sn1)])) tg → Steps p.tables e below (T21.setTop (mkF m 31 #[.val (.ref a), .val (.ref oe), .val (.ref a4), .val (.int (4 : Int32)), .val (.int (1 : Int32)), .val (.ref en1)] [(.ref sn1)])) tg := fun tg kg => by
    refine XS.aloadN X21.here hx rfl (hb hby d_prog_36_method_4_code_31) rfl rfl ?_
    show Steps p.tables e below (T21.setTop (mkF m 32 #[.val (.ref a), .val (.ref oe), .val (.ref a4), .val (.int (4 : Int32)), .val (.int (1 : Int32)), .val (.ref en1)] [(.ref a), (.ref sn1)])) tg
    exact kg
  refine gs c22 ?_
  have f23 := (((T_s1.ext O0.2).keep0 K1q).keep0 K4q)
  obtain ⟨cq24, kq24, q24a, q24b, q24c⟩ := isOf hZ e21 f23.exa
  obtain ⟨_, _, ⟨T24, L24, k24, n24⟩, -, X24, ⟨Lc24, hQ24, l24, y24, z24⟩, st24⟩ := X21.virtualBack hx (y := (⟨"java/lang/String", "equals", "(Ljava/lang/Object;)Z"⟩ : MethodName)) (z := (⟨"java/lang/String", "equals", "(Ljava/lang/Object;)Z"⟩ : MethodName)) hown (mvT hZ (hw _ (List.mem_of_getElem? (i := 56) rfl))) (mvT hZ (hw _ (List.mem_of_getElem? (i := 57) rfl))) (notFace_of_selects (args := #[]) (mvT hZ (hw _ (List.mem_of_getElem? (i := 59) rfl)))) (mvT hZ (hw _ (List.mem_of_getElem? (i := 59) rfl))) (mvT hZ (hw _ (List.mem_of_getElem? (i := 58) rfl))) (by decide) (own_eqB (W := 0) hZ hw f23 (by decide) (by decide) f15 hbd hl (S0.ext O5.2) hz (by decide) (by decide)) q24a q24c (g := (mkF m 32 #[.val (.ref a), .val (.ref oe), .val (.ref a4), .val (.int (4 : Int32)), .val (.int (1 : Int32)), .val (.ref en1)] [(.ref a), (.ref sn1)])) rfl (by rw [hml]; rfl) (Steps.refl _) (argsL := [(.ref a)]) (rest := []) (lenOf pd_114 rfl) rfl (by show 2 * 0 + _ ≤ _; exact Nat.le_of_eq rfl) (hb hby d_prog_36_method_4_code_32) (fun _ _ => ⟨rfl, e21, (by decide : 1 + 0 ≤ _), (by decide : 4 + 0 ≤ _)⟩)
  dsimp only [Pt.U, Pt.locs, Pt.cells, Pt.slots] at X24 l24 y24 z24 st24 hQ24
  subst l24 y24 z24
  replace hQ24 := (show _ ∧ _ ∧ _ from by rcases hQ24 with ⟨⟨u1, u2⟩ | ⟨u1, u2⟩, u3, u4⟩; exact absurd u2 (by rw [q]; decide); exact ⟨u1, u3, u4⟩)
  obtain ⟨rfl, rfl, e24q⟩ := hQ24
  have N24 := Fr.app N16 (Fr.nil n0)
  refine gs (fun _ k => st24.trans k) ?_
  show OwnGo p e below s _ _ _ (T24.setTop (mkF m 35 #[.val (.ref a), .val (.ref oe), .val (.ref a4), .val (.int (4 : Int32)), .val (.int (1 : Int32)), .val (.ref en1)] [(.int (0 : Int32))]))
  have c25 : ∀ tg, Steps p.tables e below (T24.setTop (mkF m 23 #[.val (.ref a), .val (.ref oe), .val (.ref a4), .val (.int (4 : Int32)), .val (.int (2 : Int32)), .val (.ref en1)] [(.int (2 : Int32)), (.ref a4)])) tg → Steps p.tables e below (T24.setTop (mkF m 35 #[.val (.ref a), .val (.ref oe), .val (.ref a4), .val (.int (4 : Int32)), .val (.int (1 : Int32)), .val (.ref en1)] [(.int (0 : Int32))])) tg := fun tg kg => by
    refine XS.ifYes X24.here hx rfl (pc0 := 35) (pc' := 44) rfl (hb hby d_prog_36_method_4_code_35) rfl ((if0 _ _).trans (teq (by decide : (0 : Int32) = (0 : Int32))).1) (by decide) (by decide) ?_
    show Steps p.tables e below (T24.setTop (mkF m 44 #[.val (.ref a), .val (.ref oe), .val (.ref a4), .val (.int (4 : Int32)), .val (.int (1 : Int32)), .val (.ref en1)] [])) tg
    refine XS.iinc X24.here hx rfl (hb hby d_prog_36_method_4_code_44) rfl (l' := #[.val (.ref a), .val (.ref oe), .val (.ref a4), .val (.int (4 : Int32)), .val (.int (2 : Int32)), .val (.ref en1)]) rfl ?_
    show Steps p.tables e below (T24.setTop (mkF m 47 #[.val (.ref a), .val (.ref oe), .val (.ref a4), .val (.int (4 : Int32)), .val (.int (2 : Int32)), .val (.ref en1)] [])) tg
    refine XS.goto X24.here hx rfl (pc0 := 47) (pc' := 14) rfl (hb hby d_prog_36_method_4_code_47) (by decide) (by decide) ?_
    show Steps p.tables e below (T24.setTop (mkF m 14 #[.val (.ref a), .val (.ref oe), .val (.ref a4), .val (.int (4 : Int32)), .val (.int (2 : Int32)), .val (.ref en1)] [])) tg
    refine XS.iload X24.here hx rfl (hb hby d_prog_36_method_4_code_14) rfl ?_
    show Steps p.tables e below (T24.setTop (mkF m 16 #[.val (.ref a), .val (.ref oe), .val (.ref a4), .val (.int (4 : Int32)), .val (.int (2 : Int32)), .val (.ref en1)] [(.int (2 : Int32))])) tg
    refine XS.iloadN X24.here hx rfl (hb hby d_prog_36_method_4_code_16) rfl ?_
    show Steps p.tables e below (T24.setTop (mkF m 17 #[.val (.ref a), .val (.ref oe), .val (.ref a4), .val (.int (4 : Int32)), .val (.int (2 : Int32)), .val (.ref en1)] [(.int (4 : Int32)), (.int (2 : Int32))])) tg
    refine XS.icmpNo X24.here hx rfl (hb hby d_prog_36_method_4_code_17) rfl (tlt (by decide : (2 : Int32) < (4 : Int32))).2.1 ?_
    show Steps p.tables e below (T24.setTop (mkF m 20 #[.val (.ref a), .val (.ref oe), .val (.ref a4), .val (.int (4 : Int32)), .val (.int (2 : Int32)), .val (.ref en1)] [])) tg
    refine XS.aloadN X24.here hx rfl (hb hby d_prog_36_method_4_code_20) rfl rfl ?_
    show Steps p.tables e below (T24.setTop (mkF m 21 #[.val (.ref a), .val (.ref oe), .val (.ref a4), .val (.int (4 : Int32)), .val (.int (2 : Int32)), .val (.ref en1)] [(.ref a4)])) tg
    refine XS.iload X24.here hx rfl (hb hby d_prog_36_method_4_code_21) rfl ?_
    show Steps p.tables e below (T24.setTop (mkF m 23 #[.val (.ref a), .val (.ref oe), .val (.ref a4), .val (.int (4 : Int32)), .val (.int (2 : Int32)), .val (.ref en1)] [(.int (2 : Int32)), (.ref a4)])) tg
    exact kg
  refine gs c25 ?_
  obtain ⟨cl26, A26, a26q, a26S, a26N, a26H, a26G⟩ := id V4q
  have hi26 := inb_of a26S (j := (2 : Int32)) ⟨by decide, by decide⟩
  have c27 : ∀ tg, Steps p.tables e below (T24.setTop (mkF m 28 #[.val (.ref a), .val (.ref oe), .val (.ref a4), .val (.int (4 : Int32)), .val (.int (2 : Int32)), .val (.ref en2)] [(.ref en2)])) tg → Steps p.tables e below (T24.setTop (mkF m 23 #[.val (.ref a), .val (.ref oe), .val (.ref a4), .val (.int (4 : Int32)), .val (.int (2 : Int32)), .val (.ref en1)] [(.int (2 : Int32)), (.ref a4)])) tg := fun tg kg => by
    refine X24.aaload hx (j := (2 : Int32)) (v := (.ref en2)) (by rw [e24q]; exact A26.1) (State.isArrayOf_alike hZ.alike A26.2.1) rfl A26.2.2 hi26 (Has.at a26H hi26 rfl) (g := (mkF m 23 #[.val (.ref a), .val (.ref oe), .val (.ref a4), .val (.int (4 : Int32)), .val (.int (2 : Int32)), .val (.ref en1)] [(.int (2 : Int32)), (.ref a4)])) rfl rfl (hb hby d_prog_36_method_4_code_23) _ ?_
    show Steps p.tables e below (T24.setTop (mkF m 24 #[.val (.ref a), .val (.ref oe), .val (.ref a4), .val (.int (4 : Int32)), .val (.int (2 : Int32)), .val (.ref en1)] [(.ref en2)])) tg
    refine XS.astore X24.here hx rfl (hb hby d_prog_36_method_4_code_24) rfl rfl (l' := #[.val (.ref a), .val (.ref oe), .val (.ref a4), .val (.int (4 : Int32)), .val (.int (2 : Int32)), .val (.ref en2)]) rfl ?_
    show Steps p.tables e below (T24.setTop (mkF m 26 #[.val (.ref a), .val (.ref oe), .val (.ref a4), .val (.int (4 : Int32)), .val (.int (2 : Int32)), .val (.ref en2)] [])) tg
    refine XS.aload X24.here hx rfl (hb hby d_prog_36_method_4_code_26) rfl rfl ?_
    show Steps p.tables e below (T24.setTop (mkF m 28 #[.val (.ref a), .val (.ref oe), .val (.ref a4), .val (.int (4 : Int32)), .val (.int (2 : Int32)), .val (.ref en2)] [(.ref en2)])) tg
    exact kg
  refine gs c27 ?_
  have f28 := (((F_e2.ext O0.2).keep K1q nin0).keep K4q nin0)
  obtain ⟨T29, X29, e29, st29⟩ := getF X24 hx hZ hown (host := "") (Or.inl (hw _ (List.mem_of_getElem? (i := 54) rfl))) Via.refl e24q f28 (g := (mkF m 28 #[.val (.ref a), .val (.ref oe), .val (.ref a4), .val (.int (4 : Int32)), .val (.int (2 : Int32)), .val (.ref en2)] [(.ref en2)])) rfl rfl (hb hby d_prog_36_method_4_code_28)
  refine gs st29 ?_
  show OwnGo p e below s _ _ _ (T29.setTop (mkF m 31 #[.val (.ref a), .val (.ref oe), .val (.ref a4), .val (.int (4 : Int32)), .val (.int (2 : Int32)), .val (.ref en2)] [(.ref sn2)]))
  have c30 : ∀ tg, Steps p.tables e below (T29.setTop (mkF m 32 #[.val (.ref a), .val (.ref oe), .val (.ref a4), .val (.int (4 : Int32)), .val (.int (2 : Int32)), .val (.ref en2)] [(.ref a), (.ref sn2)])) tg → Steps p.tables e below (T29.setTop (mkF m 31 #[.val (.ref a), .val (.ref oe), .val (.ref a4), .val (.int (4 : Int32)), .val (.int (2 : Int32)), .val (.ref en2)] [(.ref sn2)])) tg := fun tg kg => by
    refine XS.aloadN X29.here hx rfl (hb hby d_prog_36_method_4_code_31) rfl rfl ?_
    show Steps p.tables e below (T29.setTop (mkF m 32 #[.val (.ref a), .val (.ref oe), .val (.ref a4), .val (.int (4 : Int32)), .val (.int (2 : Int32)), .val (.ref en2)] [(.ref a), (.ref sn2)])) tg
    exact kg
  refine gs c30 ?_
  have f31 := (((T_s2.ext O0.2).keep0 K1q).keep0 K4q)
  obtain ⟨cq32, kq32, q32a, q32b, q32c⟩ := isOf hZ e29 f31.exa
  obtain ⟨_, _, ⟨T32, L32, k32, n32⟩, -, X32, ⟨Lc32, hQ32, l32, y32, z32⟩, st32⟩ := X29.virtualBack hx (y := (⟨"java/lang/String", "equals", "(Ljava/lang/Object;)Z"⟩ : MethodName)) (z := (⟨"java/lang/String", "equals", "(Ljava/lang/Object;)Z"⟩ : MethodName)) hown (mvT hZ (hw _ (List.mem_of_getElem? (i := 56) rfl))) (mvT hZ (hw _ (List.mem_of_getElem? (i := 57) rfl))) (notFace_of_selects (args := #[]) (mvT hZ (hw _ (List.mem_of_getElem? (i := 59) rfl)))) (mvT hZ (hw _ (List.mem_of_getElem? (i := 59) rfl))) (mvT hZ (hw _ (List.mem_of_getElem? (i := 58) rfl))) (by decide) (own_eqB (W := 0) hZ hw f31 (by decide) (by decide) f15 hbd hl (S0.ext O5.2) hz (by decide) (by decide)) q32a q32c (g := (mkF m 32 #[.val (.ref a), .val (.ref oe), .val (.ref a4), .val (.int (4 : Int32)), .val (.int (2 : Int32)), .val (.ref en2)] [(.ref a), (.ref sn2)])) rfl (by rw [hml]; rfl) (Steps.refl _) (argsL := [(.ref a)]) (rest := []) (lenOf pd_114 rfl) rfl (by show 2 * 0 + _ ≤ _; exact Nat.le_of_eq rfl) (hb hby d_prog_36_method_4_code_32) (fun _ _ => ⟨rfl, e29, (by decide : 1 + 0 ≤ _), (by decide : 4 + 0 ≤ _)⟩)
  dsimp only [Pt.U, Pt.locs, Pt.cells, Pt.slots] at X32 l32 y32 z32 st32 hQ32
  subst l32 y32 z32
  replace hQ32 := (show _ ∧ _ ∧ _ from by rcases hQ32 with ⟨⟨u1, u2⟩ | ⟨u1, u2⟩, u3, u4⟩; exact ⟨u1, u3, u4⟩; exact absurd q.symm u2)
  obtain ⟨rfl, rfl, e32q⟩ := hQ32
  have N32 := Fr.app N24 (Fr.nil n0)
  refine gs (fun _ k => st32.trans k) ?_
  show OwnGo p e below s _ _ _ (T32.setTop (mkF m 35 #[.val (.ref a), .val (.ref oe), .val (.ref a4), .val (.int (4 : Int32)), .val (.int (2 : Int32)), .val (.ref en2)] [(.int (1 : Int32))]))
  have c33 : ∀ tg, Steps p.tables e below (T32.setTop (mkF m 40 #[.val (.ref a), .val (.ref oe), .val (.ref a4), .val (.int (4 : Int32)), .val (.int (2 : Int32)), .val (.ref en2)] [(.ref en2)])) tg → Steps p.tables e below (T32.setTop (mkF m 35 #[.val (.ref a), .val (.ref oe), .val (.ref a4), .val (.int (4 : Int32)), .val (.int (2 : Int32)), .val (.ref en2)] [(.int (1 : Int32))])) tg := fun tg kg => by
    refine XS.ifNo X32.here hx rfl (hb hby d_prog_36_method_4_code_35) rfl ((if0 _ _).trans (feq (by decide : ¬ ((1 : Int32) = (0 : Int32)))).1) ?_
    show Steps p.tables e below (T32.setTop (mkF m 38 #[.val (.ref a), .val (.ref oe), .val (.ref a4), .val (.int (4 : Int32)), .val (.int (2 : Int32)), .val (.ref en2)] [])) tg
    refine XS.aload X32.here hx rfl (hb hby d_prog_36_method_4_code_38) rfl rfl ?_
    show Steps p.tables e below (T32.setTop (mkF m 40 #[.val (.ref a), .val (.ref oe), .val (.ref a4), .val (.int (4 : Int32)), .val (.int (2 : Int32)), .val (.ref en2)] [(.ref en2)])) tg
    exact kg
  refine gs c33 ?_
  obtain ⟨_, _, ⟨T34, L34, k34, n34⟩, -, X34, ⟨Lc34, hQ34, l34, y34, z34⟩, st34⟩ := Jvm.LawKit.callS X32 hx (y := (⟨"java/util/Optional", "of", "(Ljava/lang/Object;)Ljava/util/Optional;"⟩ : MethodName)) hown (mvT hZ (hw _ (List.mem_of_getElem? (i := 84) rfl))) (mvT hZ (hw _ (List.mem_of_getElem? (i := 85) rfl))) (mvT hZ (hw _ (List.mem_of_getElem? (i := 32) rfl))) (mvT hZ (hw _ (List.mem_of_getElem? (i := 86) rfl))) (by decide) (backC (W := 0) (rm_of l Z a0 hw [] en2 T4.heap n0 Z5 O5 ) hZ (hw _ (List.mem_of_getElem? (i := 86) rfl)) (hw _ (List.mem_of_getElem? (i := 32) rfl)) (by decide) (by decide)) (g := (mkF m 40 #[.val (.ref a), .val (.ref oe), .val (.ref a4), .val (.int (4 : Int32)), .val (.int (2 : Int32)), .val (.ref en2)] [(.ref en2)])) rfl (by rw [hml]; rfl) (argsL := [(.ref en2)]) (rest := []) (lenOf pd_118 rfl) rfl (by show 2 * 0 + _ ≤ _; exact Nat.le_of_eq rfl) (hb hby d_prog_36_method_4_code_40) (fun _ _ => ⟨rfl, e32q, (by decide : 1 + 1 ≤ _), (by decide : 4 + 1 ≤ _)⟩)
  dsimp only [Pt.U, Pt.locs, Pt.cells, Pt.slots] at X34 l34 y34 z34 st34 hQ34
  subst l34 y34 z34
  obtain ⟨a34, rfl, N34q, K34q, E34q, F34v⟩ := hQ34
  have N34 := Fr.app N32 N34q
  have Z35 : n0 ≤ T34.heap.size := Nat.le_trans Z5 K34q.1
  have O35 : Old Z n0 T34.heap := O5.keep K34q all0
  have K35 : Keep h0 T34.heap [] := K5.trans K34q all0
  refine gs st34 ?_
  show OwnGo p e below s _ _ _ (T34.setTop (mkF m 43 #[.val (.ref a), .val (.ref oe), .val (.ref a4), .val (.int (4 : Int32)), .val (.int (2 : Int32)), .val (.ref en2)] [(.ref a34)]))
  have c36 : ∀ tg, Steps p.tables e below (T34.setTop (mkF m 23 #[.val (.ref a), .val (.ref a34), .val (.ref a4), .val (.int (4 : Int32)), .val (.int (3 : Int32)), .val (.ref en2)] [(.int (3 : Int32)), (.ref a4)])) tg → Steps p.tables e below (T34.setTop (mkF m 43 #[.val (.ref a), .val (.ref oe), .val (.ref a4), .val (.int (4 : Int32)), .val (.int (2 : Int32)), .val (.ref en2)] [(.ref a34)])) tg := fun tg kg => by
    refine XS.astoreN X34.here hx rfl (hb hby d_prog_36_method_4_code_43) rfl rfl (l' := #[.val (.ref a), .val (.ref a34), .val (.ref a4), .val (.int (4 : Int32)), .val (.int (2 : Int32)), .val (.ref en2)]) rfl ?_
    show Steps p.tables e below (T34.setTop (mkF m 44 #[.val (.ref a), .val (.ref a34), .val (.ref a4), .val (.int (4 : Int32)), .val (.int (2 : Int32)), .val (.ref en2)] [])) tg
    refine XS.iinc X34.here hx rfl (hb hby d_prog_36_method_4_code_44) rfl (l' := #[.val (.ref a), .val (.ref a34), .val (.ref a4), .val (.int (4 : Int32)), .val (.int (3 : Int32)), .val (.ref en2)]) rfl ?_
    show Steps p.tables e below (T34.setTop (mkF m 47 #[.val (.ref a), .val (.ref a34), .val (.ref a4), .val (.int (4 : Int32)), .val (.int (3 : Int32)), .val (.ref en2)] [])) tg
    refine XS.goto X34.here hx rfl (pc0 := 47) (pc' := 14) rfl (hb hby d_prog_36_method_4_code_47) (by decide) (by decide) ?_
    show Steps p.tables e below (T34.setTop (mkF m 14 #[.val (.ref a), .val (.ref a34), .val (.ref a4), .val (.int (4 : Int32)), .val (.int (3 : Int32)), .val (.ref en2)] [])) tg
    refine XS.iload X34.here hx rfl (hb hby d_prog_36_method_4_code_14) rfl ?_
    show Steps p.tables e below (T34.setTop (mkF m 16 #[.val (.ref a), .val (.ref a34), .val (.ref a4), .val (.int (4 : Int32)), .val (.int (3 : Int32)), .val (.ref en2)] [(.int (3 : Int32))])) tg
    refine XS.iloadN X34.here hx rfl (hb hby d_prog_36_method_4_code_16) rfl ?_
    show Steps p.tables e below (T34.setTop (mkF m 17 #[.val (.ref a), .val (.ref a34), .val (.ref a4), .val (.int (4 : Int32)), .val (.int (3 : Int32)), .val (.ref en2)] [(.int (4 : Int32)), (.int (3 : Int32))])) tg
    refine XS.icmpNo X34.here hx rfl (hb hby d_prog_36_method_4_code_17) rfl (tlt (by decide : (3 : Int32) < (4 : Int32))).2.1 ?_
    show Steps p.tables e below (T34.setTop (mkF m 20 #[.val (.ref a), .val (.ref a34), .val (.ref a4), .val (.int (4 : Int32)), .val (.int (3 : Int32)), .val (.ref en2)] [])) tg
    refine XS.aloadN X34.here hx rfl (hb hby d_prog_36_method_4_code_20) rfl rfl ?_
    show Steps p.tables e below (T34.setTop (mkF m 21 #[.val (.ref a), .val (.ref a34), .val (.ref a4), .val (.int (4 : Int32)), .val (.int (3 : Int32)), .val (.ref en2)] [(.ref a4)])) tg
    refine XS.iload X34.here hx rfl (hb hby d_prog_36_method_4_code_21) rfl ?_
    show Steps p.tables e below (T34.setTop (mkF m 23 #[.val (.ref a), .val (.ref a34), .val (.ref a4), .val (.int (4 : Int32)), .val (.int (3 : Int32)), .val (.ref en2)] [(.int (3 : Int32)), (.ref a4)])) tg
    exact kg
  refine gs c36 ?_
  have f37 := (V4q.keep K34q nin0)
  obtain ⟨cl38, A38, a38q, a38S, a38N, a38H, a38G⟩ := id f37
  have hi38 := inb_of a38S (j := (3 : Int32)) ⟨by decide, by decide⟩
  have c39 : ∀ tg, Steps p.tables e below (T34.setTop (mkF m 28 #[.val (.ref a), .val (.ref a34), .val (.ref a4), .val (.int (4 : Int32)), .val (.int (3 : Int32)), .val (.ref en3)] [(.ref en3)])) tg → Steps p.tables e below (T34.setTop (mkF m 23 #[.val (.ref a), .val (.ref a34), .val (.ref a4), .val (.int (4 : Int32)), .val (.int (3 : Int32)), .val (.ref en2)] [(.int (3 : Int32)), (.ref a4)])) tg := fun tg kg => by
    refine X34.aaload hx (j := (3 : Int32)) (v := (.ref en3)) A38.1 (State.isArrayOf_alike hZ.alike A38.2.1) rfl A38.2.2 hi38 (Has.at a38H hi38 rfl) (g := (mkF m 23 #[.val (.ref a), .val (.ref a34), .val (.ref a4), .val (.int (4 : Int32)), .val (.int (3 : Int32)), .val (.ref en2)] [(.int (3 : Int32)), (.ref a4)])) rfl rfl (hb hby d_prog_36_method_4_code_23) _ ?_
    show Steps p.tables e below (T34.setTop (mkF m 24 #[.val (.ref a), .val (.ref a34), .val (.ref a4), .val (.int (4 : Int32)), .val (.int (3 : Int32)), .val (.ref en2)] [(.ref en3)])) tg
    refine XS.astore X34.here hx rfl (hb hby d_prog_36_method_4_code_24) rfl rfl (l' := #[.val (.ref a), .val (.ref a34), .val (.ref a4), .val (.int (4 : Int32)), .val (.int (3 : Int32)), .val (.ref en3)]) rfl ?_
    show Steps p.tables e below (T34.setTop (mkF m 26 #[.val (.ref a), .val (.ref a34), .val (.ref a4), .val (.int (4 : Int32)), .val (.int (3 : Int32)), .val (.ref en3)] [])) tg
    refine XS.aload X34.here hx rfl (hb hby d_prog_36_method_4_code_26) rfl rfl ?_
    show Steps p.tables e below (T34.setTop (mkF m 28 #[.val (.ref a), .val (.ref a34), .val (.ref a4), .val (.int (4 : Int32)), .val (.int (3 : Int32)), .val (.ref en3)] [(.ref en3)])) tg
    exact kg
  refine gs c39 ?_
  have f40 := ((((F_e3.ext O0.2).keep K1q nin0).keep K4q nin0).keep K34q nin0)
  obtain ⟨T41, X41, e41, st41⟩ := getF X34 hx hZ hown (host := "") (Or.inl (hw _ (List.mem_of_getElem? (i := 54) rfl))) Via.refl rfl f40 (g := (mkF m 28 #[.val (.ref a), .val (.ref a34), .val (.ref a4), .val (.int (4 : Int32)), .val (.int (3 : Int32)), .val (.ref en3)] [(.ref en3)])) rfl rfl (hb hby d_prog_36_method_4_code_28)
  refine gs st41 ?_
  show OwnGo p e below s _ _ _ (T41.setTop (mkF m 31 #[.val (.ref a), .val (.ref a34), .val (.ref a4), .val (.int (4 : Int32)), .val (.int (3 : Int32)), .val (.ref en3)] [(.ref sn3)]))
  have c42 : ∀ tg, Steps p.tables e below (T41.setTop (mkF m 32 #[.val (.ref a), .val (.ref a34), .val (.ref a4), .val (.int (4 : Int32)), .val (.int (3 : Int32)), .val (.ref en3)] [(.ref a), (.ref sn3)])) tg → Steps p.tables e below (T41.setTop (mkF m 31 #[.val (.ref a), .val (.ref a34), .val (.ref a4), .val (.int (4 : Int32)), .val (.int (3 : Int32)), .val (.ref en3)] [(.ref sn3)])) tg := fun tg kg => by
    refine XS.aloadN X41.here hx rfl (hb hby d_prog_36_method_4_code_31) rfl rfl ?_
    show Steps p.tables e below (T41.setTop (mkF m 32 #[.val (.ref a), .val (.ref a34), .val (.ref a4), .val (.int (4 : Int32)), .val (.int (3 : Int32)), .val (.ref en3)] [(.ref a), (.ref sn3)])) tg
    exact kg
  refine gs c42 ?_
  have f43 := ((((T_s3.ext O0.2).keep0 K1q).keep0 K4q).keep0 K34q)
  have f44 := (f15.keep0 K34q)
  obtain ⟨cq45, kq45, q45a, q45b, q45c⟩ := isOf hZ e41 f43.exa
  obtain ⟨_, _, ⟨T45, L45, k45, n45⟩, -, X45, ⟨Lc45, hQ45, l45, y45, z45⟩, st45⟩ := X41.virtualBack hx (y := (⟨"java/lang/String", "equals", "(Ljava/lang/Object;)Z"⟩ : MethodName)) (z := (⟨"java/lang/String", "equals", "(Ljava/lang/Object;)Z"⟩ : MethodName)) hown (mvT hZ (hw _ (List.mem_of_getElem? (i := 56) rfl))) (mvT hZ (hw _ (List.mem_of_getElem? (i := 57) rfl))) (notFace_of_selects (args := #[]) (mvT hZ (hw _ (List.mem_of_getElem? (i := 59) rfl)))) (mvT hZ (hw _ (List.mem_of_getElem? (i := 59) rfl))) (mvT hZ (hw _ (List.mem_of_getElem? (i := 58) rfl))) (by decide) (own_eqB (W := 0) hZ hw f43 (by decide) (by decide) f44 hbd hl (S0.ext O35.2) hz (by decide) (by decide)) q45a q45c (g := (mkF m 32 #[.val (.ref a), .val (.ref a34), .val (.ref a4), .val (.int (4 : Int32)), .val (.int (3 : Int32)), .val (.ref en3)] [(.ref a), (.ref sn3)])) rfl (by rw [hml]; rfl) (Steps.refl _) (argsL := [(.ref a)]) (rest := []) (lenOf pd_114 rfl) rfl (by show 2 * 0 + _ ≤ _; exact Nat.le_of_eq rfl) (hb hby d_prog_36_method_4_code_32) (fun _ _ => ⟨rfl, e41, (by decide : 2 + 0 ≤ _), (by decide : 5 + 0 ≤ _)⟩)
  dsimp only [Pt.U, Pt.locs, Pt.cells, Pt.slots] at X45 l45 y45 z45 st45 hQ45
  subst l45 y45 z45
  replace hQ45 := (show _ ∧ _ ∧ _ from by rcases hQ45 with ⟨⟨u1, u2⟩ | ⟨u1, u2⟩, u3, u4⟩; exact absurd u2 (by rw [q]; decide); exact ⟨u1, u3, u4⟩)
  obtain ⟨rfl, rfl, e45q⟩ := hQ45
  have N45 := Fr.app N34 (Fr.nil n0)
  refine gs (fun _ k => st45.trans k) ?_
  show OwnGo p e below s _ _ _ (T45.setTop (mkF m 35 #[.val (.ref a), .val (.ref a34), .val (.ref a4), .val (.int (4 : Int32)), .val (.int (3 : Int32)), .val (.ref en3)] [(.int (0 : Int32))]))
  have c46 : ∀ tg, Steps p.tables e below (T45.setTop (mkF m 51 #[.val (.ref a), .val (.ref a34), .val (.ref a4), .val (.int (4 : Int32)), .val (.int (4 : Int32)), .val (.ref en3)] [(.ref a34)])) tg → Steps p.tables e below (T45.setTop (mkF m 35 #[.val (.ref a), .val (.ref a34), .val (.ref a4), .val (.int (4 : Int32)), .val (.int (3 : Int32)), .val (.ref en3)] [(.int (0 : Int32))])) tg := fun tg kg => by
    refine XS.ifYes X45.here hx rfl (pc0 := 35) (pc' := 44) rfl (hb hby d_prog_36_method_4_code_35) rfl ((if0 _ _).trans (teq (by decide : (0 : Int32) = (0 : Int32))).1) (by decide) (by decide) ?_
    show Steps p.tables e below (T45.setTop (mkF m 44 #[.val (.ref a), .val (.ref a34), .val (.ref a4), .val (.int (4 : Int32)), .val (.int (3 : Int32)), .val (.ref en3)] [])) tg
    refine XS.iinc X45.here hx rfl (hb hby d_prog_36_method_4_code_44) rfl (l' := #[.val (.ref a), .val (.ref a34), .val (.ref a4), .val (.int (4 : Int32)), .val (.int (4 : Int32)), .val (.ref en3)]) rfl ?_
    show Steps p.tables e below (T45.setTop (mkF m 47 #[.val (.ref a), .val (.ref a34), .val (.ref a4), .val (.int (4 : Int32)), .val (.int (4 : Int32)), .val (.ref en3)] [])) tg
    refine XS.goto X45.here hx rfl (pc0 := 47) (pc' := 14) rfl (hb hby d_prog_36_method_4_code_47) (by decide) (by decide) ?_
    show Steps p.tables e below (T45.setTop (mkF m 14 #[.val (.ref a), .val (.ref a34), .val (.ref a4), .val (.int (4 : Int32)), .val (.int (4 : Int32)), .val (.ref en3)] [])) tg
    refine XS.iload X45.here hx rfl (hb hby d_prog_36_method_4_code_14) rfl ?_
    show Steps p.tables e below (T45.setTop (mkF m 16 #[.val (.ref a), .val (.ref a34), .val (.ref a4), .val (.int (4 : Int32)), .val (.int (4 : Int32)), .val (.ref en3)] [(.int (4 : Int32))])) tg
    refine XS.iloadN X45.here hx rfl (hb hby d_prog_36_method_4_code_16) rfl ?_
    show Steps p.tables e below (T45.setTop (mkF m 17 #[.val (.ref a), .val (.ref a34), .val (.ref a4), .val (.int (4 : Int32)), .val (.int (4 : Int32)), .val (.ref en3)] [(.int (4 : Int32)), (.int (4 : Int32))])) tg
    refine XS.icmpYes X45.here hx rfl (pc0 := 17) (pc' := 50) rfl (hb hby d_prog_36_method_4_code_17) rfl (flt (by decide : ¬ ((4 : Int32) < (4 : Int32)))).2.1 (by decide) (by decide) ?_
    show Steps p.tables e below (T45.setTop (mkF m 50 #[.val (.ref a), .val (.ref a34), .val (.ref a4), .val (.int (4 : Int32)), .val (.int (4 : Int32)), .val (.ref en3)] [])) tg
    refine XS.aloadN X45.here hx rfl (hb hby d_prog_36_method_4_code_50) rfl rfl ?_
    show Steps p.tables e below (T45.setTop (mkF m 51 #[.val (.ref a), .val (.ref a34), .val (.ref a4), .val (.int (4 : Int32)), .val (.int (4 : Int32)), .val (.ref en3)] [(.ref a34)])) tg
    exact kg
  refine gs c46 ?_
  refine gout (v := some (.ref a34)) X45 Bd.notSynchronized (fun h => by rw [Bd.returns] at h; cases h) (by decide) (by decide) ?_ (fun fs hr => retOut X45 hx Bd.returns rfl (Or.inr (Or.inr (Or.inr (Or.inr ⟨rfl, rfl, rfl⟩)))) (hb hby d_prog_36_method_4_code_51) hr)
  rw [e45q]
  exact ⟨_, rfl, N45, K35, E34q, F34v⟩
theorem ef_126 (m : MethodId) (x0 : Addr) : entryFrame m #[(.ref x0)] 6 = mkF m 0 #[.val (.ref x0), .unset, .unset, .unset, .unset, .unset] [] := by first | (simp [entryFrame, mkF, argsToLocals, Value.category]; done) | rfl
set_option maxRecDepth 65536 in
set_option maxHeartbeats 40000000 in
theorem rm_wr3 (l : Launch) (Z : State) (a0 : Array Value) (hw : ∀ d ∈ tables_1, d.before a0 Z = true) (ws : List Jvm.Cond) (a : Addr) (cs : List Int32) (z : Int32) (oe : Addr) (va : Addr) (kv : ClassId) (en0 : Addr) (en1 : Addr) (en2 : Addr) (en3 : Addr) (sn0 : Addr) (sn1 : Addr) (sn2 : Addr) (sn3 : Addr) (h0 : Heap) (n0 : Nat) (Z0 : n0 ≤ h0.size) (O0 : Old Z n0 h0) (S0 : Sta Z Z.heap "java/lang/String" "COMPACT_STRINGS" "Z" (.int z)) (hz : ¬ z = 0) (T_a : Str Z h0 a cs) (hbd : ∀ c ∈ cs, ¬ c < 0 ∧ ¬ (255 : Int32) < c) (hl : cs.length ≤ 4000) (S_oe : Sta Z Z.heap "java/util/Optional" "EMPTY" "Ljava/util/Optional;" (.ref oe)) (S_va : Sta Z Z.heap "com/example/tranche/tranche/terms/Comparison" "$VALUES" "[Lcom/example/tranche/tranche/terms/Comparison;" (.ref va)) (V_va : Arv Z Z.heap va kv (.object "com/example/tranche/tranche/terms/Comparison") (4 : Int32) [(.ref en0), (.ref en1), (.ref en2), (.ref en3)] .null) (E_va : Exa Z Z.heap va "[Lcom/example/tranche/tranche/terms/Comparison;") (F_e0 : Fld Z Z.heap en0 "com/example/tranche/tranche/terms/Comparison" "written" "Ljava/lang/String;" (.ref sn0)) (F_e1 : Fld Z Z.heap en1 "com/example/tranche/tranche/terms/Comparison" "written" "Ljava/lang/String;" (.ref sn1)) (F_e2 : Fld Z Z.heap en2 "com/example/tranche/tranche/terms/Comparison" "written" "Ljava/lang/String;" (.ref sn2)) (F_e3 : Fld Z Z.heap en3 "com/example/tranche/tranche/terms/Comparison" "written" "Ljava/lang/String;" (.ref sn3)) (T_s0 : Str Z Z.heap sn0 ([60] : List Int32)) (T_s1 : Str Z Z.heap sn1 ([60, 61] : List Int32)) (T_s2 : Str Z Z.heap sn2 ([62] : List Int32)) (T_s3 : Str Z Z.heap sn3 ([62, 61] : List Int32)) (q : cs = ([62, 61] : List Int32)) :
    Ctr l Z (⟨"com/example/tranche/tranche/terms/Comparison", "written", "(Ljava/lang/String;)Ljava/util/Optional;"⟩ : MethodName) prog_36_method_4_code 6 ((Option.some (Jvm.ClassFile.FieldType.object "java/util/Optional"))) ws ({ frames := 3, cells := 2, slots := 5, locals := 60 } : Room) #[(.ref a)] h0 (fun v h L => ∃ a : Addr, v = some (.ref a) ∧ Fr n0 L ∧ Keep h0 h [] ∧ Exa Z h a "java/util/Optional" ∧ Fld Z h a "java/util/Optional" "value" "Ljava/lang/Object;" (.ref en3)) := by
  refine Ctr.of (MetFree.of_bodySF (plainFor_of_name pn_68) hisR ?_)
  intro p e s m args below meth c s₁ Bd hml0 hP hK
  obtain ⟨rfl, hZ, hh⟩ := hP
  have hx := Bd.exec
  have hby := Bd.bytes
  have hml : c.maxLocals = 6 := hml0
  have hown : s.vm.findClass "com/example/tranche/tranche/terms/Comparison" = some m.cls := findClass_of_methodNamed Bd.named
  have hnm := (name_of_methodNamed Bd.named Bd.method).1
  have X0 : Stand p l e ({ frames := 3, cells := 2, slots := 5, locals := 60 } : Room) s m #[(.ref a)] below meth c s₁ [] 0 0 := Stand.of_body Bd
  have e0 : s₁.heap = h0 := by rw [← hh, Bd.state]; rfl
  have N0 := Fr.nil n0
  have K0 : Keep h0 h0 [] := Keep.refl h0 []
  show OwnGo p e below s (fun v h L => ∃ a : Addr, v = some (.ref a) ∧ Fr n0 L ∧ Keep h0 h [] ∧ Exa Z h a "java/util/Optional" ∧ Fld Z h a "java/util/Optional" "value" "Ljava/lang/Object;" (.ref en3)) ({ frames := 3, cells := 2, slots := 5, locals := 60 } : Room).cells ({ frames := 3, cells := 2, slots := 5, locals := 60 } : Room).slots _
  refine gs (S' := s₁.setTop (mkF m 0 #[.val (.ref a), .unset, .unset, .unset, .unset, .unset] [])) (fun tg kg => castTop (ef_126 m a) kg) ?_
  obtain ⟨_, _, ⟨T1, L1, k1, n1⟩, -, X1, ⟨Lc1, hQ1, l1, y1, z1⟩, st1⟩ := Jvm.LawKit.callS X0 hx (y := (⟨"java/util/Optional", "empty", "()Ljava/util/Optional;"⟩ : MethodName)) hown (mvT hZ (hw _ (List.mem_of_getElem? (i := 30) rfl))) (mvT hZ (hw _ (List.mem_of_getElem? (i := 31) rfl))) (mvT hZ (hw _ (List.mem_of_getElem? (i := 32) rfl))) (mvT hZ (hw _ (List.mem_of_getElem? (i := 33) rfl))) (by decide) (backC (W := 0) (rm_oe l Z a0 hw [] oe h0 n0 Z0 O0 S_oe) hZ (hw _ (List.mem_of_getElem? (i := 33) rfl)) (hw _ (List.mem_of_getElem? (i := 32) rfl)) (by decide) (by decide)) (g := (mkF m 0 #[.val (.ref a), .unset, .unset, .unset, .unset, .unset] [])) rfl (by rw [hml]; rfl) (argsL := []) (rest := []) (lenOf pd_93 rfl) rfl (by show 2 * 0 + _ ≤ _; exact Nat.le_of_eq rfl) (hb hby d_prog_36_method_4_code_0) (fun _ _ => ⟨rfl, e0, (by decide : 0 + 0 ≤ _), (by decide : 0 + 0 ≤ _)⟩)
  dsimp only [Pt.U, Pt.locs, Pt.cells, Pt.slots] at X1 l1 y1 z1 st1 hQ1
  subst l1 y1 z1
  obtain ⟨rfl, N1q, K1q⟩ := hQ1
  have N1 := Fr.app N0 N1q
  have Z2 : n0 ≤ T1.heap.size := Nat.le_trans Z0 K1q.1
  have O2 : Old Z n0 T1.heap := O0.keep K1q all0
  have K2 : Keep h0 T1.heap [] := K0.trans K1q all0
  refine gs st1 ?_
  show OwnGo p e below s _ _ _ (T1.setTop (mkF m 3 #[.val (.ref a), .unset, .unset, .unset, .unset, .unset] [(.ref oe)]))
  have c3 : ∀ tg, Steps p.tables e below (T1.setTop (mkF m 4 #[.val (.ref a), .val (.ref oe), .unset, .unset, .unset, .unset] [])) tg → Steps p.tables e below (T1.setTop (mkF m 3 #[.val (.ref a), .unset, .unset, .unset, .unset, .unset] [(.ref oe)])) tg := fun tg kg => by
    refine XS.astoreN X1.here hx rfl (hb hby d_prog_36_method_4_code_3) rfl rfl (l' := #[.val (.ref a), .val (.ref oe), .unset, .unset, .unset, .unset]) rfl ?_
    show Steps p.tables e below (T1.setTop (mkF m 4 #[.val (.ref a), .val (.ref oe), .unset, .unset, .unset, .unset] [])) tg
    exact kg
  refine gs c3 ?_
  obtain ⟨_, _, ⟨T4, L4, k4, n4⟩, -, X4, ⟨Lc4, hQ4, l4, y4, z4⟩, st4⟩ := Jvm.LawKit.callS X1 hx (y := (⟨"com/example/tranche/tranche/terms/Comparison", "values", "()[Lcom/example/tranche/tranche/terms/Comparison;"⟩ : MethodName)) hown (mvT hZ (hw _ (List.mem_of_getElem? (i := 35) rfl))) (mvT hZ (hw _ (List.mem_of_getElem? (i := 36) rfl))) (mvT hZ (hw _ (List.mem_of_getElem? (i := 28) rfl))) (mvT hZ (hw _ (List.mem_of_getElem? (i := 37) rfl))) (by decide) (backC (W := 0) (rm_va l Z a0 hw [] va kv en0 en1 en2 en3 T1.heap n0 Z2 O2 S_va V_va E_va) hZ (hw _ (List.mem_of_getElem? (i := 37) rfl)) (hw _ (List.mem_of_getElem? (i := 28) rfl)) (by decide) (by decide)) (g := (mkF m 4 #[.val (.ref a), .val (.ref oe), .unset, .unset, .unset, .unset] [])) rfl (by rw [hml]; rfl) (argsL := []) (rest := []) (lenOf pd_96 rfl) rfl (by show 2 * 0 + _ ≤ _; exact Nat.le_of_eq rfl) (hb hby d_prog_36_method_4_code_4) (fun _ _ => ⟨rfl, rfl, (by decide : 0 + 1 ≤ _), (by decide : 0 + 4 ≤ _)⟩)
  dsimp only [Pt.U, Pt.locs, Pt.cells, Pt.slots] at X4 l4 y4 z4 st4 hQ4
  subst l4 y4 z4
  obtain ⟨a4, rfl, N4q, K4q, V4q⟩ := hQ4
  have N4 := Fr.app N1 N4q
  have Z5 : n0 ≤ T4.heap.size := Nat.le_trans Z2 K4q.1
  have O5 : Old Z n0 T4.heap := O2.keep K4q all0
  have K5 : Keep h0 T4.heap [] := K2.trans K4q all0
  refine gs st4 ?_
  show OwnGo p e below s _ _ _ (T4.setTop (mkF m 7 #[.val (.ref a), .val (.ref oe), .unset, .unset, .unset, .unset] [(.ref a4)]))
  have c6 : ∀ tg, Steps p.tables e below (T4.setTop (mkF m 9 #[.val (.ref a), .val (.ref oe), .val (.ref a4), .unset, .unset, .unset] [(.ref a4)])) tg → Steps p.tables e below (T4.setTop (mkF m 7 #[.val (.ref a), .val (.ref oe), .unset, .unset, .unset, .unset] [(.ref a4)])) tg := fun tg kg => by
    refine XS.astoreN X4.here hx rfl (hb hby d_prog_36_method_4_code_7) rfl rfl (l' := #[.val (.ref a), .val (.ref oe), .val (.ref a4), .unset, .unset, .unset]) rfl ?_
    show Steps p.tables e below (T4.setTop (mkF m 8 #[.val (.ref a), .val (.ref oe), .val (.ref a4), .unset, .unset, .unset] [])) tg
    refine XS.aloadN X4.here hx rfl (hb hby d_prog_36_method_4_code_8) rfl rfl ?_
    show Steps p.tables e below (T4.setTop (mkF m 9 #[.val (.ref a), .val (.ref oe), .val (.ref a4), .unset, .unset, .unset] [(.ref a4)])) tg
    exact kg
  refine gs c6 ?_
  obtain ⟨cl7, A7, a7q, a7S, a7N, a7H, a7G⟩ := id V4q
  have c8 : ∀ tg, Steps p.tables e below (T4.setTop (mkF m 23 #[.val (.ref a), .val (.ref oe), .val (.ref a4), .val (.int (4 : Int32)), .val (.int (0 : Int32)), .unset] [(.int (0 : Int32)), (.ref a4)])) tg → Steps p.tables e below (T4.setTop (mkF m 9 #[.val (.ref a), .val (.ref oe), .val (.ref a4), .unset, .unset, .unset] [(.ref a4)])) tg := fun tg kg => by
    refine X4.arraylength hx A7.1 (State.isArrayOf_alike hZ.alike A7.2.1) (g := (mkF m 9 #[.val (.ref a), .val (.ref oe), .val (.ref a4), .unset, .unset, .unset] [(.ref a4)])) rfl rfl (hb hby d_prog_36_method_4_code_9) _ ?_; rw [len_of a7S a7N]
    show Steps p.tables e below (T4.setTop (mkF m 10 #[.val (.ref a), .val (.ref oe), .val (.ref a4), .unset, .unset, .unset] [(.int (4 : Int32))])) tg
    refine XS.istoreN X4.here hx rfl (hb hby d_prog_36_method_4_code_10) rfl (l' := #[.val (.ref a), .val (.ref oe), .val (.ref a4), .val (.int (4 : Int32)), .unset, .unset]) rfl ?_
    show Steps p.tables e below (T4.setTop (mkF m 11 #[.val (.ref a), .val (.ref oe), .val (.ref a4), .val (.int (4 : Int32)), .unset, .unset] [])) tg
    refine XS.iconst X4.here hx rfl (hb hby d_prog_36_method_4_code_11) ?_
    show Steps p.tables e below (T4.setTop (mkF m 12 #[.val (.ref a), .val (.ref oe), .val (.ref a4), .val (.int (4 : Int32)), .unset, .unset] [(.int (0 : Int32))])) tg
    refine XS.istore X4.here hx rfl (hb hby d_prog_36_method_4_code_12) rfl (l' := #[.val (.ref a), .val (.ref oe), .val (.ref a4), .val (.int (4 : Int32)), .val (.int (0 : Int32)), .unset]) rfl ?_
    show Steps p.tables e below (T4.setTop (mkF m 14 #[.val (.ref a), .val (.ref oe), .val (.ref a4), .val (.int (4 : Int32)), .val (.int (0 : Int32)), .unset] [])) tg
    refine XS.iload X4.here hx rfl (hb hby d_prog_36_method_4_code_14) rfl ?_
    show Steps p.tables e below (T4.setTop (mkF m 16 #[.val (.ref a), .val (.ref oe), .val (.ref a4), .val (.int (4 : Int32)), .val (.int (0 : Int32)), .unset] [(.int (0 : Int32))])) tg
    refine XS.iloadN X4.here hx rfl (hb hby d_prog_36_method_4_code_16) rfl ?_
    show Steps p.tables e below (T4.setTop (mkF m 17 #[.val (.ref a), .val (.ref oe), .val (.ref a4), .val (.int (4 : Int32)), .val (.int (0 : Int32)), .unset] [(.int (4 : Int32)), (.int (0 : Int32))])) tg
    refine XS.icmpNo X4.here hx rfl (hb hby d_prog_36_method_4_code_17) rfl (tlt (by decide : (0 : Int32) < (4 : Int32))).2.1 ?_
    show Steps p.tables e below (T4.setTop (mkF m 20 #[.val (.ref a), .val (.ref oe), .val (.ref a4), .val (.int (4 : Int32)), .val (.int (0 : Int32)), .unset] [])) tg
    refine XS.aloadN X4.here hx rfl (hb hby d_prog_36_method_4_code_20) rfl rfl ?_
    show Steps p.tables e below (T4.setTop (mkF m 21 #[.val (.ref a), .val (.ref oe), .val (.ref a4), .val (.int (4 : Int32)), .val (.int (0 : Int32)), .unset] [(.ref a4)])) tg
    refine XS.iload X4.here hx rfl (hb hby d_prog_36_method_4_code_21) rfl ?_
    show Steps p.tables e below (T4.setTop (mkF m 23 #[.val (.ref a), .val (.ref oe), .val (.ref a4), .val (.int (4 : Int32)), .val (.int (0 : Int32)), .unset] [(.int (0 : Int32)), (.ref a4)])) tg
    exact kg
  refine gs c8 ?_
  obtain ⟨cl9, A9, a9q, a9S, a9N, a9H, a9G⟩ := id V4q
  have hi9 := inb_of a9S (j := (0 : Int32)) ⟨by decide, by decide⟩
  have c10 : ∀ tg, Steps p.tables e below (T4.setTop (mkF m 28 #[.val (.ref a), .val (.ref oe), .val (.ref a4), .val (.int (4 : Int32)), .val (.int (0 : Int32)), .val (.ref en0)] [(.ref en0)])) tg → Steps p.tables e below (T4.setTop (mkF m 23 #[.val (.ref a), .val (.ref oe), .val (.ref a4), .val (.int (4 : Int32)), .val (.int (0 : Int32)), .unset] [(.int (0 : Int32)), (.ref a4)])) tg := fun tg kg => by
    refine X4.aaload hx (j := (0 : Int32)) (v := (.ref en0)) A9.1 (State.isArrayOf_alike hZ.alike A9.2.1) rfl A9.2.2 hi9 (Has.at a9H hi9 rfl) (g := (mkF m 23 #[.val (.ref a), .val (.ref oe), .val (.ref a4), .val (.int (4 : Int32)), .val (.int (0 : Int32)), .unset] [(.int (0 : Int32)), (.ref a4)])) rfl rfl (hb hby d_prog_36_method_4_code_23) _ ?_
    show Steps p.tables e below (T4.setTop (mkF m 24 #[.val (.ref a), .val (.ref oe), .val (.ref a4), .val (.int (4 : Int32)), .val (.int (0 : Int32)), .unset] [(.ref en0)])) tg
    refine XS.astore X4.here hx rfl (hb hby d_prog_36_method_4_code_24) rfl rfl (l' := #[.val (.ref a), .val (.ref oe), .val (.ref a4), .val (.int (4 : Int32)), .val (.int (0 : Int32)), .val (.ref en0)]) rfl ?_
    show Steps p.tables e below (T4.setTop (mkF m 26 #[.val (.ref a), .val (.ref oe), .val (.ref a4), .val (.int (4 : Int32)), .val (.int (0 : Int32)), .val (.ref en0)] [])) tg
    refine XS.aload X4.here hx rfl (hb hby d_prog_36_method_4_code_26) rfl rfl ?_
    show Steps p.tables e below (T4.setTop (mkF m 28 #[.val (.ref a), .val (.ref oe), .val (.ref a4), .val (.int (4 : Int32)), .val (.int (0 : Int32)), .val (.ref en0)] [(.ref en0)])) tg
    exact kg
  refine gs c10 ?_
  have f11 := (((F_e0.ext O0.2).keep K1q nin0).keep K4q nin0)
  obtain ⟨T12, X12, e12, st12⟩ := getF X4 hx hZ hown (host := "") (Or.inl (hw _ (List.mem_of_getElem? (i := 54) rfl))) Via.refl rfl f11 (g := (mkF m 28 #[.val (.ref a), .val (.ref oe), .val (.ref a4), .val (.int (4 : Int32)), .val (.int (0 : Int32)), .val (.ref en0)] [(.ref en0)])) rfl rfl (hb hby d_prog_36_method_4_code_28)
  refine gs st12 ?_
  show OwnGo p e below s _ _ _ (T12.setTop (mkF m 31 #[.val (.ref a), .val (.ref oe), .val (.ref a4), .val (.int (4 : Int32)), .val (.int (0 : Int32)), .val (.ref en0)] [(.ref sn0)]))
  have c13 : ∀ tg, Steps p.tables e below (T12.setTop (mkF m 32 #[.val (.ref a), .val (.ref oe), .val (.ref a4), .val (.int (4 : Int32)), .val (.int (0 : Int32)), .val (.ref en0)] [(.ref a), (.ref sn0)])) tg → Steps p.tables e below (T12.setTop (mkF m 31 #[.val (.ref a), .val (.ref oe), .val (.ref a4), .val (.int (4 : Int32)), .val (.int (0 : Int32)), .val (.ref en0)] [(.ref sn0)])) tg := fun tg kg => by
    refine XS.aloadN X12.here hx rfl (hb hby d_prog_36_method_4_code_31) rfl rfl ?_
    show Steps p.tables e below (T12.setTop (mkF m 32 #[.val (.ref a), .val (.ref oe), .val (.ref a4), .val (.int (4 : Int32)), .val (.int (0 : Int32)), .val (.ref en0)] [(.ref a), (.ref sn0)])) tg
    exact kg
  refine gs c13 ?_
  have f14 := (((T_s0.ext O0.2).keep0 K1q).keep0 K4q)
  have f15 := ((T_a.keep0 K1q).keep0 K4q)
  obtain ⟨cq16, kq16, q16a, q16b, q16c⟩ := isOf hZ e12 f14.exa
  obtain ⟨_, _, ⟨T16, L16, k16, n16⟩, -, X16, ⟨Lc16, hQ16, l16, y16, z16⟩, st16⟩ := X12.virtualBack hx (y := (⟨"java/lang/String", "equals", "(Ljava/lang/Object;)Z"⟩ : MethodName)) (z := (⟨"java/lang/String", "equals", "(Ljava/lang/Object;)Z"⟩ : MethodName)) hown (mvT hZ (hw _ (List.mem_of_getElem? (i := 56) rfl))) (mvT hZ (hw _ (List.mem_of_getElem? (i := 57) rfl))) (notFace_of_selects (args := #[]) (mvT hZ (hw _ (List.mem_of_getElem? (i := 59) rfl)))) (mvT hZ (hw _ (List.mem_of_getElem? (i := 59) rfl))) (mvT hZ (hw _ (List.mem_of_getElem? (i := 58) rfl))) (by decide) (own_eqB (W := 0) hZ hw f14 (by decide) (by decide) f15 hbd hl (S0.ext O5.2) hz (by decide) (by decide)) q16a q16c (g := (mkF m 32 #[.val (.ref a), .val (.ref oe), .val (.ref a4), .val (.int (4 : Int32)), .val (.int (0 : Int32)), .val (.ref en0)] [(.ref a), (.ref sn0)])) rfl (by rw [hml]; rfl) (Steps.refl _) (argsL := [(.ref a)]) (rest := []) (lenOf pd_114 rfl) rfl (by show 2 * 0 + _ ≤ _; exact Nat.le_of_eq rfl) (hb hby d_prog_36_method_4_code_32) (fun _ _ => ⟨rfl, e12, (by decide : 1 + 0 ≤ _), (by decide : 4 + 0 ≤ _)⟩)
  dsimp only [Pt.U, Pt.locs, Pt.cells, Pt.slots] at X16 l16 y16 z16 st16 hQ16
  subst l16 y16 z16
  replace hQ16 := (show _ ∧ _ ∧ _ from by rcases hQ16 with ⟨⟨u1, u2⟩ | ⟨u1, u2⟩, u3, u4⟩; exact absurd u2 (by rw [q]; decide); exact ⟨u1, u3, u4⟩)
  obtain ⟨rfl, rfl, e16q⟩ := hQ16
  have N16 := Fr.app N4 (Fr.nil n0)
  refine gs (fun _ k => st16.trans k) ?_
  show OwnGo p e below s _ _ _ (T16.setTop (mkF m 35 #[.val (.ref a), .val (.ref oe), .val (.ref a4), .val (.int (4 : Int32)), .val (.int (0 : Int32)), .val (.ref en0)] [(.int (0 : Int32))]))
  have c17 : ∀ tg, Steps p.tables e below (T16.setTop (mkF m 23 #[.val (.ref a), .val (.ref oe), .val (.ref a4), .val (.int (4 : Int32)), .val (.int (1 : Int32)), .val (.ref en0)] [(.int (1 : Int32)), (.ref a4)])) tg → Steps p.tables e below (T16.setTop (mkF m 35 #[.val (.ref a), .val (.ref oe), .val (.ref a4), .val (.int (4 : Int32)), .val (.int (0 : Int32)), .val (.ref en0)] [(.int (0 : Int32))])) tg := fun tg kg => by
    refine XS.ifYes X16.here hx rfl (pc0 := 35) (pc' := 44) rfl (hb hby d_prog_36_method_4_code_35) rfl ((if0 _ _).trans (teq (by decide : (0 : Int32) = (0 : Int32))).1) (by decide) (by decide) ?_
    show Steps p.tables e below (T16.setTop (mkF m 44 #[.val (.ref a), .val (.ref oe), .val (.ref a4), .val (.int (4 : Int32)), .val (.int (0 : Int32)), .val (.ref en0)] [])) tg
    refine XS.iinc X16.here hx rfl (hb hby d_prog_36_method_4_code_44) rfl (l' := #[.val (.ref a), .val (.ref oe), .val (.ref a4), .val (.int (4 : Int32)), .val (.int (1 : Int32)), .val (.ref en0)]) rfl ?_
    show Steps p.tables e below (T16.setTop (mkF m 47 #[.val (.ref a), .val (.ref oe), .val (.ref a4), .val (.int (4 : Int32)), .val (.int (1 : Int32)), .val (.ref en0)] [])) tg
    refine XS.goto X16.here hx rfl (pc0 := 47) (pc' := 14) rfl (hb hby d_prog_36_method_4_code_47) (by decide) (by decide) ?_
    show Steps p.tables e below (T16.setTop (mkF m 14 #[.val (.ref a), .val (.ref oe), .val (.ref a4), .val (.int (4 : Int32)), .val (.int (1 : Int32)), .val (.ref en0)] [])) tg
    refine XS.iload X16.here hx rfl (hb hby d_prog_36_method_4_code_14) rfl ?_
    show Steps p.tables e below (T16.setTop (mkF m 16 #[.val (.ref a), .val (.ref oe), .val (.ref a4), .val (.int (4 : Int32)), .val (.int (1 : Int32)), .val (.ref en0)] [(.int (1 : Int32))])) tg
    refine XS.iloadN X16.here hx rfl (hb hby d_prog_36_method_4_code_16) rfl ?_
    show Steps p.tables e below (T16.setTop (mkF m 17 #[.val (.ref a), .val (.ref oe), .val (.ref a4), .val (.int (4 : Int32)), .val (.int (1 : Int32)), .val (.ref en0)] [(.int (4 : Int32)), (.int (1 : Int32))])) tg
    refine XS.icmpNo X16.here hx rfl (hb hby d_prog_36_method_4_code_17) rfl (tlt (by decide : (1 : Int32) < (4 : Int32))).2.1 ?_
    show Steps p.tables e below (T16.setTop (mkF m 20 #[.val (.ref a), .val (.ref oe), .val (.ref a4), .val (.int (4 : Int32)), .val (.int (1 : Int32)), .val (.ref en0)] [])) tg
    refine XS.aloadN X16.here hx rfl (hb hby d_prog_36_method_4_code_20) rfl rfl ?_
    show Steps p.tables e below (T16.setTop (mkF m 21 #[.val (.ref a), .val (.ref oe), .val (.ref a4), .val (.int (4 : Int32)), .val (.int (1 : Int32)), .val (.ref en0)] [(.ref a4)])) tg
    refine XS.iload X16.here hx rfl (hb hby d_prog_36_method_4_code_21) rfl ?_
    show Steps p.tables e below (T16.setTop (mkF m 23 #[.val (.ref a), .val (.ref oe), .val (.ref a4), .val (.int (4 : Int32)), .val (.int (1 : Int32)), .val (.ref en0)] [(.int (1 : Int32)), (.ref a4)])) tg
    exact kg
  refine gs c17 ?_
  obtain ⟨cl18, A18, a18q, a18S, a18N, a18H, a18G⟩ := id V4q
  have hi18 := inb_of a18S (j := (1 : Int32)) ⟨by decide, by decide⟩
  have c19 : ∀ tg, Steps p.tables e below (T16.setTop (mkF m 28 #[.val (.ref a), .val (.ref oe), .val (.ref a4), .val (.int (4 : Int32)), .val (.int (1 : Int32)), .val (.ref en1)] [(.ref en1)])) tg → Steps p.tables e below (T16.setTop (mkF m 23 #[.val (.ref a), .val (.ref oe), .val (.ref a4), .val (.int (4 : Int32)), .val (.int (1 : Int32)), .val (.ref en0)] [(.int (1 : Int32)), (.ref a4)])) tg := fun tg kg => by
    refine X16.aaload hx (j := (1 : Int32)) (v := (.ref en1)) (by rw [e16q]; exact A18.1) (State.isArrayOf_alike hZ.alike A18.2.1) rfl A18.2.2 hi18 (Has.at a18H hi18 rfl) (g := (mkF m 23 #[.val (.ref a), .val (.ref oe), .val (.ref a4), .val (.int (4 : Int32)), .val (.int (1 : Int32)), .val (.ref en0)] [(.int (1 : Int32)), (.ref a4)])) rfl rfl (hb hby d_prog_36_method_4_code_23) _ ?_
    show Steps p.tables e below (T16.setTop (mkF m 24 #[.val (.ref a), .val (.ref oe), .val (.ref a4), .val (.int (4 : Int32)), .val (.int (1 : Int32)), .val (.ref en0)] [(.ref en1)])) tg
    refine XS.astore X16.here hx rfl (hb hby d_prog_36_method_4_code_24) rfl rfl (l' := #[.val (.ref a), .val (.ref oe), .val (.ref a4), .val (.int (4 : Int32)), .val (.int (1 : Int32)), .val (.ref en1)]) rfl ?_
    show Steps p.tables e below (T16.setTop (mkF m 26 #[.val (.ref a), .val (.ref oe), .val (.ref a4), .val (.int (4 : Int32)), .val (.int (1 : Int32)), .val (.ref en1)] [])) tg
    refine XS.aload X16.here hx rfl (hb hby d_prog_36_method_4_code_26) rfl rfl ?_
    show Steps p.tables e below (T16.setTop (mkF m 28 #[.val (.ref a), .val (.ref oe), .val (.ref a4), .val (.int (4 : Int32)), .val (.int (1 : Int32)), .val (.ref en1)] [(.ref en1)])) tg
    exact kg
  refine gs c19 ?_
  have f20 := (((F_e1.ext O0.2).keep K1q nin0).keep K4q nin0)
  obtain ⟨T21, X21, e21, st21⟩ := getF X16 hx hZ hown (host := "") (Or.inl (hw _ (List.mem_of_getElem? (i := 54) rfl))) Via.refl e16q f20 (g := (mkF m 28 #[.val (.ref a), .val (.ref oe), .val (.ref a4), .val (.int (4 : Int32)), .val (.int (1 : Int32)), .val (.ref en1)] [(.ref en1)])) rfl rfl (hb hby d_prog_36_method_4_code_28)
  refine gs st21 ?_
  show OwnGo p e below s _ _ _ (T21.setTop (mkF m 31 #[.val (.ref a), .val (.ref oe), .val (.ref a4), .val (.int (4 : Int32)), .val (.int (1 : Int32)), .val (.ref en1)] [(.ref sn1)]))
  have c22 : ∀ tg, Steps p.tables e below (T21.setTop (mkF m 32 #[.val (.ref a), .val (.ref oe), .val (.ref a4), .val (.int (4 : Int32)), .val (.int (1 : Int32)), .val (.ref en1)] [(.ref a), (.ref sn1)])) tg → Steps p.tables e below (T21.setTop (mkF m 31 #[.val (.ref a), .val (.ref oe), .val (.ref a4), .val (.int (4 : Int32)), .val (.int (1 : Int32)), .val (.ref en1)] [(.ref sn1)])) tg := fun tg kg => by
    refine XS.aloadN X21.here hx rfl (hb hby d_prog_36_method_4_code_31) rfl rfl ?_
    show Steps p.tables e below (T21.setTop (mkF m 32 #[.val (.ref a), .val (.ref oe), .val (.ref a4), .val (.int (4 : Int32)), .val (.int (1 : Int32)), .val (.ref en1)] [(.ref a), (.ref sn1)])) tg
    exact kg
  refine gs c22 ?_
  have f23 := (((T_s1.ext O0.2).keep0 K1q).keep0 K4q)
  obtain ⟨cq24, kq24, q24a, q24b, q24c⟩ := isOf hZ e21 f23.exa
  obtain ⟨_, _, ⟨T24, L24, k24, n24⟩, -, X24, ⟨Lc24, hQ24, l24, y24, z24⟩, st24⟩ := X21.virtualBack hx (y := (⟨"java/lang/String", "equals", "(Ljava/lang/Object;)Z"⟩ : MethodName)) (z := (⟨"java/lang/String", "equals", "(Ljava/lang/Object;)Z"⟩ : MethodName)) hown (mvT hZ (hw _ (List.mem_of_getElem? (i := 56) rfl))) (mvT hZ (hw _ (List.mem_of_getElem? (i := 57) rfl))) (notFace_of_selects (args := #[]) (mvT hZ (hw _ (List.mem_of_getElem? (i := 59) rfl)))) (mvT hZ (hw _ (List.mem_of_getElem? (i := 59) rfl))) (mvT hZ (hw _ (List.mem_of_getElem? (i := 58) rfl))) (by decide) (own_eqB (W := 0) hZ hw f23 (by decide) (by decide) f15 hbd hl (S0.ext O5.2) hz (by decide) (by decide)) q24a q24c (g := (mkF m 32 #[.val (.ref a), .val (.ref oe), .val (.ref a4), .val (.int (4 : Int32)), .val (.int (1 : Int32)), .val (.ref en1)] [(.ref a), (.ref sn1)])) rfl (by rw [hml]; rfl) (Steps.refl _) (argsL := [(.ref a)]) (rest := []) (lenOf pd_114 rfl) rfl (by show 2 * 0 + _ ≤ _; exact Nat.le_of_eq rfl) (hb hby d_prog_36_method_4_code_32) (fun _ _ => ⟨rfl, e21, (by decide : 1 + 0 ≤ _), (by decide : 4 + 0 ≤ _)⟩)
  dsimp only [Pt.U, Pt.locs, Pt.cells, Pt.slots] at X24 l24 y24 z24 st24 hQ24
  subst l24 y24 z24
  replace hQ24 := (show _ ∧ _ ∧ _ from by rcases hQ24 with ⟨⟨u1, u2⟩ | ⟨u1, u2⟩, u3, u4⟩; exact absurd u2 (by rw [q]; decide); exact ⟨u1, u3, u4⟩)
  obtain ⟨rfl, rfl, e24q⟩ := hQ24
  have N24 := Fr.app N16 (Fr.nil n0)
  refine gs (fun _ k => st24.trans k) ?_
  show OwnGo p e below s _ _ _ (T24.setTop (mkF m 35 #[.val (.ref a), .val (.ref oe), .val (.ref a4), .val (.int (4 : Int32)), .val (.int (1 : Int32)), .val (.ref en1)] [(.int (0 : Int32))]))
  have c25 : ∀ tg, Steps p.tables e below (T24.setTop (mkF m 23 #[.val (.ref a), .val (.ref oe), .val (.ref a4), .val (.int (4 : Int32)), .val (.int (2 : Int32)), .val (.ref en1)] [(.int (2 : Int32)), (.ref a4)])) tg → Steps p.tables e below (T24.setTop (mkF m 35 #[.val (.ref a), .val (.ref oe), .val (.ref a4), .val (.int (4 : Int32)), .val (.int (1 : Int32)), .val (.ref en1)] [(.int (0 : Int32))])) tg := fun tg kg => by
    refine XS.ifYes X24.here hx rfl (pc0 := 35) (pc' := 44) rfl (hb hby d_prog_36_method_4_code_35) rfl ((if0 _ _).trans (teq (by decide : (0 : Int32) = (0 : Int32))).1) (by decide) (by decide) ?_
    show Steps p.tables e below (T24.setTop (mkF m 44 #[.val (.ref a), .val (.ref oe), .val (.ref a4), .val (.int (4 : Int32)), .val (.int (1 : Int32)), .val (.ref en1)] [])) tg
    refine XS.iinc X24.here hx rfl (hb hby d_prog_36_method_4_code_44) rfl (l' := #[.val (.ref a), .val (.ref oe), .val (.ref a4), .val (.int (4 : Int32)), .val (.int (2 : Int32)), .val (.ref en1)]) rfl ?_
    show Steps p.tables e below (T24.setTop (mkF m 47 #[.val (.ref a), .val (.ref oe), .val (.ref a4), .val (.int (4 : Int32)), .val (.int (2 : Int32)), .val (.ref en1)] [])) tg
    refine XS.goto X24.here hx rfl (pc0 := 47) (pc' := 14) rfl (hb hby d_prog_36_method_4_code_47) (by decide) (by decide) ?_
    show Steps p.tables e below (T24.setTop (mkF m 14 #[.val (.ref a), .val (.ref oe), .val (.ref a4), .val (.int (4 : Int32)), .val (.int (2 : Int32)), .val (.ref en1)] [])) tg
    refine XS.iload X24.here hx rfl (hb hby d_prog_36_method_4_code_14) rfl ?_
    show Steps p.tables e below (T24.setTop (mkF m 16 #[.val (.ref a), .val (.ref oe), .val (.ref a4), .val (.int (4 : Int32)), .val (.int (2 : Int32)), .val (.ref en1)] [(.int (2 : Int32))])) tg
    refine XS.iloadN X24.here hx rfl (hb hby d_prog_36_method_4_code_16) rfl ?_
    show Steps p.tables e below (T24.setTop (mkF m 17 #[.val (.ref a), .val (.ref oe), .val (.ref a4), .val (.int (4 : Int32)), .val (.int (2 : Int32)), .val (.ref en1)] [(.int (4 : Int32)), (.int (2 : Int32))])) tg
    refine XS.icmpNo X24.here hx rfl (hb hby d_prog_36_method_4_code_17) rfl (tlt (by decide : (2 : Int32) < (4 : Int32))).2.1 ?_
    show Steps p.tables e below (T24.setTop (mkF m 20 #[.val (.ref a), .val (.ref oe), .val (.ref a4), .val (.int (4 : Int32)), .val (.int (2 : Int32)), .val (.ref en1)] [])) tg
    refine XS.aloadN X24.here hx rfl (hb hby d_prog_36_method_4_code_20) rfl rfl ?_
    show Steps p.tables e below (T24.setTop (mkF m 21 #[.val (.ref a), .val (.ref oe), .val (.ref a4), .val (.int (4 : Int32)), .val (.int (2 : Int32)), .val (.ref en1)] [(.ref a4)])) tg
    refine XS.iload X24.here hx rfl (hb hby d_prog_36_method_4_code_21) rfl ?_
    show Steps p.tables e below (T24.setTop (mkF m 23 #[.val (.ref a), .val (.ref oe), .val (.ref a4), .val (.int (4 : Int32)), .val (.int (2 : Int32)), .val (.ref en1)] [(.int (2 : Int32)), (.ref a4)])) tg
    exact kg
  refine gs c25 ?_
  obtain ⟨cl26, A26, a26q, a26S, a26N, a26H, a26G⟩ := id V4q
  have hi26 := inb_of a26S (j := (2 : Int32)) ⟨by decide, by decide⟩
  have c27 : ∀ tg, Steps p.tables e below (T24.setTop (mkF m 28 #[.val (.ref a), .val (.ref oe), .val (.ref a4), .val (.int (4 : Int32)), .val (.int (2 : Int32)), .val (.ref en2)] [(.ref en2)])) tg → Steps p.tables e below (T24.setTop (mkF m 23 #[.val (.ref a), .val (.ref oe), .val (.ref a4), .val (.int (4 : Int32)), .val (.int (2 : Int32)), .val (.ref en1)] [(.int (2 : Int32)), (.ref a4)])) tg := fun tg kg => by
    refine X24.aaload hx (j := (2 : Int32)) (v := (.ref en2)) (by rw [e24q]; exact A26.1) (State.isArrayOf_alike hZ.alike A26.2.1) rfl A26.2.2 hi26 (Has.at a26H hi26 rfl) (g := (mkF m 23 #[.val (.ref a), .val (.ref oe), .val (.ref a4), .val (.int (4 : Int32)), .val (.int (2 : Int32)), .val (.ref en1)] [(.int (2 : Int32)), (.ref a4)])) rfl rfl (hb hby d_prog_36_method_4_code_23) _ ?_
    show Steps p.tables e below (T24.setTop (mkF m 24 #[.val (.ref a), .val (.ref oe), .val (.ref a4), .val (.int (4 : Int32)), .val (.int (2 : Int32)), .val (.ref en1)] [(.ref en2)])) tg
    refine XS.astore X24.here hx rfl (hb hby d_prog_36_method_4_code_24) rfl rfl (l' := #[.val (.ref a), .val (.ref oe), .val (.ref a4), .val (.int (4 : Int32)), .val (.int (2 : Int32)), .val (.ref en2)]) rfl ?_
    show Steps p.tables e below (T24.setTop (mkF m 26 #[.val (.ref a), .val (.ref oe), .val (.ref a4), .val (.int (4 : Int32)), .val (.int (2 : Int32)), .val (.ref en2)] [])) tg
    refine XS.aload X24.here hx rfl (hb hby d_prog_36_method_4_code_26) rfl rfl ?_
    show Steps p.tables e below (T24.setTop (mkF m 28 #[.val (.ref a), .val (.ref oe), .val (.ref a4), .val (.int (4 : Int32)), .val (.int (2 : Int32)), .val (.ref en2)] [(.ref en2)])) tg
    exact kg
  refine gs c27 ?_
  have f28 := (((F_e2.ext O0.2).keep K1q nin0).keep K4q nin0)
  obtain ⟨T29, X29, e29, st29⟩ := getF X24 hx hZ hown (host := "") (Or.inl (hw _ (List.mem_of_getElem? (i := 54) rfl))) Via.refl e24q f28 (g := (mkF m 28 #[.val (.ref a), .val (.ref oe), .val (.ref a4), .val (.int (4 : Int32)), .val (.int (2 : Int32)), .val (.ref en2)] [(.ref en2)])) rfl rfl (hb hby d_prog_36_method_4_code_28)
  refine gs st29 ?_
  show OwnGo p e below s _ _ _ (T29.setTop (mkF m 31 #[.val (.ref a), .val (.ref oe), .val (.ref a4), .val (.int (4 : Int32)), .val (.int (2 : Int32)), .val (.ref en2)] [(.ref sn2)]))
  have c30 : ∀ tg, Steps p.tables e below (T29.setTop (mkF m 32 #[.val (.ref a), .val (.ref oe), .val (.ref a4), .val (.int (4 : Int32)), .val (.int (2 : Int32)), .val (.ref en2)] [(.ref a), (.ref sn2)])) tg → Steps p.tables e below (T29.setTop (mkF m 31 #[.val (.ref a), .val (.ref oe), .val (.ref a4), .val (.int (4 : Int32)), .val (.int (2 : Int32)), .val (.ref en2)] [(.ref sn2)])) tg := fun tg kg => by
    refine XS.aloadN X29.here hx rfl (hb hby d_prog_36_method_4_code_31) rfl rfl ?_
    show Steps p.tables e below (T29.setTop (mkF m 32 #[.val (.ref a), .val (.ref oe), .val (.ref a4), .val (.int (4 : Int32)), .val (.int (2 : Int32)), .val (.ref en2)] [(.ref a), (.ref sn2)])) tg
    exact kg
  refine gs c30 ?_
  have f31 := (((T_s2.ext O0.2).keep0 K1q).keep0 K4q)
  obtain ⟨cq32, kq32, q32a, q32b, q32c⟩ := isOf hZ e29 f31.exa
  obtain ⟨_, _, ⟨T32, L32, k32, n32⟩, -, X32, ⟨Lc32, hQ32, l32, y32, z32⟩, st32⟩ := X29.virtualBack hx (y := (⟨"java/lang/String", "equals", "(Ljava/lang/Object;)Z"⟩ : MethodName)) (z := (⟨"java/lang/String", "equals", "(Ljava/lang/Object;)Z"⟩ : MethodName)) hown (mvT hZ (hw _ (List.mem_of_getElem? (i := 56) rfl))) (mvT hZ (hw _ (List.mem_of_getElem? (i := 57) rfl))) (notFace_of_selects (args := #[]) (mvT hZ (hw _ (List.mem_of_getElem? (i := 59) rfl)))) (mvT hZ (hw _ (List.mem_of_getElem? (i := 59) rfl))) (mvT hZ (hw _ (List.mem_of_getElem? (i := 58) rfl))) (by decide) (own_eqB (W := 0) hZ hw f31 (by decide) (by decide) f15 hbd hl (S0.ext O5.2) hz (by decide) (by decide)) q32a q32c (g := (mkF m 32 #[.val (.ref a), .val (.ref oe), .val (.ref a4), .val (.int (4 : Int32)), .val (.int (2 : Int32)), .val (.ref en2)] [(.ref a), (.ref sn2)])) rfl (by rw [hml]; rfl) (Steps.refl _) (argsL := [(.ref a)]) (rest := []) (lenOf pd_114 rfl) rfl (by show 2 * 0 + _ ≤ _; exact Nat.le_of_eq rfl) (hb hby d_prog_36_method_4_code_32) (fun _ _ => ⟨rfl, e29, (by decide : 1 + 0 ≤ _), (by decide : 4 + 0 ≤ _)⟩)
  dsimp only [Pt.U, Pt.locs, Pt.cells, Pt.slots] at X32 l32 y32 z32 st32 hQ32
  subst l32 y32 z32
  replace hQ32 := (show _ ∧ _ ∧ _ from by rcases hQ32 with ⟨⟨u1, u2⟩ | ⟨u1, u2⟩, u3, u4⟩; exact absurd u2 (by rw [q]; decide); exact ⟨u1, u3, u4⟩)
  obtain ⟨rfl, rfl, e32q⟩ := hQ32
  have N32 := Fr.app N24 (Fr.nil n0)
  refine gs (fun _ k => st32.trans k) ?_
  show OwnGo p e below s _ _ _ (T32.setTop (mkF m 35 #[.val (.ref a), .val (.ref oe), .val (.ref a4), .val (.int (4 : Int32)), .val (.int (2 : Int32)), .val (.ref en2)] [(.int (0 : Int32))]))
  have c33 : ∀ tg, Steps p.tables e below (T32.setTop (mkF m 23 #[.val (.ref a), .val (.ref oe), .val (.ref a4), .val (.int (4 : Int32)), .val (.int (3 : Int32)), .val (.ref en2)] [(.int (3 : Int32)), (.ref a4)])) tg → Steps p.tables e below (T32.setTop (mkF m 35 #[.val (.ref a), .val (.ref oe), .val (.ref a4), .val (.int (4 : Int32)), .val (.int (2 : Int32)), .val (.ref en2)] [(.int (0 : Int32))])) tg := fun tg kg => by
    refine XS.ifYes X32.here hx rfl (pc0 := 35) (pc' := 44) rfl (hb hby d_prog_36_method_4_code_35) rfl ((if0 _ _).trans (teq (by decide : (0 : Int32) = (0 : Int32))).1) (by decide) (by decide) ?_
    show Steps p.tables e below (T32.setTop (mkF m 44 #[.val (.ref a), .val (.ref oe), .val (.ref a4), .val (.int (4 : Int32)), .val (.int (2 : Int32)), .val (.ref en2)] [])) tg
    refine XS.iinc X32.here hx rfl (hb hby d_prog_36_method_4_code_44) rfl (l' := #[.val (.ref a), .val (.ref oe), .val (.ref a4), .val (.int (4 : Int32)), .val (.int (3 : Int32)), .val (.ref en2)]) rfl ?_
    show Steps p.tables e below (T32.setTop (mkF m 47 #[.val (.ref a), .val (.ref oe), .val (.ref a4), .val (.int (4 : Int32)), .val (.int (3 : Int32)), .val (.ref en2)] [])) tg
    refine XS.goto X32.here hx rfl (pc0 := 47) (pc' := 14) rfl (hb hby d_prog_36_method_4_code_47) (by decide) (by decide) ?_
    show Steps p.tables e below (T32.setTop (mkF m 14 #[.val (.ref a), .val (.ref oe), .val (.ref a4), .val (.int (4 : Int32)), .val (.int (3 : Int32)), .val (.ref en2)] [])) tg
    refine XS.iload X32.here hx rfl (hb hby d_prog_36_method_4_code_14) rfl ?_
    show Steps p.tables e below (T32.setTop (mkF m 16 #[.val (.ref a), .val (.ref oe), .val (.ref a4), .val (.int (4 : Int32)), .val (.int (3 : Int32)), .val (.ref en2)] [(.int (3 : Int32))])) tg
    refine XS.iloadN X32.here hx rfl (hb hby d_prog_36_method_4_code_16) rfl ?_
    show Steps p.tables e below (T32.setTop (mkF m 17 #[.val (.ref a), .val (.ref oe), .val (.ref a4), .val (.int (4 : Int32)), .val (.int (3 : Int32)), .val (.ref en2)] [(.int (4 : Int32)), (.int (3 : Int32))])) tg
    refine XS.icmpNo X32.here hx rfl (hb hby d_prog_36_method_4_code_17) rfl (tlt (by decide : (3 : Int32) < (4 : Int32))).2.1 ?_
    show Steps p.tables e below (T32.setTop (mkF m 20 #[.val (.ref a), .val (.ref oe), .val (.ref a4), .val (.int (4 : Int32)), .val (.int (3 : Int32)), .val (.ref en2)] [])) tg
    refine XS.aloadN X32.here hx rfl (hb hby d_prog_36_method_4_code_20) rfl rfl ?_
    show Steps p.tables e below (T32.setTop (mkF m 21 #[.val (.ref a), .val (.ref oe), .val (.ref a4), .val (.int (4 : Int32)), .val (.int (3 : Int32)), .val (.ref en2)] [(.ref a4)])) tg
    refine XS.iload X32.here hx rfl (hb hby d_prog_36_method_4_code_21) rfl ?_
    show Steps p.tables e below (T32.setTop (mkF m 23 #[.val (.ref a), .val (.ref oe), .val (.ref a4), .val (.int (4 : Int32)), .val (.int (3 : Int32)), .val (.ref en2)] [(.int (3 : Int32)), (.ref a4)])) tg
    exact kg
  refine gs c33 ?_
  obtain ⟨cl34, A34, a34q, a34S, a34N, a34H, a34G⟩ := id V4q
  have hi34 := inb_of a34S (j := (3 : Int32)) ⟨by decide, by decide⟩
  have c35 : ∀ tg, Steps p.tables e below (T32.setTop (mkF m 28 #[.val (.ref a), .val (.ref oe), .val (.ref a4), .val (.int (4 : Int32)), .val (.int (3 : Int32)), .val (.ref en3)] [(.ref en3)])) tg → Steps p.tables e below (T32.setTop (mkF m 23 #[.val (.ref a), .val (.ref oe), .val (.ref a4), .val (.int (4 : Int32)), .val (.int (3 : Int32)), .val (.ref en2)] [(.int (3 : Int32)), (.ref a4)])) tg := fun tg kg => by
    refine X32.aaload hx (j := (3 : Int32)) (v := (.ref en3)) (by rw [e32q]; exact A34.1) (State.isArrayOf_alike hZ.alike A34.2.1) rfl A34.2.2 hi34 (Has.at a34H hi34 rfl) (g := (mkF m 23 #[.val (.ref a), .val (.ref oe), .val (.ref a4), .val (.int (4 : Int32)), .val (.int (3 : Int32)), .val (.ref en2)] [(.int (3 : Int32)), (.ref a4)])) rfl rfl (hb hby d_prog_36_method_4_code_23) _ ?_
    show Steps p.tables e below (T32.setTop (mkF m 24 #[.val (.ref a), .val (.ref oe), .val (.ref a4), .val (.int (4 : Int32)), .val (.int (3 : Int32)), .val (.ref en2)] [(.ref en3)])) tg
    refine XS.astore X32.here hx rfl (hb hby d_prog_36_method_4_code_24) rfl rfl (l' := #[.val (.ref a), .val (.ref oe), .val (.ref a4), .val (.int (4 : Int32)), .val (.int (3 : Int32)), .val (.ref en3)]) rfl ?_
    show Steps p.tables e below (T32.setTop (mkF m 26 #[.val (.ref a), .val (.ref oe), .val (.ref a4), .val (.int (4 : Int32)), .val (.int (3 : Int32)), .val (.ref en3)] [])) tg
    refine XS.aload X32.here hx rfl (hb hby d_prog_36_method_4_code_26) rfl rfl ?_
    show Steps p.tables e below (T32.setTop (mkF m 28 #[.val (.ref a), .val (.ref oe), .val (.ref a4), .val (.int (4 : Int32)), .val (.int (3 : Int32)), .val (.ref en3)] [(.ref en3)])) tg
    exact kg
  refine gs c35 ?_
  have f36 := (((F_e3.ext O0.2).keep K1q nin0).keep K4q nin0)
  obtain ⟨T37, X37, e37, st37⟩ := getF X32 hx hZ hown (host := "") (Or.inl (hw _ (List.mem_of_getElem? (i := 54) rfl))) Via.refl e32q f36 (g := (mkF m 28 #[.val (.ref a), .val (.ref oe), .val (.ref a4), .val (.int (4 : Int32)), .val (.int (3 : Int32)), .val (.ref en3)] [(.ref en3)])) rfl rfl (hb hby d_prog_36_method_4_code_28)
  refine gs st37 ?_
  show OwnGo p e below s _ _ _ (T37.setTop (mkF m 31 #[.val (.ref a), .val (.ref oe), .val (.ref a4), .val (.int (4 : Int32)), .val (.int (3 : Int32)), .val (.ref en3)] [(.ref sn3)]))
  have c38 : ∀ tg, Steps p.tables e below (T37.setTop (mkF m 32 #[.val (.ref a), .val (.ref oe), .val (.ref a4), .val (.int (4 : Int32)), .val (.int (3 : Int32)), .val (.ref en3)] [(.ref a), (.ref sn3)])) tg → Steps p.tables e below (T37.setTop (mkF m 31 #[.val (.ref a), .val (.ref oe), .val (.ref a4), .val (.int (4 : Int32)), .val (.int (3 : Int32)), .val (.ref en3)] [(.ref sn3)])) tg := fun tg kg => by
    refine XS.aloadN X37.here hx rfl (hb hby d_prog_36_method_4_code_31) rfl rfl ?_
    show Steps p.tables e below (T37.setTop (mkF m 32 #[.val (.ref a), .val (.ref oe), .val (.ref a4), .val (.int (4 : Int32)), .val (.int (3 : Int32)), .val (.ref en3)] [(.ref a), (.ref sn3)])) tg
    exact kg
  refine gs c38 ?_
  have f39 := (((T_s3.ext O0.2).keep0 K1q).keep0 K4q)
  obtain ⟨cq40, kq40, q40a, q40b, q40c⟩ := isOf hZ e37 f39.exa
  obtain ⟨_, _, ⟨T40, L40, k40, n40⟩, -, X40, ⟨Lc40, hQ40, l40, y40, z40⟩, st40⟩ := X37.virtualBack hx (y := (⟨"java/lang/String", "equals", "(Ljava/lang/Object;)Z"⟩ : MethodName)) (z := (⟨"java/lang/String", "equals", "(Ljava/lang/Object;)Z"⟩ : MethodName)) hown (mvT hZ (hw _ (List.mem_of_getElem? (i := 56) rfl))) (mvT hZ (hw _ (List.mem_of_getElem? (i := 57) rfl))) (notFace_of_selects (args := #[]) (mvT hZ (hw _ (List.mem_of_getElem? (i := 59) rfl)))) (mvT hZ (hw _ (List.mem_of_getElem? (i := 59) rfl))) (mvT hZ (hw _ (List.mem_of_getElem? (i := 58) rfl))) (by decide) (own_eqB (W := 0) hZ hw f39 (by decide) (by decide) f15 hbd hl (S0.ext O5.2) hz (by decide) (by decide)) q40a q40c (g := (mkF m 32 #[.val (.ref a), .val (.ref oe), .val (.ref a4), .val (.int (4 : Int32)), .val (.int (3 : Int32)), .val (.ref en3)] [(.ref a), (.ref sn3)])) rfl (by rw [hml]; rfl) (Steps.refl _) (argsL := [(.ref a)]) (rest := []) (lenOf pd_114 rfl) rfl (by show 2 * 0 + _ ≤ _; exact Nat.le_of_eq rfl) (hb hby d_prog_36_method_4_code_32) (fun _ _ => ⟨rfl, e37, (by decide : 1 + 0 ≤ _), (by decide : 4 + 0 ≤ _)⟩)
  dsimp only [Pt.U, Pt.locs, Pt.cells, Pt.slots] at X40 l40 y40 z40 st40 hQ40
  subst l40 y40 z40
  replace hQ40 := (show _ ∧ _ ∧ _ from by rcases hQ40 with ⟨⟨u1, u2⟩ | ⟨u1, u2⟩, u3, u4⟩; exact ⟨u1, u3, u4⟩; exact absurd q.symm u2)
  obtain ⟨rfl, rfl, e40q⟩ := hQ40
  have N40 := Fr.app N32 (Fr.nil n0)
  refine gs (fun _ k => st40.trans k) ?_
  show OwnGo p e below s _ _ _ (T40.setTop (mkF m 35 #[.val (.ref a), .val (.ref oe), .val (.ref a4), .val (.int (4 : Int32)), .val (.int (3 : Int32)), .val (.ref en3)] [(.int (1 : Int32))]))
  have c41 : ∀ tg, Steps p.tables e below (T40.setTop (mkF m 40 #[.val (.ref a), .val (.ref oe), .val (.ref a4), .val (.int (4 : Int32)), .val (.int (3 : Int32)), .val (.ref en3)] [(.ref en3)])) tg → Steps p.tables e below (T40.setTop (mkF m 35 #[.val (.ref a), .val (.ref oe), .val (.ref a4), .val (.int (4 : Int32)), .val (.int (3 : Int32)), .val (.ref en3)] [(.int (1 : Int32))])) tg := fun tg kg => by
    refine XS.ifNo X40.here hx rfl (hb hby d_prog_36_method_4_code_35) rfl ((if0 _ _).trans (feq (by decide : ¬ ((1 : Int32) = (0 : Int32)))).1) ?_
    show Steps p.tables e below (T40.setTop (mkF m 38 #[.val (.ref a), .val (.ref oe), .val (.ref a4), .val (.int (4 : Int32)), .val (.int (3 : Int32)), .val (.ref en3)] [])) tg
    refine XS.aload X40.here hx rfl (hb hby d_prog_36_method_4_code_38) rfl rfl ?_
    show Steps p.tables e below (T40.setTop (mkF m 40 #[.val (.ref a), .val (.ref oe), .val (.ref a4), .val (.int (4 : Int32)), .val (.int (3 : Int32)), .val (.ref en3)] [(.ref en3)])) tg
    exact kg
  refine gs c41 ?_
  obtain ⟨_, _, ⟨T42, L42, k42, n42⟩, -, X42, ⟨Lc42, hQ42, l42, y42, z42⟩, st42⟩ := Jvm.LawKit.callS X40 hx (y := (⟨"java/util/Optional", "of", "(Ljava/lang/Object;)Ljava/util/Optional;"⟩ : MethodName)) hown (mvT hZ (hw _ (List.mem_of_getElem? (i := 84) rfl))) (mvT hZ (hw _ (List.mem_of_getElem? (i := 85) rfl))) (mvT hZ (hw _ (List.mem_of_getElem? (i := 32) rfl))) (mvT hZ (hw _ (List.mem_of_getElem? (i := 86) rfl))) (by decide) (backC (W := 0) (rm_of l Z a0 hw [] en3 T4.heap n0 Z5 O5 ) hZ (hw _ (List.mem_of_getElem? (i := 86) rfl)) (hw _ (List.mem_of_getElem? (i := 32) rfl)) (by decide) (by decide)) (g := (mkF m 40 #[.val (.ref a), .val (.ref oe), .val (.ref a4), .val (.int (4 : Int32)), .val (.int (3 : Int32)), .val (.ref en3)] [(.ref en3)])) rfl (by rw [hml]; rfl) (argsL := [(.ref en3)]) (rest := []) (lenOf pd_118 rfl) rfl (by show 2 * 0 + _ ≤ _; exact Nat.le_of_eq rfl) (hb hby d_prog_36_method_4_code_40) (fun _ _ => ⟨rfl, e40q, (by decide : 1 + 1 ≤ _), (by decide : 4 + 1 ≤ _)⟩)
  dsimp only [Pt.U, Pt.locs, Pt.cells, Pt.slots] at X42 l42 y42 z42 st42 hQ42
  subst l42 y42 z42
  obtain ⟨a42, rfl, N42q, K42q, E42q, F42v⟩ := hQ42
  have N42 := Fr.app N40 N42q
  have Z43 : n0 ≤ T42.heap.size := Nat.le_trans Z5 K42q.1
  have O43 : Old Z n0 T42.heap := O5.keep K42q all0
  have K43 : Keep h0 T42.heap [] := K5.trans K42q all0
  refine gs st42 ?_
  show OwnGo p e below s _ _ _ (T42.setTop (mkF m 43 #[.val (.ref a), .val (.ref oe), .val (.ref a4), .val (.int (4 : Int32)), .val (.int (3 : Int32)), .val (.ref en3)] [(.ref a42)]))
  have c44 : ∀ tg, Steps p.tables e below (T42.setTop (mkF m 51 #[.val (.ref a), .val (.ref a42), .val (.ref a4), .val (.int (4 : Int32)), .val (.int (4 : Int32)), .val (.ref en3)] [(.ref a42)])) tg → Steps p.tables e below (T42.setTop (mkF m 43 #[.val (.ref a), .val (.ref oe), .val (.ref a4), .val (.int (4 : Int32)), .val (.int (3 : Int32)), .val (.ref en3)] [(.ref a42)])) tg := fun tg kg => by
    refine XS.astoreN X42.here hx rfl (hb hby d_prog_36_method_4_code_43) rfl rfl (l' := #[.val (.ref a), .val (.ref a42), .val (.ref a4), .val (.int (4 : Int32)), .val (.int (3 : Int32)), .val (.ref en3)]) rfl ?_
    show Steps p.tables e below (T42.setTop (mkF m 44 #[.val (.ref a), .val (.ref a42), .val (.ref a4), .val (.int (4 : Int32)), .val (.int (3 : Int32)), .val (.ref en3)] [])) tg
    refine XS.iinc X42.here hx rfl (hb hby d_prog_36_method_4_code_44) rfl (l' := #[.val (.ref a), .val (.ref a42), .val (.ref a4), .val (.int (4 : Int32)), .val (.int (4 : Int32)), .val (.ref en3)]) rfl ?_
    show Steps p.tables e below (T42.setTop (mkF m 47 #[.val (.ref a), .val (.ref a42), .val (.ref a4), .val (.int (4 : Int32)), .val (.int (4 : Int32)), .val (.ref en3)] [])) tg
    refine XS.goto X42.here hx rfl (pc0 := 47) (pc' := 14) rfl (hb hby d_prog_36_method_4_code_47) (by decide) (by decide) ?_
    show Steps p.tables e below (T42.setTop (mkF m 14 #[.val (.ref a), .val (.ref a42), .val (.ref a4), .val (.int (4 : Int32)), .val (.int (4 : Int32)), .val (.ref en3)] [])) tg
    refine XS.iload X42.here hx rfl (hb hby d_prog_36_method_4_code_14) rfl ?_
    show Steps p.tables e below (T42.setTop (mkF m 16 #[.val (.ref a), .val (.ref a42), .val (.ref a4), .val (.int (4 : Int32)), .val (.int (4 : Int32)), .val (.ref en3)] [(.int (4 : Int32))])) tg
    refine XS.iloadN X42.here hx rfl (hb hby d_prog_36_method_4_code_16) rfl ?_
    show Steps p.tables e below (T42.setTop (mkF m 17 #[.val (.ref a), .val (.ref a42), .val (.ref a4), .val (.int (4 : Int32)), .val (.int (4 : Int32)), .val (.ref en3)] [(.int (4 : Int32)), (.int (4 : Int32))])) tg
    refine XS.icmpYes X42.here hx rfl (pc0 := 17) (pc' := 50) rfl (hb hby d_prog_36_method_4_code_17) rfl (flt (by decide : ¬ ((4 : Int32) < (4 : Int32)))).2.1 (by decide) (by decide) ?_
    show Steps p.tables e below (T42.setTop (mkF m 50 #[.val (.ref a), .val (.ref a42), .val (.ref a4), .val (.int (4 : Int32)), .val (.int (4 : Int32)), .val (.ref en3)] [])) tg
    refine XS.aloadN X42.here hx rfl (hb hby d_prog_36_method_4_code_50) rfl rfl ?_
    show Steps p.tables e below (T42.setTop (mkF m 51 #[.val (.ref a), .val (.ref a42), .val (.ref a4), .val (.int (4 : Int32)), .val (.int (4 : Int32)), .val (.ref en3)] [(.ref a42)])) tg
    exact kg
  refine gs c44 ?_
  refine gout (v := some (.ref a42)) X42 Bd.notSynchronized (fun h => by rw [Bd.returns] at h; cases h) (by decide) (by decide) ?_ (fun fs hr => retOut X42 hx Bd.returns rfl (Or.inr (Or.inr (Or.inr (Or.inr ⟨rfl, rfl, rfl⟩)))) (hb hby d_prog_36_method_4_code_51) hr)
  exact ⟨_, rfl, N42, K43, E42q, F42v⟩
theorem ef_127 (m : MethodId) (x0 : Addr) : entryFrame m #[(.ref x0)] 6 = mkF m 0 #[.val (.ref x0), .unset, .unset, .unset, .unset, .unset] [] := by first | (simp [entryFrame, mkF, argsToLocals, Value.category]; done) | rfl
set_option maxRecDepth 65536 in
set_option maxHeartbeats 40000000 in
theorem rm_wr4 (l : Launch) (Z : State) (a0 : Array Value) (hw : ∀ d ∈ tables_1, d.before a0 Z = true) (ws : List Jvm.Cond) (a : Addr) (cs : List Int32) (z : Int32) (oe : Addr) (va : Addr) (kv : ClassId) (en0 : Addr) (en1 : Addr) (en2 : Addr) (en3 : Addr) (sn0 : Addr) (sn1 : Addr) (sn2 : Addr) (sn3 : Addr) (h0 : Heap) (n0 : Nat) (Z0 : n0 ≤ h0.size) (O0 : Old Z n0 h0) (S0 : Sta Z Z.heap "java/lang/String" "COMPACT_STRINGS" "Z" (.int z)) (hz : ¬ z = 0) (T_a : Str Z h0 a cs) (hbd : ∀ c ∈ cs, ¬ c < 0 ∧ ¬ (255 : Int32) < c) (hl : cs.length ≤ 4000) (S_oe : Sta Z Z.heap "java/util/Optional" "EMPTY" "Ljava/util/Optional;" (.ref oe)) (S_va : Sta Z Z.heap "com/example/tranche/tranche/terms/Comparison" "$VALUES" "[Lcom/example/tranche/tranche/terms/Comparison;" (.ref va)) (V_va : Arv Z Z.heap va kv (.object "com/example/tranche/tranche/terms/Comparison") (4 : Int32) [(.ref en0), (.ref en1), (.ref en2), (.ref en3)] .null) (E_va : Exa Z Z.heap va "[Lcom/example/tranche/tranche/terms/Comparison;") (F_e0 : Fld Z Z.heap en0 "com/example/tranche/tranche/terms/Comparison" "written" "Ljava/lang/String;" (.ref sn0)) (F_e1 : Fld Z Z.heap en1 "com/example/tranche/tranche/terms/Comparison" "written" "Ljava/lang/String;" (.ref sn1)) (F_e2 : Fld Z Z.heap en2 "com/example/tranche/tranche/terms/Comparison" "written" "Ljava/lang/String;" (.ref sn2)) (F_e3 : Fld Z Z.heap en3 "com/example/tranche/tranche/terms/Comparison" "written" "Ljava/lang/String;" (.ref sn3)) (T_s0 : Str Z Z.heap sn0 ([60] : List Int32)) (T_s1 : Str Z Z.heap sn1 ([60, 61] : List Int32)) (T_s2 : Str Z Z.heap sn2 ([62] : List Int32)) (T_s3 : Str Z Z.heap sn3 ([62, 61] : List Int32)) (q0 : ¬ ([60] : List Int32) = cs) (q1 : ¬ ([60, 61] : List Int32) = cs) (q2 : ¬ ([62] : List Int32) = cs) (q3 : ¬ ([62, 61] : List Int32) = cs) :
    Ctr l Z (⟨"com/example/tranche/tranche/terms/Comparison", "written", "(Ljava/lang/String;)Ljava/util/Optional;"⟩ : MethodName) prog_36_method_4_code 6 ((Option.some (Jvm.ClassFile.FieldType.object "java/util/Optional"))) ws ({ frames := 3, cells := 2, slots := 5, locals := 60 } : Room) #[(.ref a)] h0 (fun v h L => v = some (.ref oe) ∧ Fr n0 L ∧ Keep h0 h []) := by
  refine Ctr.of (MetFree.of_bodySF (plainFor_of_name pn_68) hisR ?_)
  intro p e s m args below meth c s₁ Bd hml0 hP hK
  obtain ⟨rfl, hZ, hh⟩ := hP
  have hx := Bd.exec
  have hby := Bd.bytes
  have hml : c.maxLocals = 6 := hml0
  have hown : s.vm.findClass "com/example/tranche/tranche/terms/Comparison" = some m.cls := findClass_of_methodNamed Bd.named
  have hnm := (name_of_methodNamed Bd.named Bd.method).1
  have X0 : Stand p l e ({ frames := 3, cells := 2, slots := 5, locals := 60 } : Room) s m #[(.ref a)] below meth c s₁ [] 0 0 := Stand.of_body Bd
  have e0 : s₁.heap = h0 := by rw [← hh, Bd.state]; rfl
  have N0 := Fr.nil n0
  have K0 : Keep h0 h0 [] := Keep.refl h0 []
  show OwnGo p e below s (fun v h L => v = some (.ref oe) ∧ Fr n0 L ∧ Keep h0 h []) ({ frames := 3, cells := 2, slots := 5, locals := 60 } : Room).cells ({ frames := 3, cells := 2, slots := 5, locals := 60 } : Room).slots _
  refine gs (S' := s₁.setTop (mkF m 0 #[.val (.ref a), .unset, .unset, .unset, .unset, .unset] [])) (fun tg kg => castTop (ef_127 m a) kg) ?_
  obtain ⟨_, _, ⟨T1, L1, k1, n1⟩, -, X1, ⟨Lc1, hQ1, l1, y1, z1⟩, st1⟩ := Jvm.LawKit.callS X0 hx (y := (⟨"java/util/Optional", "empty", "()Ljava/util/Optional;"⟩ : MethodName)) hown (mvT hZ (hw _ (List.mem_of_getElem? (i := 30) rfl))) (mvT hZ (hw _ (List.mem_of_getElem? (i := 31) rfl))) (mvT hZ (hw _ (List.mem_of_getElem? (i := 32) rfl))) (mvT hZ (hw _ (List.mem_of_getElem? (i := 33) rfl))) (by decide) (backC (W := 0) (rm_oe l Z a0 hw [] oe h0 n0 Z0 O0 S_oe) hZ (hw _ (List.mem_of_getElem? (i := 33) rfl)) (hw _ (List.mem_of_getElem? (i := 32) rfl)) (by decide) (by decide)) (g := (mkF m 0 #[.val (.ref a), .unset, .unset, .unset, .unset, .unset] [])) rfl (by rw [hml]; rfl) (argsL := []) (rest := []) (lenOf pd_93 rfl) rfl (by show 2 * 0 + _ ≤ _; exact Nat.le_of_eq rfl) (hb hby d_prog_36_method_4_code_0) (fun _ _ => ⟨rfl, e0, (by decide : 0 + 0 ≤ _), (by decide : 0 + 0 ≤ _)⟩)
  dsimp only [Pt.U, Pt.locs, Pt.cells, Pt.slots] at X1 l1 y1 z1 st1 hQ1
  subst l1 y1 z1
  obtain ⟨rfl, N1q, K1q⟩ := hQ1
  have N1 := Fr.app N0 N1q
  have Z2 : n0 ≤ T1.heap.size := Nat.le_trans Z0 K1q.1
  have O2 : Old Z n0 T1.heap := O0.keep K1q all0
  have K2 : Keep h0 T1.heap [] := K0.trans K1q all0
  refine gs st1 ?_
  show OwnGo p e below s _ _ _ (T1.setTop (mkF m 3 #[.val (.ref a), .unset, .unset, .unset, .unset, .unset] [(.ref oe)]))
  have c3 : ∀ tg, Steps p.tables e below (T1.setTop (mkF m 4 #[.val (.ref a), .val (.ref oe), .unset, .unset, .unset, .unset] [])) tg → Steps p.tables e below (T1.setTop (mkF m 3 #[.val (.ref a), .unset, .unset, .unset, .unset, .unset] [(.ref oe)])) tg := fun tg kg => by
    refine XS.astoreN X1.here hx rfl (hb hby d_prog_36_method_4_code_3) rfl rfl (l' := #[.val (.ref a), .val (.ref oe), .unset, .unset, .unset, .unset]) rfl ?_
    show Steps p.tables e below (T1.setTop (mkF m 4 #[.val (.ref a), .val (.ref oe), .unset, .unset, .unset, .unset] [])) tg
    exact kg
  refine gs c3 ?_
  obtain ⟨_, _, ⟨T4, L4, k4, n4⟩, -, X4, ⟨Lc4, hQ4, l4, y4, z4⟩, st4⟩ := Jvm.LawKit.callS X1 hx (y := (⟨"com/example/tranche/tranche/terms/Comparison", "values", "()[Lcom/example/tranche/tranche/terms/Comparison;"⟩ : MethodName)) hown (mvT hZ (hw _ (List.mem_of_getElem? (i := 35) rfl))) (mvT hZ (hw _ (List.mem_of_getElem? (i := 36) rfl))) (mvT hZ (hw _ (List.mem_of_getElem? (i := 28) rfl))) (mvT hZ (hw _ (List.mem_of_getElem? (i := 37) rfl))) (by decide) (backC (W := 0) (rm_va l Z a0 hw [] va kv en0 en1 en2 en3 T1.heap n0 Z2 O2 S_va V_va E_va) hZ (hw _ (List.mem_of_getElem? (i := 37) rfl)) (hw _ (List.mem_of_getElem? (i := 28) rfl)) (by decide) (by decide)) (g := (mkF m 4 #[.val (.ref a), .val (.ref oe), .unset, .unset, .unset, .unset] [])) rfl (by rw [hml]; rfl) (argsL := []) (rest := []) (lenOf pd_96 rfl) rfl (by show 2 * 0 + _ ≤ _; exact Nat.le_of_eq rfl) (hb hby d_prog_36_method_4_code_4) (fun _ _ => ⟨rfl, rfl, (by decide : 0 + 1 ≤ _), (by decide : 0 + 4 ≤ _)⟩)
  dsimp only [Pt.U, Pt.locs, Pt.cells, Pt.slots] at X4 l4 y4 z4 st4 hQ4
  subst l4 y4 z4
  obtain ⟨a4, rfl, N4q, K4q, V4q⟩ := hQ4
  have N4 := Fr.app N1 N4q
  have Z5 : n0 ≤ T4.heap.size := Nat.le_trans Z2 K4q.1
  have O5 : Old Z n0 T4.heap := O2.keep K4q all0
  have K5 : Keep h0 T4.heap [] := K2.trans K4q all0
  refine gs st4 ?_
  show OwnGo p e below s _ _ _ (T4.setTop (mkF m 7 #[.val (.ref a), .val (.ref oe), .unset, .unset, .unset, .unset] [(.ref a4)]))
  have c6 : ∀ tg, Steps p.tables e below (T4.setTop (mkF m 9 #[.val (.ref a), .val (.ref oe), .val (.ref a4), .unset, .unset, .unset] [(.ref a4)])) tg → Steps p.tables e below (T4.setTop (mkF m 7 #[.val (.ref a), .val (.ref oe), .unset, .unset, .unset, .unset] [(.ref a4)])) tg := fun tg kg => by
    refine XS.astoreN X4.here hx rfl (hb hby d_prog_36_method_4_code_7) rfl rfl (l' := #[.val (.ref a), .val (.ref oe), .val (.ref a4), .unset, .unset, .unset]) rfl ?_
    show Steps p.tables e below (T4.setTop (mkF m 8 #[.val (.ref a), .val (.ref oe), .val (.ref a4), .unset, .unset, .unset] [])) tg
    refine XS.aloadN X4.here hx rfl (hb hby d_prog_36_method_4_code_8) rfl rfl ?_
    show Steps p.tables e below (T4.setTop (mkF m 9 #[.val (.ref a), .val (.ref oe), .val (.ref a4), .unset, .unset, .unset] [(.ref a4)])) tg
    exact kg
  refine gs c6 ?_
  obtain ⟨cl7, A7, a7q, a7S, a7N, a7H, a7G⟩ := id V4q
  have c8 : ∀ tg, Steps p.tables e below (T4.setTop (mkF m 23 #[.val (.ref a), .val (.ref oe), .val (.ref a4), .val (.int (4 : Int32)), .val (.int (0 : Int32)), .unset] [(.int (0 : Int32)), (.ref a4)])) tg → Steps p.tables e below (T4.setTop (mkF m 9 #[.val (.ref a), .val (.ref oe), .val (.ref a4), .unset, .unset, .unset] [(.ref a4)])) tg := fun tg kg => by
    refine X4.arraylength hx A7.1 (State.isArrayOf_alike hZ.alike A7.2.1) (g := (mkF m 9 #[.val (.ref a), .val (.ref oe), .val (.ref a4), .unset, .unset, .unset] [(.ref a4)])) rfl rfl (hb hby d_prog_36_method_4_code_9) _ ?_; rw [len_of a7S a7N]
    show Steps p.tables e below (T4.setTop (mkF m 10 #[.val (.ref a), .val (.ref oe), .val (.ref a4), .unset, .unset, .unset] [(.int (4 : Int32))])) tg
    refine XS.istoreN X4.here hx rfl (hb hby d_prog_36_method_4_code_10) rfl (l' := #[.val (.ref a), .val (.ref oe), .val (.ref a4), .val (.int (4 : Int32)), .unset, .unset]) rfl ?_
    show Steps p.tables e below (T4.setTop (mkF m 11 #[.val (.ref a), .val (.ref oe), .val (.ref a4), .val (.int (4 : Int32)), .unset, .unset] [])) tg
    refine XS.iconst X4.here hx rfl (hb hby d_prog_36_method_4_code_11) ?_
    show Steps p.tables e below (T4.setTop (mkF m 12 #[.val (.ref a), .val (.ref oe), .val (.ref a4), .val (.int (4 : Int32)), .unset, .unset] [(.int (0 : Int32))])) tg
    refine XS.istore X4.here hx rfl (hb hby d_prog_36_method_4_code_12) rfl (l' := #[.val (.ref a), .val (.ref oe), .val (.ref a4), .val (.int (4 : Int32)), .val (.int (0 : Int32)), .unset]) rfl ?_
    show Steps p.tables e below (T4.setTop (mkF m 14 #[.val (.ref a), .val (.ref oe), .val (.ref a4), .val (.int (4 : Int32)), .val (.int (0 : Int32)), .unset] [])) tg
    refine XS.iload X4.here hx rfl (hb hby d_prog_36_method_4_code_14) rfl ?_
    show Steps p.tables e below (T4.setTop (mkF m 16 #[.val (.ref a), .val (.ref oe), .val (.ref a4), .val (.int (4 : Int32)), .val (.int (0 : Int32)), .unset] [(.int (0 : Int32))])) tg
    refine XS.iloadN X4.here hx rfl (hb hby d_prog_36_method_4_code_16) rfl ?_
    show Steps p.tables e below (T4.setTop (mkF m 17 #[.val (.ref a), .val (.ref oe), .val (.ref a4), .val (.int (4 : Int32)), .val (.int (0 : Int32)), .unset] [(.int (4 : Int32)), (.int (0 : Int32))])) tg
    refine XS.icmpNo X4.here hx rfl (hb hby d_prog_36_method_4_code_17) rfl (tlt (by decide : (0 : Int32) < (4 : Int32))).2.1 ?_
    show Steps p.tables e below (T4.setTop (mkF m 20 #[.val (.ref a), .val (.ref oe), .val (.ref a4), .val (.int (4 : Int32)), .val (.int (0 : Int32)), .unset] [])) tg
    refine XS.aloadN X4.here hx rfl (hb hby d_prog_36_method_4_code_20) rfl rfl ?_
    show Steps p.tables e below (T4.setTop (mkF m 21 #[.val (.ref a), .val (.ref oe), .val (.ref a4), .val (.int (4 : Int32)), .val (.int (0 : Int32)), .unset] [(.ref a4)])) tg
    refine XS.iload X4.here hx rfl (hb hby d_prog_36_method_4_code_21) rfl ?_
    show Steps p.tables e below (T4.setTop (mkF m 23 #[.val (.ref a), .val (.ref oe), .val (.ref a4), .val (.int (4 : Int32)), .val (.int (0 : Int32)), .unset] [(.int (0 : Int32)), (.ref a4)])) tg
    exact kg
  refine gs c8 ?_
  obtain ⟨cl9, A9, a9q, a9S, a9N, a9H, a9G⟩ := id V4q
  have hi9 := inb_of a9S (j := (0 : Int32)) ⟨by decide, by decide⟩
  have c10 : ∀ tg, Steps p.tables e below (T4.setTop (mkF m 28 #[.val (.ref a), .val (.ref oe), .val (.ref a4), .val (.int (4 : Int32)), .val (.int (0 : Int32)), .val (.ref en0)] [(.ref en0)])) tg → Steps p.tables e below (T4.setTop (mkF m 23 #[.val (.ref a), .val (.ref oe), .val (.ref a4), .val (.int (4 : Int32)), .val (.int (0 : Int32)), .unset] [(.int (0 : Int32)), (.ref a4)])) tg := fun tg kg => by
    refine X4.aaload hx (j := (0 : Int32)) (v := (.ref en0)) A9.1 (State.isArrayOf_alike hZ.alike A9.2.1) rfl A9.2.2 hi9 (Has.at a9H hi9 rfl) (g := (mkF m 23 #[.val (.ref a), .val (.ref oe), .val (.ref a4), .val (.int (4 : Int32)), .val (.int (0 : Int32)), .unset] [(.int (0 : Int32)), (.ref a4)])) rfl rfl (hb hby d_prog_36_method_4_code_23) _ ?_
    show Steps p.tables e below (T4.setTop (mkF m 24 #[.val (.ref a), .val (.ref oe), .val (.ref a4), .val (.int (4 : Int32)), .val (.int (0 : Int32)), .unset] [(.ref en0)])) tg
    refine XS.astore X4.here hx rfl (hb hby d_prog_36_method_4_code_24) rfl rfl (l' := #[.val (.ref a), .val (.ref oe), .val (.ref a4), .val (.int (4 : Int32)), .val (.int (0 : Int32)), .val (.ref en0)]) rfl ?_
    show Steps p.tables e below (T4.setTop (mkF m 26 #[.val (.ref a), .val (.ref oe), .val (.ref a4), .val (.int (4 : Int32)), .val (.int (0 : Int32)), .val (.ref en0)] [])) tg
    refine XS.aload X4.here hx rfl (hb hby d_prog_36_method_4_code_26) rfl rfl ?_
    show Steps p.tables e below (T4.setTop (mkF m 28 #[.val (.ref a), .val (.ref oe), .val (.ref a4), .val (.int (4 : Int32)), .val (.int (0 : Int32)), .val (.ref en0)] [(.ref en0)])) tg
    exact kg
  refine gs c10 ?_
  have f11 := (((F_e0.ext O0.2).keep K1q nin0).keep K4q nin0)
  obtain ⟨T12, X12, e12, st12⟩ := getF X4 hx hZ hown (host := "") (Or.inl (hw _ (List.mem_of_getElem? (i := 54) rfl))) Via.refl rfl f11 (g := (mkF m 28 #[.val (.ref a), .val (.ref oe), .val (.ref a4), .val (.int (4 : Int32)), .val (.int (0 : Int32)), .val (.ref en0)] [(.ref en0)])) rfl rfl (hb hby d_prog_36_method_4_code_28)
  refine gs st12 ?_
  show OwnGo p e below s _ _ _ (T12.setTop (mkF m 31 #[.val (.ref a), .val (.ref oe), .val (.ref a4), .val (.int (4 : Int32)), .val (.int (0 : Int32)), .val (.ref en0)] [(.ref sn0)]))
  have c13 : ∀ tg, Steps p.tables e below (T12.setTop (mkF m 32 #[.val (.ref a), .val (.ref oe), .val (.ref a4), .val (.int (4 : Int32)), .val (.int (0 : Int32)), .val (.ref en0)] [(.ref a), (.ref sn0)])) tg → Steps p.tables e below (T12.setTop (mkF m 31 #[.val (.ref a), .val (.ref oe), .val (.ref a4), .val (.int (4 : Int32)), .val (.int (0 : Int32)), .val (.ref en0)] [(.ref sn0)])) tg := fun tg kg => by
    refine XS.aloadN X12.here hx rfl (hb hby d_prog_36_method_4_code_31) rfl rfl ?_
    show Steps p.tables e below (T12.setTop (mkF m 32 #[.val (.ref a), .val (.ref oe), .val (.ref a4), .val (.int (4 : Int32)), .val (.int (0 : Int32)), .val (.ref en0)] [(.ref a), (.ref sn0)])) tg
    exact kg
  refine gs c13 ?_
  have f14 := (((T_s0.ext O0.2).keep0 K1q).keep0 K4q)
  have f15 := ((T_a.keep0 K1q).keep0 K4q)
  obtain ⟨cq16, kq16, q16a, q16b, q16c⟩ := isOf hZ e12 f14.exa
  obtain ⟨_, _, ⟨T16, L16, k16, n16⟩, -, X16, ⟨Lc16, hQ16, l16, y16, z16⟩, st16⟩ := X12.virtualBack hx (y := (⟨"java/lang/String", "equals", "(Ljava/lang/Object;)Z"⟩ : MethodName)) (z := (⟨"java/lang/String", "equals", "(Ljava/lang/Object;)Z"⟩ : MethodName)) hown (mvT hZ (hw _ (List.mem_of_getElem? (i := 56) rfl))) (mvT hZ (hw _ (List.mem_of_getElem? (i := 57) rfl))) (notFace_of_selects (args := #[]) (mvT hZ (hw _ (List.mem_of_getElem? (i := 59) rfl)))) (mvT hZ (hw _ (List.mem_of_getElem? (i := 59) rfl))) (mvT hZ (hw _ (List.mem_of_getElem? (i := 58) rfl))) (by decide) (own_eqB (W := 0) hZ hw f14 (by decide) (by decide) f15 hbd hl (S0.ext O5.2) hz (by decide) (by decide)) q16a q16c (g := (mkF m 32 #[.val (.ref a), .val (.ref oe), .val (.ref a4), .val (.int (4 : Int32)), .val (.int (0 : Int32)), .val (.ref en0)] [(.ref a), (.ref sn0)])) rfl (by rw [hml]; rfl) (Steps.refl _) (argsL := [(.ref a)]) (rest := []) (lenOf pd_114 rfl) rfl (by show 2 * 0 + _ ≤ _; exact Nat.le_of_eq rfl) (hb hby d_prog_36_method_4_code_32) (fun _ _ => ⟨rfl, e12, (by decide : 1 + 0 ≤ _), (by decide : 4 + 0 ≤ _)⟩)
  dsimp only [Pt.U, Pt.locs, Pt.cells, Pt.slots] at X16 l16 y16 z16 st16 hQ16
  subst l16 y16 z16
  replace hQ16 := (show _ ∧ _ ∧ _ from by rcases hQ16 with ⟨⟨u1, u2⟩ | ⟨u1, u2⟩, u3, u4⟩; exact absurd u2 q0; exact ⟨u1, u3, u4⟩)
  obtain ⟨rfl, rfl, e16q⟩ := hQ16
  have N16 := Fr.app N4 (Fr.nil n0)
  refine gs (fun _ k => st16.trans k) ?_
  show OwnGo p e below s _ _ _ (T16.setTop (mkF m 35 #[.val (.ref a), .val (.ref oe), .val (.ref a4), .val (.int (4 : Int32)), .val (.int (0 : Int32)), .val (.ref en0)] [(.int (0 : Int32))]))
  have c17 : ∀ tg, Steps p.tables e below (T16.setTop (mkF m 23 #[.val (.ref a), .val (.ref oe), .val (.ref a4), .val (.int (4 : Int32)), .val (.int (1 : Int32)), .val (.ref en0)] [(.int (1 : Int32)), (.ref a4)])) tg → Steps p.tables e below (T16.setTop (mkF m 35 #[.val (.ref a), .val (.ref oe), .val (.ref a4), .val (.int (4 : Int32)), .val (.int (0 : Int32)), .val (.ref en0)] [(.int (0 : Int32))])) tg := fun tg kg => by
    refine XS.ifYes X16.here hx rfl (pc0 := 35) (pc' := 44) rfl (hb hby d_prog_36_method_4_code_35) rfl ((if0 _ _).trans (teq (by decide : (0 : Int32) = (0 : Int32))).1) (by decide) (by decide) ?_
    show Steps p.tables e below (T16.setTop (mkF m 44 #[.val (.ref a), .val (.ref oe), .val (.ref a4), .val (.int (4 : Int32)), .val (.int (0 : Int32)), .val (.ref en0)] [])) tg
    refine XS.iinc X16.here hx rfl (hb hby d_prog_36_method_4_code_44) rfl (l' := #[.val (.ref a), .val (.ref oe), .val (.ref a4), .val (.int (4 : Int32)), .val (.int (1 : Int32)), .val (.ref en0)]) rfl ?_
    show Steps p.tables e below (T16.setTop (mkF m 47 #[.val (.ref a), .val (.ref oe), .val (.ref a4), .val (.int (4 : Int32)), .val (.int (1 : Int32)), .val (.ref en0)] [])) tg
    refine XS.goto X16.here hx rfl (pc0 := 47) (pc' := 14) rfl (hb hby d_prog_36_method_4_code_47) (by decide) (by decide) ?_
    show Steps p.tables e below (T16.setTop (mkF m 14 #[.val (.ref a), .val (.ref oe), .val (.ref a4), .val (.int (4 : Int32)), .val (.int (1 : Int32)), .val (.ref en0)] [])) tg
    refine XS.iload X16.here hx rfl (hb hby d_prog_36_method_4_code_14) rfl ?_
    show Steps p.tables e below (T16.setTop (mkF m 16 #[.val (.ref a), .val (.ref oe), .val (.ref a4), .val (.int (4 : Int32)), .val (.int (1 : Int32)), .val (.ref en0)] [(.int (1 : Int32))])) tg
    refine XS.iloadN X16.here hx rfl (hb hby d_prog_36_method_4_code_16) rfl ?_
    show Steps p.tables e below (T16.setTop (mkF m 17 #[.val (.ref a), .val (.ref oe), .val (.ref a4), .val (.int (4 : Int32)), .val (.int (1 : Int32)), .val (.ref en0)] [(.int (4 : Int32)), (.int (1 : Int32))])) tg
    refine XS.icmpNo X16.here hx rfl (hb hby d_prog_36_method_4_code_17) rfl (tlt (by decide : (1 : Int32) < (4 : Int32))).2.1 ?_
    show Steps p.tables e below (T16.setTop (mkF m 20 #[.val (.ref a), .val (.ref oe), .val (.ref a4), .val (.int (4 : Int32)), .val (.int (1 : Int32)), .val (.ref en0)] [])) tg
    refine XS.aloadN X16.here hx rfl (hb hby d_prog_36_method_4_code_20) rfl rfl ?_
    show Steps p.tables e below (T16.setTop (mkF m 21 #[.val (.ref a), .val (.ref oe), .val (.ref a4), .val (.int (4 : Int32)), .val (.int (1 : Int32)), .val (.ref en0)] [(.ref a4)])) tg
    refine XS.iload X16.here hx rfl (hb hby d_prog_36_method_4_code_21) rfl ?_
    show Steps p.tables e below (T16.setTop (mkF m 23 #[.val (.ref a), .val (.ref oe), .val (.ref a4), .val (.int (4 : Int32)), .val (.int (1 : Int32)), .val (.ref en0)] [(.int (1 : Int32)), (.ref a4)])) tg
    exact kg
  refine gs c17 ?_
  obtain ⟨cl18, A18, a18q, a18S, a18N, a18H, a18G⟩ := id V4q
  have hi18 := inb_of a18S (j := (1 : Int32)) ⟨by decide, by decide⟩
  have c19 : ∀ tg, Steps p.tables e below (T16.setTop (mkF m 28 #[.val (.ref a), .val (.ref oe), .val (.ref a4), .val (.int (4 : Int32)), .val (.int (1 : Int32)), .val (.ref en1)] [(.ref en1)])) tg → Steps p.tables e below (T16.setTop (mkF m 23 #[.val (.ref a), .val (.ref oe), .val (.ref a4), .val (.int (4 : Int32)), .val (.int (1 : Int32)), .val (.ref en0)] [(.int (1 : Int32)), (.ref a4)])) tg := fun tg kg => by
    refine X16.aaload hx (j := (1 : Int32)) (v := (.ref en1)) (by rw [e16q]; exact A18.1) (State.isArrayOf_alike hZ.alike A18.2.1) rfl A18.2.2 hi18 (Has.at a18H hi18 rfl) (g := (mkF m 23 #[.val (.ref a), .val (.ref oe), .val (.ref a4), .val (.int (4 : Int32)), .val (.int (1 : Int32)), .val (.ref en0)] [(.int (1 : Int32)), (.ref a4)])) rfl rfl (hb hby d_prog_36_method_4_code_23) _ ?_
    show Steps p.tables e below (T16.setTop (mkF m 24 #[.val (.ref a), .val (.ref oe), .val (.ref a4), .val (.int (4 : Int32)), .val (.int (1 : Int32)), .val (.ref en0)] [(.ref en1)])) tg
    refine XS.astore X16.here hx rfl (hb hby d_prog_36_method_4_code_24) rfl rfl (l' := #[.val (.ref a), .val (.ref oe), .val (.ref a4), .val (.int (4 : Int32)), .val (.int (1 : Int32)), .val (.ref en1)]) rfl ?_
    show Steps p.tables e below (T16.setTop (mkF m 26 #[.val (.ref a), .val (.ref oe), .val (.ref a4), .val (.int (4 : Int32)), .val (.int (1 : Int32)), .val (.ref en1)] [])) tg
    refine XS.aload X16.here hx rfl (hb hby d_prog_36_method_4_code_26) rfl rfl ?_
    show Steps p.tables e below (T16.setTop (mkF m 28 #[.val (.ref a), .val (.ref oe), .val (.ref a4), .val (.int (4 : Int32)), .val (.int (1 : Int32)), .val (.ref en1)] [(.ref en1)])) tg
    exact kg
  refine gs c19 ?_
  have f20 := (((F_e1.ext O0.2).keep K1q nin0).keep K4q nin0)
  obtain ⟨T21, X21, e21, st21⟩ := getF X16 hx hZ hown (host := "") (Or.inl (hw _ (List.mem_of_getElem? (i := 54) rfl))) Via.refl e16q f20 (g := (mkF m 28 #[.val (.ref a), .val (.ref oe), .val (.ref a4), .val (.int (4 : Int32)), .val (.int (1 : Int32)), .val (.ref en1)] [(.ref en1)])) rfl rfl (hb hby d_prog_36_method_4_code_28)
  refine gs st21 ?_
  show OwnGo p e below s _ _ _ (T21.setTop (mkF m 31 #[.val (.ref a), .val (.ref oe), .val (.ref a4), .val (.int (4 : Int32)), .val (.int (1 : Int32)), .val (.ref en1)] [(.ref sn1)]))
  have c22 : ∀ tg, Steps p.tables e below (T21.setTop (mkF m 32 #[.val (.ref a), .val (.ref oe), .val (.ref a4), .val (.int (4 : Int32)), .val (.int (1 : Int32)), .val (.ref en1)] [(.ref a), (.ref sn1)])) tg → Steps p.tables e below (T21.setTop (mkF m 31 #[.val (.ref a), .val (.ref oe), .val (.ref a4), .val (.int (4 : Int32)), .val (.int (1 : Int32)), .val (.ref en1)] [(.ref sn1)])) tg := fun tg kg => by
    refine XS.aloadN X21.here hx rfl (hb hby d_prog_36_method_4_code_31) rfl rfl ?_
    show Steps p.tables e below (T21.setTop (mkF m 32 #[.val (.ref a), .val (.ref oe), .val (.ref a4), .val (.int (4 : Int32)), .val (.int (1 : Int32)), .val (.ref en1)] [(.ref a), (.ref sn1)])) tg
    exact kg
  refine gs c22 ?_
  have f23 := (((T_s1.ext O0.2).keep0 K1q).keep0 K4q)
  obtain ⟨cq24, kq24, q24a, q24b, q24c⟩ := isOf hZ e21 f23.exa
  obtain ⟨_, _, ⟨T24, L24, k24, n24⟩, -, X24, ⟨Lc24, hQ24, l24, y24, z24⟩, st24⟩ := X21.virtualBack hx (y := (⟨"java/lang/String", "equals", "(Ljava/lang/Object;)Z"⟩ : MethodName)) (z := (⟨"java/lang/String", "equals", "(Ljava/lang/Object;)Z"⟩ : MethodName)) hown (mvT hZ (hw _ (List.mem_of_getElem? (i := 56) rfl))) (mvT hZ (hw _ (List.mem_of_getElem? (i := 57) rfl))) (notFace_of_selects (args := #[]) (mvT hZ (hw _ (List.mem_of_getElem? (i := 59) rfl)))) (mvT hZ (hw _ (List.mem_of_getElem? (i := 59) rfl))) (mvT hZ (hw _ (List.mem_of_getElem? (i := 58) rfl))) (by decide) (own_eqB (W := 0) hZ hw f23 (by decide) (by decide) f15 hbd hl (S0.ext O5.2) hz (by decide) (by decide)) q24a q24c (g := (mkF m 32 #[.val (.ref a), .val (.ref oe), .val (.ref a4), .val (.int (4 : Int32)), .val (.int (1 : Int32)), .val (.ref en1)] [(.ref a), (.ref sn1)])) rfl (by rw [hml]; rfl) (Steps.refl _) (argsL := [(.ref a)]) (rest := []) (lenOf pd_114 rfl) rfl (by show 2 * 0 + _ ≤ _; exact Nat.le_of_eq rfl) (hb hby d_prog_36_method_4_code_32) (fun _ _ => ⟨rfl, e21, (by decide : 1 + 0 ≤ _), (by decide : 4 + 0 ≤ _)⟩)
  dsimp only [Pt.U, Pt.locs, Pt.cells, Pt.slots] at X24 l24 y24 z24 st24 hQ24
  subst l24 y24 z24
  replace hQ24 := (show _ ∧ _ ∧ _ from by rcases hQ24 with ⟨⟨u1, u2⟩ | ⟨u1, u2⟩, u3, u4⟩; exact absurd u2 q1; exact ⟨u1, u3, u4⟩)
  obtain ⟨rfl, rfl, e24q⟩ := hQ24
  have N24 := Fr.app N16 (Fr.nil n0)
  refine gs (fun _ k => st24.trans k) ?_
  show OwnGo p e below s _ _ _ (T24.setTop (mkF m 35 #[.val (.ref a), .val (.ref oe), .val (.ref a4), .val (.int (4 : Int32)), .val (.int (1 : Int32)), .val (.ref en1)] [(.int (0 : Int32))]))
  have c25 : ∀ tg, Steps p.tables e below (T24.setTop (mkF m 23 #[.val (.ref a), .val (.ref oe), .val (.ref a4), .val (.int (4 : Int32)), .val (.int (2 : Int32)), .val (.ref en1)] [(.int (2 : Int32)), (.ref a4)])) tg → Steps p.tables e below (T24.setTop (mkF m 35 #[.val (.ref a), .val (.ref oe), .val (.ref a4), .val (.int (4 : Int32)), .val (.int (1 : Int32)), .val (.ref en1)] [(.int (0 : Int32))])) tg := fun tg kg => by
    refine XS.ifYes X24.here hx rfl (pc0 := 35) (pc' := 44) rfl (hb hby d_prog_36_method_4_code_35) rfl ((if0 _ _).trans (teq (by decide : (0 : Int32) = (0 : Int32))).1) (by decide) (by decide) ?_
    show Steps p.tables e below (T24.setTop (mkF m 44 #[.val (.ref a), .val (.ref oe), .val (.ref a4), .val (.int (4 : Int32)), .val (.int (1 : Int32)), .val (.ref en1)] [])) tg
    refine XS.iinc X24.here hx rfl (hb hby d_prog_36_method_4_code_44) rfl (l' := #[.val (.ref a), .val (.ref oe), .val (.ref a4), .val (.int (4 : Int32)), .val (.int (2 : Int32)), .val (.ref en1)]) rfl ?_
    show Steps p.tables e below (T24.setTop (mkF m 47 #[.val (.ref a), .val (.ref oe), .val (.ref a4), .val (.int (4 : Int32)), .val (.int (2 : Int32)), .val (.ref en1)] [])) tg
    refine XS.goto X24.here hx rfl (pc0 := 47) (pc' := 14) rfl (hb hby d_prog_36_method_4_code_47) (by decide) (by decide) ?_
    show Steps p.tables e below (T24.setTop (mkF m 14 #[.val (.ref a), .val (.ref oe), .val (.ref a4), .val (.int (4 : Int32)), .val (.int (2 : Int32)), .val (.ref en1)] [])) tg
    refine XS.iload X24.here hx rfl (hb hby d_prog_36_method_4_code_14) rfl ?_
    show Steps p.tables e below (T24.setTop (mkF m 16 #[.val (.ref a), .val (.ref oe), .val (.ref a4), .val (.int (4 : Int32)), .val (.int (2 : Int32)), .val (.ref en1)] [(.int (2 : Int32))])) tg
    refine XS.iloadN X24.here hx rfl (hb hby d_prog_36_method_4_code_16) rfl ?_
    show Steps p.tables e below (T24.setTop (mkF m 17 #[.val (.ref a), .val (.ref oe), .val (.ref a4), .val (.int (4 : Int32)), .val (.int (2 : Int32)), .val (.ref en1)] [(.int (4 : Int32)), (.int (2 : Int32))])) tg
    refine XS.icmpNo X24.here hx rfl (hb hby d_prog_36_method_4_code_17) rfl (tlt (by decide : (2 : Int32) < (4 : Int32))).2.1 ?_
    show Steps p.tables e below (T24.setTop (mkF m 20 #[.val (.ref a), .val (.ref oe), .val (.ref a4), .val (.int (4 : Int32)), .val (.int (2 : Int32)), .val (.ref en1)] [])) tg
    refine XS.aloadN X24.here hx rfl (hb hby d_prog_36_method_4_code_20) rfl rfl ?_
    show Steps p.tables e below (T24.setTop (mkF m 21 #[.val (.ref a), .val (.ref oe), .val (.ref a4), .val (.int (4 : Int32)), .val (.int (2 : Int32)), .val (.ref en1)] [(.ref a4)])) tg
    refine XS.iload X24.here hx rfl (hb hby d_prog_36_method_4_code_21) rfl ?_
    show Steps p.tables e below (T24.setTop (mkF m 23 #[.val (.ref a), .val (.ref oe), .val (.ref a4), .val (.int (4 : Int32)), .val (.int (2 : Int32)), .val (.ref en1)] [(.int (2 : Int32)), (.ref a4)])) tg
    exact kg
  refine gs c25 ?_
  obtain ⟨cl26, A26, a26q, a26S, a26N, a26H, a26G⟩ := id V4q
  have hi26 := inb_of a26S (j := (2 : Int32)) ⟨by decide, by decide⟩
  have c27 : ∀ tg, Steps p.tables e below (T24.setTop (mkF m 28 #[.val (.ref a), .val (.ref oe), .val (.ref a4), .val (.int (4 : Int32)), .val (.int (2 : Int32)), .val (.ref en2)] [(.ref en2)])) tg → Steps p.tables e below (T24.setTop (mkF m 23 #[.val (.ref a), .val (.ref oe), .val (.ref a4), .val (.int (4 : Int32)), .val (.int (2 : Int32)), .val (.ref en1)] [(.int (2 : Int32)), (.ref a4)])) tg := fun tg kg => by
    refine X24.aaload hx (j := (2 : Int32)) (v := (.ref en2)) (by rw [e24q]; exact A26.1) (State.isArrayOf_alike hZ.alike A26.2.1) rfl A26.2.2 hi26 (Has.at a26H hi26 rfl) (g := (mkF m 23 #[.val (.ref a), .val (.ref oe), .val (.ref a4), .val (.int (4 : Int32)), .val (.int (2 : Int32)), .val (.ref en1)] [(.int (2 : Int32)), (.ref a4)])) rfl rfl (hb hby d_prog_36_method_4_code_23) _ ?_
    show Steps p.tables e below (T24.setTop (mkF m 24 #[.val (.ref a), .val (.ref oe), .val (.ref a4), .val (.int (4 : Int32)), .val (.int (2 : Int32)), .val (.ref en1)] [(.ref en2)])) tg
    refine XS.astore X24.here hx rfl (hb hby d_prog_36_method_4_code_24) rfl rfl (l' := #[.val (.ref a), .val (.ref oe), .val (.ref a4), .val (.int (4 : Int32)), .val (.int (2 : Int32)), .val (.ref en2)]) rfl ?_
    show Steps p.tables e below (T24.setTop (mkF m 26 #[.val (.ref a), .val (.ref oe), .val (.ref a4), .val (.int (4 : Int32)), .val (.int (2 : Int32)), .val (.ref en2)] [])) tg
    refine XS.aload X24.here hx rfl (hb hby d_prog_36_method_4_code_26) rfl rfl ?_
    show Steps p.tables e below (T24.setTop (mkF m 28 #[.val (.ref a), .val (.ref oe), .val (.ref a4), .val (.int (4 : Int32)), .val (.int (2 : Int32)), .val (.ref en2)] [(.ref en2)])) tg
    exact kg
  refine gs c27 ?_
  have f28 := (((F_e2.ext O0.2).keep K1q nin0).keep K4q nin0)
  obtain ⟨T29, X29, e29, st29⟩ := getF X24 hx hZ hown (host := "") (Or.inl (hw _ (List.mem_of_getElem? (i := 54) rfl))) Via.refl e24q f28 (g := (mkF m 28 #[.val (.ref a), .val (.ref oe), .val (.ref a4), .val (.int (4 : Int32)), .val (.int (2 : Int32)), .val (.ref en2)] [(.ref en2)])) rfl rfl (hb hby d_prog_36_method_4_code_28)
  refine gs st29 ?_
  show OwnGo p e below s _ _ _ (T29.setTop (mkF m 31 #[.val (.ref a), .val (.ref oe), .val (.ref a4), .val (.int (4 : Int32)), .val (.int (2 : Int32)), .val (.ref en2)] [(.ref sn2)]))
  have c30 : ∀ tg, Steps p.tables e below (T29.setTop (mkF m 32 #[.val (.ref a), .val (.ref oe), .val (.ref a4), .val (.int (4 : Int32)), .val (.int (2 : Int32)), .val (.ref en2)] [(.ref a), (.ref sn2)])) tg → Steps p.tables e below (T29.setTop (mkF m 31 #[.val (.ref a), .val (.ref oe), .val (.ref a4), .val (.int (4 : Int32)), .val (.int (2 : Int32)), .val (.ref en2)] [(.ref sn2)])) tg := fun tg kg => by
    refine XS.aloadN X29.here hx rfl (hb hby d_prog_36_method_4_code_31) rfl rfl ?_
    show Steps p.tables e below (T29.setTop (mkF m 32 #[.val (.ref a), .val (.ref oe), .val (.ref a4), .val (.int (4 : Int32)), .val (.int (2 : Int32)), .val (.ref en2)] [(.ref a), (.ref sn2)])) tg
    exact kg
  refine gs c30 ?_
  have f31 := (((T_s2.ext O0.2).keep0 K1q).keep0 K4q)
  obtain ⟨cq32, kq32, q32a, q32b, q32c⟩ := isOf hZ e29 f31.exa
  obtain ⟨_, _, ⟨T32, L32, k32, n32⟩, -, X32, ⟨Lc32, hQ32, l32, y32, z32⟩, st32⟩ := X29.virtualBack hx (y := (⟨"java/lang/String", "equals", "(Ljava/lang/Object;)Z"⟩ : MethodName)) (z := (⟨"java/lang/String", "equals", "(Ljava/lang/Object;)Z"⟩ : MethodName)) hown (mvT hZ (hw _ (List.mem_of_getElem? (i := 56) rfl))) (mvT hZ (hw _ (List.mem_of_getElem? (i := 57) rfl))) (notFace_of_selects (args := #[]) (mvT hZ (hw _ (List.mem_of_getElem? (i := 59) rfl)))) (mvT hZ (hw _ (List.mem_of_getElem? (i := 59) rfl))) (mvT hZ (hw _ (List.mem_of_getElem? (i := 58) rfl))) (by decide) (own_eqB (W := 0) hZ hw f31 (by decide) (by decide) f15 hbd hl (S0.ext O5.2) hz (by decide) (by decide)) q32a q32c (g := (mkF m 32 #[.val (.ref a), .val (.ref oe), .val (.ref a4), .val (.int (4 : Int32)), .val (.int (2 : Int32)), .val (.ref en2)] [(.ref a), (.ref sn2)])) rfl (by rw [hml]; rfl) (Steps.refl _) (argsL := [(.ref a)]) (rest := []) (lenOf pd_114 rfl) rfl (by show 2 * 0 + _ ≤ _; exact Nat.le_of_eq rfl) (hb hby d_prog_36_method_4_code_32) (fun _ _ => ⟨rfl, e29, (by decide : 1 + 0 ≤ _), (by decide : 4 + 0 ≤ _)⟩)
  dsimp only [Pt.U, Pt.locs, Pt.cells, Pt.slots] at X32 l32 y32 z32 st32 hQ32
  subst l32 y32 z32
  replace hQ32 := (show _ ∧ _ ∧ _ from by rcases hQ32 with ⟨⟨u1, u2⟩ | ⟨u1, u2⟩, u3, u4⟩; exact absurd u2 q2; exact ⟨u1, u3, u4⟩)
  obtain ⟨rfl, rfl, e32q⟩ := hQ32
  have N32 := Fr.app N24 (Fr.nil n0)
  refine gs (fun _ k => st32.trans k) ?_
  show OwnGo p e below s _ _ _ (T32.setTop (mkF m 35 #[.val (.ref a), .val (.ref oe), .val (.ref a4), .val (.int (4 : Int32)), .val (.int (2 : Int32)), .val (.ref en2)] [(.int (0 : Int32))]))
  have c33 : ∀ tg, Steps p.tables e below (T32.setTop (mkF m 23 #[.val (.ref a), .val (.ref oe), .val (.ref a4), .val (.int (4 : Int32)), .val (.int (3 : Int32)), .val (.ref en2)] [(.int (3 : Int32)), (.ref a4)])) tg → Steps p.tables e below (T32.setTop (mkF m 35 #[.val (.ref a), .val (.ref oe), .val (.ref a4), .val (.int (4 : Int32)), .val (.int (2 : Int32)), .val (.ref en2)] [(.int (0 : Int32))])) tg := fun tg kg => by
    refine XS.ifYes X32.here hx rfl (pc0 := 35) (pc' := 44) rfl (hb hby d_prog_36_method_4_code_35) rfl ((if0 _ _).trans (teq (by decide : (0 : Int32) = (0 : Int32))).1) (by decide) (by decide) ?_
    show Steps p.tables e below (T32.setTop (mkF m 44 #[.val (.ref a), .val (.ref oe), .val (.ref a4), .val (.int (4 : Int32)), .val (.int (2 : Int32)), .val (.ref en2)] [])) tg
    refine XS.iinc X32.here hx rfl (hb hby d_prog_36_method_4_code_44) rfl (l' := #[.val (.ref a), .val (.ref oe), .val (.ref a4), .val (.int (4 : Int32)), .val (.int (3 : Int32)), .val (.ref en2)]) rfl ?_
    show Steps p.tables e below (T32.setTop (mkF m 47 #[.val (.ref a), .val (.ref oe), .val (.ref a4), .val (.int (4 : Int32)), .val (.int (3 : Int32)), .val (.ref en2)] [])) tg
    refine XS.goto X32.here hx rfl (pc0 := 47) (pc' := 14) rfl (hb hby d_prog_36_method_4_code_47) (by decide) (by decide) ?_
    show Steps p.tables e below (T32.setTop (mkF m 14 #[.val (.ref a), .val (.ref oe), .val (.ref a4), .val (.int (4 : Int32)), .val (.int (3 : Int32)), .val (.ref en2)] [])) tg
    refine XS.iload X32.here hx rfl (hb hby d_prog_36_method_4_code_14) rfl ?_
    show Steps p.tables e below (T32.setTop (mkF m 16 #[.val (.ref a), .val (.ref oe), .val (.ref a4), .val (.int (4 : Int32)), .val (.int (3 : Int32)), .val (.ref en2)] [(.int (3 : Int32))])) tg
    refine XS.iloadN X32.here hx rfl (hb hby d_prog_36_method_4_code_16) rfl ?_
    show Steps p.tables e below (T32.setTop (mkF m 17 #[.val (.ref a), .val (.ref oe), .val (.ref a4), .val (.int (4 : Int32)), .val (.int (3 : Int32)), .val (.ref en2)] [(.int (4 : Int32)), (.int (3 : Int32))])) tg
    refine XS.icmpNo X32.here hx rfl (hb hby d_prog_36_method_4_code_17) rfl (tlt (by decide : (3 : Int32) < (4 : Int32))).2.1 ?_
    show Steps p.tables e below (T32.setTop (mkF m 20 #[.val (.ref a), .val (.ref oe), .val (.ref a4), .val (.int (4 : Int32)), .val (.int (3 : Int32)), .val (.ref en2)] [])) tg
    refine XS.aloadN X32.here hx rfl (hb hby d_prog_36_method_4_code_20) rfl rfl ?_
    show Steps p.tables e below (T32.setTop (mkF m 21 #[.val (.ref a), .val (.ref oe), .val (.ref a4), .val (.int (4 : Int32)), .val (.int (3 : Int32)), .val (.ref en2)] [(.ref a4)])) tg
    refine XS.iload X32.here hx rfl (hb hby d_prog_36_method_4_code_21) rfl ?_
    show Steps p.tables e below (T32.setTop (mkF m 23 #[.val (.ref a), .val (.ref oe), .val (.ref a4), .val (.int (4 : Int32)), .val (.int (3 : Int32)), .val (.ref en2)] [(.int (3 : Int32)), (.ref a4)])) tg
    exact kg
  refine gs c33 ?_
  obtain ⟨cl34, A34, a34q, a34S, a34N, a34H, a34G⟩ := id V4q
  have hi34 := inb_of a34S (j := (3 : Int32)) ⟨by decide, by decide⟩
  have c35 : ∀ tg, Steps p.tables e below (T32.setTop (mkF m 28 #[.val (.ref a), .val (.ref oe), .val (.ref a4), .val (.int (4 : Int32)), .val (.int (3 : Int32)), .val (.ref en3)] [(.ref en3)])) tg → Steps p.tables e below (T32.setTop (mkF m 23 #[.val (.ref a), .val (.ref oe), .val (.ref a4), .val (.int (4 : Int32)), .val (.int (3 : Int32)), .val (.ref en2)] [(.int (3 : Int32)), (.ref a4)])) tg := fun tg kg => by
    refine X32.aaload hx (j := (3 : Int32)) (v := (.ref en3)) (by rw [e32q]; exact A34.1) (State.isArrayOf_alike hZ.alike A34.2.1) rfl A34.2.2 hi34 (Has.at a34H hi34 rfl) (g := (mkF m 23 #[.val (.ref a), .val (.ref oe), .val (.ref a4), .val (.int (4 : Int32)), .val (.int (3 : Int32)), .val (.ref en2)] [(.int (3 : Int32)), (.ref a4)])) rfl rfl (hb hby d_prog_36_method_4_code_23) _ ?_
    show Steps p.tables e below (T32.setTop (mkF m 24 #[.val (.ref a), .val (.ref oe), .val (.ref a4), .val (.int (4 : Int32)), .val (.int (3 : Int32)), .val (.ref en2)] [(.ref en3)])) tg
    refine XS.astore X32.here hx rfl (hb hby d_prog_36_method_4_code_24) rfl rfl (l' := #[.val (.ref a), .val (.ref oe), .val (.ref a4), .val (.int (4 : Int32)), .val (.int (3 : Int32)), .val (.ref en3)]) rfl ?_
    show Steps p.tables e below (T32.setTop (mkF m 26 #[.val (.ref a), .val (.ref oe), .val (.ref a4), .val (.int (4 : Int32)), .val (.int (3 : Int32)), .val (.ref en3)] [])) tg
    refine XS.aload X32.here hx rfl (hb hby d_prog_36_method_4_code_26) rfl rfl ?_
    show Steps p.tables e below (T32.setTop (mkF m 28 #[.val (.ref a), .val (.ref oe), .val (.ref a4), .val (.int (4 : Int32)), .val (.int (3 : Int32)), .val (.ref en3)] [(.ref en3)])) tg
    exact kg
  refine gs c35 ?_
  have f36 := (((F_e3.ext O0.2).keep K1q nin0).keep K4q nin0)
  obtain ⟨T37, X37, e37, st37⟩ := getF X32 hx hZ hown (host := "") (Or.inl (hw _ (List.mem_of_getElem? (i := 54) rfl))) Via.refl e32q f36 (g := (mkF m 28 #[.val (.ref a), .val (.ref oe), .val (.ref a4), .val (.int (4 : Int32)), .val (.int (3 : Int32)), .val (.ref en3)] [(.ref en3)])) rfl rfl (hb hby d_prog_36_method_4_code_28)
  refine gs st37 ?_
  show OwnGo p e below s _ _ _ (T37.setTop (mkF m 31 #[.val (.ref a), .val (.ref oe), .val (.ref a4), .val (.int (4 : Int32)), .val (.int (3 : Int32)), .val (.ref en3)] [(.ref sn3)]))
  have c38 : ∀ tg, Steps p.tables e below (T37.setTop (mkF m 32 #[.val (.ref a), .val (.ref oe), .val (.ref a4), .val (.int (4 : Int32)), .val (.int (3 : Int32)), .val (.ref en3)] [(.ref a), (.ref sn3)])) tg → Steps p.tables e below (T37.setTop (mkF m 31 #[.val (.ref a), .val (.ref oe), .val (.ref a4), .val (.int (4 : Int32)), .val (.int (3 : Int32)), .val (.ref en3)] [(.ref sn3)])) tg := fun tg kg => by
    refine XS.aloadN X37.here hx rfl (hb hby d_prog_36_method_4_code_31) rfl rfl ?_
    show Steps p.tables e below (T37.setTop (mkF m 32 #[.val (.ref a), .val (.ref oe), .val (.ref a4), .val (.int (4 : Int32)), .val (.int (3 : Int32)), .val (.ref en3)] [(.ref a), (.ref sn3)])) tg
    exact kg
  refine gs c38 ?_
  have f39 := (((T_s3.ext O0.2).keep0 K1q).keep0 K4q)
  obtain ⟨cq40, kq40, q40a, q40b, q40c⟩ := isOf hZ e37 f39.exa
  obtain ⟨_, _, ⟨T40, L40, k40, n40⟩, -, X40, ⟨Lc40, hQ40, l40, y40, z40⟩, st40⟩ := X37.virtualBack hx (y := (⟨"java/lang/String", "equals", "(Ljava/lang/Object;)Z"⟩ : MethodName)) (z := (⟨"java/lang/String", "equals", "(Ljava/lang/Object;)Z"⟩ : MethodName)) hown (mvT hZ (hw _ (List.mem_of_getElem? (i := 56) rfl))) (mvT hZ (hw _ (List.mem_of_getElem? (i := 57) rfl))) (notFace_of_selects (args := #[]) (mvT hZ (hw _ (List.mem_of_getElem? (i := 59) rfl)))) (mvT hZ (hw _ (List.mem_of_getElem? (i := 59) rfl))) (mvT hZ (hw _ (List.mem_of_getElem? (i := 58) rfl))) (by decide) (own_eqB (W := 0) hZ hw f39 (by decide) (by decide) f15 hbd hl (S0.ext O5.2) hz (by decide) (by decide)) q40a q40c (g := (mkF m 32 #[.val (.ref a), .val (.ref oe), .val (.ref a4), .val (.int (4 : Int32)), .val (.int (3 : Int32)), .val (.ref en3)] [(.ref a), (.ref sn3)])) rfl (by rw [hml]; rfl) (Steps.refl _) (argsL := [(.ref a)]) (rest := []) (lenOf pd_114 rfl) rfl (by show 2 * 0 + _ ≤ _; exact Nat.le_of_eq rfl) (hb hby d_prog_36_method_4_code_32) (fun _ _ => ⟨rfl, e37, (by decide : 1 + 0 ≤ _), (by decide : 4 + 0 ≤ _)⟩)
  dsimp only [Pt.U, Pt.locs, Pt.cells, Pt.slots] at X40 l40 y40 z40 st40 hQ40
  subst l40 y40 z40
  replace hQ40 := (show _ ∧ _ ∧ _ from by rcases hQ40 with ⟨⟨u1, u2⟩ | ⟨u1, u2⟩, u3, u4⟩; exact absurd u2 q3; exact ⟨u1, u3, u4⟩)
  obtain ⟨rfl, rfl, e40q⟩ := hQ40
  have N40 := Fr.app N32 (Fr.nil n0)
  refine gs (fun _ k => st40.trans k) ?_
  show OwnGo p e below s _ _ _ (T40.setTop (mkF m 35 #[.val (.ref a), .val (.ref oe), .val (.ref a4), .val (.int (4 : Int32)), .val (.int (3 : Int32)), .val (.ref en3)] [(.int (0 : Int32))]))
  have c41 : ∀ tg, Steps p.tables e below (T40.setTop (mkF m 51 #[.val (.ref a), .val (.ref oe), .val (.ref a4), .val (.int (4 : Int32)), .val (.int (4 : Int32)), .val (.ref en3)] [(.ref oe)])) tg → Steps p.tables e below (T40.setTop (mkF m 35 #[.val (.ref a), .val (.ref oe), .val (.ref a4), .val (.int (4 : Int32)), .val (.int (3 : Int32)), .val (.ref en3)] [(.int (0 : Int32))])) tg := fun tg kg => by
    refine XS.ifYes X40.here hx rfl (pc0 := 35) (pc' := 44) rfl (hb hby d_prog_36_method_4_code_35) rfl ((if0 _ _).trans (teq (by decide : (0 : Int32) = (0 : Int32))).1) (by decide) (by decide) ?_
    show Steps p.tables e below (T40.setTop (mkF m 44 #[.val (.ref a), .val (.ref oe), .val (.ref a4), .val (.int (4 : Int32)), .val (.int (3 : Int32)), .val (.ref en3)] [])) tg
    refine XS.iinc X40.here hx rfl (hb hby d_prog_36_method_4_code_44) rfl (l' := #[.val (.ref a), .val (.ref oe), .val (.ref a4), .val (.int (4 : Int32)), .val (.int (4 : Int32)), .val (.ref en3)]) rfl ?_
    show Steps p.tables e below (T40.setTop (mkF m 47 #[.val (.ref a), .val (.ref oe), .val (.ref a4), .val (.int (4 : Int32)), .val (.int (4 : Int32)), .val (.ref en3)] [])) tg
    refine XS.goto X40.here hx rfl (pc0 := 47) (pc' := 14) rfl (hb hby d_prog_36_method_4_code_47) (by decide) (by decide) ?_
    show Steps p.tables e below (T40.setTop (mkF m 14 #[.val (.ref a), .val (.ref oe), .val (.ref a4), .val (.int (4 : Int32)), .val (.int (4 : Int32)), .val (.ref en3)] [])) tg
    refine XS.iload X40.here hx rfl (hb hby d_prog_36_method_4_code_14) rfl ?_
    show Steps p.tables e below (T40.setTop (mkF m 16 #[.val (.ref a), .val (.ref oe), .val (.ref a4), .val (.int (4 : Int32)), .val (.int (4 : Int32)), .val (.ref en3)] [(.int (4 : Int32))])) tg
    refine XS.iloadN X40.here hx rfl (hb hby d_prog_36_method_4_code_16) rfl ?_
    show Steps p.tables e below (T40.setTop (mkF m 17 #[.val (.ref a), .val (.ref oe), .val (.ref a4), .val (.int (4 : Int32)), .val (.int (4 : Int32)), .val (.ref en3)] [(.int (4 : Int32)), (.int (4 : Int32))])) tg
    refine XS.icmpYes X40.here hx rfl (pc0 := 17) (pc' := 50) rfl (hb hby d_prog_36_method_4_code_17) rfl (flt (by decide : ¬ ((4 : Int32) < (4 : Int32)))).2.1 (by decide) (by decide) ?_
    show Steps p.tables e below (T40.setTop (mkF m 50 #[.val (.ref a), .val (.ref oe), .val (.ref a4), .val (.int (4 : Int32)), .val (.int (4 : Int32)), .val (.ref en3)] [])) tg
    refine XS.aloadN X40.here hx rfl (hb hby d_prog_36_method_4_code_50) rfl rfl ?_
    show Steps p.tables e below (T40.setTop (mkF m 51 #[.val (.ref a), .val (.ref oe), .val (.ref a4), .val (.int (4 : Int32)), .val (.int (4 : Int32)), .val (.ref en3)] [(.ref oe)])) tg
    exact kg
  refine gs c41 ?_
  refine gout (v := some (.ref oe)) X40 Bd.notSynchronized (fun h => by rw [Bd.returns] at h; cases h) (by decide) (by decide) ?_ (fun fs hr => retOut X40 hx Bd.returns rfl (Or.inr (Or.inr (Or.inr (Or.inr ⟨rfl, rfl, rfl⟩)))) (hb hby d_prog_36_method_4_code_51) hr)
  rw [e40q]
  exact ⟨rfl, N40, K5⟩
theorem ef_128 (m : MethodId) (x0 : Addr) : entryFrame m #[(.ref x0), .null] 2 = mkF m 0 #[.val (.ref x0), .val .null] [] := by first | (simp [entryFrame, mkF, argsToLocals, Value.category]; done) | rfl
theorem d_jdk_32_method_15_code_0 : decode jdk_32_method_15_code 0 = .ok (.aload_n 0, 1) := by decide +kernel
theorem d_jdk_32_method_15_code_1 : decode jdk_32_method_15_code 1 = .ok (.getfield 13, 3) := by decide +kernel
theorem d_jdk_32_method_15_code_4 : decode jdk_32_method_15_code 4 = .ok (.ifnull 10, 3) := by decide +kernel
theorem d_jdk_32_method_15_code_7 : decode jdk_32_method_15_code 7 = .ok (.aload_n 0, 1) := by decide +kernel
theorem d_jdk_32_method_15_code_8 : decode jdk_32_method_15_code 8 = .ok (.getfield 13, 3) := by decide +kernel
theorem d_jdk_32_method_15_code_11 : decode jdk_32_method_15_code 11 = .ok (.goto 4, 3) := by decide +kernel
theorem d_jdk_32_method_15_code_15 : decode jdk_32_method_15_code 15 = .ok (.areturn, 1) := by decide +kernel
set_option maxRecDepth 65536 in
set_option maxHeartbeats 40000000 in
theorem rm_or_ref (l : Launch) (Z : State) (a0 : Array Value) (hw : ∀ d ∈ tables_1, d.before a0 Z = true) (ws : List Jvm.Cond) (a : Addr) (x : Addr) (h0 : Heap) (n0 : Nat) (Z0 : n0 ≤ h0.size) (O0 : Old Z n0 h0) (F_v : Fld Z h0 a "java/util/Optional" "value" "Ljava/lang/Object;" (.ref x)) :
    Ctr l Z (⟨"java/util/Optional", "orElse", "(Ljava/lang/Object;)Ljava/lang/Object;"⟩ : MethodName) jdk_32_method_15_code 2 ((Option.some (Jvm.ClassFile.FieldType.object "java/lang/Object"))) ws ({ frames := 0, cells := 0, slots := 0, locals := 0 } : Room) #[(.ref a), .null] h0 (fun v h L => v = some (.ref x) ∧ Fr n0 L ∧ Keep h0 h []) := by
  refine Ctr.of (MetFree.of_bodySF (plainFor_of_name pn_62) hisR ?_)
  intro p e s m args below meth c s₁ Bd hml0 hP hK
  obtain ⟨rfl, hZ, hh⟩ := hP
  have hx := Bd.exec
  have hby := Bd.bytes
  have hml : c.maxLocals = 2 := hml0
  have hown : s.vm.findClass "java/util/Optional" = some m.cls := findClass_of_methodNamed Bd.named
  have hnm := (name_of_methodNamed Bd.named Bd.method).1
  have X0 : Stand p l e ({ frames := 0, cells := 0, slots := 0, locals := 0 } : Room) s m #[(.ref a), .null] below meth c s₁ [] 0 0 := Stand.of_body Bd
  have e0 : s₁.heap = h0 := by rw [← hh, Bd.state]; rfl
  have N0 := Fr.nil n0
  have K0 : Keep h0 h0 [] := Keep.refl h0 []
  show OwnGo p e below s (fun v h L => v = some (.ref x) ∧ Fr n0 L ∧ Keep h0 h []) ({ frames := 0, cells := 0, slots := 0, locals := 0 } : Room).cells ({ frames := 0, cells := 0, slots := 0, locals := 0 } : Room).slots _
  refine gs (S' := s₁.setTop (mkF m 0 #[.val (.ref a), .val .null] [])) (fun tg kg => castTop (ef_128 m a) kg) ?_
  have c1 : ∀ tg, Steps p.tables e below (s₁.setTop (mkF m 1 #[.val (.ref a), .val .null] [(.ref a)])) tg → Steps p.tables e below (s₁.setTop (mkF m 0 #[.val (.ref a), .val .null] [])) tg := fun tg kg => by
    refine XS.aloadN X0.here hx rfl (hb hby d_jdk_32_method_15_code_0) rfl rfl ?_
    show Steps p.tables e below (s₁.setTop (mkF m 1 #[.val (.ref a), .val .null] [(.ref a)])) tg
    exact kg
  refine gs c1 ?_
  obtain ⟨T2, X2, e2, st2⟩ := getF X0 hx hZ hown (host := "") (Or.inl (hw _ (List.mem_of_getElem? (i := 72) rfl))) Via.refl e0 F_v (g := (mkF m 1 #[.val (.ref a), .val .null] [(.ref a)])) rfl rfl (hb hby d_jdk_32_method_15_code_1)
  refine gs st2 ?_
  show OwnGo p e below s _ _ _ (T2.setTop (mkF m 4 #[.val (.ref a), .val .null] [(.ref x)]))
  have c3 : ∀ tg, Steps p.tables e below (T2.setTop (mkF m 8 #[.val (.ref a), .val .null] [(.ref a)])) tg → Steps p.tables e below (T2.setTop (mkF m 4 #[.val (.ref a), .val .null] [(.ref x)])) tg := fun tg kg => by
    refine XS.ifnullNo X2.here hx rfl (hb hby d_jdk_32_method_15_code_4) rfl ?_
    show Steps p.tables e below (T2.setTop (mkF m 7 #[.val (.ref a), .val .null] [])) tg
    refine XS.aloadN X2.here hx rfl (hb hby d_jdk_32_method_15_code_7) rfl rfl ?_
    show Steps p.tables e below (T2.setTop (mkF m 8 #[.val (.ref a), .val .null] [(.ref a)])) tg
    exact kg
  refine gs c3 ?_
  obtain ⟨T4, X4, e4, st4⟩ := getF X2 hx hZ hown (host := "") (Or.inl (hw _ (List.mem_of_getElem? (i := 72) rfl))) Via.refl e2 F_v (g := (mkF m 8 #[.val (.ref a), .val .null] [(.ref a)])) rfl rfl (hb hby d_jdk_32_method_15_code_8)
  refine gs st4 ?_
  show OwnGo p e below s _ _ _ (T4.setTop (mkF m 11 #[.val (.ref a), .val .null] [(.ref x)]))
  have c5 : ∀ tg, Steps p.tables e below (T4.setTop (mkF m 15 #[.val (.ref a), .val .null] [(.ref x)])) tg → Steps p.tables e below (T4.setTop (mkF m 11 #[.val (.ref a), .val .null] [(.ref x)])) tg := fun tg kg => by
    refine XS.goto X4.here hx rfl (pc0 := 11) (pc' := 15) rfl (hb hby d_jdk_32_method_15_code_11) (by decide) (by decide) ?_
    show Steps p.tables e below (T4.setTop (mkF m 15 #[.val (.ref a), .val .null] [(.ref x)])) tg
    exact kg
  refine gs c5 ?_
  refine gout (v := some (.ref x)) X4 Bd.notSynchronized (fun h => by rw [Bd.returns] at h; cases h) (by decide) (by decide) ?_ (fun fs hr => retOut X4 hx Bd.returns rfl (Or.inr (Or.inr (Or.inr (Or.inr ⟨rfl, rfl, rfl⟩)))) (hb hby d_jdk_32_method_15_code_15) hr)
  rw [e4]
  exact ⟨rfl, N0, K0⟩
theorem ef_136 (m : MethodId) (x0 : Addr) : entryFrame m #[(.ref x0), .null] 2 = mkF m 0 #[.val (.ref x0), .val .null] [] := by first | (simp [entryFrame, mkF, argsToLocals, Value.category]; done) | rfl
theorem d_jdk_32_method_15_code_14 : decode jdk_32_method_15_code 14 = .ok (.aload_n 1, 1) := by decide +kernel
set_option maxRecDepth 65536 in
set_option maxHeartbeats 40000000 in
theorem rm_or_null (l : Launch) (Z : State) (a0 : Array Value) (hw : ∀ d ∈ tables_1, d.before a0 Z = true) (ws : List Jvm.Cond) (a : Addr) (h0 : Heap) (n0 : Nat) (Z0 : n0 ≤ h0.size) (O0 : Old Z n0 h0) (F_v : Fld Z h0 a "java/util/Optional" "value" "Ljava/lang/Object;" .null) :
    Ctr l Z (⟨"java/util/Optional", "orElse", "(Ljava/lang/Object;)Ljava/lang/Object;"⟩ : MethodName) jdk_32_method_15_code 2 ((Option.some (Jvm.ClassFile.FieldType.object "java/lang/Object"))) ws ({ frames := 0, cells := 0, slots := 0, locals := 0 } : Room) #[(.ref a), .null] h0 (fun v h L => v = some .null ∧ Fr n0 L ∧ Keep h0 h []) := by
  refine Ctr.of (MetFree.of_bodySF (plainFor_of_name pn_62) hisR ?_)
  intro p e s m args below meth c s₁ Bd hml0 hP hK
  obtain ⟨rfl, hZ, hh⟩ := hP
  have hx := Bd.exec
  have hby := Bd.bytes
  have hml : c.maxLocals = 2 := hml0
  have hown : s.vm.findClass "java/util/Optional" = some m.cls := findClass_of_methodNamed Bd.named
  have hnm := (name_of_methodNamed Bd.named Bd.method).1
  have X0 : Stand p l e ({ frames := 0, cells := 0, slots := 0, locals := 0 } : Room) s m #[(.ref a), .null] below meth c s₁ [] 0 0 := Stand.of_body Bd
  have e0 : s₁.heap = h0 := by rw [← hh, Bd.state]; rfl
  have N0 := Fr.nil n0
  have K0 : Keep h0 h0 [] := Keep.refl h0 []
  show OwnGo p e below s (fun v h L => v = some .null ∧ Fr n0 L ∧ Keep h0 h []) ({ frames := 0, cells := 0, slots := 0, locals := 0 } : Room).cells ({ frames := 0, cells := 0, slots := 0, locals := 0 } : Room).slots _
  refine gs (S' := s₁.setTop (mkF m 0 #[.val (.ref a), .val .null] [])) (fun tg kg => castTop (ef_136 m a) kg) ?_
  have c1 : ∀ tg, Steps p.tables e below (s₁.setTop (mkF m 1 #[.val (.ref a), .val .null] [(.ref a)])) tg → Steps p.tables e below (s₁.setTop (mkF m 0 #[.val (.ref a), .val .null] [])) tg := fun tg kg => by
    refine XS.aloadN X0.here hx rfl (hb hby d_jdk_32_method_15_code_0) rfl rfl ?_
    show Steps p.tables e below (s₁.setTop (mkF m 1 #[.val (.ref a), .val .null] [(.ref a)])) tg
    exact kg
  refine gs c1 ?_
  obtain ⟨T2, X2, e2, st2⟩ := getF X0 hx hZ hown (host := "") (Or.inl (hw _ (List.mem_of_getElem? (i := 72) rfl))) Via.refl e0 F_v (g := (mkF m 1 #[.val (.ref a), .val .null] [(.ref a)])) rfl rfl (hb hby d_jdk_32_method_15_code_1)
  refine gs st2 ?_
  show OwnGo p e below s _ _ _ (T2.setTop (mkF m 4 #[.val (.ref a), .val .null] [.null]))
  have c3 : ∀ tg, Steps p.tables e below (T2.setTop (mkF m 15 #[.val (.ref a), .val .null] [.null])) tg → Steps p.tables e below (T2.setTop (mkF m 4 #[.val (.ref a), .val .null] [.null])) tg := fun tg kg => by
    refine XS.ifnullYes X2.here hx rfl (pc0 := 4) (pc' := 14) rfl (hb hby d_jdk_32_method_15_code_4) rfl (by decide) (by decide) ?_
    show Steps p.tables e below (T2.setTop (mkF m 14 #[.val (.ref a), .val .null] [])) tg
    refine XS.aloadN X2.here hx rfl (hb hby d_jdk_32_method_15_code_14) rfl rfl ?_
    show Steps p.tables e below (T2.setTop (mkF m 15 #[.val (.ref a), .val .null] [.null])) tg
    exact kg
  refine gs c3 ?_
  refine gout (v := some .null) X2 Bd.notSynchronized (fun h => by rw [Bd.returns] at h; cases h) (by decide) (by decide) ?_ (fun fs hr => retOut X2 hx Bd.returns rfl (Or.inr (Or.inr (Or.inr (Or.inr ⟨rfl, rfl, rfl⟩)))) (hb hby d_jdk_32_method_15_code_15) hr)
  rw [e2]
  exact ⟨rfl, N0, K0⟩
theorem ef_138 (m : MethodId) (x0 : Int32) (x1 : Int32) (x2 : Int32) (x3 : Int32) : entryFrame m #[(.int x0), (.int x1), (.int x2), (.int x3)] maxLocals = mkF m 0 #[.val (.int x0), .val (.int x1), .val (.int x2), .val (.int x3), .unset, .unset, .unset, .unset, .unset, .unset, .unset, .unset] [] := by first | (simp [entryFrame, mkF, argsToLocals, Value.category, maxLocals]; done) | rfl
theorem pd_139 : parseMethodDescriptor "(I)C" = some ⟨[.int], some .char⟩ := by decide +kernel
theorem pd_140 : parseMethodDescriptor "([C)V" = some ⟨[(.array .char)], none⟩ := by decide +kernel
theorem pd_141 : parseMethodDescriptor "(Ljava/lang/String;)Ljava/util/Optional;" = some ⟨[(.object "java/lang/String")], some (.object "java/util/Optional")⟩ := by decide +kernel
set_option maxRecDepth 65536 in
set_option maxHeartbeats 40000000 in
theorem rm_law (l : Launch) (Z : State) (a0 : Array Value) (hw : ∀ d ∈ tables_1, d.before a0 Z = true) (ws : List Jvm.Cond) (i0 : Int32) (i1 : Int32) (i2 : Int32) (i3 : Int32) (z : Int32) (oe : Addr) (va : Addr) (kv : ClassId) (en0 : Addr) (en1 : Addr) (en2 : Addr) (en3 : Addr) (sn0 : Addr) (sn1 : Addr) (sn2 : Addr) (sn3 : Addr) (h0 : Heap) (n0 : Nat) (Z0 : n0 ≤ h0.size) (O0 : Old Z n0 h0) (S0 : Sta Z Z.heap "java/lang/String" "COMPACT_STRINGS" "Z" (.int z)) (hz : ¬ z = 0) (S_oe : Sta Z Z.heap "java/util/Optional" "EMPTY" "Ljava/util/Optional;" (.ref oe)) (E_oe : Exa Z Z.heap oe "java/util/Optional") (F_oe : Fld Z Z.heap oe "java/util/Optional" "value" "Ljava/lang/Object;" .null) (S_va : Sta Z Z.heap "com/example/tranche/tranche/terms/Comparison" "$VALUES" "[Lcom/example/tranche/tranche/terms/Comparison;" (.ref va)) (V_va : Arv Z Z.heap va kv (.object "com/example/tranche/tranche/terms/Comparison") (4 : Int32) [(.ref en0), (.ref en1), (.ref en2), (.ref en3)] .null) (E_va : Exa Z Z.heap va "[Lcom/example/tranche/tranche/terms/Comparison;") (F_e0 : Fld Z Z.heap en0 "com/example/tranche/tranche/terms/Comparison" "written" "Ljava/lang/String;" (.ref sn0)) (F_e1 : Fld Z Z.heap en1 "com/example/tranche/tranche/terms/Comparison" "written" "Ljava/lang/String;" (.ref sn1)) (F_e2 : Fld Z Z.heap en2 "com/example/tranche/tranche/terms/Comparison" "written" "Ljava/lang/String;" (.ref sn2)) (F_e3 : Fld Z Z.heap en3 "com/example/tranche/tranche/terms/Comparison" "written" "Ljava/lang/String;" (.ref sn3)) (T_s0 : Str Z Z.heap sn0 ([60] : List Int32)) (T_s1 : Str Z Z.heap sn1 ([60, 61] : List Int32)) (T_s2 : Str Z Z.heap sn2 ([62] : List Int32)) (T_s3 : Str Z Z.heap sn3 ([62, 61] : List Int32)) (S_e0 : Sta Z Z.heap "com/example/tranche/tranche/terms/Comparison" "BELOW" "Lcom/example/tranche/tranche/terms/Comparison;" (.ref en0)) (S_e1 : Sta Z Z.heap "com/example/tranche/tranche/terms/Comparison" "AT_MOST" "Lcom/example/tranche/tranche/terms/Comparison;" (.ref en1)) (S_e2 : Sta Z Z.heap "com/example/tranche/tranche/terms/Comparison" "ABOVE" "Lcom/example/tranche/tranche/terms/Comparison;" (.ref en2)) (S_e3 : Sta Z Z.heap "com/example/tranche/tranche/terms/Comparison" "AT_LEAST" "Lcom/example/tranche/tranche/terms/Comparison;" (.ref en3)) (E_e0 : Exa Z Z.heap en0 "com/example/tranche/tranche/terms/Comparison") (E_e1 : Exa Z Z.heap en1 "com/example/tranche/tranche/terms/Comparison") (E_e2 : Exa Z Z.heap en2 "com/example/tranche/tranche/terms/Comparison") (E_e3 : Exa Z Z.heap en3 "com/example/tranche/tranche/terms/Comparison") :
    CtrW l Z own_EL x code maxLocals ret ws room_1 #[(.int i0), (.int i1), (.int i2), (.int i3)] h0 (fun v h L => v = some (.int 1) ∧ Fr n0 L) := by
  refine CtrW.of (MetFree.of_bodySF (plainFor_of_name pn_56) hisR ?_)
  intro p e s m args below meth c s₁ Bd hml0 hP hK
  obtain ⟨rfl, hZ0, hh, hC⟩ := hP
  have hx := Bd.exec
  have hby := Bd.bytes
  have hml : c.maxLocals = 12 := hml0
  have hZ : Z.Warmed39 (s.setVm s.vm).vm := hZ0
  have hown : (s.setVm s.vm).vm.findClass "com/example/tranche/tranche/terms/ComparisonWrittenPinLaw" = some m.cls := findClass_of_methodNamed Bd.named
  have hnm := (name_of_methodNamed Bd.named Bd.method).1
  have X0 : Stand p l e room_1 (s.setVm s.vm) m #[(.int i0), (.int i1), (.int i2), (.int i3)] below meth c s₁ [] 0 0 := Stand.of_body Bd
  have e0 : s₁.heap = h0 := by rw [← hh, Bd.state]; rfl
  have N0 := Fr.nil n0
  have K0 : Keep h0 h0 [] := Keep.refl h0 []
  have hS : s.Since s.vm 0 := (State.WarmedH.refl s).since 0
  have hk : 0 ≤ h0.size := Nat.zero_le _
  have R0 : CHr Z own_EL s.vm h0 s.vm h0 := CHr.refl hC
  show OwnGoW p e below s Z own_EL (fun v h L => v = some (.int 1) ∧ Fr n0 L) room_1.cells room_1.slots _
  refine gsW (S' := s₁.setTop (mkF m 0 #[.val (.int i0), .val (.int i1), .val (.int i2), .val (.int i3), .unset, .unset, .unset, .unset, .unset, .unset, .unset, .unset] [])) (fun tg kg => castTop (ef_138 m i0 i1 i2 i3) kg) ?_
  have hws : ∀ d ∈ StrChars.Road.words, d.before a0 Z = true := fun d hd => hw d ((by decide +kernel : ∀ d ∈ StrChars.Road.words, d ∈ tables_1) d hd)
  have c1 : ∀ tg, Steps p.tables e below (s₁.setTop (mkF m 6 #[.val (.int i0), .val (.int i1), .val (.int i2), .val (.int i3), .val (.int (i0 &&& (3 : Int32))), .unset, .unset, .unset, .unset, .unset, .unset, .unset] [(.int i1)])) tg → Steps p.tables e below (s₁.setTop (mkF m 0 #[.val (.int i0), .val (.int i1), .val (.int i2), .val (.int i3), .unset, .unset, .unset, .unset, .unset, .unset, .unset, .unset] [])) tg := fun tg kg => by
    refine XS.iloadN X0.here hx rfl (hb hby at_0) rfl ?_
    show Steps p.tables e below (s₁.setTop (mkF m 1 #[.val (.int i0), .val (.int i1), .val (.int i2), .val (.int i3), .unset, .unset, .unset, .unset, .unset, .unset, .unset, .unset] [(.int i0)])) tg
    refine XS.iconst X0.here hx rfl (hb hby at_1) ?_
    show Steps p.tables e below (s₁.setTop (mkF m 2 #[.val (.int i0), .val (.int i1), .val (.int i2), .val (.int i3), .unset, .unset, .unset, .unset, .unset, .unset, .unset, .unset] [(.int (3 : Int32)), (.int i0)])) tg
    refine XS.iand X0.here hx rfl (hb hby at_2) rfl ?_
    show Steps p.tables e below (s₁.setTop (mkF m 3 #[.val (.int i0), .val (.int i1), .val (.int i2), .val (.int i3), .unset, .unset, .unset, .unset, .unset, .unset, .unset, .unset] [(.int (i0 &&& (3 : Int32)))])) tg
    refine XS.istore X0.here hx rfl (hb hby at_3) rfl (l' := #[.val (.int i0), .val (.int i1), .val (.int i2), .val (.int i3), .val (.int (i0 &&& (3 : Int32))), .unset, .unset, .unset, .unset, .unset, .unset, .unset]) rfl ?_
    show Steps p.tables e below (s₁.setTop (mkF m 5 #[.val (.int i0), .val (.int i1), .val (.int i2), .val (.int i3), .val (.int (i0 &&& (3 : Int32))), .unset, .unset, .unset, .unset, .unset, .unset, .unset] [])) tg
    refine XS.iloadN X0.here hx rfl (hb hby at_5) rfl ?_
    show Steps p.tables e below (s₁.setTop (mkF m 6 #[.val (.int i0), .val (.int i1), .val (.int i2), .val (.int i3), .val (.int (i0 &&& (3 : Int32))), .unset, .unset, .unset, .unset, .unset, .unset, .unset] [(.int i1)])) tg
    exact kg
  refine gsW c1 ?_
  obtain ⟨_, _, ⟨T2, L2, k2, n2⟩, -, X2, ⟨Lc2, hQ2, l2, y2, z2⟩, st2⟩ := Jvm.LawKit.callS X0 hx (y := (⟨"com/example/tranche/tranche/terms/ComparisonWrittenPinLaw", "pick", "(I)C"⟩ : MethodName)) hown (mvT hZ (hw _ (List.mem_of_getElem? (i := 0) rfl))) (mvT hZ (hw _ (List.mem_of_getElem? (i := 1) rfl))) (mvT hZ (hw _ (List.mem_of_getElem? (i := 2) rfl))) (mvT hZ (hw _ (List.mem_of_getElem? (i := 3) rfl))) (by decide) (backC (W := 0) (rm_pk l Z a0 hw [] i1 h0 n0 Z0 O0 ) hZ (hw _ (List.mem_of_getElem? (i := 3) rfl)) (hw _ (List.mem_of_getElem? (i := 2) rfl)) (by decide) (by decide)) (g := (mkF m 6 #[.val (.int i0), .val (.int i1), .val (.int i2), .val (.int i3), .val (.int (i0 &&& (3 : Int32))), .unset, .unset, .unset, .unset, .unset, .unset, .unset] [(.int i1)])) rfl (by rw [hml]; rfl) (argsL := [(.int i1)]) (rest := []) (lenOf pd_139 rfl) rfl (by show 2 * 0 + _ ≤ _; exact Nat.le_of_eq rfl) (hb hby at_6) (fun _ _ => ⟨rfl, e0, (by decide : 0 + 0 ≤ _), (by decide : 0 + 0 ≤ _)⟩)
  dsimp only [Pt.U, Pt.locs, Pt.cells, Pt.slots] at X2 l2 y2 z2 st2 hQ2
  subst l2 y2 z2
  obtain ⟨c2, rfl, N2q, K2q, b2q⟩ := hQ2
  have N2 := Fr.app N0 N2q
  have r3 : CHr Z own_EL s.vm h0 s.vm T2.heap := CHr.keep K2q sf0 R0.1
  have R3 : CHr Z own_EL s.vm h0 s.vm T2.heap := R0.trans r3
  have Z3 : n0 ≤ T2.heap.size := Nat.le_trans Z0 K2q.1
  have O3 : Old Z n0 T2.heap := O0.keep K2q all0
  have K3 : Keep h0 T2.heap [] := K0.trans K2q all0
  refine gsW st2 ?_
  show OwnGoW p e below s Z own_EL _ _ _ (T2.setTop (mkF m 9 #[.val (.int i0), .val (.int i1), .val (.int i2), .val (.int i3), .val (.int (i0 &&& (3 : Int32))), .unset, .unset, .unset, .unset, .unset, .unset, .unset] [(.int c2)]))
  have c4 : ∀ tg, Steps p.tables e below (T2.setTop (mkF m 12 #[.val (.int i0), .val (.int i1), .val (.int i2), .val (.int i3), .val (.int (i0 &&& (3 : Int32))), .val (.int c2), .unset, .unset, .unset, .unset, .unset, .unset] [(.int i2)])) tg → Steps p.tables e below (T2.setTop (mkF m 9 #[.val (.int i0), .val (.int i1), .val (.int i2), .val (.int i3), .val (.int (i0 &&& (3 : Int32))), .unset, .unset, .unset, .unset, .unset, .unset, .unset] [(.int c2)])) tg := fun tg kg => by
    refine XS.istore X2.here hx rfl (hb hby at_9) rfl (l' := #[.val (.int i0), .val (.int i1), .val (.int i2), .val (.int i3), .val (.int (i0 &&& (3 : Int32))), .val (.int c2), .unset, .unset, .unset, .unset, .unset, .unset]) rfl ?_
    show Steps p.tables e below (T2.setTop (mkF m 11 #[.val (.int i0), .val (.int i1), .val (.int i2), .val (.int i3), .val (.int (i0 &&& (3 : Int32))), .val (.int c2), .unset, .unset, .unset, .unset, .unset, .unset] [])) tg
    refine XS.iloadN X2.here hx rfl (hb hby at_11) rfl ?_
    show Steps p.tables e below (T2.setTop (mkF m 12 #[.val (.int i0), .val (.int i1), .val (.int i2), .val (.int i3), .val (.int (i0 &&& (3 : Int32))), .val (.int c2), .unset, .unset, .unset, .unset, .unset, .unset] [(.int i2)])) tg
    exact kg
  refine gsW c4 ?_
  obtain ⟨_, _, ⟨T5, L5, k5, n5⟩, -, X5, ⟨Lc5, hQ5, l5, y5, z5⟩, st5⟩ := Jvm.LawKit.callS X2 hx (y := (⟨"com/example/tranche/tranche/terms/ComparisonWrittenPinLaw", "pick", "(I)C"⟩ : MethodName)) hown (mvT hZ (hw _ (List.mem_of_getElem? (i := 0) rfl))) (mvT hZ (hw _ (List.mem_of_getElem? (i := 1) rfl))) (mvT hZ (hw _ (List.mem_of_getElem? (i := 2) rfl))) (mvT hZ (hw _ (List.mem_of_getElem? (i := 3) rfl))) (by decide) (backC (W := 0) (rm_pk l Z a0 hw [] i2 T2.heap n0 Z3 O3 ) hZ (hw _ (List.mem_of_getElem? (i := 3) rfl)) (hw _ (List.mem_of_getElem? (i := 2) rfl)) (by decide) (by decide)) (g := (mkF m 12 #[.val (.int i0), .val (.int i1), .val (.int i2), .val (.int i3), .val (.int (i0 &&& (3 : Int32))), .val (.int c2), .unset, .unset, .unset, .unset, .unset, .unset] [(.int i2)])) rfl (by rw [hml]; rfl) (argsL := [(.int i2)]) (rest := []) (lenOf pd_139 rfl) rfl (by show 2 * 0 + _ ≤ _; exact Nat.le_of_eq rfl) (hb hby at_12) (fun _ _ => ⟨rfl, rfl, (by decide : 0 + 0 ≤ _), (by decide : 0 + 0 ≤ _)⟩)
  dsimp only [Pt.U, Pt.locs, Pt.cells, Pt.slots] at X5 l5 y5 z5 st5 hQ5
  subst l5 y5 z5
  obtain ⟨c5, rfl, N5q, K5q, b5q⟩ := hQ5
  have N5 := Fr.app N2 N5q
  have r6 : CHr Z own_EL s.vm T2.heap s.vm T5.heap := CHr.keep K5q sf0 R3.1
  have R6 : CHr Z own_EL s.vm h0 s.vm T5.heap := R3.trans r6
  have Z6 : n0 ≤ T5.heap.size := Nat.le_trans Z3 K5q.1
  have O6 : Old Z n0 T5.heap := O3.keep K5q all0
  have K6 : Keep h0 T5.heap [] := K3.trans K5q all0
  refine gsW st5 ?_
  show OwnGoW p e below s Z own_EL _ _ _ (T5.setTop (mkF m 15 #[.val (.int i0), .val (.int i1), .val (.int i2), .val (.int i3), .val (.int (i0 &&& (3 : Int32))), .val (.int c2), .unset, .unset, .unset, .unset, .unset, .unset] [(.int c5)]))
  have c7 : ∀ tg, Steps p.tables e below (T5.setTop (mkF m 18 #[.val (.int i0), .val (.int i1), .val (.int i2), .val (.int i3), .val (.int (i0 &&& (3 : Int32))), .val (.int c2), .val (.int c5), .unset, .unset, .unset, .unset, .unset] [(.int i3)])) tg → Steps p.tables e below (T5.setTop (mkF m 15 #[.val (.int i0), .val (.int i1), .val (.int i2), .val (.int i3), .val (.int (i0 &&& (3 : Int32))), .val (.int c2), .unset, .unset, .unset, .unset, .unset, .unset] [(.int c5)])) tg := fun tg kg => by
    refine XS.istore X5.here hx rfl (hb hby at_15) rfl (l' := #[.val (.int i0), .val (.int i1), .val (.int i2), .val (.int i3), .val (.int (i0 &&& (3 : Int32))), .val (.int c2), .val (.int c5), .unset, .unset, .unset, .unset, .unset]) rfl ?_
    show Steps p.tables e below (T5.setTop (mkF m 17 #[.val (.int i0), .val (.int i1), .val (.int i2), .val (.int i3), .val (.int (i0 &&& (3 : Int32))), .val (.int c2), .val (.int c5), .unset, .unset, .unset, .unset, .unset] [])) tg
    refine XS.iloadN X5.here hx rfl (hb hby at_17) rfl ?_
    show Steps p.tables e below (T5.setTop (mkF m 18 #[.val (.int i0), .val (.int i1), .val (.int i2), .val (.int i3), .val (.int (i0 &&& (3 : Int32))), .val (.int c2), .val (.int c5), .unset, .unset, .unset, .unset, .unset] [(.int i3)])) tg
    exact kg
  refine gsW c7 ?_
  obtain ⟨_, _, ⟨T8, L8, k8, n8⟩, -, X8, ⟨Lc8, hQ8, l8, y8, z8⟩, st8⟩ := Jvm.LawKit.callS X5 hx (y := (⟨"com/example/tranche/tranche/terms/ComparisonWrittenPinLaw", "pick", "(I)C"⟩ : MethodName)) hown (mvT hZ (hw _ (List.mem_of_getElem? (i := 0) rfl))) (mvT hZ (hw _ (List.mem_of_getElem? (i := 1) rfl))) (mvT hZ (hw _ (List.mem_of_getElem? (i := 2) rfl))) (mvT hZ (hw _ (List.mem_of_getElem? (i := 3) rfl))) (by decide) (backC (W := 0) (rm_pk l Z a0 hw [] i3 T5.heap n0 Z6 O6 ) hZ (hw _ (List.mem_of_getElem? (i := 3) rfl)) (hw _ (List.mem_of_getElem? (i := 2) rfl)) (by decide) (by decide)) (g := (mkF m 18 #[.val (.int i0), .val (.int i1), .val (.int i2), .val (.int i3), .val (.int (i0 &&& (3 : Int32))), .val (.int c2), .val (.int c5), .unset, .unset, .unset, .unset, .unset] [(.int i3)])) rfl (by rw [hml]; rfl) (argsL := [(.int i3)]) (rest := []) (lenOf pd_139 rfl) rfl (by show 2 * 0 + _ ≤ _; exact Nat.le_of_eq rfl) (hb hby at_18) (fun _ _ => ⟨rfl, rfl, (by decide : 0 + 0 ≤ _), (by decide : 0 + 0 ≤ _)⟩)
  dsimp only [Pt.U, Pt.locs, Pt.cells, Pt.slots] at X8 l8 y8 z8 st8 hQ8
  subst l8 y8 z8
  obtain ⟨c8, rfl, N8q, K8q, b8q⟩ := hQ8
  have N8 := Fr.app N5 N8q
  have r9 : CHr Z own_EL s.vm T5.heap s.vm T8.heap := CHr.keep K8q sf0 R6.1
  have R9 : CHr Z own_EL s.vm h0 s.vm T8.heap := R6.trans r9
  have Z9 : n0 ≤ T8.heap.size := Nat.le_trans Z6 K8q.1
  have O9 : Old Z n0 T8.heap := O6.keep K8q all0
  have K9 : Keep h0 T8.heap [] := K6.trans K8q all0
  refine gsW st8 ?_
  show OwnGoW p e below s Z own_EL _ _ _ (T8.setTop (mkF m 21 #[.val (.int i0), .val (.int i1), .val (.int i2), .val (.int i3), .val (.int (i0 &&& (3 : Int32))), .val (.int c2), .val (.int c5), .unset, .unset, .unset, .unset, .unset] [(.int c8)]))
  have c10 : ∀ tg, Steps p.tables e below (T8.setTop (mkF m 25 #[.val (.int i0), .val (.int i1), .val (.int i2), .val (.int i3), .val (.int (i0 &&& (3 : Int32))), .val (.int c2), .val (.int c5), .val (.int c8), .unset, .unset, .unset, .unset] [(.int (i0 &&& (3 : Int32)))])) tg → Steps p.tables e below (T8.setTop (mkF m 21 #[.val (.int i0), .val (.int i1), .val (.int i2), .val (.int i3), .val (.int (i0 &&& (3 : Int32))), .val (.int c2), .val (.int c5), .unset, .unset, .unset, .unset, .unset] [(.int c8)])) tg := fun tg kg => by
    refine XS.istore X8.here hx rfl (hb hby at_21) rfl (l' := #[.val (.int i0), .val (.int i1), .val (.int i2), .val (.int i3), .val (.int (i0 &&& (3 : Int32))), .val (.int c2), .val (.int c5), .val (.int c8), .unset, .unset, .unset, .unset]) rfl ?_
    show Steps p.tables e below (T8.setTop (mkF m 23 #[.val (.int i0), .val (.int i1), .val (.int i2), .val (.int i3), .val (.int (i0 &&& (3 : Int32))), .val (.int c2), .val (.int c5), .val (.int c8), .unset, .unset, .unset, .unset] [])) tg
    refine XS.iload X8.here hx rfl (hb hby at_23) rfl ?_
    show Steps p.tables e below (T8.setTop (mkF m 25 #[.val (.int i0), .val (.int i1), .val (.int i2), .val (.int i3), .val (.int (i0 &&& (3 : Int32))), .val (.int c2), .val (.int c5), .val (.int c8), .unset, .unset, .unset, .unset] [(.int (i0 &&& (3 : Int32)))])) tg
    exact kg
  refine gsW c10 ?_
  by_cases hc11 : (i0 &&& (3 : Int32)) = (0 : Int32)
  · have c12 : ∀ tg, Steps p.tables e below (T8.setTop (mkF m 29 #[.val (.int i0), .val (.int i1), .val (.int i2), .val (.int i3), .val (.int (i0 &&& (3 : Int32))), .val (.int c2), .val (.int c5), .val (.int c8), .unset, .unset, .unset, .unset] [(.int (0 : Int32))])) tg → Steps p.tables e below (T8.setTop (mkF m 25 #[.val (.int i0), .val (.int i1), .val (.int i2), .val (.int i3), .val (.int (i0 &&& (3 : Int32))), .val (.int c2), .val (.int c5), .val (.int c8), .unset, .unset, .unset, .unset] [(.int (i0 &&& (3 : Int32)))])) tg := fun tg kg => by
      refine XS.ifNo X8.here hx rfl (hb hby at_25) rfl ((if0 _ _).trans (teq hc11).2) ?_
      show Steps p.tables e below (T8.setTop (mkF m 28 #[.val (.int i0), .val (.int i1), .val (.int i2), .val (.int i3), .val (.int (i0 &&& (3 : Int32))), .val (.int c2), .val (.int c5), .val (.int c8), .unset, .unset, .unset, .unset] [])) tg
      refine XS.iconst X8.here hx rfl (hb hby at_28) ?_
      show Steps p.tables e below (T8.setTop (mkF m 29 #[.val (.int i0), .val (.int i1), .val (.int i2), .val (.int i3), .val (.int (i0 &&& (3 : Int32))), .val (.int c2), .val (.int c5), .val (.int c8), .unset, .unset, .unset, .unset] [(.int (0 : Int32))])) tg
      exact kg
    refine gsW c12 ?_
    obtain ⟨T13, h13, k13, X13, e13, E13, A13, st13⟩ := newP X8 hx hZ (hw _ (List.mem_of_getElem? (i := 4) rfl)) rfl (g := (mkF m 29 #[.val (.int i0), .val (.int i1), .val (.int i2), .val (.int i3), .val (.int (i0 &&& (3 : Int32))), .val (.int c2), .val (.int c5), .val (.int c8), .unset, .unset, .unset, .unset] [(.int (0 : Int32))])) rfl (hb hby at_29) rfl (by decide) (cap := 0) (by decide) (by decide) (by decide) (by decide)
    obtain ⟨b13, q13⟩ : ∃ z, z = T8.heap.size := ⟨_, rfl⟩
    rw [← q13] at A13 st13
    have g_b13 : n0 ≤ b13 := Nat.le_trans Z9 (Nat.le_of_eq q13.symm)
    have sz_b13 : h0.size ≤ b13 := Nat.le_trans K9.1 (Nat.le_of_eq q13.symm)
    have r14 : CHr Z own_EL s.vm T8.heap s.vm h13 := CHr.ext E13 R9.1
    have R14 : CHr Z own_EL s.vm h0 s.vm h13 := R9.trans r14
    have Z14 : n0 ≤ h13.size := Nat.le_trans Z9 E13.1
    have O14 : Old Z n0 h13 := O9.ext E13
    have K14 : Keep h0 h13 [] := K9.ext E13
    have V13 : Arv Z h13 b13 k13 .char (0 : Int32) [] (.int (0 : Int32)) := (Arv.new A13 (by decide)).pad (pad_rep [] (.int (0 : Int32)) 0)
    refine gsW st13 ?_
    show OwnGoW p e below s Z own_EL _ _ _ (T13.setTop (mkF m 31 #[.val (.int i0), .val (.int i1), .val (.int i2), .val (.int i3), .val (.int (i0 &&& (3 : Int32))), .val (.int c2), .val (.int c5), .val (.int c8), .unset, .unset, .unset, .unset] [(.ref b13)]))
    have c15 : ∀ tg, Steps p.tables e below (T13.setTop (mkF m 99 #[.val (.int i0), .val (.int i1), .val (.int i2), .val (.int i3), .val (.int (i0 &&& (3 : Int32))), .val (.int c2), .val (.int c5), .val (.int c8), .val (.ref b13), .unset, .unset, .unset] [])) tg → Steps p.tables e below (T13.setTop (mkF m 31 #[.val (.int i0), .val (.int i1), .val (.int i2), .val (.int i3), .val (.int (i0 &&& (3 : Int32))), .val (.int c2), .val (.int c5), .val (.int c8), .unset, .unset, .unset, .unset] [(.ref b13)])) tg := fun tg kg => by
      refine XS.astore X13.here hx rfl (hb hby at_31) rfl rfl (l' := #[.val (.int i0), .val (.int i1), .val (.int i2), .val (.int i3), .val (.int (i0 &&& (3 : Int32))), .val (.int c2), .val (.int c5), .val (.int c8), .val (.ref b13), .unset, .unset, .unset]) rfl ?_
      show Steps p.tables e below (T13.setTop (mkF m 33 #[.val (.int i0), .val (.int i1), .val (.int i2), .val (.int i3), .val (.int (i0 &&& (3 : Int32))), .val (.int c2), .val (.int c5), .val (.int c8), .val (.ref b13), .unset, .unset, .unset] [])) tg
      refine XS.goto X13.here hx rfl (pc0 := 33) (pc' := 99) rfl (hb hby at_33) (by decide) (by decide) ?_
      show Steps p.tables e below (T13.setTop (mkF m 99 #[.val (.int i0), .val (.int i1), .val (.int i2), .val (.int i3), .val (.int (i0 &&& (3 : Int32))), .val (.int c2), .val (.int c5), .val (.int c8), .val (.ref b13), .unset, .unset, .unset] [])) tg
      exact kg
    refine gsW c15 ?_
    obtain ⟨T16, h16, X16, e16, E16, A16, D16, -, st16⟩ := newO X13 hx hZ hown (hw _ (List.mem_of_getElem? (i := 5) rfl)) (hw _ (List.mem_of_getElem? (i := 6) rfl)) (hw _ (List.mem_of_getElem? (i := 7) rfl)) e13 (g := (mkF m 99 #[.val (.int i0), .val (.int i1), .val (.int i2), .val (.int i3), .val (.int (i0 &&& (3 : Int32))), .val (.int c2), .val (.int c5), .val (.int c8), .val (.ref b13), .unset, .unset, .unset] [])) rfl (hb hby at_99) (by decide) (by decide)
    obtain ⟨b16, q16⟩ : ∃ z, z = h13.size := ⟨_, rfl⟩
    rw [← q16] at A16 D16 st16
    have g_b16 : n0 ≤ b16 := Nat.le_trans Z14 (Nat.le_of_eq q16.symm)
    have sz_b16 : h0.size ≤ b16 := Nat.le_trans K14.1 (Nat.le_of_eq q16.symm)
    have sfa16 : Safe Z own_EL s.vm h13 b16 := Safe.new (Nat.le_of_eq q16.symm)
    have r17 : CHr Z own_EL s.vm h13 s.vm h16 := CHr.ext E16 R14.1
    have R17 : CHr Z own_EL s.vm h0 s.vm h16 := R14.trans r17
    have Z17 : n0 ≤ h16.size := Nat.le_trans Z14 E16.1
    have O17 : Old Z n0 h16 := O14.ext E16
    have K17 : Keep h0 h16 [] := K14.ext E16
    have sfb16 := Safe.ext E16 R14.1 sfa16
    have F_value_b16 : Fld Z h16 b16 "java/lang/String" "value" "[B" .null := D16 (Or.inr (hw _ (List.mem_of_getElem? (i := 20) rfl))) (ty := (.array .byte)) (by decide)
    have F_coder_b16 : Fld Z h16 b16 "java/lang/String" "coder" "B" (.int (0 : Int32)) := D16 (Or.inr (hw _ (List.mem_of_getElem? (i := 21) rfl))) (ty := .byte) (by decide)
    refine gsW st16 ?_
    show OwnGoW p e below s Z own_EL _ _ _ (T16.setTop (mkF m 102 #[.val (.int i0), .val (.int i1), .val (.int i2), .val (.int i3), .val (.int (i0 &&& (3 : Int32))), .val (.int c2), .val (.int c5), .val (.int c8), .val (.ref b13), .unset, .unset, .unset] [(.ref b16)]))
    have c18 : ∀ tg, Steps p.tables e below (T16.setTop (mkF m 105 #[.val (.int i0), .val (.int i1), .val (.int i2), .val (.int i3), .val (.int (i0 &&& (3 : Int32))), .val (.int c2), .val (.int c5), .val (.int c8), .val (.ref b13), .unset, .unset, .unset] [(.ref b13), (.ref b16), (.ref b16)])) tg → Steps p.tables e below (T16.setTop (mkF m 102 #[.val (.int i0), .val (.int i1), .val (.int i2), .val (.int i3), .val (.int (i0 &&& (3 : Int32))), .val (.int c2), .val (.int c5), .val (.int c8), .val (.ref b13), .unset, .unset, .unset] [(.ref b16)])) tg := fun tg kg => by
      refine XS.dup X16.here hx rfl (hb hby at_102) rfl rfl ?_
      show Steps p.tables e below (T16.setTop (mkF m 103 #[.val (.int i0), .val (.int i1), .val (.int i2), .val (.int i3), .val (.int (i0 &&& (3 : Int32))), .val (.int c2), .val (.int c5), .val (.int c8), .val (.ref b13), .unset, .unset, .unset] [(.ref b16), (.ref b16)])) tg
      refine XS.aload X16.here hx rfl (hb hby at_103) rfl rfl ?_
      show Steps p.tables e below (T16.setTop (mkF m 105 #[.val (.int i0), .val (.int i1), .val (.int i2), .val (.int i3), .val (.int (i0 &&& (3 : Int32))), .val (.int c2), .val (.int c5), .val (.int c8), .val (.ref b13), .unset, .unset, .unset] [(.ref b13), (.ref b16), (.ref b16)])) tg
      exact kg
    refine gsW c18 ?_
    have f19 := (V13.ext E16)
    obtain ⟨_, _, ⟨T20, L20, k20, n20⟩, -, Xq20, hSq20, gq20, ⟨Lc20, hQ20, l20, y20, z20, rq20⟩, st20⟩ := X16.specialBackS hx (y := (⟨"java/lang/String", "<init>", "([C)V"⟩ : MethodName)) rfl hown (mvT hZ (hw _ (List.mem_of_getElem? (i := 8) rfl))) (mvT hZ (hw _ (List.mem_of_getElem? (i := 9) rfl))) (mvT hZ (hw _ (List.mem_of_getElem? (i := 10) rfl))) (by decide) (backCW (W := 1) (rm_s0 l Z a0 hw [] b16 b13 k13 h16 n0 Z17 O17 A16 F_value_b16 F_coder_b16 g_b16 f19) hZ (hw _ (List.mem_of_getElem? (i := 10) rfl)) (hw _ (List.mem_of_getElem? (i := 7) rfl)) (by decide) (by decide) (own_EW hw) R17.1) (g := (mkF m 105 #[.val (.int i0), .val (.int i1), .val (.int i2), .val (.int i3), .val (.int (i0 &&& (3 : Int32))), .val (.int c2), .val (.int c5), .val (.int c8), .val (.ref b13), .unset, .unset, .unset] [(.ref b13), (.ref b16), (.ref b16)])) rfl (by rw [hml]; rfl) (Steps.refl _) (a := b16) (argsL := [(.ref b13)]) (rest := [(.ref b16)]) (lenOf pd_140 rfl) rfl (by show 2 * 0 + _ ≤ _; exact Nat.le_of_eq rfl) (hb hby at_105) (fun _ _ => ⟨rfl, e16, (by decide : 2 + 4 ≤ _), (by decide : 4 + 8 ≤ _)⟩)
    dsimp only [Pt.U, Pt.locs, Pt.cells, Pt.slots] at Xq20 hSq20 gq20 rq20 l20 y20 z20 st20 hQ20
    subst l20 y20 z20
    obtain ⟨X20, hS, hZ, hown⟩ := rebS hS (Nat.le_trans (Nat.le_trans hk (Nat.le_trans (Nat.le_trans (Nat.le_trans (Nat.le_trans K2q.1 K5q.1) K8q.1) E13.1) E16.1)) (Nat.le_of_eq (congrArg Array.size (e16 : T16.heap = h16).symm))) Xq20 hSq20 gq20 hZ hown
    obtain ⟨rfl, N20q, K20q, T20q⟩ := hQ20
    have N20 := Fr.app N8 N20q
    have r21 : CHr Z own_EL s.vm h16 T20.vm T20.heap := rq20
    have R21 : CHr Z own_EL s.vm h0 T20.vm T20.heap := R17.trans r21
    have Z21 : n0 ≤ T20.heap.size := Nat.le_trans Z17 K20q.1
    have O21 : Old Z n0 T20.heap := O17.keep K20q (allS g_b16 all0)
    have K21 : Keep h0 T20.heap [] := K17.trans K20q (allS (Or.inr sz_b16) all0)
    refine gsW (fun _ k => st20.trans k) ?_
    show OwnGoW p e below s Z own_EL _ _ _ (T20.setTop (mkF m 108 #[.val (.int i0), .val (.int i1), .val (.int i2), .val (.int i3), .val (.int (i0 &&& (3 : Int32))), .val (.int c2), .val (.int c5), .val (.int c8), .val (.ref b13), .unset, .unset, .unset] [(.ref b16)]))
    have c22 : ∀ tg, Steps p.tables e below (T20.setTop (mkF m 112 #[.val (.int i0), .val (.int i1), .val (.int i2), .val (.int i3), .val (.int (i0 &&& (3 : Int32))), .val (.int c2), .val (.int c5), .val (.int c8), .val (.ref b13), .val (.ref b16), .unset, .unset] [(.ref b16)])) tg → Steps p.tables e below (T20.setTop (mkF m 108 #[.val (.int i0), .val (.int i1), .val (.int i2), .val (.int i3), .val (.int (i0 &&& (3 : Int32))), .val (.int c2), .val (.int c5), .val (.int c8), .val (.ref b13), .unset, .unset, .unset] [(.ref b16)])) tg := fun tg kg => by
      refine XS.astore X20.here hx rfl (hb hby at_108) rfl rfl (l' := #[.val (.int i0), .val (.int i1), .val (.int i2), .val (.int i3), .val (.int (i0 &&& (3 : Int32))), .val (.int c2), .val (.int c5), .val (.int c8), .val (.ref b13), .val (.ref b16), .unset, .unset]) rfl ?_
      show Steps p.tables e below (T20.setTop (mkF m 110 #[.val (.int i0), .val (.int i1), .val (.int i2), .val (.int i3), .val (.int (i0 &&& (3 : Int32))), .val (.int c2), .val (.int c5), .val (.int c8), .val (.ref b13), .val (.ref b16), .unset, .unset] [])) tg
      refine XS.aload X20.here hx rfl (hb hby at_110) rfl rfl ?_
      show Steps p.tables e below (T20.setTop (mkF m 112 #[.val (.int i0), .val (.int i1), .val (.int i2), .val (.int i3), .val (.int (i0 &&& (3 : Int32))), .val (.int c2), .val (.int c5), .val (.int c8), .val (.ref b13), .val (.ref b16), .unset, .unset] [(.ref b16)])) tg
      exact kg
    refine gsW c22 ?_
    obtain ⟨_, _, ⟨T23, L23, k23, n23⟩, -, X23, ⟨Lc23, hQ23, l23, y23, z23⟩, st23⟩ := Jvm.LawKit.callS X20 hx (y := (⟨"com/example/tranche/tranche/terms/Comparison", "written", "(Ljava/lang/String;)Ljava/util/Optional;"⟩ : MethodName)) hown (mvT hZ (hw _ (List.mem_of_getElem? (i := 26) rfl))) (mvT hZ (hw _ (List.mem_of_getElem? (i := 27) rfl))) (mvT hZ (hw _ (List.mem_of_getElem? (i := 28) rfl))) (mvT hZ (hw _ (List.mem_of_getElem? (i := 29) rfl))) (by decide) (backC (W := 0) (rm_wr4 l Z a0 hw [] b16 [] z oe va kv en0 en1 en2 en3 sn0 sn1 sn2 sn3 T20.heap n0 Z21 O21 S0 hz T20q (by decide) (by decide) S_oe S_va V_va E_va F_e0 F_e1 F_e2 F_e3 T_s0 T_s1 T_s2 T_s3 (by intro hq; simp_all) (by intro hq; simp_all) (by intro hq; simp_all) (by intro hq; simp_all)) hZ (hw _ (List.mem_of_getElem? (i := 29) rfl)) (hw _ (List.mem_of_getElem? (i := 28) rfl)) (by decide) (by decide)) (g := (mkF m 112 #[.val (.int i0), .val (.int i1), .val (.int i2), .val (.int i3), .val (.int (i0 &&& (3 : Int32))), .val (.int c2), .val (.int c5), .val (.int c8), .val (.ref b13), .val (.ref b16), .unset, .unset] [(.ref b16)])) rfl (by rw [hml]; rfl) (argsL := [(.ref b16)]) (rest := []) (lenOf pd_141 rfl) rfl (by show 2 * 0 + _ ≤ _; exact Nat.le_of_eq rfl) (hb hby at_112) (fun _ _ => ⟨rfl, rfl, (by decide : 6 + 2 ≤ _), (by decide : 12 + 5 ≤ _)⟩)
    dsimp only [Pt.U, Pt.locs, Pt.cells, Pt.slots] at X23 l23 y23 z23 st23 hQ23
    subst l23 y23 z23
    obtain ⟨rfl, N23q, K23q⟩ := hQ23
    have N23 := Fr.app N20 N23q
    have r24 : CHr Z own_EL T20.vm T20.heap T20.vm T23.heap := CHr.keep K23q sf0 R21.1
    have R24 : CHr Z own_EL s.vm h0 T20.vm T23.heap := R21.trans r24
    have Z24 : n0 ≤ T23.heap.size := Nat.le_trans Z21 K23q.1
    have O24 : Old Z n0 T23.heap := O21.keep K23q all0
    have K24 : Keep h0 T23.heap [] := K21.trans K23q all0
    refine gsW st23 ?_
    show OwnGoW p e below s Z own_EL _ _ _ (T23.setTop (mkF m 115 #[.val (.int i0), .val (.int i1), .val (.int i2), .val (.int i3), .val (.int (i0 &&& (3 : Int32))), .val (.int c2), .val (.int c5), .val (.int c8), .val (.ref b13), .val (.ref b16), .unset, .unset] [(.ref oe)]))
    have c25 : ∀ tg, Steps p.tables e below (T23.setTop (mkF m 116 #[.val (.int i0), .val (.int i1), .val (.int i2), .val (.int i3), .val (.int (i0 &&& (3 : Int32))), .val (.int c2), .val (.int c5), .val (.int c8), .val (.ref b13), .val (.ref b16), .unset, .unset] [.null, (.ref oe)])) tg → Steps p.tables e below (T23.setTop (mkF m 115 #[.val (.int i0), .val (.int i1), .val (.int i2), .val (.int i3), .val (.int (i0 &&& (3 : Int32))), .val (.int c2), .val (.int c5), .val (.int c8), .val (.ref b13), .val (.ref b16), .unset, .unset] [(.ref oe)])) tg := fun tg kg => by
      refine XS.aconstNull X23.here hx rfl (hb hby at_115) ?_
      show Steps p.tables e below (T23.setTop (mkF m 116 #[.val (.int i0), .val (.int i1), .val (.int i2), .val (.int i3), .val (.int (i0 &&& (3 : Int32))), .val (.int c2), .val (.int c5), .val (.int c8), .val (.ref b13), .val (.ref b16), .unset, .unset] [.null, (.ref oe)])) tg
      exact kg
    refine gsW c25 ?_
    have f26 := ((((((((F_oe.ext O0.2).keep K2q nin0).keep K5q nin0).keep K8q nin0).ext E13).ext E16).keep K20q (ninS (Nat.ne_of_lt (Nat.lt_of_lt_of_le (Nat.lt_of_lt_of_le (E_oe.ext O0.2).lt (Nat.le_trans (Nat.le_trans (Nat.le_trans K2q.1 K5q.1) K8q.1) E13.1)) (Nat.le_of_eq q16.symm))) nin0)).keep K23q nin0)
    have f28 := ((((((((E_oe.ext O0.2).keep K2q).keep K5q).keep K8q).ext E13).ext E16).keep K20q).keep K23q)
    obtain ⟨cq27, kq27, q27a, q27b, q27c⟩ := isOf hZ rfl f28
    obtain ⟨_, _, ⟨T27, L27, k27, n27⟩, -, X27, ⟨Lc27, hQ27, l27, y27, z27⟩, st27⟩ := X23.virtualBack hx (y := (⟨"java/util/Optional", "orElse", "(Ljava/lang/Object;)Ljava/lang/Object;"⟩ : MethodName)) (z := (⟨"java/util/Optional", "orElse", "(Ljava/lang/Object;)Ljava/lang/Object;"⟩ : MethodName)) hown (mvT hZ (hw _ (List.mem_of_getElem? (i := 67) rfl))) (mvT hZ (hw _ (List.mem_of_getElem? (i := 68) rfl))) (notFace_of_selects (args := #[]) (mvT hZ (hw _ (List.mem_of_getElem? (i := 70) rfl)))) (mvT hZ (hw _ (List.mem_of_getElem? (i := 70) rfl))) (mvT hZ (hw _ (List.mem_of_getElem? (i := 69) rfl))) (by decide) (backC (W := 0) (rm_or_null l Z a0 hw [] oe T23.heap n0 Z24 O24 f26) hZ (hw _ (List.mem_of_getElem? (i := 71) rfl)) (hw _ (List.mem_of_getElem? (i := 32) rfl)) (by decide) (by decide)) q27a q27c (g := (mkF m 116 #[.val (.int i0), .val (.int i1), .val (.int i2), .val (.int i3), .val (.int (i0 &&& (3 : Int32))), .val (.int c2), .val (.int c5), .val (.int c8), .val (.ref b13), .val (.ref b16), .unset, .unset] [.null, (.ref oe)])) rfl (by rw [hml]; rfl) (Steps.refl _) (argsL := [.null]) (rest := []) (lenOf pd_87 rfl) rfl (by show 2 * 0 + _ ≤ _; exact Nat.le_of_eq rfl) (hb hby at_116) (fun _ _ => ⟨rfl, rfl, (by decide : 8 + 0 ≤ _), (by decide : 17 + 0 ≤ _)⟩)
    dsimp only [Pt.U, Pt.locs, Pt.cells, Pt.slots] at X27 l27 y27 z27 st27 hQ27
    subst l27 y27 z27
    obtain ⟨rfl, N27q, K27q⟩ := hQ27
    have N27 := Fr.app N23 N27q
    have r29 : CHr Z own_EL T20.vm T23.heap T20.vm T27.heap := CHr.keep K27q sf0 R24.1
    have R29 : CHr Z own_EL s.vm h0 T20.vm T27.heap := R24.trans r29
    have Z29 : n0 ≤ T27.heap.size := Nat.le_trans Z24 K27q.1
    have O29 : Old Z n0 T27.heap := O24.keep K27q all0
    have K29 : Keep h0 T27.heap [] := K24.trans K27q all0
    refine gsW (fun _ k => st27.trans k) ?_
    show OwnGoW p e below s Z own_EL _ _ _ (T27.setTop (mkF m 119 #[.val (.int i0), .val (.int i1), .val (.int i2), .val (.int i3), .val (.int (i0 &&& (3 : Int32))), .val (.int c2), .val (.int c5), .val (.int c8), .val (.ref b13), .val (.ref b16), .unset, .unset] [.null]))
    have c30 : ∀ tg, Steps p.tables e below (T27.setTop (mkF m 215 #[.val (.int i0), .val (.int i1), .val (.int i2), .val (.int i3), .val (.int (i0 &&& (3 : Int32))), .val (.int c2), .val (.int c5), .val (.int c8), .val (.ref b13), .val (.ref b16), .val .null, .val .null] [(.int (1 : Int32))])) tg → Steps p.tables e below (T27.setTop (mkF m 119 #[.val (.int i0), .val (.int i1), .val (.int i2), .val (.int i3), .val (.int (i0 &&& (3 : Int32))), .val (.int c2), .val (.int c5), .val (.int c8), .val (.ref b13), .val (.ref b16), .unset, .unset] [.null])) tg := fun tg kg => by
      refine X27.checkcastNull hx (g := (mkF m 119 #[.val (.int i0), .val (.int i1), .val (.int i2), .val (.int i3), .val (.int (i0 &&& (3 : Int32))), .val (.int c2), .val (.int c5), .val (.int c8), .val (.ref b13), .val (.ref b16), .unset, .unset] [.null])) rfl rfl (hb hby at_119) _ ?_
      show Steps p.tables e below (T27.setTop (mkF m 122 #[.val (.int i0), .val (.int i1), .val (.int i2), .val (.int i3), .val (.int (i0 &&& (3 : Int32))), .val (.int c2), .val (.int c5), .val (.int c8), .val (.ref b13), .val (.ref b16), .unset, .unset] [.null])) tg
      refine XS.astore X27.here hx rfl (hb hby at_122) rfl rfl (l' := #[.val (.int i0), .val (.int i1), .val (.int i2), .val (.int i3), .val (.int (i0 &&& (3 : Int32))), .val (.int c2), .val (.int c5), .val (.int c8), .val (.ref b13), .val (.ref b16), .val .null, .unset]) rfl ?_
      show Steps p.tables e below (T27.setTop (mkF m 124 #[.val (.int i0), .val (.int i1), .val (.int i2), .val (.int i3), .val (.int (i0 &&& (3 : Int32))), .val (.int c2), .val (.int c5), .val (.int c8), .val (.ref b13), .val (.ref b16), .val .null, .unset] [])) tg
      refine XS.aconstNull X27.here hx rfl (hb hby at_124) ?_
      show Steps p.tables e below (T27.setTop (mkF m 125 #[.val (.int i0), .val (.int i1), .val (.int i2), .val (.int i3), .val (.int (i0 &&& (3 : Int32))), .val (.int c2), .val (.int c5), .val (.int c8), .val (.ref b13), .val (.ref b16), .val .null, .unset] [.null])) tg
      refine XS.astore X27.here hx rfl (hb hby at_125) rfl rfl (l' := #[.val (.int i0), .val (.int i1), .val (.int i2), .val (.int i3), .val (.int (i0 &&& (3 : Int32))), .val (.int c2), .val (.int c5), .val (.int c8), .val (.ref b13), .val (.ref b16), .val .null, .val .null]) rfl ?_
      show Steps p.tables e below (T27.setTop (mkF m 127 #[.val (.int i0), .val (.int i1), .val (.int i2), .val (.int i3), .val (.int (i0 &&& (3 : Int32))), .val (.int c2), .val (.int c5), .val (.int c8), .val (.ref b13), .val (.ref b16), .val .null, .val .null] [])) tg
      refine XS.iload X27.here hx rfl (hb hby at_127) rfl ?_
      show Steps p.tables e below (T27.setTop (mkF m 129 #[.val (.int i0), .val (.int i1), .val (.int i2), .val (.int i3), .val (.int (i0 &&& (3 : Int32))), .val (.int c2), .val (.int c5), .val (.int c8), .val (.ref b13), .val (.ref b16), .val .null, .val .null] [(.int (i0 &&& (3 : Int32)))])) tg
      refine XS.iconst X27.here hx rfl (hb hby at_129) ?_
      show Steps p.tables e below (T27.setTop (mkF m 130 #[.val (.int i0), .val (.int i1), .val (.int i2), .val (.int i3), .val (.int (i0 &&& (3 : Int32))), .val (.int c2), .val (.int c5), .val (.int c8), .val (.ref b13), .val (.ref b16), .val .null, .val .null] [(.int (1 : Int32)), (.int (i0 &&& (3 : Int32)))])) tg
      refine XS.icmpYes X27.here hx rfl (pc0 := 130) (pc' := 163) rfl (hb hby at_130) rfl (feq (by rw [hc11]; decide)).2 (by decide) (by decide) ?_
      show Steps p.tables e below (T27.setTop (mkF m 163 #[.val (.int i0), .val (.int i1), .val (.int i2), .val (.int i3), .val (.int (i0 &&& (3 : Int32))), .val (.int c2), .val (.int c5), .val (.int c8), .val (.ref b13), .val (.ref b16), .val .null, .val .null] [])) tg
      refine XS.iload X27.here hx rfl (hb hby at_163) rfl ?_
      show Steps p.tables e below (T27.setTop (mkF m 165 #[.val (.int i0), .val (.int i1), .val (.int i2), .val (.int i3), .val (.int (i0 &&& (3 : Int32))), .val (.int c2), .val (.int c5), .val (.int c8), .val (.ref b13), .val (.ref b16), .val .null, .val .null] [(.int (i0 &&& (3 : Int32)))])) tg
      refine XS.iconst X27.here hx rfl (hb hby at_165) ?_
      show Steps p.tables e below (T27.setTop (mkF m 166 #[.val (.int i0), .val (.int i1), .val (.int i2), .val (.int i3), .val (.int (i0 &&& (3 : Int32))), .val (.int c2), .val (.int c5), .val (.int c8), .val (.ref b13), .val (.ref b16), .val .null, .val .null] [(.int (2 : Int32)), (.int (i0 &&& (3 : Int32)))])) tg
      refine XS.icmpYes X27.here hx rfl (pc0 := 166) (pc' := 203) rfl (hb hby at_166) rfl (feq (by rw [hc11]; decide)).2 (by decide) (by decide) ?_
      show Steps p.tables e below (T27.setTop (mkF m 203 #[.val (.int i0), .val (.int i1), .val (.int i2), .val (.int i3), .val (.int (i0 &&& (3 : Int32))), .val (.int c2), .val (.int c5), .val (.int c8), .val (.ref b13), .val (.ref b16), .val .null, .val .null] [])) tg
      refine XS.aload X27.here hx rfl (hb hby at_203) rfl rfl ?_
      show Steps p.tables e below (T27.setTop (mkF m 205 #[.val (.int i0), .val (.int i1), .val (.int i2), .val (.int i3), .val (.int (i0 &&& (3 : Int32))), .val (.int c2), .val (.int c5), .val (.int c8), .val (.ref b13), .val (.ref b16), .val .null, .val .null] [.null])) tg
      refine XS.aload X27.here hx rfl (hb hby at_205) rfl rfl ?_
      show Steps p.tables e below (T27.setTop (mkF m 207 #[.val (.int i0), .val (.int i1), .val (.int i2), .val (.int i3), .val (.int (i0 &&& (3 : Int32))), .val (.int c2), .val (.int c5), .val (.int c8), .val (.ref b13), .val (.ref b16), .val .null, .val .null] [.null, .null])) tg
      refine Jvm.RoadKit.acmp (g := (mkF m 207 #[.val (.int i0), .val (.int i1), .val (.int i2), .val (.int i3), .val (.int (i0 &&& (3 : Int32))), .val (.int c2), .val (.int c5), .val (.int c8), .val (.ref b13), .val (.ref b16), .val .null, .val .null] [.null, .null])) X27 hx rfl rfl rfl (pc0 := 207) (pc' := 210) (same := true) rfl (hb hby at_207) rfl (decide_eq_true rfl) (by decide) (by decide) ?_
      show Steps p.tables e below (T27.setTop (mkF m 210 #[.val (.int i0), .val (.int i1), .val (.int i2), .val (.int i3), .val (.int (i0 &&& (3 : Int32))), .val (.int c2), .val (.int c5), .val (.int c8), .val (.ref b13), .val (.ref b16), .val .null, .val .null] [])) tg
      refine XS.iconst X27.here hx rfl (hb hby at_210) ?_
      show Steps p.tables e below (T27.setTop (mkF m 211 #[.val (.int i0), .val (.int i1), .val (.int i2), .val (.int i3), .val (.int (i0 &&& (3 : Int32))), .val (.int c2), .val (.int c5), .val (.int c8), .val (.ref b13), .val (.ref b16), .val .null, .val .null] [(.int (1 : Int32))])) tg
      refine XS.goto X27.here hx rfl (pc0 := 211) (pc' := 215) rfl (hb hby at_211) (by decide) (by decide) ?_
      show Steps p.tables e below (T27.setTop (mkF m 215 #[.val (.int i0), .val (.int i1), .val (.int i2), .val (.int i3), .val (.int (i0 &&& (3 : Int32))), .val (.int c2), .val (.int c5), .val (.int c8), .val (.ref b13), .val (.ref b16), .val .null, .val .null] [(.int (1 : Int32))])) tg
      exact kg
    refine gsW c30 ?_
    refine goutW (v := some (.int (1 : Int32))) X27 hS (Nat.le_trans (Nat.le_refl T20.heap.size) (Nat.le_trans K23q.1 K27q.1)) hZ (own_EW hw) hh rfl R29 Bd.notSynchronized (fun h => by rw [Bd.returns] at h; cases h) (by decide) (by decide) ?_ (fun fs hr => retN X27 hx (t := .boolean) Bd.returns (by simp) (hb hby at_215) hr)
    exact ⟨rfl, N27⟩
  · have c31 : ∀ tg, Steps p.tables e below (T8.setTop (mkF m 39 #[.val (.int i0), .val (.int i1), .val (.int i2), .val (.int i3), .val (.int (i0 &&& (3 : Int32))), .val (.int c2), .val (.int c5), .val (.int c8), .unset, .unset, .unset, .unset] [(.int (1 : Int32)), (.int (i0 &&& (3 : Int32)))])) tg → Steps p.tables e below (T8.setTop (mkF m 25 #[.val (.int i0), .val (.int i1), .val (.int i2), .val (.int i3), .val (.int (i0 &&& (3 : Int32))), .val (.int c2), .val (.int c5), .val (.int c8), .unset, .unset, .unset, .unset] [(.int (i0 &&& (3 : Int32)))])) tg := fun tg kg => by
      refine XS.ifYes X8.here hx rfl (pc0 := 25) (pc' := 36) rfl (hb hby at_25) rfl ((if0 _ _).trans (feq hc11).2) (by decide) (by decide) ?_
      show Steps p.tables e below (T8.setTop (mkF m 36 #[.val (.int i0), .val (.int i1), .val (.int i2), .val (.int i3), .val (.int (i0 &&& (3 : Int32))), .val (.int c2), .val (.int c5), .val (.int c8), .unset, .unset, .unset, .unset] [])) tg
      refine XS.iload X8.here hx rfl (hb hby at_36) rfl ?_
      show Steps p.tables e below (T8.setTop (mkF m 38 #[.val (.int i0), .val (.int i1), .val (.int i2), .val (.int i3), .val (.int (i0 &&& (3 : Int32))), .val (.int c2), .val (.int c5), .val (.int c8), .unset, .unset, .unset, .unset] [(.int (i0 &&& (3 : Int32)))])) tg
      refine XS.iconst X8.here hx rfl (hb hby at_38) ?_
      show Steps p.tables e below (T8.setTop (mkF m 39 #[.val (.int i0), .val (.int i1), .val (.int i2), .val (.int i3), .val (.int (i0 &&& (3 : Int32))), .val (.int c2), .val (.int c5), .val (.int c8), .unset, .unset, .unset, .unset] [(.int (1 : Int32)), (.int (i0 &&& (3 : Int32)))])) tg
      exact kg
    refine gsW c31 ?_
    by_cases hc32 : (i0 &&& (3 : Int32)) = (1 : Int32)
    · have c33 : ∀ tg, Steps p.tables e below (T8.setTop (mkF m 43 #[.val (.int i0), .val (.int i1), .val (.int i2), .val (.int i3), .val (.int (i0 &&& (3 : Int32))), .val (.int c2), .val (.int c5), .val (.int c8), .unset, .unset, .unset, .unset] [(.int (1 : Int32))])) tg → Steps p.tables e below (T8.setTop (mkF m 39 #[.val (.int i0), .val (.int i1), .val (.int i2), .val (.int i3), .val (.int (i0 &&& (3 : Int32))), .val (.int c2), .val (.int c5), .val (.int c8), .unset, .unset, .unset, .unset] [(.int (1 : Int32)), (.int (i0 &&& (3 : Int32)))])) tg := fun tg kg => by
        refine XS.icmpNo X8.here hx rfl (hb hby at_39) rfl (teq hc32).2 ?_
        show Steps p.tables e below (T8.setTop (mkF m 42 #[.val (.int i0), .val (.int i1), .val (.int i2), .val (.int i3), .val (.int (i0 &&& (3 : Int32))), .val (.int c2), .val (.int c5), .val (.int c8), .unset, .unset, .unset, .unset] [])) tg
        refine XS.iconst X8.here hx rfl (hb hby at_42) ?_
        show Steps p.tables e below (T8.setTop (mkF m 43 #[.val (.int i0), .val (.int i1), .val (.int i2), .val (.int i3), .val (.int (i0 &&& (3 : Int32))), .val (.int c2), .val (.int c5), .val (.int c8), .unset, .unset, .unset, .unset] [(.int (1 : Int32))])) tg
        exact kg
      refine gsW c33 ?_
      obtain ⟨T34, h34, k34, X34, e34, E34, A34, st34⟩ := newP X8 hx hZ (hw _ (List.mem_of_getElem? (i := 4) rfl)) rfl (g := (mkF m 43 #[.val (.int i0), .val (.int i1), .val (.int i2), .val (.int i3), .val (.int (i0 &&& (3 : Int32))), .val (.int c2), .val (.int c5), .val (.int c8), .unset, .unset, .unset, .unset] [(.int (1 : Int32))])) rfl (hb hby at_43) rfl (by decide) (cap := 1) (by decide) (by decide) (by decide) (by decide)
      obtain ⟨b34, q34⟩ : ∃ z, z = T8.heap.size := ⟨_, rfl⟩
      rw [← q34] at A34 st34
      have g_b34 : n0 ≤ b34 := Nat.le_trans Z9 (Nat.le_of_eq q34.symm)
      have sz_b34 : h0.size ≤ b34 := Nat.le_trans K9.1 (Nat.le_of_eq q34.symm)
      have r35 : CHr Z own_EL s.vm T8.heap s.vm h34 := CHr.ext E34 R9.1
      have R35 : CHr Z own_EL s.vm h0 s.vm h34 := R9.trans r35
      have Z35 : n0 ≤ h34.size := Nat.le_trans Z9 E34.1
      have O35 : Old Z n0 h34 := O9.ext E34
      have K35 : Keep h0 h34 [] := K9.ext E34
      have V34 : Arv Z h34 b34 k34 .char (1 : Int32) [(.int (0 : Int32))] (.int (0 : Int32)) := (Arv.new A34 (by decide)).pad (pad_rep [] (.int (0 : Int32)) 1)
      refine gsW st34 ?_
      show OwnGoW p e below s Z own_EL _ _ _ (T34.setTop (mkF m 45 #[.val (.int i0), .val (.int i1), .val (.int i2), .val (.int i3), .val (.int (i0 &&& (3 : Int32))), .val (.int c2), .val (.int c5), .val (.int c8), .unset, .unset, .unset, .unset] [(.ref b34)]))
      have c36 : ∀ tg, Steps p.tables e below (T34.setTop (mkF m 49 #[.val (.int i0), .val (.int i1), .val (.int i2), .val (.int i3), .val (.int (i0 &&& (3 : Int32))), .val (.int c2), .val (.int c5), .val (.int c8), .unset, .unset, .unset, .unset] [(.int c2), (.int (0 : Int32)), (.ref b34), (.ref b34)])) tg → Steps p.tables e below (T34.setTop (mkF m 45 #[.val (.int i0), .val (.int i1), .val (.int i2), .val (.int i3), .val (.int (i0 &&& (3 : Int32))), .val (.int c2), .val (.int c5), .val (.int c8), .unset, .unset, .unset, .unset] [(.ref b34)])) tg := fun tg kg => by
        refine XS.dup X34.here hx rfl (hb hby at_45) rfl rfl ?_
        show Steps p.tables e below (T34.setTop (mkF m 46 #[.val (.int i0), .val (.int i1), .val (.int i2), .val (.int i3), .val (.int (i0 &&& (3 : Int32))), .val (.int c2), .val (.int c5), .val (.int c8), .unset, .unset, .unset, .unset] [(.ref b34), (.ref b34)])) tg
        refine XS.iconst X34.here hx rfl (hb hby at_46) ?_
        show Steps p.tables e below (T34.setTop (mkF m 47 #[.val (.int i0), .val (.int i1), .val (.int i2), .val (.int i3), .val (.int (i0 &&& (3 : Int32))), .val (.int c2), .val (.int c5), .val (.int c8), .unset, .unset, .unset, .unset] [(.int (0 : Int32)), (.ref b34), (.ref b34)])) tg
        refine XS.iload X34.here hx rfl (hb hby at_47) rfl ?_
        show Steps p.tables e below (T34.setTop (mkF m 49 #[.val (.int i0), .val (.int i1), .val (.int i2), .val (.int i3), .val (.int (i0 &&& (3 : Int32))), .val (.int c2), .val (.int c5), .val (.int c8), .unset, .unset, .unset, .unset] [(.int c2), (.int (0 : Int32)), (.ref b34), (.ref b34)])) tg
        exact kg
      refine gsW c36 ?_
      obtain ⟨cl37, A37, a37q, a37S, a37N, a37H, a37G⟩ := id V34
      obtain ⟨T37, h37, X37, e37, W37, st37⟩ := stC X34 hx hZ e34 A37 (j := (0 : Int32)) (inb_of a37S ⟨by decide, by decide⟩) (g := (mkF m 49 #[.val (.int i0), .val (.int i1), .val (.int i2), .val (.int i3), .val (.int (i0 &&& (3 : Int32))), .val (.int c2), .val (.int c5), .val (.int c8), .unset, .unset, .unset, .unset] [(.int c2), (.int (0 : Int32)), (.ref b34), (.ref b34)])) rfl rfl (hb hby at_49)
      have V37 : Arv Z h37 b34 k34 .char (1 : Int32) [(.int (nar .char c2))] (.int (0 : Int32)) := Arv.set A37 a37q a37S a37N a37H a37G (fits_nar_char _) W37 0 rfl (Nat.le_of_ble_eq_true rfl)
      have N37 := Fr.snoc X37 N8 g_b34
      have r38 : CHr Z own_EL s.vm h34 s.vm h37 := CHr.wr W37 (Safe.arv hZ.alike V34 (by decide)) R35.1
      have R38 : CHr Z own_EL s.vm h0 s.vm h37 := R35.trans r38
      have Z38 : n0 ≤ h37.size := Nat.le_trans Z35 (Keep.of_wr W37).1
      have O38 : Old Z n0 h37 := O35.wr W37 g_b34
      have K38 : Keep h0 h37 [] := K35.wr W37 (Or.inr sz_b34)
      refine gsW st37 ?_
      show OwnGoW p e below s Z own_EL _ _ _ (T37.setTop (mkF m 50 #[.val (.int i0), .val (.int i1), .val (.int i2), .val (.int i3), .val (.int (i0 &&& (3 : Int32))), .val (.int c2), .val (.int c5), .val (.int c8), .unset, .unset, .unset, .unset] [(.ref b34)]))
      have c39 : ∀ tg, Steps p.tables e below (T37.setTop (mkF m 99 #[.val (.int i0), .val (.int i1), .val (.int i2), .val (.int i3), .val (.int (i0 &&& (3 : Int32))), .val (.int c2), .val (.int c5), .val (.int c8), .val (.ref b34), .unset, .unset, .unset] [])) tg → Steps p.tables e below (T37.setTop (mkF m 50 #[.val (.int i0), .val (.int i1), .val (.int i2), .val (.int i3), .val (.int (i0 &&& (3 : Int32))), .val (.int c2), .val (.int c5), .val (.int c8), .unset, .unset, .unset, .unset] [(.ref b34)])) tg := fun tg kg => by
        refine XS.astore X37.here hx rfl (hb hby at_50) rfl rfl (l' := #[.val (.int i0), .val (.int i1), .val (.int i2), .val (.int i3), .val (.int (i0 &&& (3 : Int32))), .val (.int c2), .val (.int c5), .val (.int c8), .val (.ref b34), .unset, .unset, .unset]) rfl ?_
        show Steps p.tables e below (T37.setTop (mkF m 52 #[.val (.int i0), .val (.int i1), .val (.int i2), .val (.int i3), .val (.int (i0 &&& (3 : Int32))), .val (.int c2), .val (.int c5), .val (.int c8), .val (.ref b34), .unset, .unset, .unset] [])) tg
        refine XS.goto X37.here hx rfl (pc0 := 52) (pc' := 99) rfl (hb hby at_52) (by decide) (by decide) ?_
        show Steps p.tables e below (T37.setTop (mkF m 99 #[.val (.int i0), .val (.int i1), .val (.int i2), .val (.int i3), .val (.int (i0 &&& (3 : Int32))), .val (.int c2), .val (.int c5), .val (.int c8), .val (.ref b34), .unset, .unset, .unset] [])) tg
        exact kg
      refine gsW c39 ?_
      obtain ⟨T40, h40, X40, e40, E40, A40, D40, -, st40⟩ := newO X37 hx hZ hown (hw _ (List.mem_of_getElem? (i := 5) rfl)) (hw _ (List.mem_of_getElem? (i := 6) rfl)) (hw _ (List.mem_of_getElem? (i := 7) rfl)) e37 (g := (mkF m 99 #[.val (.int i0), .val (.int i1), .val (.int i2), .val (.int i3), .val (.int (i0 &&& (3 : Int32))), .val (.int c2), .val (.int c5), .val (.int c8), .val (.ref b34), .unset, .unset, .unset] [])) rfl (hb hby at_99) (by decide) (by decide)
      obtain ⟨b40, q40⟩ : ∃ z, z = h37.size := ⟨_, rfl⟩
      rw [← q40] at A40 D40 st40
      have g_b40 : n0 ≤ b40 := Nat.le_trans Z38 (Nat.le_of_eq q40.symm)
      have sz_b40 : h0.size ≤ b40 := Nat.le_trans K38.1 (Nat.le_of_eq q40.symm)
      have sfa40 : Safe Z own_EL s.vm h37 b40 := Safe.new (Nat.le_of_eq q40.symm)
      have r41 : CHr Z own_EL s.vm h37 s.vm h40 := CHr.ext E40 R38.1
      have R41 : CHr Z own_EL s.vm h0 s.vm h40 := R38.trans r41
      have Z41 : n0 ≤ h40.size := Nat.le_trans Z38 E40.1
      have O41 : Old Z n0 h40 := O38.ext E40
      have K41 : Keep h0 h40 [] := K38.ext E40
      have sfb40 := Safe.ext E40 R38.1 sfa40
      have F_value_b40 : Fld Z h40 b40 "java/lang/String" "value" "[B" .null := D40 (Or.inr (hw _ (List.mem_of_getElem? (i := 20) rfl))) (ty := (.array .byte)) (by decide)
      have F_coder_b40 : Fld Z h40 b40 "java/lang/String" "coder" "B" (.int (0 : Int32)) := D40 (Or.inr (hw _ (List.mem_of_getElem? (i := 21) rfl))) (ty := .byte) (by decide)
      refine gsW st40 ?_
      show OwnGoW p e below s Z own_EL _ _ _ (T40.setTop (mkF m 102 #[.val (.int i0), .val (.int i1), .val (.int i2), .val (.int i3), .val (.int (i0 &&& (3 : Int32))), .val (.int c2), .val (.int c5), .val (.int c8), .val (.ref b34), .unset, .unset, .unset] [(.ref b40)]))
      have c42 : ∀ tg, Steps p.tables e below (T40.setTop (mkF m 105 #[.val (.int i0), .val (.int i1), .val (.int i2), .val (.int i3), .val (.int (i0 &&& (3 : Int32))), .val (.int c2), .val (.int c5), .val (.int c8), .val (.ref b34), .unset, .unset, .unset] [(.ref b34), (.ref b40), (.ref b40)])) tg → Steps p.tables e below (T40.setTop (mkF m 102 #[.val (.int i0), .val (.int i1), .val (.int i2), .val (.int i3), .val (.int (i0 &&& (3 : Int32))), .val (.int c2), .val (.int c5), .val (.int c8), .val (.ref b34), .unset, .unset, .unset] [(.ref b40)])) tg := fun tg kg => by
        refine XS.dup X40.here hx rfl (hb hby at_102) rfl rfl ?_
        show Steps p.tables e below (T40.setTop (mkF m 103 #[.val (.int i0), .val (.int i1), .val (.int i2), .val (.int i3), .val (.int (i0 &&& (3 : Int32))), .val (.int c2), .val (.int c5), .val (.int c8), .val (.ref b34), .unset, .unset, .unset] [(.ref b40), (.ref b40)])) tg
        refine XS.aload X40.here hx rfl (hb hby at_103) rfl rfl ?_
        show Steps p.tables e below (T40.setTop (mkF m 105 #[.val (.int i0), .val (.int i1), .val (.int i2), .val (.int i3), .val (.int (i0 &&& (3 : Int32))), .val (.int c2), .val (.int c5), .val (.int c8), .val (.ref b34), .unset, .unset, .unset] [(.ref b34), (.ref b40), (.ref b40)])) tg
        exact kg
      refine gsW c42 ?_
      have hp43 : ∀ c ∈ ([(nar .char c2)] : List Int32), ¬ c < 0 ∧ ¬ (255 : Int32) < c := by
        intro c hc
        simp only [List.mem_cons, List.not_mem_nil, or_false] at hc
        rcases hc with rfl
        all_goals first | exact own_nb b2q | exact own_nb b5q | exact own_nb b8q
      have f44 := (V37.ext E40)
      obtain ⟨_, _, ⟨T45, L45, k45, n45⟩, -, X45, ⟨Lc45, hQ45, l45, y45, z45⟩, st45⟩ := X40.specialBack hx (y := (⟨"java/lang/String", "<init>", "([C)V"⟩ : MethodName)) rfl hown (mvT hZ (hw _ (List.mem_of_getElem? (i := 8) rfl))) (mvT hZ (hw _ (List.mem_of_getElem? (i := 9) rfl))) (mvT hZ (hw _ (List.mem_of_getElem? (i := 10) rfl))) (by decide) (StrChars.Road.backV (W := 1) hZ hws (kI := 4) (hw _ (List.mem_of_getElem? (i := 6) rfl)) (cs := ([(nar .char c2)] : List Int32)) (bs := ([(nar .char c2)] : List Int32).map (fun c => c.toInt8.toInt32)) (n := 1) g_b40 Z41 A40 F_value_b40 F_coder_b40 f44 (S0.ext O41.2) hz rfl rfl (by decide) (by decide) hp43 rfl (by decide) (by decide)) (g := (mkF m 105 #[.val (.int i0), .val (.int i1), .val (.int i2), .val (.int i3), .val (.int (i0 &&& (3 : Int32))), .val (.int c2), .val (.int c5), .val (.int c8), .val (.ref b34), .unset, .unset, .unset] [(.ref b34), (.ref b40), (.ref b40)])) rfl (by rw [hml]; rfl) (Steps.refl _) (a := b40) (argsL := [(.ref b34)]) (rest := [(.ref b40)]) (lenOf pd_140 rfl) rfl (by show 2 * 0 + _ ≤ _; exact Nat.le_of_eq rfl) (hb hby at_105) (fun _ _ => ⟨rfl, e40, (by decide : 2 + 1 ≤ _), (by decide : 5 + 1 ≤ _)⟩)
      dsimp only [Pt.U, Pt.locs, Pt.cells, Pt.slots] at X45 l45 y45 z45 st45 hQ45
      subst l45 y45 z45
      obtain ⟨rfl, N45q, K45q, g45e, g45c, t45, kb45, -, g45t, -, g45v, g45a⟩ := hQ45
      have N45 := Fr.app N37 N45q
      have g_t45 : n0 ≤ t45 := Nat.le_trans Z41 g45t
      have sz_t45 : h0.size ≤ t45 := Nat.le_trans K41.1 g45t
      have r46 : CHr Z own_EL s.vm h40 s.vm T45.heap := CHr.keep K45q (sfS sfb40 sf0) R41.1
      have R46 : CHr Z own_EL s.vm h0 s.vm T45.heap := R41.trans r46
      have Z46 : n0 ≤ T45.heap.size := Nat.le_trans Z41 K45q.1
      have O46 : Old Z n0 T45.heap := O41.keep K45q (allS g_b40 all0)
      have K46 : Keep h0 T45.heap [] := K41.trans K45q (allS (Or.inr sz_b40) all0)
      refine gsW (fun _ k => st45.trans k) ?_
      show OwnGoW p e below s Z own_EL _ _ _ (T45.setTop (mkF m 108 #[.val (.int i0), .val (.int i1), .val (.int i2), .val (.int i3), .val (.int (i0 &&& (3 : Int32))), .val (.int c2), .val (.int c5), .val (.int c8), .val (.ref b34), .unset, .unset, .unset] [(.ref b40)]))
      have c47 : ∀ tg, Steps p.tables e below (T45.setTop (mkF m 112 #[.val (.int i0), .val (.int i1), .val (.int i2), .val (.int i3), .val (.int (i0 &&& (3 : Int32))), .val (.int c2), .val (.int c5), .val (.int c8), .val (.ref b34), .val (.ref b40), .unset, .unset] [(.ref b40)])) tg → Steps p.tables e below (T45.setTop (mkF m 108 #[.val (.int i0), .val (.int i1), .val (.int i2), .val (.int i3), .val (.int (i0 &&& (3 : Int32))), .val (.int c2), .val (.int c5), .val (.int c8), .val (.ref b34), .unset, .unset, .unset] [(.ref b40)])) tg := fun tg kg => by
        refine XS.astore X45.here hx rfl (hb hby at_108) rfl rfl (l' := #[.val (.int i0), .val (.int i1), .val (.int i2), .val (.int i3), .val (.int (i0 &&& (3 : Int32))), .val (.int c2), .val (.int c5), .val (.int c8), .val (.ref b34), .val (.ref b40), .unset, .unset]) rfl ?_
        show Steps p.tables e below (T45.setTop (mkF m 110 #[.val (.int i0), .val (.int i1), .val (.int i2), .val (.int i3), .val (.int (i0 &&& (3 : Int32))), .val (.int c2), .val (.int c5), .val (.int c8), .val (.ref b34), .val (.ref b40), .unset, .unset] [])) tg
        refine XS.aload X45.here hx rfl (hb hby at_110) rfl rfl ?_
        show Steps p.tables e below (T45.setTop (mkF m 112 #[.val (.int i0), .val (.int i1), .val (.int i2), .val (.int i3), .val (.int (i0 &&& (3 : Int32))), .val (.int c2), .val (.int c5), .val (.int c8), .val (.ref b34), .val (.ref b40), .unset, .unset] [(.ref b40)])) tg
        exact kg
      refine gsW c47 ?_
      have T48 : Str Z T45.heap b40 ([(nar .char c2)] : List Int32) := ⟨_, _, g45e, g45c, g45v, g45a⟩
      simp only [own_nc b2q, own_nc b5q, own_nc b8q] at T48
      have hb49 : ∀ c ∈ ([c2] : List Int32), ¬ c < 0 ∧ ¬ (255 : Int32) < c := by
        intro c hc
        simp only [List.mem_cons, List.not_mem_nil, or_false] at hc
        rcases hc with rfl <;> assumption
      by_cases hc50 : c2 = (60 : Int32)
      · obtain ⟨_, _, ⟨T51, L51, k51, n51⟩, -, X51, ⟨Lc51, hQ51, l51, y51, z51⟩, st51⟩ := Jvm.LawKit.callS X45 hx (y := (⟨"com/example/tranche/tranche/terms/Comparison", "written", "(Ljava/lang/String;)Ljava/util/Optional;"⟩ : MethodName)) hown (mvT hZ (hw _ (List.mem_of_getElem? (i := 26) rfl))) (mvT hZ (hw _ (List.mem_of_getElem? (i := 27) rfl))) (mvT hZ (hw _ (List.mem_of_getElem? (i := 28) rfl))) (mvT hZ (hw _ (List.mem_of_getElem? (i := 29) rfl))) (by decide) (backC (W := 0) (rm_wr0 l Z a0 hw [] b40 ([c2] : List Int32) z oe va kv en0 en1 en2 en3 sn0 sn1 sn2 sn3 T45.heap n0 Z46 O46 S0 hz T48 hb49 (by simp) S_oe S_va V_va E_va F_e0 F_e1 F_e2 F_e3 T_s0 T_s1 T_s2 T_s3 (by simp only [hc50])) hZ (hw _ (List.mem_of_getElem? (i := 29) rfl)) (hw _ (List.mem_of_getElem? (i := 28) rfl)) (by decide) (by decide)) (g := (mkF m 112 #[.val (.int i0), .val (.int i1), .val (.int i2), .val (.int i3), .val (.int (i0 &&& (3 : Int32))), .val (.int c2), .val (.int c5), .val (.int c8), .val (.ref b34), .val (.ref b40), .unset, .unset] [(.ref b40)])) rfl (by rw [hml]; rfl) (argsL := [(.ref b40)]) (rest := []) (lenOf pd_141 rfl) rfl (by show 2 * 0 + _ ≤ _; exact Nat.le_of_eq rfl) (hb hby at_112) (fun _ _ => ⟨rfl, rfl, (by decide : 3 + 2 ≤ _), (by decide : 6 + 5 ≤ _)⟩)
        dsimp only [Pt.U, Pt.locs, Pt.cells, Pt.slots] at X51 l51 y51 z51 st51 hQ51
        subst l51 y51 z51
        obtain ⟨a51, rfl, N51q, K51q, E51q, F51v⟩ := hQ51
        have N51 := Fr.app N45 N51q
        have r52 : CHr Z own_EL s.vm T45.heap s.vm T51.heap := CHr.keep K51q sf0 R46.1
        have R52 : CHr Z own_EL s.vm h0 s.vm T51.heap := R46.trans r52
        have Z52 : n0 ≤ T51.heap.size := Nat.le_trans Z46 K51q.1
        have O52 : Old Z n0 T51.heap := O46.keep K51q all0
        have K52 : Keep h0 T51.heap [] := K46.trans K51q all0
        refine gsW st51 ?_
        show OwnGoW p e below s Z own_EL _ _ _ (T51.setTop (mkF m 115 #[.val (.int i0), .val (.int i1), .val (.int i2), .val (.int i3), .val (.int (i0 &&& (3 : Int32))), .val (.int c2), .val (.int c5), .val (.int c8), .val (.ref b34), .val (.ref b40), .unset, .unset] [(.ref a51)]))
        have c53 : ∀ tg, Steps p.tables e below (T51.setTop (mkF m 116 #[.val (.int i0), .val (.int i1), .val (.int i2), .val (.int i3), .val (.int (i0 &&& (3 : Int32))), .val (.int c2), .val (.int c5), .val (.int c8), .val (.ref b34), .val (.ref b40), .unset, .unset] [.null, (.ref a51)])) tg → Steps p.tables e below (T51.setTop (mkF m 115 #[.val (.int i0), .val (.int i1), .val (.int i2), .val (.int i3), .val (.int (i0 &&& (3 : Int32))), .val (.int c2), .val (.int c5), .val (.int c8), .val (.ref b34), .val (.ref b40), .unset, .unset] [(.ref a51)])) tg := fun tg kg => by
          refine XS.aconstNull X51.here hx rfl (hb hby at_115) ?_
          show Steps p.tables e below (T51.setTop (mkF m 116 #[.val (.int i0), .val (.int i1), .val (.int i2), .val (.int i3), .val (.int (i0 &&& (3 : Int32))), .val (.int c2), .val (.int c5), .val (.int c8), .val (.ref b34), .val (.ref b40), .unset, .unset] [.null, (.ref a51)])) tg
          exact kg
        refine gsW c53 ?_
        obtain ⟨cq54, kq54, q54a, q54b, q54c⟩ := isOf hZ rfl E51q
        obtain ⟨_, _, ⟨T54, L54, k54, n54⟩, -, X54, ⟨Lc54, hQ54, l54, y54, z54⟩, st54⟩ := X51.virtualBack hx (y := (⟨"java/util/Optional", "orElse", "(Ljava/lang/Object;)Ljava/lang/Object;"⟩ : MethodName)) (z := (⟨"java/util/Optional", "orElse", "(Ljava/lang/Object;)Ljava/lang/Object;"⟩ : MethodName)) hown (mvT hZ (hw _ (List.mem_of_getElem? (i := 67) rfl))) (mvT hZ (hw _ (List.mem_of_getElem? (i := 68) rfl))) (notFace_of_selects (args := #[]) (mvT hZ (hw _ (List.mem_of_getElem? (i := 70) rfl)))) (mvT hZ (hw _ (List.mem_of_getElem? (i := 70) rfl))) (mvT hZ (hw _ (List.mem_of_getElem? (i := 69) rfl))) (by decide) (backC (W := 0) (rm_or_ref l Z a0 hw [] a51 en0 T51.heap n0 Z52 O52 F51v) hZ (hw _ (List.mem_of_getElem? (i := 71) rfl)) (hw _ (List.mem_of_getElem? (i := 32) rfl)) (by decide) (by decide)) q54a q54c (g := (mkF m 116 #[.val (.int i0), .val (.int i1), .val (.int i2), .val (.int i3), .val (.int (i0 &&& (3 : Int32))), .val (.int c2), .val (.int c5), .val (.int c8), .val (.ref b34), .val (.ref b40), .unset, .unset] [.null, (.ref a51)])) rfl (by rw [hml]; rfl) (Steps.refl _) (argsL := [.null]) (rest := []) (lenOf pd_87 rfl) rfl (by show 2 * 0 + _ ≤ _; exact Nat.le_of_eq rfl) (hb hby at_116) (fun _ _ => ⟨rfl, rfl, (by decide : 5 + 0 ≤ _), (by decide : 11 + 0 ≤ _)⟩)
        dsimp only [Pt.U, Pt.locs, Pt.cells, Pt.slots] at X54 l54 y54 z54 st54 hQ54
        subst l54 y54 z54
        obtain ⟨rfl, N54q, K54q⟩ := hQ54
        have N54 := Fr.app N51 N54q
        have r55 : CHr Z own_EL s.vm T51.heap s.vm T54.heap := CHr.keep K54q sf0 R52.1
        have R55 : CHr Z own_EL s.vm h0 s.vm T54.heap := R52.trans r55
        have Z55 : n0 ≤ T54.heap.size := Nat.le_trans Z52 K54q.1
        have O55 : Old Z n0 T54.heap := O52.keep K54q all0
        have K55 : Keep h0 T54.heap [] := K52.trans K54q all0
        refine gsW (fun _ k => st54.trans k) ?_
        show OwnGoW p e below s Z own_EL _ _ _ (T54.setTop (mkF m 119 #[.val (.int i0), .val (.int i1), .val (.int i2), .val (.int i3), .val (.int (i0 &&& (3 : Int32))), .val (.int c2), .val (.int c5), .val (.int c8), .val (.ref b34), .val (.ref b40), .unset, .unset] [(.ref en0)]))
        have f56 := ((((((((((E_e0.ext O0.2).keep K2q).keep K5q).keep K8q).ext E34).wr W37).ext E40).keep K45q).keep K51q).keep K54q)
        obtain ⟨T57, X57, e57, st57⟩ := castY X54 hx hZ hown (hw _ (List.mem_of_getElem? (i := 98) rfl)) rfl (Ins.self f56) (g := (mkF m 119 #[.val (.int i0), .val (.int i1), .val (.int i2), .val (.int i3), .val (.int (i0 &&& (3 : Int32))), .val (.int c2), .val (.int c5), .val (.int c8), .val (.ref b34), .val (.ref b40), .unset, .unset] [(.ref en0)])) rfl rfl (hb hby at_119)
        refine gsW st57 ?_
        show OwnGoW p e below s Z own_EL _ _ _ (T57.setTop (mkF m 122 #[.val (.int i0), .val (.int i1), .val (.int i2), .val (.int i3), .val (.int (i0 &&& (3 : Int32))), .val (.int c2), .val (.int c5), .val (.int c8), .val (.ref b34), .val (.ref b40), .unset, .unset] [(.ref en0)]))
        have c58 : ∀ tg, Steps p.tables e below (T57.setTop (mkF m 140 #[.val (.int i0), .val (.int i1), .val (.int i2), .val (.int i3), .val (.int (i0 &&& (3 : Int32))), .val (.int c2), .val (.int c5), .val (.int c8), .val (.ref b34), .val (.ref b40), .val (.ref en0), .val .null] [])) tg → Steps p.tables e below (T57.setTop (mkF m 122 #[.val (.int i0), .val (.int i1), .val (.int i2), .val (.int i3), .val (.int (i0 &&& (3 : Int32))), .val (.int c2), .val (.int c5), .val (.int c8), .val (.ref b34), .val (.ref b40), .unset, .unset] [(.ref en0)])) tg := fun tg kg => by
          refine XS.astore X57.here hx rfl (hb hby at_122) rfl rfl (l' := #[.val (.int i0), .val (.int i1), .val (.int i2), .val (.int i3), .val (.int (i0 &&& (3 : Int32))), .val (.int c2), .val (.int c5), .val (.int c8), .val (.ref b34), .val (.ref b40), .val (.ref en0), .unset]) rfl ?_
          show Steps p.tables e below (T57.setTop (mkF m 124 #[.val (.int i0), .val (.int i1), .val (.int i2), .val (.int i3), .val (.int (i0 &&& (3 : Int32))), .val (.int c2), .val (.int c5), .val (.int c8), .val (.ref b34), .val (.ref b40), .val (.ref en0), .unset] [])) tg
          refine XS.aconstNull X57.here hx rfl (hb hby at_124) ?_
          show Steps p.tables e below (T57.setTop (mkF m 125 #[.val (.int i0), .val (.int i1), .val (.int i2), .val (.int i3), .val (.int (i0 &&& (3 : Int32))), .val (.int c2), .val (.int c5), .val (.int c8), .val (.ref b34), .val (.ref b40), .val (.ref en0), .unset] [.null])) tg
          refine XS.astore X57.here hx rfl (hb hby at_125) rfl rfl (l' := #[.val (.int i0), .val (.int i1), .val (.int i2), .val (.int i3), .val (.int (i0 &&& (3 : Int32))), .val (.int c2), .val (.int c5), .val (.int c8), .val (.ref b34), .val (.ref b40), .val (.ref en0), .val .null]) rfl ?_
          show Steps p.tables e below (T57.setTop (mkF m 127 #[.val (.int i0), .val (.int i1), .val (.int i2), .val (.int i3), .val (.int (i0 &&& (3 : Int32))), .val (.int c2), .val (.int c5), .val (.int c8), .val (.ref b34), .val (.ref b40), .val (.ref en0), .val .null] [])) tg
          refine XS.iload X57.here hx rfl (hb hby at_127) rfl ?_
          show Steps p.tables e below (T57.setTop (mkF m 129 #[.val (.int i0), .val (.int i1), .val (.int i2), .val (.int i3), .val (.int (i0 &&& (3 : Int32))), .val (.int c2), .val (.int c5), .val (.int c8), .val (.ref b34), .val (.ref b40), .val (.ref en0), .val .null] [(.int (i0 &&& (3 : Int32)))])) tg
          refine XS.iconst X57.here hx rfl (hb hby at_129) ?_
          show Steps p.tables e below (T57.setTop (mkF m 130 #[.val (.int i0), .val (.int i1), .val (.int i2), .val (.int i3), .val (.int (i0 &&& (3 : Int32))), .val (.int c2), .val (.int c5), .val (.int c8), .val (.ref b34), .val (.ref b40), .val (.ref en0), .val .null] [(.int (1 : Int32)), (.int (i0 &&& (3 : Int32)))])) tg
          refine XS.icmpNo X57.here hx rfl (hb hby at_130) rfl (teq hc32).2 ?_
          show Steps p.tables e below (T57.setTop (mkF m 133 #[.val (.int i0), .val (.int i1), .val (.int i2), .val (.int i3), .val (.int (i0 &&& (3 : Int32))), .val (.int c2), .val (.int c5), .val (.int c8), .val (.ref b34), .val (.ref b40), .val (.ref en0), .val .null] [])) tg
          refine XS.iload X57.here hx rfl (hb hby at_133) rfl ?_
          show Steps p.tables e below (T57.setTop (mkF m 135 #[.val (.int i0), .val (.int i1), .val (.int i2), .val (.int i3), .val (.int (i0 &&& (3 : Int32))), .val (.int c2), .val (.int c5), .val (.int c8), .val (.ref b34), .val (.ref b40), .val (.ref en0), .val .null] [(.int c2)])) tg
          refine XS.bipush X57.here hx rfl (hb hby at_135) ?_
          show Steps p.tables e below (T57.setTop (mkF m 137 #[.val (.int i0), .val (.int i1), .val (.int i2), .val (.int i3), .val (.int (i0 &&& (3 : Int32))), .val (.int c2), .val (.int c5), .val (.int c8), .val (.ref b34), .val (.ref b40), .val (.ref en0), .val .null] [(.int (60 : Int32)), (.int c2)])) tg
          refine XS.icmpNo X57.here hx rfl (hb hby at_137) rfl (teq hc50).2 ?_
          show Steps p.tables e below (T57.setTop (mkF m 140 #[.val (.int i0), .val (.int i1), .val (.int i2), .val (.int i3), .val (.int (i0 &&& (3 : Int32))), .val (.int c2), .val (.int c5), .val (.int c8), .val (.ref b34), .val (.ref b40), .val (.ref en0), .val .null] [])) tg
          exact kg
        refine gsW c58 ?_
        obtain ⟨T59, X59, e59, st59⟩ := getS2 X57 hx hZ hown (host := "") (Or.inl (hw _ (List.mem_of_getElem? (i := 100) rfl))) Via.refl e57 (S_e0.ext O55.2) (g := (mkF m 140 #[.val (.int i0), .val (.int i1), .val (.int i2), .val (.int i3), .val (.int (i0 &&& (3 : Int32))), .val (.int c2), .val (.int c5), .val (.int c8), .val (.ref b34), .val (.ref b40), .val (.ref en0), .val .null] [])) rfl (hb hby at_140)
        refine gsW st59 ?_
        show OwnGoW p e below s Z own_EL _ _ _ (T59.setTop (mkF m 143 #[.val (.int i0), .val (.int i1), .val (.int i2), .val (.int i3), .val (.int (i0 &&& (3 : Int32))), .val (.int c2), .val (.int c5), .val (.int c8), .val (.ref b34), .val (.ref b40), .val (.ref en0), .val .null] [(.ref en0)]))
        have c60 : ∀ tg, Steps p.tables e below (T59.setTop (mkF m 215 #[.val (.int i0), .val (.int i1), .val (.int i2), .val (.int i3), .val (.int (i0 &&& (3 : Int32))), .val (.int c2), .val (.int c5), .val (.int c8), .val (.ref b34), .val (.ref b40), .val (.ref en0), .val (.ref en0)] [(.int (1 : Int32))])) tg → Steps p.tables e below (T59.setTop (mkF m 143 #[.val (.int i0), .val (.int i1), .val (.int i2), .val (.int i3), .val (.int (i0 &&& (3 : Int32))), .val (.int c2), .val (.int c5), .val (.int c8), .val (.ref b34), .val (.ref b40), .val (.ref en0), .val .null] [(.ref en0)])) tg := fun tg kg => by
          refine XS.astore X59.here hx rfl (hb hby at_143) rfl rfl (l' := #[.val (.int i0), .val (.int i1), .val (.int i2), .val (.int i3), .val (.int (i0 &&& (3 : Int32))), .val (.int c2), .val (.int c5), .val (.int c8), .val (.ref b34), .val (.ref b40), .val (.ref en0), .val (.ref en0)]) rfl ?_
          show Steps p.tables e below (T59.setTop (mkF m 145 #[.val (.int i0), .val (.int i1), .val (.int i2), .val (.int i3), .val (.int (i0 &&& (3 : Int32))), .val (.int c2), .val (.int c5), .val (.int c8), .val (.ref b34), .val (.ref b40), .val (.ref en0), .val (.ref en0)] [])) tg
          refine XS.goto X59.here hx rfl (pc0 := 145) (pc' := 203) rfl (hb hby at_145) (by decide) (by decide) ?_
          show Steps p.tables e below (T59.setTop (mkF m 203 #[.val (.int i0), .val (.int i1), .val (.int i2), .val (.int i3), .val (.int (i0 &&& (3 : Int32))), .val (.int c2), .val (.int c5), .val (.int c8), .val (.ref b34), .val (.ref b40), .val (.ref en0), .val (.ref en0)] [])) tg
          refine XS.aload X59.here hx rfl (hb hby at_203) rfl rfl ?_
          show Steps p.tables e below (T59.setTop (mkF m 205 #[.val (.int i0), .val (.int i1), .val (.int i2), .val (.int i3), .val (.int (i0 &&& (3 : Int32))), .val (.int c2), .val (.int c5), .val (.int c8), .val (.ref b34), .val (.ref b40), .val (.ref en0), .val (.ref en0)] [(.ref en0)])) tg
          refine XS.aload X59.here hx rfl (hb hby at_205) rfl rfl ?_
          show Steps p.tables e below (T59.setTop (mkF m 207 #[.val (.int i0), .val (.int i1), .val (.int i2), .val (.int i3), .val (.int (i0 &&& (3 : Int32))), .val (.int c2), .val (.int c5), .val (.int c8), .val (.ref b34), .val (.ref b40), .val (.ref en0), .val (.ref en0)] [(.ref en0), (.ref en0)])) tg
          refine Jvm.RoadKit.acmp (g := (mkF m 207 #[.val (.int i0), .val (.int i1), .val (.int i2), .val (.int i3), .val (.int (i0 &&& (3 : Int32))), .val (.int c2), .val (.int c5), .val (.int c8), .val (.ref b34), .val (.ref b40), .val (.ref en0), .val (.ref en0)] [(.ref en0), (.ref en0)])) X59 hx rfl rfl rfl (pc0 := 207) (pc' := 210) (same := true) rfl (hb hby at_207) rfl (decide_eq_true rfl) (by decide) (by decide) ?_
          show Steps p.tables e below (T59.setTop (mkF m 210 #[.val (.int i0), .val (.int i1), .val (.int i2), .val (.int i3), .val (.int (i0 &&& (3 : Int32))), .val (.int c2), .val (.int c5), .val (.int c8), .val (.ref b34), .val (.ref b40), .val (.ref en0), .val (.ref en0)] [])) tg
          refine XS.iconst X59.here hx rfl (hb hby at_210) ?_
          show Steps p.tables e below (T59.setTop (mkF m 211 #[.val (.int i0), .val (.int i1), .val (.int i2), .val (.int i3), .val (.int (i0 &&& (3 : Int32))), .val (.int c2), .val (.int c5), .val (.int c8), .val (.ref b34), .val (.ref b40), .val (.ref en0), .val (.ref en0)] [(.int (1 : Int32))])) tg
          refine XS.goto X59.here hx rfl (pc0 := 211) (pc' := 215) rfl (hb hby at_211) (by decide) (by decide) ?_
          show Steps p.tables e below (T59.setTop (mkF m 215 #[.val (.int i0), .val (.int i1), .val (.int i2), .val (.int i3), .val (.int (i0 &&& (3 : Int32))), .val (.int c2), .val (.int c5), .val (.int c8), .val (.ref b34), .val (.ref b40), .val (.ref en0), .val (.ref en0)] [(.int (1 : Int32))])) tg
          exact kg
        refine gsW c60 ?_
        refine goutW (v := some (.int (1 : Int32))) X59 hS (Nat.le_trans hk (Nat.le_trans (Nat.le_trans (Nat.le_trans (Nat.le_trans (Nat.le_trans (Nat.le_trans (Nat.le_trans (Nat.le_trans K2q.1 K5q.1) K8q.1) E34.1) (Keep.of_wr W37).1) E40.1) K45q.1) K51q.1) K54q.1)) hZ (own_EW hw) hh e59 R55 Bd.notSynchronized (fun h => by rw [Bd.returns] at h; cases h) (by decide) (by decide) ?_ (fun fs hr => retN X59 hx (t := .boolean) Bd.returns (by simp) (hb hby at_215) hr)
        exact ⟨rfl, N54⟩
      · by_cases hc61 : c2 = (62 : Int32)
        · obtain ⟨_, _, ⟨T62, L62, k62, n62⟩, -, X62, ⟨Lc62, hQ62, l62, y62, z62⟩, st62⟩ := Jvm.LawKit.callS X45 hx (y := (⟨"com/example/tranche/tranche/terms/Comparison", "written", "(Ljava/lang/String;)Ljava/util/Optional;"⟩ : MethodName)) hown (mvT hZ (hw _ (List.mem_of_getElem? (i := 26) rfl))) (mvT hZ (hw _ (List.mem_of_getElem? (i := 27) rfl))) (mvT hZ (hw _ (List.mem_of_getElem? (i := 28) rfl))) (mvT hZ (hw _ (List.mem_of_getElem? (i := 29) rfl))) (by decide) (backC (W := 0) (rm_wr2 l Z a0 hw [] b40 ([c2] : List Int32) z oe va kv en0 en1 en2 en3 sn0 sn1 sn2 sn3 T45.heap n0 Z46 O46 S0 hz T48 hb49 (by simp) S_oe S_va V_va E_va F_e0 F_e1 F_e2 F_e3 T_s0 T_s1 T_s2 T_s3 (by simp only [hc50, hc61])) hZ (hw _ (List.mem_of_getElem? (i := 29) rfl)) (hw _ (List.mem_of_getElem? (i := 28) rfl)) (by decide) (by decide)) (g := (mkF m 112 #[.val (.int i0), .val (.int i1), .val (.int i2), .val (.int i3), .val (.int (i0 &&& (3 : Int32))), .val (.int c2), .val (.int c5), .val (.int c8), .val (.ref b34), .val (.ref b40), .unset, .unset] [(.ref b40)])) rfl (by rw [hml]; rfl) (argsL := [(.ref b40)]) (rest := []) (lenOf pd_141 rfl) rfl (by show 2 * 0 + _ ≤ _; exact Nat.le_of_eq rfl) (hb hby at_112) (fun _ _ => ⟨rfl, rfl, (by decide : 3 + 2 ≤ _), (by decide : 6 + 5 ≤ _)⟩)
          dsimp only [Pt.U, Pt.locs, Pt.cells, Pt.slots] at X62 l62 y62 z62 st62 hQ62
          subst l62 y62 z62
          obtain ⟨a62, rfl, N62q, K62q, E62q, F62v⟩ := hQ62
          have N62 := Fr.app N45 N62q
          have r63 : CHr Z own_EL s.vm T45.heap s.vm T62.heap := CHr.keep K62q sf0 R46.1
          have R63 : CHr Z own_EL s.vm h0 s.vm T62.heap := R46.trans r63
          have Z63 : n0 ≤ T62.heap.size := Nat.le_trans Z46 K62q.1
          have O63 : Old Z n0 T62.heap := O46.keep K62q all0
          have K63 : Keep h0 T62.heap [] := K46.trans K62q all0
          refine gsW st62 ?_
          show OwnGoW p e below s Z own_EL _ _ _ (T62.setTop (mkF m 115 #[.val (.int i0), .val (.int i1), .val (.int i2), .val (.int i3), .val (.int (i0 &&& (3 : Int32))), .val (.int c2), .val (.int c5), .val (.int c8), .val (.ref b34), .val (.ref b40), .unset, .unset] [(.ref a62)]))
          have c64 : ∀ tg, Steps p.tables e below (T62.setTop (mkF m 116 #[.val (.int i0), .val (.int i1), .val (.int i2), .val (.int i3), .val (.int (i0 &&& (3 : Int32))), .val (.int c2), .val (.int c5), .val (.int c8), .val (.ref b34), .val (.ref b40), .unset, .unset] [.null, (.ref a62)])) tg → Steps p.tables e below (T62.setTop (mkF m 115 #[.val (.int i0), .val (.int i1), .val (.int i2), .val (.int i3), .val (.int (i0 &&& (3 : Int32))), .val (.int c2), .val (.int c5), .val (.int c8), .val (.ref b34), .val (.ref b40), .unset, .unset] [(.ref a62)])) tg := fun tg kg => by
            refine XS.aconstNull X62.here hx rfl (hb hby at_115) ?_
            show Steps p.tables e below (T62.setTop (mkF m 116 #[.val (.int i0), .val (.int i1), .val (.int i2), .val (.int i3), .val (.int (i0 &&& (3 : Int32))), .val (.int c2), .val (.int c5), .val (.int c8), .val (.ref b34), .val (.ref b40), .unset, .unset] [.null, (.ref a62)])) tg
            exact kg
          refine gsW c64 ?_
          obtain ⟨cq65, kq65, q65a, q65b, q65c⟩ := isOf hZ rfl E62q
          obtain ⟨_, _, ⟨T65, L65, k65, n65⟩, -, X65, ⟨Lc65, hQ65, l65, y65, z65⟩, st65⟩ := X62.virtualBack hx (y := (⟨"java/util/Optional", "orElse", "(Ljava/lang/Object;)Ljava/lang/Object;"⟩ : MethodName)) (z := (⟨"java/util/Optional", "orElse", "(Ljava/lang/Object;)Ljava/lang/Object;"⟩ : MethodName)) hown (mvT hZ (hw _ (List.mem_of_getElem? (i := 67) rfl))) (mvT hZ (hw _ (List.mem_of_getElem? (i := 68) rfl))) (notFace_of_selects (args := #[]) (mvT hZ (hw _ (List.mem_of_getElem? (i := 70) rfl)))) (mvT hZ (hw _ (List.mem_of_getElem? (i := 70) rfl))) (mvT hZ (hw _ (List.mem_of_getElem? (i := 69) rfl))) (by decide) (backC (W := 0) (rm_or_ref l Z a0 hw [] a62 en2 T62.heap n0 Z63 O63 F62v) hZ (hw _ (List.mem_of_getElem? (i := 71) rfl)) (hw _ (List.mem_of_getElem? (i := 32) rfl)) (by decide) (by decide)) q65a q65c (g := (mkF m 116 #[.val (.int i0), .val (.int i1), .val (.int i2), .val (.int i3), .val (.int (i0 &&& (3 : Int32))), .val (.int c2), .val (.int c5), .val (.int c8), .val (.ref b34), .val (.ref b40), .unset, .unset] [.null, (.ref a62)])) rfl (by rw [hml]; rfl) (Steps.refl _) (argsL := [.null]) (rest := []) (lenOf pd_87 rfl) rfl (by show 2 * 0 + _ ≤ _; exact Nat.le_of_eq rfl) (hb hby at_116) (fun _ _ => ⟨rfl, rfl, (by decide : 5 + 0 ≤ _), (by decide : 11 + 0 ≤ _)⟩)
          dsimp only [Pt.U, Pt.locs, Pt.cells, Pt.slots] at X65 l65 y65 z65 st65 hQ65
          subst l65 y65 z65
          obtain ⟨rfl, N65q, K65q⟩ := hQ65
          have N65 := Fr.app N62 N65q
          have r66 : CHr Z own_EL s.vm T62.heap s.vm T65.heap := CHr.keep K65q sf0 R63.1
          have R66 : CHr Z own_EL s.vm h0 s.vm T65.heap := R63.trans r66
          have Z66 : n0 ≤ T65.heap.size := Nat.le_trans Z63 K65q.1
          have O66 : Old Z n0 T65.heap := O63.keep K65q all0
          have K66 : Keep h0 T65.heap [] := K63.trans K65q all0
          refine gsW (fun _ k => st65.trans k) ?_
          show OwnGoW p e below s Z own_EL _ _ _ (T65.setTop (mkF m 119 #[.val (.int i0), .val (.int i1), .val (.int i2), .val (.int i3), .val (.int (i0 &&& (3 : Int32))), .val (.int c2), .val (.int c5), .val (.int c8), .val (.ref b34), .val (.ref b40), .unset, .unset] [(.ref en2)]))
          have f67 := ((((((((((E_e2.ext O0.2).keep K2q).keep K5q).keep K8q).ext E34).wr W37).ext E40).keep K45q).keep K62q).keep K65q)
          obtain ⟨T68, X68, e68, st68⟩ := castY X65 hx hZ hown (hw _ (List.mem_of_getElem? (i := 98) rfl)) rfl (Ins.self f67) (g := (mkF m 119 #[.val (.int i0), .val (.int i1), .val (.int i2), .val (.int i3), .val (.int (i0 &&& (3 : Int32))), .val (.int c2), .val (.int c5), .val (.int c8), .val (.ref b34), .val (.ref b40), .unset, .unset] [(.ref en2)])) rfl rfl (hb hby at_119)
          refine gsW st68 ?_
          show OwnGoW p e below s Z own_EL _ _ _ (T68.setTop (mkF m 122 #[.val (.int i0), .val (.int i1), .val (.int i2), .val (.int i3), .val (.int (i0 &&& (3 : Int32))), .val (.int c2), .val (.int c5), .val (.int c8), .val (.ref b34), .val (.ref b40), .unset, .unset] [(.ref en2)]))
          have c69 : ∀ tg, Steps p.tables e below (T68.setTop (mkF m 155 #[.val (.int i0), .val (.int i1), .val (.int i2), .val (.int i3), .val (.int (i0 &&& (3 : Int32))), .val (.int c2), .val (.int c5), .val (.int c8), .val (.ref b34), .val (.ref b40), .val (.ref en2), .val .null] [])) tg → Steps p.tables e below (T68.setTop (mkF m 122 #[.val (.int i0), .val (.int i1), .val (.int i2), .val (.int i3), .val (.int (i0 &&& (3 : Int32))), .val (.int c2), .val (.int c5), .val (.int c8), .val (.ref b34), .val (.ref b40), .unset, .unset] [(.ref en2)])) tg := fun tg kg => by
            refine XS.astore X68.here hx rfl (hb hby at_122) rfl rfl (l' := #[.val (.int i0), .val (.int i1), .val (.int i2), .val (.int i3), .val (.int (i0 &&& (3 : Int32))), .val (.int c2), .val (.int c5), .val (.int c8), .val (.ref b34), .val (.ref b40), .val (.ref en2), .unset]) rfl ?_
            show Steps p.tables e below (T68.setTop (mkF m 124 #[.val (.int i0), .val (.int i1), .val (.int i2), .val (.int i3), .val (.int (i0 &&& (3 : Int32))), .val (.int c2), .val (.int c5), .val (.int c8), .val (.ref b34), .val (.ref b40), .val (.ref en2), .unset] [])) tg
            refine XS.aconstNull X68.here hx rfl (hb hby at_124) ?_
            show Steps p.tables e below (T68.setTop (mkF m 125 #[.val (.int i0), .val (.int i1), .val (.int i2), .val (.int i3), .val (.int (i0 &&& (3 : Int32))), .val (.int c2), .val (.int c5), .val (.int c8), .val (.ref b34), .val (.ref b40), .val (.ref en2), .unset] [.null])) tg
            refine XS.astore X68.here hx rfl (hb hby at_125) rfl rfl (l' := #[.val (.int i0), .val (.int i1), .val (.int i2), .val (.int i3), .val (.int (i0 &&& (3 : Int32))), .val (.int c2), .val (.int c5), .val (.int c8), .val (.ref b34), .val (.ref b40), .val (.ref en2), .val .null]) rfl ?_
            show Steps p.tables e below (T68.setTop (mkF m 127 #[.val (.int i0), .val (.int i1), .val (.int i2), .val (.int i3), .val (.int (i0 &&& (3 : Int32))), .val (.int c2), .val (.int c5), .val (.int c8), .val (.ref b34), .val (.ref b40), .val (.ref en2), .val .null] [])) tg
            refine XS.iload X68.here hx rfl (hb hby at_127) rfl ?_
            show Steps p.tables e below (T68.setTop (mkF m 129 #[.val (.int i0), .val (.int i1), .val (.int i2), .val (.int i3), .val (.int (i0 &&& (3 : Int32))), .val (.int c2), .val (.int c5), .val (.int c8), .val (.ref b34), .val (.ref b40), .val (.ref en2), .val .null] [(.int (i0 &&& (3 : Int32)))])) tg
            refine XS.iconst X68.here hx rfl (hb hby at_129) ?_
            show Steps p.tables e below (T68.setTop (mkF m 130 #[.val (.int i0), .val (.int i1), .val (.int i2), .val (.int i3), .val (.int (i0 &&& (3 : Int32))), .val (.int c2), .val (.int c5), .val (.int c8), .val (.ref b34), .val (.ref b40), .val (.ref en2), .val .null] [(.int (1 : Int32)), (.int (i0 &&& (3 : Int32)))])) tg
            refine XS.icmpNo X68.here hx rfl (hb hby at_130) rfl (teq hc32).2 ?_
            show Steps p.tables e below (T68.setTop (mkF m 133 #[.val (.int i0), .val (.int i1), .val (.int i2), .val (.int i3), .val (.int (i0 &&& (3 : Int32))), .val (.int c2), .val (.int c5), .val (.int c8), .val (.ref b34), .val (.ref b40), .val (.ref en2), .val .null] [])) tg
            refine XS.iload X68.here hx rfl (hb hby at_133) rfl ?_
            show Steps p.tables e below (T68.setTop (mkF m 135 #[.val (.int i0), .val (.int i1), .val (.int i2), .val (.int i3), .val (.int (i0 &&& (3 : Int32))), .val (.int c2), .val (.int c5), .val (.int c8), .val (.ref b34), .val (.ref b40), .val (.ref en2), .val .null] [(.int c2)])) tg
            refine XS.bipush X68.here hx rfl (hb hby at_135) ?_
            show Steps p.tables e below (T68.setTop (mkF m 137 #[.val (.int i0), .val (.int i1), .val (.int i2), .val (.int i3), .val (.int (i0 &&& (3 : Int32))), .val (.int c2), .val (.int c5), .val (.int c8), .val (.ref b34), .val (.ref b40), .val (.ref en2), .val .null] [(.int (60 : Int32)), (.int c2)])) tg
            refine XS.icmpYes X68.here hx rfl (pc0 := 137) (pc' := 148) rfl (hb hby at_137) rfl (feq hc50).2 (by decide) (by decide) ?_
            show Steps p.tables e below (T68.setTop (mkF m 148 #[.val (.int i0), .val (.int i1), .val (.int i2), .val (.int i3), .val (.int (i0 &&& (3 : Int32))), .val (.int c2), .val (.int c5), .val (.int c8), .val (.ref b34), .val (.ref b40), .val (.ref en2), .val .null] [])) tg
            refine XS.iload X68.here hx rfl (hb hby at_148) rfl ?_
            show Steps p.tables e below (T68.setTop (mkF m 150 #[.val (.int i0), .val (.int i1), .val (.int i2), .val (.int i3), .val (.int (i0 &&& (3 : Int32))), .val (.int c2), .val (.int c5), .val (.int c8), .val (.ref b34), .val (.ref b40), .val (.ref en2), .val .null] [(.int c2)])) tg
            refine XS.bipush X68.here hx rfl (hb hby at_150) ?_
            show Steps p.tables e below (T68.setTop (mkF m 152 #[.val (.int i0), .val (.int i1), .val (.int i2), .val (.int i3), .val (.int (i0 &&& (3 : Int32))), .val (.int c2), .val (.int c5), .val (.int c8), .val (.ref b34), .val (.ref b40), .val (.ref en2), .val .null] [(.int (62 : Int32)), (.int c2)])) tg
            refine XS.icmpNo X68.here hx rfl (hb hby at_152) rfl (teq hc61).2 ?_
            show Steps p.tables e below (T68.setTop (mkF m 155 #[.val (.int i0), .val (.int i1), .val (.int i2), .val (.int i3), .val (.int (i0 &&& (3 : Int32))), .val (.int c2), .val (.int c5), .val (.int c8), .val (.ref b34), .val (.ref b40), .val (.ref en2), .val .null] [])) tg
            exact kg
          refine gsW c69 ?_
          obtain ⟨T70, X70, e70, st70⟩ := getS2 X68 hx hZ hown (host := "") (Or.inl (hw _ (List.mem_of_getElem? (i := 101) rfl))) Via.refl e68 (S_e2.ext O66.2) (g := (mkF m 155 #[.val (.int i0), .val (.int i1), .val (.int i2), .val (.int i3), .val (.int (i0 &&& (3 : Int32))), .val (.int c2), .val (.int c5), .val (.int c8), .val (.ref b34), .val (.ref b40), .val (.ref en2), .val .null] [])) rfl (hb hby at_155)
          refine gsW st70 ?_
          show OwnGoW p e below s Z own_EL _ _ _ (T70.setTop (mkF m 158 #[.val (.int i0), .val (.int i1), .val (.int i2), .val (.int i3), .val (.int (i0 &&& (3 : Int32))), .val (.int c2), .val (.int c5), .val (.int c8), .val (.ref b34), .val (.ref b40), .val (.ref en2), .val .null] [(.ref en2)]))
          have c71 : ∀ tg, Steps p.tables e below (T70.setTop (mkF m 215 #[.val (.int i0), .val (.int i1), .val (.int i2), .val (.int i3), .val (.int (i0 &&& (3 : Int32))), .val (.int c2), .val (.int c5), .val (.int c8), .val (.ref b34), .val (.ref b40), .val (.ref en2), .val (.ref en2)] [(.int (1 : Int32))])) tg → Steps p.tables e below (T70.setTop (mkF m 158 #[.val (.int i0), .val (.int i1), .val (.int i2), .val (.int i3), .val (.int (i0 &&& (3 : Int32))), .val (.int c2), .val (.int c5), .val (.int c8), .val (.ref b34), .val (.ref b40), .val (.ref en2), .val .null] [(.ref en2)])) tg := fun tg kg => by
            refine XS.astore X70.here hx rfl (hb hby at_158) rfl rfl (l' := #[.val (.int i0), .val (.int i1), .val (.int i2), .val (.int i3), .val (.int (i0 &&& (3 : Int32))), .val (.int c2), .val (.int c5), .val (.int c8), .val (.ref b34), .val (.ref b40), .val (.ref en2), .val (.ref en2)]) rfl ?_
            show Steps p.tables e below (T70.setTop (mkF m 160 #[.val (.int i0), .val (.int i1), .val (.int i2), .val (.int i3), .val (.int (i0 &&& (3 : Int32))), .val (.int c2), .val (.int c5), .val (.int c8), .val (.ref b34), .val (.ref b40), .val (.ref en2), .val (.ref en2)] [])) tg
            refine XS.goto X70.here hx rfl (pc0 := 160) (pc' := 203) rfl (hb hby at_160) (by decide) (by decide) ?_
            show Steps p.tables e below (T70.setTop (mkF m 203 #[.val (.int i0), .val (.int i1), .val (.int i2), .val (.int i3), .val (.int (i0 &&& (3 : Int32))), .val (.int c2), .val (.int c5), .val (.int c8), .val (.ref b34), .val (.ref b40), .val (.ref en2), .val (.ref en2)] [])) tg
            refine XS.aload X70.here hx rfl (hb hby at_203) rfl rfl ?_
            show Steps p.tables e below (T70.setTop (mkF m 205 #[.val (.int i0), .val (.int i1), .val (.int i2), .val (.int i3), .val (.int (i0 &&& (3 : Int32))), .val (.int c2), .val (.int c5), .val (.int c8), .val (.ref b34), .val (.ref b40), .val (.ref en2), .val (.ref en2)] [(.ref en2)])) tg
            refine XS.aload X70.here hx rfl (hb hby at_205) rfl rfl ?_
            show Steps p.tables e below (T70.setTop (mkF m 207 #[.val (.int i0), .val (.int i1), .val (.int i2), .val (.int i3), .val (.int (i0 &&& (3 : Int32))), .val (.int c2), .val (.int c5), .val (.int c8), .val (.ref b34), .val (.ref b40), .val (.ref en2), .val (.ref en2)] [(.ref en2), (.ref en2)])) tg
            refine Jvm.RoadKit.acmp (g := (mkF m 207 #[.val (.int i0), .val (.int i1), .val (.int i2), .val (.int i3), .val (.int (i0 &&& (3 : Int32))), .val (.int c2), .val (.int c5), .val (.int c8), .val (.ref b34), .val (.ref b40), .val (.ref en2), .val (.ref en2)] [(.ref en2), (.ref en2)])) X70 hx rfl rfl rfl (pc0 := 207) (pc' := 210) (same := true) rfl (hb hby at_207) rfl (decide_eq_true rfl) (by decide) (by decide) ?_
            show Steps p.tables e below (T70.setTop (mkF m 210 #[.val (.int i0), .val (.int i1), .val (.int i2), .val (.int i3), .val (.int (i0 &&& (3 : Int32))), .val (.int c2), .val (.int c5), .val (.int c8), .val (.ref b34), .val (.ref b40), .val (.ref en2), .val (.ref en2)] [])) tg
            refine XS.iconst X70.here hx rfl (hb hby at_210) ?_
            show Steps p.tables e below (T70.setTop (mkF m 211 #[.val (.int i0), .val (.int i1), .val (.int i2), .val (.int i3), .val (.int (i0 &&& (3 : Int32))), .val (.int c2), .val (.int c5), .val (.int c8), .val (.ref b34), .val (.ref b40), .val (.ref en2), .val (.ref en2)] [(.int (1 : Int32))])) tg
            refine XS.goto X70.here hx rfl (pc0 := 211) (pc' := 215) rfl (hb hby at_211) (by decide) (by decide) ?_
            show Steps p.tables e below (T70.setTop (mkF m 215 #[.val (.int i0), .val (.int i1), .val (.int i2), .val (.int i3), .val (.int (i0 &&& (3 : Int32))), .val (.int c2), .val (.int c5), .val (.int c8), .val (.ref b34), .val (.ref b40), .val (.ref en2), .val (.ref en2)] [(.int (1 : Int32))])) tg
            exact kg
          refine gsW c71 ?_
          refine goutW (v := some (.int (1 : Int32))) X70 hS (Nat.le_trans hk (Nat.le_trans (Nat.le_trans (Nat.le_trans (Nat.le_trans (Nat.le_trans (Nat.le_trans (Nat.le_trans (Nat.le_trans K2q.1 K5q.1) K8q.1) E34.1) (Keep.of_wr W37).1) E40.1) K45q.1) K62q.1) K65q.1)) hZ (own_EW hw) hh e70 R66 Bd.notSynchronized (fun h => by rw [Bd.returns] at h; cases h) (by decide) (by decide) ?_ (fun fs hr => retN X70 hx (t := .boolean) Bd.returns (by simp) (hb hby at_215) hr)
          exact ⟨rfl, N65⟩
        · obtain ⟨_, _, ⟨T72, L72, k72, n72⟩, -, X72, ⟨Lc72, hQ72, l72, y72, z72⟩, st72⟩ := Jvm.LawKit.callS X45 hx (y := (⟨"com/example/tranche/tranche/terms/Comparison", "written", "(Ljava/lang/String;)Ljava/util/Optional;"⟩ : MethodName)) hown (mvT hZ (hw _ (List.mem_of_getElem? (i := 26) rfl))) (mvT hZ (hw _ (List.mem_of_getElem? (i := 27) rfl))) (mvT hZ (hw _ (List.mem_of_getElem? (i := 28) rfl))) (mvT hZ (hw _ (List.mem_of_getElem? (i := 29) rfl))) (by decide) (backC (W := 0) (rm_wr4 l Z a0 hw [] b40 ([c2] : List Int32) z oe va kv en0 en1 en2 en3 sn0 sn1 sn2 sn3 T45.heap n0 Z46 O46 S0 hz T48 hb49 (by simp) S_oe S_va V_va E_va F_e0 F_e1 F_e2 F_e3 T_s0 T_s1 T_s2 T_s3 (by intro hq; simp_all) (by intro hq; simp_all) (by intro hq; simp_all) (by intro hq; simp_all)) hZ (hw _ (List.mem_of_getElem? (i := 29) rfl)) (hw _ (List.mem_of_getElem? (i := 28) rfl)) (by decide) (by decide)) (g := (mkF m 112 #[.val (.int i0), .val (.int i1), .val (.int i2), .val (.int i3), .val (.int (i0 &&& (3 : Int32))), .val (.int c2), .val (.int c5), .val (.int c8), .val (.ref b34), .val (.ref b40), .unset, .unset] [(.ref b40)])) rfl (by rw [hml]; rfl) (argsL := [(.ref b40)]) (rest := []) (lenOf pd_141 rfl) rfl (by show 2 * 0 + _ ≤ _; exact Nat.le_of_eq rfl) (hb hby at_112) (fun _ _ => ⟨rfl, rfl, (by decide : 3 + 2 ≤ _), (by decide : 6 + 5 ≤ _)⟩)
          dsimp only [Pt.U, Pt.locs, Pt.cells, Pt.slots] at X72 l72 y72 z72 st72 hQ72
          subst l72 y72 z72
          obtain ⟨rfl, N72q, K72q⟩ := hQ72
          have N72 := Fr.app N45 N72q
          have r73 : CHr Z own_EL s.vm T45.heap s.vm T72.heap := CHr.keep K72q sf0 R46.1
          have R73 : CHr Z own_EL s.vm h0 s.vm T72.heap := R46.trans r73
          have Z73 : n0 ≤ T72.heap.size := Nat.le_trans Z46 K72q.1
          have O73 : Old Z n0 T72.heap := O46.keep K72q all0
          have K73 : Keep h0 T72.heap [] := K46.trans K72q all0
          refine gsW st72 ?_
          show OwnGoW p e below s Z own_EL _ _ _ (T72.setTop (mkF m 115 #[.val (.int i0), .val (.int i1), .val (.int i2), .val (.int i3), .val (.int (i0 &&& (3 : Int32))), .val (.int c2), .val (.int c5), .val (.int c8), .val (.ref b34), .val (.ref b40), .unset, .unset] [(.ref oe)]))
          have c74 : ∀ tg, Steps p.tables e below (T72.setTop (mkF m 116 #[.val (.int i0), .val (.int i1), .val (.int i2), .val (.int i3), .val (.int (i0 &&& (3 : Int32))), .val (.int c2), .val (.int c5), .val (.int c8), .val (.ref b34), .val (.ref b40), .unset, .unset] [.null, (.ref oe)])) tg → Steps p.tables e below (T72.setTop (mkF m 115 #[.val (.int i0), .val (.int i1), .val (.int i2), .val (.int i3), .val (.int (i0 &&& (3 : Int32))), .val (.int c2), .val (.int c5), .val (.int c8), .val (.ref b34), .val (.ref b40), .unset, .unset] [(.ref oe)])) tg := fun tg kg => by
            refine XS.aconstNull X72.here hx rfl (hb hby at_115) ?_
            show Steps p.tables e below (T72.setTop (mkF m 116 #[.val (.int i0), .val (.int i1), .val (.int i2), .val (.int i3), .val (.int (i0 &&& (3 : Int32))), .val (.int c2), .val (.int c5), .val (.int c8), .val (.ref b34), .val (.ref b40), .unset, .unset] [.null, (.ref oe)])) tg
            exact kg
          refine gsW c74 ?_
          have f75 := (((((((((F_oe.ext O0.2).keep K2q nin0).keep K5q nin0).keep K8q nin0).ext E34).other W37 (Or.inl (Nat.ne_of_lt (Nat.lt_of_lt_of_le (Nat.lt_of_lt_of_le (E_oe.ext O0.2).lt (Nat.le_trans (Nat.le_trans K2q.1 K5q.1) K8q.1)) (Nat.le_of_eq q34.symm))))).ext E40).keep K45q (ninS (Nat.ne_of_lt (Nat.lt_of_lt_of_le (Nat.lt_of_lt_of_le (E_oe.ext O0.2).lt (Nat.le_trans (Nat.le_trans (Nat.le_trans (Nat.le_trans K2q.1 K5q.1) K8q.1) E34.1) (Keep.of_wr W37).1)) (Nat.le_of_eq q40.symm))) nin0)).keep K72q nin0)
          have f77 := (((((((((E_oe.ext O0.2).keep K2q).keep K5q).keep K8q).ext E34).wr W37).ext E40).keep K45q).keep K72q)
          obtain ⟨cq76, kq76, q76a, q76b, q76c⟩ := isOf hZ rfl f77
          obtain ⟨_, _, ⟨T76, L76, k76, n76⟩, -, X76, ⟨Lc76, hQ76, l76, y76, z76⟩, st76⟩ := X72.virtualBack hx (y := (⟨"java/util/Optional", "orElse", "(Ljava/lang/Object;)Ljava/lang/Object;"⟩ : MethodName)) (z := (⟨"java/util/Optional", "orElse", "(Ljava/lang/Object;)Ljava/lang/Object;"⟩ : MethodName)) hown (mvT hZ (hw _ (List.mem_of_getElem? (i := 67) rfl))) (mvT hZ (hw _ (List.mem_of_getElem? (i := 68) rfl))) (notFace_of_selects (args := #[]) (mvT hZ (hw _ (List.mem_of_getElem? (i := 70) rfl)))) (mvT hZ (hw _ (List.mem_of_getElem? (i := 70) rfl))) (mvT hZ (hw _ (List.mem_of_getElem? (i := 69) rfl))) (by decide) (backC (W := 0) (rm_or_null l Z a0 hw [] oe T72.heap n0 Z73 O73 f75) hZ (hw _ (List.mem_of_getElem? (i := 71) rfl)) (hw _ (List.mem_of_getElem? (i := 32) rfl)) (by decide) (by decide)) q76a q76c (g := (mkF m 116 #[.val (.int i0), .val (.int i1), .val (.int i2), .val (.int i3), .val (.int (i0 &&& (3 : Int32))), .val (.int c2), .val (.int c5), .val (.int c8), .val (.ref b34), .val (.ref b40), .unset, .unset] [.null, (.ref oe)])) rfl (by rw [hml]; rfl) (Steps.refl _) (argsL := [.null]) (rest := []) (lenOf pd_87 rfl) rfl (by show 2 * 0 + _ ≤ _; exact Nat.le_of_eq rfl) (hb hby at_116) (fun _ _ => ⟨rfl, rfl, (by decide : 5 + 0 ≤ _), (by decide : 11 + 0 ≤ _)⟩)
          dsimp only [Pt.U, Pt.locs, Pt.cells, Pt.slots] at X76 l76 y76 z76 st76 hQ76
          subst l76 y76 z76
          obtain ⟨rfl, N76q, K76q⟩ := hQ76
          have N76 := Fr.app N72 N76q
          have r78 : CHr Z own_EL s.vm T72.heap s.vm T76.heap := CHr.keep K76q sf0 R73.1
          have R78 : CHr Z own_EL s.vm h0 s.vm T76.heap := R73.trans r78
          have Z78 : n0 ≤ T76.heap.size := Nat.le_trans Z73 K76q.1
          have O78 : Old Z n0 T76.heap := O73.keep K76q all0
          have K78 : Keep h0 T76.heap [] := K73.trans K76q all0
          refine gsW (fun _ k => st76.trans k) ?_
          show OwnGoW p e below s Z own_EL _ _ _ (T76.setTop (mkF m 119 #[.val (.int i0), .val (.int i1), .val (.int i2), .val (.int i3), .val (.int (i0 &&& (3 : Int32))), .val (.int c2), .val (.int c5), .val (.int c8), .val (.ref b34), .val (.ref b40), .unset, .unset] [.null]))
          have c79 : ∀ tg, Steps p.tables e below (T76.setTop (mkF m 215 #[.val (.int i0), .val (.int i1), .val (.int i2), .val (.int i3), .val (.int (i0 &&& (3 : Int32))), .val (.int c2), .val (.int c5), .val (.int c8), .val (.ref b34), .val (.ref b40), .val .null, .val .null] [(.int (1 : Int32))])) tg → Steps p.tables e below (T76.setTop (mkF m 119 #[.val (.int i0), .val (.int i1), .val (.int i2), .val (.int i3), .val (.int (i0 &&& (3 : Int32))), .val (.int c2), .val (.int c5), .val (.int c8), .val (.ref b34), .val (.ref b40), .unset, .unset] [.null])) tg := fun tg kg => by
            refine X76.checkcastNull hx (g := (mkF m 119 #[.val (.int i0), .val (.int i1), .val (.int i2), .val (.int i3), .val (.int (i0 &&& (3 : Int32))), .val (.int c2), .val (.int c5), .val (.int c8), .val (.ref b34), .val (.ref b40), .unset, .unset] [.null])) rfl rfl (hb hby at_119) _ ?_
            show Steps p.tables e below (T76.setTop (mkF m 122 #[.val (.int i0), .val (.int i1), .val (.int i2), .val (.int i3), .val (.int (i0 &&& (3 : Int32))), .val (.int c2), .val (.int c5), .val (.int c8), .val (.ref b34), .val (.ref b40), .unset, .unset] [.null])) tg
            refine XS.astore X76.here hx rfl (hb hby at_122) rfl rfl (l' := #[.val (.int i0), .val (.int i1), .val (.int i2), .val (.int i3), .val (.int (i0 &&& (3 : Int32))), .val (.int c2), .val (.int c5), .val (.int c8), .val (.ref b34), .val (.ref b40), .val .null, .unset]) rfl ?_
            show Steps p.tables e below (T76.setTop (mkF m 124 #[.val (.int i0), .val (.int i1), .val (.int i2), .val (.int i3), .val (.int (i0 &&& (3 : Int32))), .val (.int c2), .val (.int c5), .val (.int c8), .val (.ref b34), .val (.ref b40), .val .null, .unset] [])) tg
            refine XS.aconstNull X76.here hx rfl (hb hby at_124) ?_
            show Steps p.tables e below (T76.setTop (mkF m 125 #[.val (.int i0), .val (.int i1), .val (.int i2), .val (.int i3), .val (.int (i0 &&& (3 : Int32))), .val (.int c2), .val (.int c5), .val (.int c8), .val (.ref b34), .val (.ref b40), .val .null, .unset] [.null])) tg
            refine XS.astore X76.here hx rfl (hb hby at_125) rfl rfl (l' := #[.val (.int i0), .val (.int i1), .val (.int i2), .val (.int i3), .val (.int (i0 &&& (3 : Int32))), .val (.int c2), .val (.int c5), .val (.int c8), .val (.ref b34), .val (.ref b40), .val .null, .val .null]) rfl ?_
            show Steps p.tables e below (T76.setTop (mkF m 127 #[.val (.int i0), .val (.int i1), .val (.int i2), .val (.int i3), .val (.int (i0 &&& (3 : Int32))), .val (.int c2), .val (.int c5), .val (.int c8), .val (.ref b34), .val (.ref b40), .val .null, .val .null] [])) tg
            refine XS.iload X76.here hx rfl (hb hby at_127) rfl ?_
            show Steps p.tables e below (T76.setTop (mkF m 129 #[.val (.int i0), .val (.int i1), .val (.int i2), .val (.int i3), .val (.int (i0 &&& (3 : Int32))), .val (.int c2), .val (.int c5), .val (.int c8), .val (.ref b34), .val (.ref b40), .val .null, .val .null] [(.int (i0 &&& (3 : Int32)))])) tg
            refine XS.iconst X76.here hx rfl (hb hby at_129) ?_
            show Steps p.tables e below (T76.setTop (mkF m 130 #[.val (.int i0), .val (.int i1), .val (.int i2), .val (.int i3), .val (.int (i0 &&& (3 : Int32))), .val (.int c2), .val (.int c5), .val (.int c8), .val (.ref b34), .val (.ref b40), .val .null, .val .null] [(.int (1 : Int32)), (.int (i0 &&& (3 : Int32)))])) tg
            refine XS.icmpNo X76.here hx rfl (hb hby at_130) rfl (teq hc32).2 ?_
            show Steps p.tables e below (T76.setTop (mkF m 133 #[.val (.int i0), .val (.int i1), .val (.int i2), .val (.int i3), .val (.int (i0 &&& (3 : Int32))), .val (.int c2), .val (.int c5), .val (.int c8), .val (.ref b34), .val (.ref b40), .val .null, .val .null] [])) tg
            refine XS.iload X76.here hx rfl (hb hby at_133) rfl ?_
            show Steps p.tables e below (T76.setTop (mkF m 135 #[.val (.int i0), .val (.int i1), .val (.int i2), .val (.int i3), .val (.int (i0 &&& (3 : Int32))), .val (.int c2), .val (.int c5), .val (.int c8), .val (.ref b34), .val (.ref b40), .val .null, .val .null] [(.int c2)])) tg
            refine XS.bipush X76.here hx rfl (hb hby at_135) ?_
            show Steps p.tables e below (T76.setTop (mkF m 137 #[.val (.int i0), .val (.int i1), .val (.int i2), .val (.int i3), .val (.int (i0 &&& (3 : Int32))), .val (.int c2), .val (.int c5), .val (.int c8), .val (.ref b34), .val (.ref b40), .val .null, .val .null] [(.int (60 : Int32)), (.int c2)])) tg
            refine XS.icmpYes X76.here hx rfl (pc0 := 137) (pc' := 148) rfl (hb hby at_137) rfl (feq hc50).2 (by decide) (by decide) ?_
            show Steps p.tables e below (T76.setTop (mkF m 148 #[.val (.int i0), .val (.int i1), .val (.int i2), .val (.int i3), .val (.int (i0 &&& (3 : Int32))), .val (.int c2), .val (.int c5), .val (.int c8), .val (.ref b34), .val (.ref b40), .val .null, .val .null] [])) tg
            refine XS.iload X76.here hx rfl (hb hby at_148) rfl ?_
            show Steps p.tables e below (T76.setTop (mkF m 150 #[.val (.int i0), .val (.int i1), .val (.int i2), .val (.int i3), .val (.int (i0 &&& (3 : Int32))), .val (.int c2), .val (.int c5), .val (.int c8), .val (.ref b34), .val (.ref b40), .val .null, .val .null] [(.int c2)])) tg
            refine XS.bipush X76.here hx rfl (hb hby at_150) ?_
            show Steps p.tables e below (T76.setTop (mkF m 152 #[.val (.int i0), .val (.int i1), .val (.int i2), .val (.int i3), .val (.int (i0 &&& (3 : Int32))), .val (.int c2), .val (.int c5), .val (.int c8), .val (.ref b34), .val (.ref b40), .val .null, .val .null] [(.int (62 : Int32)), (.int c2)])) tg
            refine XS.icmpYes X76.here hx rfl (pc0 := 152) (pc' := 203) rfl (hb hby at_152) rfl (feq hc61).2 (by decide) (by decide) ?_
            show Steps p.tables e below (T76.setTop (mkF m 203 #[.val (.int i0), .val (.int i1), .val (.int i2), .val (.int i3), .val (.int (i0 &&& (3 : Int32))), .val (.int c2), .val (.int c5), .val (.int c8), .val (.ref b34), .val (.ref b40), .val .null, .val .null] [])) tg
            refine XS.aload X76.here hx rfl (hb hby at_203) rfl rfl ?_
            show Steps p.tables e below (T76.setTop (mkF m 205 #[.val (.int i0), .val (.int i1), .val (.int i2), .val (.int i3), .val (.int (i0 &&& (3 : Int32))), .val (.int c2), .val (.int c5), .val (.int c8), .val (.ref b34), .val (.ref b40), .val .null, .val .null] [.null])) tg
            refine XS.aload X76.here hx rfl (hb hby at_205) rfl rfl ?_
            show Steps p.tables e below (T76.setTop (mkF m 207 #[.val (.int i0), .val (.int i1), .val (.int i2), .val (.int i3), .val (.int (i0 &&& (3 : Int32))), .val (.int c2), .val (.int c5), .val (.int c8), .val (.ref b34), .val (.ref b40), .val .null, .val .null] [.null, .null])) tg
            refine Jvm.RoadKit.acmp (g := (mkF m 207 #[.val (.int i0), .val (.int i1), .val (.int i2), .val (.int i3), .val (.int (i0 &&& (3 : Int32))), .val (.int c2), .val (.int c5), .val (.int c8), .val (.ref b34), .val (.ref b40), .val .null, .val .null] [.null, .null])) X76 hx rfl rfl rfl (pc0 := 207) (pc' := 210) (same := true) rfl (hb hby at_207) rfl (decide_eq_true rfl) (by decide) (by decide) ?_
            show Steps p.tables e below (T76.setTop (mkF m 210 #[.val (.int i0), .val (.int i1), .val (.int i2), .val (.int i3), .val (.int (i0 &&& (3 : Int32))), .val (.int c2), .val (.int c5), .val (.int c8), .val (.ref b34), .val (.ref b40), .val .null, .val .null] [])) tg
            refine XS.iconst X76.here hx rfl (hb hby at_210) ?_
            show Steps p.tables e below (T76.setTop (mkF m 211 #[.val (.int i0), .val (.int i1), .val (.int i2), .val (.int i3), .val (.int (i0 &&& (3 : Int32))), .val (.int c2), .val (.int c5), .val (.int c8), .val (.ref b34), .val (.ref b40), .val .null, .val .null] [(.int (1 : Int32))])) tg
            refine XS.goto X76.here hx rfl (pc0 := 211) (pc' := 215) rfl (hb hby at_211) (by decide) (by decide) ?_
            show Steps p.tables e below (T76.setTop (mkF m 215 #[.val (.int i0), .val (.int i1), .val (.int i2), .val (.int i3), .val (.int (i0 &&& (3 : Int32))), .val (.int c2), .val (.int c5), .val (.int c8), .val (.ref b34), .val (.ref b40), .val .null, .val .null] [(.int (1 : Int32))])) tg
            exact kg
          refine gsW c79 ?_
          refine goutW (v := some (.int (1 : Int32))) X76 hS (Nat.le_trans hk (Nat.le_trans (Nat.le_trans (Nat.le_trans (Nat.le_trans (Nat.le_trans (Nat.le_trans (Nat.le_trans (Nat.le_trans K2q.1 K5q.1) K8q.1) E34.1) (Keep.of_wr W37).1) E40.1) K45q.1) K72q.1) K76q.1)) hZ (own_EW hw) hh rfl R78 Bd.notSynchronized (fun h => by rw [Bd.returns] at h; cases h) (by decide) (by decide) ?_ (fun fs hr => retN X76 hx (t := .boolean) Bd.returns (by simp) (hb hby at_215) hr)
          exact ⟨rfl, N76⟩
    · have c80 : ∀ tg, Steps p.tables e below (T8.setTop (mkF m 58 #[.val (.int i0), .val (.int i1), .val (.int i2), .val (.int i3), .val (.int (i0 &&& (3 : Int32))), .val (.int c2), .val (.int c5), .val (.int c8), .unset, .unset, .unset, .unset] [(.int (2 : Int32)), (.int (i0 &&& (3 : Int32)))])) tg → Steps p.tables e below (T8.setTop (mkF m 39 #[.val (.int i0), .val (.int i1), .val (.int i2), .val (.int i3), .val (.int (i0 &&& (3 : Int32))), .val (.int c2), .val (.int c5), .val (.int c8), .unset, .unset, .unset, .unset] [(.int (1 : Int32)), (.int (i0 &&& (3 : Int32)))])) tg := fun tg kg => by
        refine XS.icmpYes X8.here hx rfl (pc0 := 39) (pc' := 55) rfl (hb hby at_39) rfl (feq hc32).2 (by decide) (by decide) ?_
        show Steps p.tables e below (T8.setTop (mkF m 55 #[.val (.int i0), .val (.int i1), .val (.int i2), .val (.int i3), .val (.int (i0 &&& (3 : Int32))), .val (.int c2), .val (.int c5), .val (.int c8), .unset, .unset, .unset, .unset] [])) tg
        refine XS.iload X8.here hx rfl (hb hby at_55) rfl ?_
        show Steps p.tables e below (T8.setTop (mkF m 57 #[.val (.int i0), .val (.int i1), .val (.int i2), .val (.int i3), .val (.int (i0 &&& (3 : Int32))), .val (.int c2), .val (.int c5), .val (.int c8), .unset, .unset, .unset, .unset] [(.int (i0 &&& (3 : Int32)))])) tg
        refine XS.iconst X8.here hx rfl (hb hby at_57) ?_
        show Steps p.tables e below (T8.setTop (mkF m 58 #[.val (.int i0), .val (.int i1), .val (.int i2), .val (.int i3), .val (.int (i0 &&& (3 : Int32))), .val (.int c2), .val (.int c5), .val (.int c8), .unset, .unset, .unset, .unset] [(.int (2 : Int32)), (.int (i0 &&& (3 : Int32)))])) tg
        exact kg
      refine gsW c80 ?_
      by_cases hc81 : (i0 &&& (3 : Int32)) = (2 : Int32)
      · have c82 : ∀ tg, Steps p.tables e below (T8.setTop (mkF m 62 #[.val (.int i0), .val (.int i1), .val (.int i2), .val (.int i3), .val (.int (i0 &&& (3 : Int32))), .val (.int c2), .val (.int c5), .val (.int c8), .unset, .unset, .unset, .unset] [(.int (2 : Int32))])) tg → Steps p.tables e below (T8.setTop (mkF m 58 #[.val (.int i0), .val (.int i1), .val (.int i2), .val (.int i3), .val (.int (i0 &&& (3 : Int32))), .val (.int c2), .val (.int c5), .val (.int c8), .unset, .unset, .unset, .unset] [(.int (2 : Int32)), (.int (i0 &&& (3 : Int32)))])) tg := fun tg kg => by
          refine XS.icmpNo X8.here hx rfl (hb hby at_58) rfl (teq hc81).2 ?_
          show Steps p.tables e below (T8.setTop (mkF m 61 #[.val (.int i0), .val (.int i1), .val (.int i2), .val (.int i3), .val (.int (i0 &&& (3 : Int32))), .val (.int c2), .val (.int c5), .val (.int c8), .unset, .unset, .unset, .unset] [])) tg
          refine XS.iconst X8.here hx rfl (hb hby at_61) ?_
          show Steps p.tables e below (T8.setTop (mkF m 62 #[.val (.int i0), .val (.int i1), .val (.int i2), .val (.int i3), .val (.int (i0 &&& (3 : Int32))), .val (.int c2), .val (.int c5), .val (.int c8), .unset, .unset, .unset, .unset] [(.int (2 : Int32))])) tg
          exact kg
        refine gsW c82 ?_
        obtain ⟨T83, h83, k83, X83, e83, E83, A83, st83⟩ := newP X8 hx hZ (hw _ (List.mem_of_getElem? (i := 4) rfl)) rfl (g := (mkF m 62 #[.val (.int i0), .val (.int i1), .val (.int i2), .val (.int i3), .val (.int (i0 &&& (3 : Int32))), .val (.int c2), .val (.int c5), .val (.int c8), .unset, .unset, .unset, .unset] [(.int (2 : Int32))])) rfl (hb hby at_62) rfl (by decide) (cap := 2) (by decide) (by decide) (by decide) (by decide)
        obtain ⟨b83, q83⟩ : ∃ z, z = T8.heap.size := ⟨_, rfl⟩
        rw [← q83] at A83 st83
        have g_b83 : n0 ≤ b83 := Nat.le_trans Z9 (Nat.le_of_eq q83.symm)
        have sz_b83 : h0.size ≤ b83 := Nat.le_trans K9.1 (Nat.le_of_eq q83.symm)
        have r84 : CHr Z own_EL s.vm T8.heap s.vm h83 := CHr.ext E83 R9.1
        have R84 : CHr Z own_EL s.vm h0 s.vm h83 := R9.trans r84
        have Z84 : n0 ≤ h83.size := Nat.le_trans Z9 E83.1
        have O84 : Old Z n0 h83 := O9.ext E83
        have K84 : Keep h0 h83 [] := K9.ext E83
        have V83 : Arv Z h83 b83 k83 .char (2 : Int32) [(.int (0 : Int32)), (.int (0 : Int32))] (.int (0 : Int32)) := (Arv.new A83 (by decide)).pad (pad_rep [] (.int (0 : Int32)) 2)
        refine gsW st83 ?_
        show OwnGoW p e below s Z own_EL _ _ _ (T83.setTop (mkF m 64 #[.val (.int i0), .val (.int i1), .val (.int i2), .val (.int i3), .val (.int (i0 &&& (3 : Int32))), .val (.int c2), .val (.int c5), .val (.int c8), .unset, .unset, .unset, .unset] [(.ref b83)]))
        have c85 : ∀ tg, Steps p.tables e below (T83.setTop (mkF m 68 #[.val (.int i0), .val (.int i1), .val (.int i2), .val (.int i3), .val (.int (i0 &&& (3 : Int32))), .val (.int c2), .val (.int c5), .val (.int c8), .unset, .unset, .unset, .unset] [(.int c2), (.int (0 : Int32)), (.ref b83), (.ref b83)])) tg → Steps p.tables e below (T83.setTop (mkF m 64 #[.val (.int i0), .val (.int i1), .val (.int i2), .val (.int i3), .val (.int (i0 &&& (3 : Int32))), .val (.int c2), .val (.int c5), .val (.int c8), .unset, .unset, .unset, .unset] [(.ref b83)])) tg := fun tg kg => by
          refine XS.dup X83.here hx rfl (hb hby at_64) rfl rfl ?_
          show Steps p.tables e below (T83.setTop (mkF m 65 #[.val (.int i0), .val (.int i1), .val (.int i2), .val (.int i3), .val (.int (i0 &&& (3 : Int32))), .val (.int c2), .val (.int c5), .val (.int c8), .unset, .unset, .unset, .unset] [(.ref b83), (.ref b83)])) tg
          refine XS.iconst X83.here hx rfl (hb hby at_65) ?_
          show Steps p.tables e below (T83.setTop (mkF m 66 #[.val (.int i0), .val (.int i1), .val (.int i2), .val (.int i3), .val (.int (i0 &&& (3 : Int32))), .val (.int c2), .val (.int c5), .val (.int c8), .unset, .unset, .unset, .unset] [(.int (0 : Int32)), (.ref b83), (.ref b83)])) tg
          refine XS.iload X83.here hx rfl (hb hby at_66) rfl ?_
          show Steps p.tables e below (T83.setTop (mkF m 68 #[.val (.int i0), .val (.int i1), .val (.int i2), .val (.int i3), .val (.int (i0 &&& (3 : Int32))), .val (.int c2), .val (.int c5), .val (.int c8), .unset, .unset, .unset, .unset] [(.int c2), (.int (0 : Int32)), (.ref b83), (.ref b83)])) tg
          exact kg
        refine gsW c85 ?_
        obtain ⟨cl86, A86, a86q, a86S, a86N, a86H, a86G⟩ := id V83
        obtain ⟨T86, h86, X86, e86, W86, st86⟩ := stC X83 hx hZ e83 A86 (j := (0 : Int32)) (inb_of a86S ⟨by decide, by decide⟩) (g := (mkF m 68 #[.val (.int i0), .val (.int i1), .val (.int i2), .val (.int i3), .val (.int (i0 &&& (3 : Int32))), .val (.int c2), .val (.int c5), .val (.int c8), .unset, .unset, .unset, .unset] [(.int c2), (.int (0 : Int32)), (.ref b83), (.ref b83)])) rfl rfl (hb hby at_68)
        have V86 : Arv Z h86 b83 k83 .char (2 : Int32) [(.int (nar .char c2)), (.int (0 : Int32))] (.int (0 : Int32)) := Arv.set A86 a86q a86S a86N a86H a86G (fits_nar_char _) W86 0 rfl (Nat.le_of_ble_eq_true rfl)
        have N86 := Fr.snoc X86 N8 g_b83
        have r87 : CHr Z own_EL s.vm h83 s.vm h86 := CHr.wr W86 (Safe.arv hZ.alike V83 (by decide)) R84.1
        have R87 : CHr Z own_EL s.vm h0 s.vm h86 := R84.trans r87
        have Z87 : n0 ≤ h86.size := Nat.le_trans Z84 (Keep.of_wr W86).1
        have O87 : Old Z n0 h86 := O84.wr W86 g_b83
        have K87 : Keep h0 h86 [] := K84.wr W86 (Or.inr sz_b83)
        refine gsW st86 ?_
        show OwnGoW p e below s Z own_EL _ _ _ (T86.setTop (mkF m 69 #[.val (.int i0), .val (.int i1), .val (.int i2), .val (.int i3), .val (.int (i0 &&& (3 : Int32))), .val (.int c2), .val (.int c5), .val (.int c8), .unset, .unset, .unset, .unset] [(.ref b83)]))
        have c88 : ∀ tg, Steps p.tables e below (T86.setTop (mkF m 73 #[.val (.int i0), .val (.int i1), .val (.int i2), .val (.int i3), .val (.int (i0 &&& (3 : Int32))), .val (.int c2), .val (.int c5), .val (.int c8), .unset, .unset, .unset, .unset] [(.int c5), (.int (1 : Int32)), (.ref b83), (.ref b83)])) tg → Steps p.tables e below (T86.setTop (mkF m 69 #[.val (.int i0), .val (.int i1), .val (.int i2), .val (.int i3), .val (.int (i0 &&& (3 : Int32))), .val (.int c2), .val (.int c5), .val (.int c8), .unset, .unset, .unset, .unset] [(.ref b83)])) tg := fun tg kg => by
          refine XS.dup X86.here hx rfl (hb hby at_69) rfl rfl ?_
          show Steps p.tables e below (T86.setTop (mkF m 70 #[.val (.int i0), .val (.int i1), .val (.int i2), .val (.int i3), .val (.int (i0 &&& (3 : Int32))), .val (.int c2), .val (.int c5), .val (.int c8), .unset, .unset, .unset, .unset] [(.ref b83), (.ref b83)])) tg
          refine XS.iconst X86.here hx rfl (hb hby at_70) ?_
          show Steps p.tables e below (T86.setTop (mkF m 71 #[.val (.int i0), .val (.int i1), .val (.int i2), .val (.int i3), .val (.int (i0 &&& (3 : Int32))), .val (.int c2), .val (.int c5), .val (.int c8), .unset, .unset, .unset, .unset] [(.int (1 : Int32)), (.ref b83), (.ref b83)])) tg
          refine XS.iload X86.here hx rfl (hb hby at_71) rfl ?_
          show Steps p.tables e below (T86.setTop (mkF m 73 #[.val (.int i0), .val (.int i1), .val (.int i2), .val (.int i3), .val (.int (i0 &&& (3 : Int32))), .val (.int c2), .val (.int c5), .val (.int c8), .unset, .unset, .unset, .unset] [(.int c5), (.int (1 : Int32)), (.ref b83), (.ref b83)])) tg
          exact kg
        refine gsW c88 ?_
        obtain ⟨cl89, A89, a89q, a89S, a89N, a89H, a89G⟩ := id V86
        obtain ⟨T89, h89, X89, e89, W89, st89⟩ := stC X86 hx hZ e86 A89 (j := (1 : Int32)) (inb_of a89S ⟨by decide, by decide⟩) (g := (mkF m 73 #[.val (.int i0), .val (.int i1), .val (.int i2), .val (.int i3), .val (.int (i0 &&& (3 : Int32))), .val (.int c2), .val (.int c5), .val (.int c8), .unset, .unset, .unset, .unset] [(.int c5), (.int (1 : Int32)), (.ref b83), (.ref b83)])) rfl rfl (hb hby at_73)
        have V89 : Arv Z h89 b83 k83 .char (2 : Int32) [(.int (nar .char c2)), (.int (nar .char c5))] (.int (0 : Int32)) := Arv.set A89 a89q a89S a89N a89H a89G (fits_nar_char _) W89 1 rfl (Nat.le_of_ble_eq_true rfl)
        have N89 := Fr.snoc X89 N86 g_b83
        have r90 : CHr Z own_EL s.vm h86 s.vm h89 := CHr.wr W89 (Safe.arv hZ.alike V86 (by decide)) R87.1
        have R90 : CHr Z own_EL s.vm h0 s.vm h89 := R87.trans r90
        have Z90 : n0 ≤ h89.size := Nat.le_trans Z87 (Keep.of_wr W89).1
        have O90 : Old Z n0 h89 := O87.wr W89 g_b83
        have K90 : Keep h0 h89 [] := K87.wr W89 (Or.inr sz_b83)
        refine gsW st89 ?_
        show OwnGoW p e below s Z own_EL _ _ _ (T89.setTop (mkF m 74 #[.val (.int i0), .val (.int i1), .val (.int i2), .val (.int i3), .val (.int (i0 &&& (3 : Int32))), .val (.int c2), .val (.int c5), .val (.int c8), .unset, .unset, .unset, .unset] [(.ref b83)]))
        have c91 : ∀ tg, Steps p.tables e below (T89.setTop (mkF m 99 #[.val (.int i0), .val (.int i1), .val (.int i2), .val (.int i3), .val (.int (i0 &&& (3 : Int32))), .val (.int c2), .val (.int c5), .val (.int c8), .val (.ref b83), .unset, .unset, .unset] [])) tg → Steps p.tables e below (T89.setTop (mkF m 74 #[.val (.int i0), .val (.int i1), .val (.int i2), .val (.int i3), .val (.int (i0 &&& (3 : Int32))), .val (.int c2), .val (.int c5), .val (.int c8), .unset, .unset, .unset, .unset] [(.ref b83)])) tg := fun tg kg => by
          refine XS.astore X89.here hx rfl (hb hby at_74) rfl rfl (l' := #[.val (.int i0), .val (.int i1), .val (.int i2), .val (.int i3), .val (.int (i0 &&& (3 : Int32))), .val (.int c2), .val (.int c5), .val (.int c8), .val (.ref b83), .unset, .unset, .unset]) rfl ?_
          show Steps p.tables e below (T89.setTop (mkF m 76 #[.val (.int i0), .val (.int i1), .val (.int i2), .val (.int i3), .val (.int (i0 &&& (3 : Int32))), .val (.int c2), .val (.int c5), .val (.int c8), .val (.ref b83), .unset, .unset, .unset] [])) tg
          refine XS.goto X89.here hx rfl (pc0 := 76) (pc' := 99) rfl (hb hby at_76) (by decide) (by decide) ?_
          show Steps p.tables e below (T89.setTop (mkF m 99 #[.val (.int i0), .val (.int i1), .val (.int i2), .val (.int i3), .val (.int (i0 &&& (3 : Int32))), .val (.int c2), .val (.int c5), .val (.int c8), .val (.ref b83), .unset, .unset, .unset] [])) tg
          exact kg
        refine gsW c91 ?_
        obtain ⟨T92, h92, X92, e92, E92, A92, D92, -, st92⟩ := newO X89 hx hZ hown (hw _ (List.mem_of_getElem? (i := 5) rfl)) (hw _ (List.mem_of_getElem? (i := 6) rfl)) (hw _ (List.mem_of_getElem? (i := 7) rfl)) e89 (g := (mkF m 99 #[.val (.int i0), .val (.int i1), .val (.int i2), .val (.int i3), .val (.int (i0 &&& (3 : Int32))), .val (.int c2), .val (.int c5), .val (.int c8), .val (.ref b83), .unset, .unset, .unset] [])) rfl (hb hby at_99) (by decide) (by decide)
        obtain ⟨b92, q92⟩ : ∃ z, z = h89.size := ⟨_, rfl⟩
        rw [← q92] at A92 D92 st92
        have g_b92 : n0 ≤ b92 := Nat.le_trans Z90 (Nat.le_of_eq q92.symm)
        have sz_b92 : h0.size ≤ b92 := Nat.le_trans K90.1 (Nat.le_of_eq q92.symm)
        have sfa92 : Safe Z own_EL s.vm h89 b92 := Safe.new (Nat.le_of_eq q92.symm)
        have r93 : CHr Z own_EL s.vm h89 s.vm h92 := CHr.ext E92 R90.1
        have R93 : CHr Z own_EL s.vm h0 s.vm h92 := R90.trans r93
        have Z93 : n0 ≤ h92.size := Nat.le_trans Z90 E92.1
        have O93 : Old Z n0 h92 := O90.ext E92
        have K93 : Keep h0 h92 [] := K90.ext E92
        have sfb92 := Safe.ext E92 R90.1 sfa92
        have F_value_b92 : Fld Z h92 b92 "java/lang/String" "value" "[B" .null := D92 (Or.inr (hw _ (List.mem_of_getElem? (i := 20) rfl))) (ty := (.array .byte)) (by decide)
        have F_coder_b92 : Fld Z h92 b92 "java/lang/String" "coder" "B" (.int (0 : Int32)) := D92 (Or.inr (hw _ (List.mem_of_getElem? (i := 21) rfl))) (ty := .byte) (by decide)
        refine gsW st92 ?_
        show OwnGoW p e below s Z own_EL _ _ _ (T92.setTop (mkF m 102 #[.val (.int i0), .val (.int i1), .val (.int i2), .val (.int i3), .val (.int (i0 &&& (3 : Int32))), .val (.int c2), .val (.int c5), .val (.int c8), .val (.ref b83), .unset, .unset, .unset] [(.ref b92)]))
        have c94 : ∀ tg, Steps p.tables e below (T92.setTop (mkF m 105 #[.val (.int i0), .val (.int i1), .val (.int i2), .val (.int i3), .val (.int (i0 &&& (3 : Int32))), .val (.int c2), .val (.int c5), .val (.int c8), .val (.ref b83), .unset, .unset, .unset] [(.ref b83), (.ref b92), (.ref b92)])) tg → Steps p.tables e below (T92.setTop (mkF m 102 #[.val (.int i0), .val (.int i1), .val (.int i2), .val (.int i3), .val (.int (i0 &&& (3 : Int32))), .val (.int c2), .val (.int c5), .val (.int c8), .val (.ref b83), .unset, .unset, .unset] [(.ref b92)])) tg := fun tg kg => by
          refine XS.dup X92.here hx rfl (hb hby at_102) rfl rfl ?_
          show Steps p.tables e below (T92.setTop (mkF m 103 #[.val (.int i0), .val (.int i1), .val (.int i2), .val (.int i3), .val (.int (i0 &&& (3 : Int32))), .val (.int c2), .val (.int c5), .val (.int c8), .val (.ref b83), .unset, .unset, .unset] [(.ref b92), (.ref b92)])) tg
          refine XS.aload X92.here hx rfl (hb hby at_103) rfl rfl ?_
          show Steps p.tables e below (T92.setTop (mkF m 105 #[.val (.int i0), .val (.int i1), .val (.int i2), .val (.int i3), .val (.int (i0 &&& (3 : Int32))), .val (.int c2), .val (.int c5), .val (.int c8), .val (.ref b83), .unset, .unset, .unset] [(.ref b83), (.ref b92), (.ref b92)])) tg
          exact kg
        refine gsW c94 ?_
        have hp95 : ∀ c ∈ ([(nar .char c2), (nar .char c5)] : List Int32), ¬ c < 0 ∧ ¬ (255 : Int32) < c := by
          intro c hc
          simp only [List.mem_cons, List.not_mem_nil, or_false] at hc
          rcases hc with rfl | rfl
          all_goals first | exact own_nb b2q | exact own_nb b5q | exact own_nb b8q
        have f96 := (V89.ext E92)
        obtain ⟨_, _, ⟨T97, L97, k97, n97⟩, -, X97, ⟨Lc97, hQ97, l97, y97, z97⟩, st97⟩ := X92.specialBack hx (y := (⟨"java/lang/String", "<init>", "([C)V"⟩ : MethodName)) rfl hown (mvT hZ (hw _ (List.mem_of_getElem? (i := 8) rfl))) (mvT hZ (hw _ (List.mem_of_getElem? (i := 9) rfl))) (mvT hZ (hw _ (List.mem_of_getElem? (i := 10) rfl))) (by decide) (StrChars.Road.backV (W := 1) hZ hws (kI := 4) (hw _ (List.mem_of_getElem? (i := 6) rfl)) (cs := ([(nar .char c2), (nar .char c5)] : List Int32)) (bs := ([(nar .char c2), (nar .char c5)] : List Int32).map (fun c => c.toInt8.toInt32)) (n := 2) g_b92 Z93 A92 F_value_b92 F_coder_b92 f96 (S0.ext O93.2) hz rfl rfl (by decide) (by decide) hp95 rfl (by decide) (by decide)) (g := (mkF m 105 #[.val (.int i0), .val (.int i1), .val (.int i2), .val (.int i3), .val (.int (i0 &&& (3 : Int32))), .val (.int c2), .val (.int c5), .val (.int c8), .val (.ref b83), .unset, .unset, .unset] [(.ref b83), (.ref b92), (.ref b92)])) rfl (by rw [hml]; rfl) (Steps.refl _) (a := b92) (argsL := [(.ref b83)]) (rest := [(.ref b92)]) (lenOf pd_140 rfl) rfl (by show 2 * 0 + _ ≤ _; exact Nat.le_of_eq rfl) (hb hby at_105) (fun _ _ => ⟨rfl, e92, (by decide : 2 + 1 ≤ _), (by decide : 6 + 2 ≤ _)⟩)
        dsimp only [Pt.U, Pt.locs, Pt.cells, Pt.slots] at X97 l97 y97 z97 st97 hQ97
        subst l97 y97 z97
        obtain ⟨rfl, N97q, K97q, g97e, g97c, t97, kb97, -, g97t, -, g97v, g97a⟩ := hQ97
        have N97 := Fr.app N89 N97q
        have g_t97 : n0 ≤ t97 := Nat.le_trans Z93 g97t
        have sz_t97 : h0.size ≤ t97 := Nat.le_trans K93.1 g97t
        have r98 : CHr Z own_EL s.vm h92 s.vm T97.heap := CHr.keep K97q (sfS sfb92 sf0) R93.1
        have R98 : CHr Z own_EL s.vm h0 s.vm T97.heap := R93.trans r98
        have Z98 : n0 ≤ T97.heap.size := Nat.le_trans Z93 K97q.1
        have O98 : Old Z n0 T97.heap := O93.keep K97q (allS g_b92 all0)
        have K98 : Keep h0 T97.heap [] := K93.trans K97q (allS (Or.inr sz_b92) all0)
        refine gsW (fun _ k => st97.trans k) ?_
        show OwnGoW p e below s Z own_EL _ _ _ (T97.setTop (mkF m 108 #[.val (.int i0), .val (.int i1), .val (.int i2), .val (.int i3), .val (.int (i0 &&& (3 : Int32))), .val (.int c2), .val (.int c5), .val (.int c8), .val (.ref b83), .unset, .unset, .unset] [(.ref b92)]))
        have c99 : ∀ tg, Steps p.tables e below (T97.setTop (mkF m 112 #[.val (.int i0), .val (.int i1), .val (.int i2), .val (.int i3), .val (.int (i0 &&& (3 : Int32))), .val (.int c2), .val (.int c5), .val (.int c8), .val (.ref b83), .val (.ref b92), .unset, .unset] [(.ref b92)])) tg → Steps p.tables e below (T97.setTop (mkF m 108 #[.val (.int i0), .val (.int i1), .val (.int i2), .val (.int i3), .val (.int (i0 &&& (3 : Int32))), .val (.int c2), .val (.int c5), .val (.int c8), .val (.ref b83), .unset, .unset, .unset] [(.ref b92)])) tg := fun tg kg => by
          refine XS.astore X97.here hx rfl (hb hby at_108) rfl rfl (l' := #[.val (.int i0), .val (.int i1), .val (.int i2), .val (.int i3), .val (.int (i0 &&& (3 : Int32))), .val (.int c2), .val (.int c5), .val (.int c8), .val (.ref b83), .val (.ref b92), .unset, .unset]) rfl ?_
          show Steps p.tables e below (T97.setTop (mkF m 110 #[.val (.int i0), .val (.int i1), .val (.int i2), .val (.int i3), .val (.int (i0 &&& (3 : Int32))), .val (.int c2), .val (.int c5), .val (.int c8), .val (.ref b83), .val (.ref b92), .unset, .unset] [])) tg
          refine XS.aload X97.here hx rfl (hb hby at_110) rfl rfl ?_
          show Steps p.tables e below (T97.setTop (mkF m 112 #[.val (.int i0), .val (.int i1), .val (.int i2), .val (.int i3), .val (.int (i0 &&& (3 : Int32))), .val (.int c2), .val (.int c5), .val (.int c8), .val (.ref b83), .val (.ref b92), .unset, .unset] [(.ref b92)])) tg
          exact kg
        refine gsW c99 ?_
        have T100 : Str Z T97.heap b92 ([(nar .char c2), (nar .char c5)] : List Int32) := ⟨_, _, g97e, g97c, g97v, g97a⟩
        simp only [own_nc b2q, own_nc b5q, own_nc b8q] at T100
        have hb101 : ∀ c ∈ ([c2, c5] : List Int32), ¬ c < 0 ∧ ¬ (255 : Int32) < c := by
          intro c hc
          simp only [List.mem_cons, List.not_mem_nil, or_false] at hc
          rcases hc with rfl | rfl <;> assumption
        by_cases hc102 : c5 = (61 : Int32)
        · by_cases hc103 : c2 = (60 : Int32)
          · obtain ⟨_, _, ⟨T104, L104, k104, n104⟩, -, X104, ⟨Lc104, hQ104, l104, y104, z104⟩, st104⟩ := Jvm.LawKit.callS X97 hx (y := (⟨"com/example/tranche/tranche/terms/Comparison", "written", "(Ljava/lang/String;)Ljava/util/Optional;"⟩ : MethodName)) hown (mvT hZ (hw _ (List.mem_of_getElem? (i := 26) rfl))) (mvT hZ (hw _ (List.mem_of_getElem? (i := 27) rfl))) (mvT hZ (hw _ (List.mem_of_getElem? (i := 28) rfl))) (mvT hZ (hw _ (List.mem_of_getElem? (i := 29) rfl))) (by decide) (backC (W := 0) (rm_wr1 l Z a0 hw [] b92 ([c2, c5] : List Int32) z oe va kv en0 en1 en2 en3 sn0 sn1 sn2 sn3 T97.heap n0 Z98 O98 S0 hz T100 hb101 (by simp) S_oe S_va V_va E_va F_e0 F_e1 F_e2 F_e3 T_s0 T_s1 T_s2 T_s3 (by simp only [hc103, hc102])) hZ (hw _ (List.mem_of_getElem? (i := 29) rfl)) (hw _ (List.mem_of_getElem? (i := 28) rfl)) (by decide) (by decide)) (g := (mkF m 112 #[.val (.int i0), .val (.int i1), .val (.int i2), .val (.int i3), .val (.int (i0 &&& (3 : Int32))), .val (.int c2), .val (.int c5), .val (.int c8), .val (.ref b83), .val (.ref b92), .unset, .unset] [(.ref b92)])) rfl (by rw [hml]; rfl) (argsL := [(.ref b92)]) (rest := []) (lenOf pd_141 rfl) rfl (by show 2 * 0 + _ ≤ _; exact Nat.le_of_eq rfl) (hb hby at_112) (fun _ _ => ⟨rfl, rfl, (by decide : 3 + 2 ≤ _), (by decide : 8 + 5 ≤ _)⟩)
            dsimp only [Pt.U, Pt.locs, Pt.cells, Pt.slots] at X104 l104 y104 z104 st104 hQ104
            subst l104 y104 z104
            obtain ⟨a104, rfl, N104q, K104q, E104q, F104v⟩ := hQ104
            have N104 := Fr.app N97 N104q
            have r105 : CHr Z own_EL s.vm T97.heap s.vm T104.heap := CHr.keep K104q sf0 R98.1
            have R105 : CHr Z own_EL s.vm h0 s.vm T104.heap := R98.trans r105
            have Z105 : n0 ≤ T104.heap.size := Nat.le_trans Z98 K104q.1
            have O105 : Old Z n0 T104.heap := O98.keep K104q all0
            have K105 : Keep h0 T104.heap [] := K98.trans K104q all0
            refine gsW st104 ?_
            show OwnGoW p e below s Z own_EL _ _ _ (T104.setTop (mkF m 115 #[.val (.int i0), .val (.int i1), .val (.int i2), .val (.int i3), .val (.int (i0 &&& (3 : Int32))), .val (.int c2), .val (.int c5), .val (.int c8), .val (.ref b83), .val (.ref b92), .unset, .unset] [(.ref a104)]))
            have c106 : ∀ tg, Steps p.tables e below (T104.setTop (mkF m 116 #[.val (.int i0), .val (.int i1), .val (.int i2), .val (.int i3), .val (.int (i0 &&& (3 : Int32))), .val (.int c2), .val (.int c5), .val (.int c8), .val (.ref b83), .val (.ref b92), .unset, .unset] [.null, (.ref a104)])) tg → Steps p.tables e below (T104.setTop (mkF m 115 #[.val (.int i0), .val (.int i1), .val (.int i2), .val (.int i3), .val (.int (i0 &&& (3 : Int32))), .val (.int c2), .val (.int c5), .val (.int c8), .val (.ref b83), .val (.ref b92), .unset, .unset] [(.ref a104)])) tg := fun tg kg => by
              refine XS.aconstNull X104.here hx rfl (hb hby at_115) ?_
              show Steps p.tables e below (T104.setTop (mkF m 116 #[.val (.int i0), .val (.int i1), .val (.int i2), .val (.int i3), .val (.int (i0 &&& (3 : Int32))), .val (.int c2), .val (.int c5), .val (.int c8), .val (.ref b83), .val (.ref b92), .unset, .unset] [.null, (.ref a104)])) tg
              exact kg
            refine gsW c106 ?_
            obtain ⟨cq107, kq107, q107a, q107b, q107c⟩ := isOf hZ rfl E104q
            obtain ⟨_, _, ⟨T107, L107, k107, n107⟩, -, X107, ⟨Lc107, hQ107, l107, y107, z107⟩, st107⟩ := X104.virtualBack hx (y := (⟨"java/util/Optional", "orElse", "(Ljava/lang/Object;)Ljava/lang/Object;"⟩ : MethodName)) (z := (⟨"java/util/Optional", "orElse", "(Ljava/lang/Object;)Ljava/lang/Object;"⟩ : MethodName)) hown (mvT hZ (hw _ (List.mem_of_getElem? (i := 67) rfl))) (mvT hZ (hw _ (List.mem_of_getElem? (i := 68) rfl))) (notFace_of_selects (args := #[]) (mvT hZ (hw _ (List.mem_of_getElem? (i := 70) rfl)))) (mvT hZ (hw _ (List.mem_of_getElem? (i := 70) rfl))) (mvT hZ (hw _ (List.mem_of_getElem? (i := 69) rfl))) (by decide) (backC (W := 0) (rm_or_ref l Z a0 hw [] a104 en1 T104.heap n0 Z105 O105 F104v) hZ (hw _ (List.mem_of_getElem? (i := 71) rfl)) (hw _ (List.mem_of_getElem? (i := 32) rfl)) (by decide) (by decide)) q107a q107c (g := (mkF m 116 #[.val (.int i0), .val (.int i1), .val (.int i2), .val (.int i3), .val (.int (i0 &&& (3 : Int32))), .val (.int c2), .val (.int c5), .val (.int c8), .val (.ref b83), .val (.ref b92), .unset, .unset] [.null, (.ref a104)])) rfl (by rw [hml]; rfl) (Steps.refl _) (argsL := [.null]) (rest := []) (lenOf pd_87 rfl) rfl (by show 2 * 0 + _ ≤ _; exact Nat.le_of_eq rfl) (hb hby at_116) (fun _ _ => ⟨rfl, rfl, (by decide : 5 + 0 ≤ _), (by decide : 13 + 0 ≤ _)⟩)
            dsimp only [Pt.U, Pt.locs, Pt.cells, Pt.slots] at X107 l107 y107 z107 st107 hQ107
            subst l107 y107 z107
            obtain ⟨rfl, N107q, K107q⟩ := hQ107
            have N107 := Fr.app N104 N107q
            have r108 : CHr Z own_EL s.vm T104.heap s.vm T107.heap := CHr.keep K107q sf0 R105.1
            have R108 : CHr Z own_EL s.vm h0 s.vm T107.heap := R105.trans r108
            have Z108 : n0 ≤ T107.heap.size := Nat.le_trans Z105 K107q.1
            have O108 : Old Z n0 T107.heap := O105.keep K107q all0
            have K108 : Keep h0 T107.heap [] := K105.trans K107q all0
            refine gsW (fun _ k => st107.trans k) ?_
            show OwnGoW p e below s Z own_EL _ _ _ (T107.setTop (mkF m 119 #[.val (.int i0), .val (.int i1), .val (.int i2), .val (.int i3), .val (.int (i0 &&& (3 : Int32))), .val (.int c2), .val (.int c5), .val (.int c8), .val (.ref b83), .val (.ref b92), .unset, .unset] [(.ref en1)]))
            have f109 := (((((((((((E_e1.ext O0.2).keep K2q).keep K5q).keep K8q).ext E83).wr W86).wr W89).ext E92).keep K97q).keep K104q).keep K107q)
            obtain ⟨T110, X110, e110, st110⟩ := castY X107 hx hZ hown (hw _ (List.mem_of_getElem? (i := 98) rfl)) rfl (Ins.self f109) (g := (mkF m 119 #[.val (.int i0), .val (.int i1), .val (.int i2), .val (.int i3), .val (.int (i0 &&& (3 : Int32))), .val (.int c2), .val (.int c5), .val (.int c8), .val (.ref b83), .val (.ref b92), .unset, .unset] [(.ref en1)])) rfl rfl (hb hby at_119)
            refine gsW st110 ?_
            show OwnGoW p e below s Z own_EL _ _ _ (T110.setTop (mkF m 122 #[.val (.int i0), .val (.int i1), .val (.int i2), .val (.int i3), .val (.int (i0 &&& (3 : Int32))), .val (.int c2), .val (.int c5), .val (.int c8), .val (.ref b83), .val (.ref b92), .unset, .unset] [(.ref en1)]))
            have c111 : ∀ tg, Steps p.tables e below (T110.setTop (mkF m 183 #[.val (.int i0), .val (.int i1), .val (.int i2), .val (.int i3), .val (.int (i0 &&& (3 : Int32))), .val (.int c2), .val (.int c5), .val (.int c8), .val (.ref b83), .val (.ref b92), .val (.ref en1), .val .null] [])) tg → Steps p.tables e below (T110.setTop (mkF m 122 #[.val (.int i0), .val (.int i1), .val (.int i2), .val (.int i3), .val (.int (i0 &&& (3 : Int32))), .val (.int c2), .val (.int c5), .val (.int c8), .val (.ref b83), .val (.ref b92), .unset, .unset] [(.ref en1)])) tg := fun tg kg => by
              refine XS.astore X110.here hx rfl (hb hby at_122) rfl rfl (l' := #[.val (.int i0), .val (.int i1), .val (.int i2), .val (.int i3), .val (.int (i0 &&& (3 : Int32))), .val (.int c2), .val (.int c5), .val (.int c8), .val (.ref b83), .val (.ref b92), .val (.ref en1), .unset]) rfl ?_
              show Steps p.tables e below (T110.setTop (mkF m 124 #[.val (.int i0), .val (.int i1), .val (.int i2), .val (.int i3), .val (.int (i0 &&& (3 : Int32))), .val (.int c2), .val (.int c5), .val (.int c8), .val (.ref b83), .val (.ref b92), .val (.ref en1), .unset] [])) tg
              refine XS.aconstNull X110.here hx rfl (hb hby at_124) ?_
              show Steps p.tables e below (T110.setTop (mkF m 125 #[.val (.int i0), .val (.int i1), .val (.int i2), .val (.int i3), .val (.int (i0 &&& (3 : Int32))), .val (.int c2), .val (.int c5), .val (.int c8), .val (.ref b83), .val (.ref b92), .val (.ref en1), .unset] [.null])) tg
              refine XS.astore X110.here hx rfl (hb hby at_125) rfl rfl (l' := #[.val (.int i0), .val (.int i1), .val (.int i2), .val (.int i3), .val (.int (i0 &&& (3 : Int32))), .val (.int c2), .val (.int c5), .val (.int c8), .val (.ref b83), .val (.ref b92), .val (.ref en1), .val .null]) rfl ?_
              show Steps p.tables e below (T110.setTop (mkF m 127 #[.val (.int i0), .val (.int i1), .val (.int i2), .val (.int i3), .val (.int (i0 &&& (3 : Int32))), .val (.int c2), .val (.int c5), .val (.int c8), .val (.ref b83), .val (.ref b92), .val (.ref en1), .val .null] [])) tg
              refine XS.iload X110.here hx rfl (hb hby at_127) rfl ?_
              show Steps p.tables e below (T110.setTop (mkF m 129 #[.val (.int i0), .val (.int i1), .val (.int i2), .val (.int i3), .val (.int (i0 &&& (3 : Int32))), .val (.int c2), .val (.int c5), .val (.int c8), .val (.ref b83), .val (.ref b92), .val (.ref en1), .val .null] [(.int (i0 &&& (3 : Int32)))])) tg
              refine XS.iconst X110.here hx rfl (hb hby at_129) ?_
              show Steps p.tables e below (T110.setTop (mkF m 130 #[.val (.int i0), .val (.int i1), .val (.int i2), .val (.int i3), .val (.int (i0 &&& (3 : Int32))), .val (.int c2), .val (.int c5), .val (.int c8), .val (.ref b83), .val (.ref b92), .val (.ref en1), .val .null] [(.int (1 : Int32)), (.int (i0 &&& (3 : Int32)))])) tg
              refine XS.icmpYes X110.here hx rfl (pc0 := 130) (pc' := 163) rfl (hb hby at_130) rfl (feq hc32).2 (by decide) (by decide) ?_
              show Steps p.tables e below (T110.setTop (mkF m 163 #[.val (.int i0), .val (.int i1), .val (.int i2), .val (.int i3), .val (.int (i0 &&& (3 : Int32))), .val (.int c2), .val (.int c5), .val (.int c8), .val (.ref b83), .val (.ref b92), .val (.ref en1), .val .null] [])) tg
              refine XS.iload X110.here hx rfl (hb hby at_163) rfl ?_
              show Steps p.tables e below (T110.setTop (mkF m 165 #[.val (.int i0), .val (.int i1), .val (.int i2), .val (.int i3), .val (.int (i0 &&& (3 : Int32))), .val (.int c2), .val (.int c5), .val (.int c8), .val (.ref b83), .val (.ref b92), .val (.ref en1), .val .null] [(.int (i0 &&& (3 : Int32)))])) tg
              refine XS.iconst X110.here hx rfl (hb hby at_165) ?_
              show Steps p.tables e below (T110.setTop (mkF m 166 #[.val (.int i0), .val (.int i1), .val (.int i2), .val (.int i3), .val (.int (i0 &&& (3 : Int32))), .val (.int c2), .val (.int c5), .val (.int c8), .val (.ref b83), .val (.ref b92), .val (.ref en1), .val .null] [(.int (2 : Int32)), (.int (i0 &&& (3 : Int32)))])) tg
              refine XS.icmpNo X110.here hx rfl (hb hby at_166) rfl (teq hc81).2 ?_
              show Steps p.tables e below (T110.setTop (mkF m 169 #[.val (.int i0), .val (.int i1), .val (.int i2), .val (.int i3), .val (.int (i0 &&& (3 : Int32))), .val (.int c2), .val (.int c5), .val (.int c8), .val (.ref b83), .val (.ref b92), .val (.ref en1), .val .null] [])) tg
              refine XS.iload X110.here hx rfl (hb hby at_169) rfl ?_
              show Steps p.tables e below (T110.setTop (mkF m 171 #[.val (.int i0), .val (.int i1), .val (.int i2), .val (.int i3), .val (.int (i0 &&& (3 : Int32))), .val (.int c2), .val (.int c5), .val (.int c8), .val (.ref b83), .val (.ref b92), .val (.ref en1), .val .null] [(.int c5)])) tg
              refine XS.bipush X110.here hx rfl (hb hby at_171) ?_
              show Steps p.tables e below (T110.setTop (mkF m 173 #[.val (.int i0), .val (.int i1), .val (.int i2), .val (.int i3), .val (.int (i0 &&& (3 : Int32))), .val (.int c2), .val (.int c5), .val (.int c8), .val (.ref b83), .val (.ref b92), .val (.ref en1), .val .null] [(.int (61 : Int32)), (.int c5)])) tg
              refine XS.icmpNo X110.here hx rfl (hb hby at_173) rfl (teq hc102).2 ?_
              show Steps p.tables e below (T110.setTop (mkF m 176 #[.val (.int i0), .val (.int i1), .val (.int i2), .val (.int i3), .val (.int (i0 &&& (3 : Int32))), .val (.int c2), .val (.int c5), .val (.int c8), .val (.ref b83), .val (.ref b92), .val (.ref en1), .val .null] [])) tg
              refine XS.iload X110.here hx rfl (hb hby at_176) rfl ?_
              show Steps p.tables e below (T110.setTop (mkF m 178 #[.val (.int i0), .val (.int i1), .val (.int i2), .val (.int i3), .val (.int (i0 &&& (3 : Int32))), .val (.int c2), .val (.int c5), .val (.int c8), .val (.ref b83), .val (.ref b92), .val (.ref en1), .val .null] [(.int c2)])) tg
              refine XS.bipush X110.here hx rfl (hb hby at_178) ?_
              show Steps p.tables e below (T110.setTop (mkF m 180 #[.val (.int i0), .val (.int i1), .val (.int i2), .val (.int i3), .val (.int (i0 &&& (3 : Int32))), .val (.int c2), .val (.int c5), .val (.int c8), .val (.ref b83), .val (.ref b92), .val (.ref en1), .val .null] [(.int (60 : Int32)), (.int c2)])) tg
              refine XS.icmpNo X110.here hx rfl (hb hby at_180) rfl (teq hc103).2 ?_
              show Steps p.tables e below (T110.setTop (mkF m 183 #[.val (.int i0), .val (.int i1), .val (.int i2), .val (.int i3), .val (.int (i0 &&& (3 : Int32))), .val (.int c2), .val (.int c5), .val (.int c8), .val (.ref b83), .val (.ref b92), .val (.ref en1), .val .null] [])) tg
              exact kg
            refine gsW c111 ?_
            obtain ⟨T112, X112, e112, st112⟩ := getS2 X110 hx hZ hown (host := "") (Or.inl (hw _ (List.mem_of_getElem? (i := 102) rfl))) Via.refl e110 (S_e1.ext O108.2) (g := (mkF m 183 #[.val (.int i0), .val (.int i1), .val (.int i2), .val (.int i3), .val (.int (i0 &&& (3 : Int32))), .val (.int c2), .val (.int c5), .val (.int c8), .val (.ref b83), .val (.ref b92), .val (.ref en1), .val .null] [])) rfl (hb hby at_183)
            refine gsW st112 ?_
            show OwnGoW p e below s Z own_EL _ _ _ (T112.setTop (mkF m 186 #[.val (.int i0), .val (.int i1), .val (.int i2), .val (.int i3), .val (.int (i0 &&& (3 : Int32))), .val (.int c2), .val (.int c5), .val (.int c8), .val (.ref b83), .val (.ref b92), .val (.ref en1), .val .null] [(.ref en1)]))
            have c113 : ∀ tg, Steps p.tables e below (T112.setTop (mkF m 215 #[.val (.int i0), .val (.int i1), .val (.int i2), .val (.int i3), .val (.int (i0 &&& (3 : Int32))), .val (.int c2), .val (.int c5), .val (.int c8), .val (.ref b83), .val (.ref b92), .val (.ref en1), .val (.ref en1)] [(.int (1 : Int32))])) tg → Steps p.tables e below (T112.setTop (mkF m 186 #[.val (.int i0), .val (.int i1), .val (.int i2), .val (.int i3), .val (.int (i0 &&& (3 : Int32))), .val (.int c2), .val (.int c5), .val (.int c8), .val (.ref b83), .val (.ref b92), .val (.ref en1), .val .null] [(.ref en1)])) tg := fun tg kg => by
              refine XS.astore X112.here hx rfl (hb hby at_186) rfl rfl (l' := #[.val (.int i0), .val (.int i1), .val (.int i2), .val (.int i3), .val (.int (i0 &&& (3 : Int32))), .val (.int c2), .val (.int c5), .val (.int c8), .val (.ref b83), .val (.ref b92), .val (.ref en1), .val (.ref en1)]) rfl ?_
              show Steps p.tables e below (T112.setTop (mkF m 188 #[.val (.int i0), .val (.int i1), .val (.int i2), .val (.int i3), .val (.int (i0 &&& (3 : Int32))), .val (.int c2), .val (.int c5), .val (.int c8), .val (.ref b83), .val (.ref b92), .val (.ref en1), .val (.ref en1)] [])) tg
              refine XS.goto X112.here hx rfl (pc0 := 188) (pc' := 203) rfl (hb hby at_188) (by decide) (by decide) ?_
              show Steps p.tables e below (T112.setTop (mkF m 203 #[.val (.int i0), .val (.int i1), .val (.int i2), .val (.int i3), .val (.int (i0 &&& (3 : Int32))), .val (.int c2), .val (.int c5), .val (.int c8), .val (.ref b83), .val (.ref b92), .val (.ref en1), .val (.ref en1)] [])) tg
              refine XS.aload X112.here hx rfl (hb hby at_203) rfl rfl ?_
              show Steps p.tables e below (T112.setTop (mkF m 205 #[.val (.int i0), .val (.int i1), .val (.int i2), .val (.int i3), .val (.int (i0 &&& (3 : Int32))), .val (.int c2), .val (.int c5), .val (.int c8), .val (.ref b83), .val (.ref b92), .val (.ref en1), .val (.ref en1)] [(.ref en1)])) tg
              refine XS.aload X112.here hx rfl (hb hby at_205) rfl rfl ?_
              show Steps p.tables e below (T112.setTop (mkF m 207 #[.val (.int i0), .val (.int i1), .val (.int i2), .val (.int i3), .val (.int (i0 &&& (3 : Int32))), .val (.int c2), .val (.int c5), .val (.int c8), .val (.ref b83), .val (.ref b92), .val (.ref en1), .val (.ref en1)] [(.ref en1), (.ref en1)])) tg
              refine Jvm.RoadKit.acmp (g := (mkF m 207 #[.val (.int i0), .val (.int i1), .val (.int i2), .val (.int i3), .val (.int (i0 &&& (3 : Int32))), .val (.int c2), .val (.int c5), .val (.int c8), .val (.ref b83), .val (.ref b92), .val (.ref en1), .val (.ref en1)] [(.ref en1), (.ref en1)])) X112 hx rfl rfl rfl (pc0 := 207) (pc' := 210) (same := true) rfl (hb hby at_207) rfl (decide_eq_true rfl) (by decide) (by decide) ?_
              show Steps p.tables e below (T112.setTop (mkF m 210 #[.val (.int i0), .val (.int i1), .val (.int i2), .val (.int i3), .val (.int (i0 &&& (3 : Int32))), .val (.int c2), .val (.int c5), .val (.int c8), .val (.ref b83), .val (.ref b92), .val (.ref en1), .val (.ref en1)] [])) tg
              refine XS.iconst X112.here hx rfl (hb hby at_210) ?_
              show Steps p.tables e below (T112.setTop (mkF m 211 #[.val (.int i0), .val (.int i1), .val (.int i2), .val (.int i3), .val (.int (i0 &&& (3 : Int32))), .val (.int c2), .val (.int c5), .val (.int c8), .val (.ref b83), .val (.ref b92), .val (.ref en1), .val (.ref en1)] [(.int (1 : Int32))])) tg
              refine XS.goto X112.here hx rfl (pc0 := 211) (pc' := 215) rfl (hb hby at_211) (by decide) (by decide) ?_
              show Steps p.tables e below (T112.setTop (mkF m 215 #[.val (.int i0), .val (.int i1), .val (.int i2), .val (.int i3), .val (.int (i0 &&& (3 : Int32))), .val (.int c2), .val (.int c5), .val (.int c8), .val (.ref b83), .val (.ref b92), .val (.ref en1), .val (.ref en1)] [(.int (1 : Int32))])) tg
              exact kg
            refine gsW c113 ?_
            refine goutW (v := some (.int (1 : Int32))) X112 hS (Nat.le_trans hk (Nat.le_trans (Nat.le_trans (Nat.le_trans (Nat.le_trans (Nat.le_trans (Nat.le_trans (Nat.le_trans (Nat.le_trans (Nat.le_trans K2q.1 K5q.1) K8q.1) E83.1) (Keep.of_wr W86).1) (Keep.of_wr W89).1) E92.1) K97q.1) K104q.1) K107q.1)) hZ (own_EW hw) hh e112 R108 Bd.notSynchronized (fun h => by rw [Bd.returns] at h; cases h) (by decide) (by decide) ?_ (fun fs hr => retN X112 hx (t := .boolean) Bd.returns (by simp) (hb hby at_215) hr)
            exact ⟨rfl, N107⟩
          · by_cases hc114 : c2 = (62 : Int32)
            · obtain ⟨_, _, ⟨T115, L115, k115, n115⟩, -, X115, ⟨Lc115, hQ115, l115, y115, z115⟩, st115⟩ := Jvm.LawKit.callS X97 hx (y := (⟨"com/example/tranche/tranche/terms/Comparison", "written", "(Ljava/lang/String;)Ljava/util/Optional;"⟩ : MethodName)) hown (mvT hZ (hw _ (List.mem_of_getElem? (i := 26) rfl))) (mvT hZ (hw _ (List.mem_of_getElem? (i := 27) rfl))) (mvT hZ (hw _ (List.mem_of_getElem? (i := 28) rfl))) (mvT hZ (hw _ (List.mem_of_getElem? (i := 29) rfl))) (by decide) (backC (W := 0) (rm_wr3 l Z a0 hw [] b92 ([c2, c5] : List Int32) z oe va kv en0 en1 en2 en3 sn0 sn1 sn2 sn3 T97.heap n0 Z98 O98 S0 hz T100 hb101 (by simp) S_oe S_va V_va E_va F_e0 F_e1 F_e2 F_e3 T_s0 T_s1 T_s2 T_s3 (by simp only [hc103, hc114, hc102])) hZ (hw _ (List.mem_of_getElem? (i := 29) rfl)) (hw _ (List.mem_of_getElem? (i := 28) rfl)) (by decide) (by decide)) (g := (mkF m 112 #[.val (.int i0), .val (.int i1), .val (.int i2), .val (.int i3), .val (.int (i0 &&& (3 : Int32))), .val (.int c2), .val (.int c5), .val (.int c8), .val (.ref b83), .val (.ref b92), .unset, .unset] [(.ref b92)])) rfl (by rw [hml]; rfl) (argsL := [(.ref b92)]) (rest := []) (lenOf pd_141 rfl) rfl (by show 2 * 0 + _ ≤ _; exact Nat.le_of_eq rfl) (hb hby at_112) (fun _ _ => ⟨rfl, rfl, (by decide : 3 + 2 ≤ _), (by decide : 8 + 5 ≤ _)⟩)
              dsimp only [Pt.U, Pt.locs, Pt.cells, Pt.slots] at X115 l115 y115 z115 st115 hQ115
              subst l115 y115 z115
              obtain ⟨a115, rfl, N115q, K115q, E115q, F115v⟩ := hQ115
              have N115 := Fr.app N97 N115q
              have r116 : CHr Z own_EL s.vm T97.heap s.vm T115.heap := CHr.keep K115q sf0 R98.1
              have R116 : CHr Z own_EL s.vm h0 s.vm T115.heap := R98.trans r116
              have Z116 : n0 ≤ T115.heap.size := Nat.le_trans Z98 K115q.1
              have O116 : Old Z n0 T115.heap := O98.keep K115q all0
              have K116 : Keep h0 T115.heap [] := K98.trans K115q all0
              refine gsW st115 ?_
              show OwnGoW p e below s Z own_EL _ _ _ (T115.setTop (mkF m 115 #[.val (.int i0), .val (.int i1), .val (.int i2), .val (.int i3), .val (.int (i0 &&& (3 : Int32))), .val (.int c2), .val (.int c5), .val (.int c8), .val (.ref b83), .val (.ref b92), .unset, .unset] [(.ref a115)]))
              have c117 : ∀ tg, Steps p.tables e below (T115.setTop (mkF m 116 #[.val (.int i0), .val (.int i1), .val (.int i2), .val (.int i3), .val (.int (i0 &&& (3 : Int32))), .val (.int c2), .val (.int c5), .val (.int c8), .val (.ref b83), .val (.ref b92), .unset, .unset] [.null, (.ref a115)])) tg → Steps p.tables e below (T115.setTop (mkF m 115 #[.val (.int i0), .val (.int i1), .val (.int i2), .val (.int i3), .val (.int (i0 &&& (3 : Int32))), .val (.int c2), .val (.int c5), .val (.int c8), .val (.ref b83), .val (.ref b92), .unset, .unset] [(.ref a115)])) tg := fun tg kg => by
                refine XS.aconstNull X115.here hx rfl (hb hby at_115) ?_
                show Steps p.tables e below (T115.setTop (mkF m 116 #[.val (.int i0), .val (.int i1), .val (.int i2), .val (.int i3), .val (.int (i0 &&& (3 : Int32))), .val (.int c2), .val (.int c5), .val (.int c8), .val (.ref b83), .val (.ref b92), .unset, .unset] [.null, (.ref a115)])) tg
                exact kg
              refine gsW c117 ?_
              obtain ⟨cq118, kq118, q118a, q118b, q118c⟩ := isOf hZ rfl E115q
              obtain ⟨_, _, ⟨T118, L118, k118, n118⟩, -, X118, ⟨Lc118, hQ118, l118, y118, z118⟩, st118⟩ := X115.virtualBack hx (y := (⟨"java/util/Optional", "orElse", "(Ljava/lang/Object;)Ljava/lang/Object;"⟩ : MethodName)) (z := (⟨"java/util/Optional", "orElse", "(Ljava/lang/Object;)Ljava/lang/Object;"⟩ : MethodName)) hown (mvT hZ (hw _ (List.mem_of_getElem? (i := 67) rfl))) (mvT hZ (hw _ (List.mem_of_getElem? (i := 68) rfl))) (notFace_of_selects (args := #[]) (mvT hZ (hw _ (List.mem_of_getElem? (i := 70) rfl)))) (mvT hZ (hw _ (List.mem_of_getElem? (i := 70) rfl))) (mvT hZ (hw _ (List.mem_of_getElem? (i := 69) rfl))) (by decide) (backC (W := 0) (rm_or_ref l Z a0 hw [] a115 en3 T115.heap n0 Z116 O116 F115v) hZ (hw _ (List.mem_of_getElem? (i := 71) rfl)) (hw _ (List.mem_of_getElem? (i := 32) rfl)) (by decide) (by decide)) q118a q118c (g := (mkF m 116 #[.val (.int i0), .val (.int i1), .val (.int i2), .val (.int i3), .val (.int (i0 &&& (3 : Int32))), .val (.int c2), .val (.int c5), .val (.int c8), .val (.ref b83), .val (.ref b92), .unset, .unset] [.null, (.ref a115)])) rfl (by rw [hml]; rfl) (Steps.refl _) (argsL := [.null]) (rest := []) (lenOf pd_87 rfl) rfl (by show 2 * 0 + _ ≤ _; exact Nat.le_of_eq rfl) (hb hby at_116) (fun _ _ => ⟨rfl, rfl, (by decide : 5 + 0 ≤ _), (by decide : 13 + 0 ≤ _)⟩)
              dsimp only [Pt.U, Pt.locs, Pt.cells, Pt.slots] at X118 l118 y118 z118 st118 hQ118
              subst l118 y118 z118
              obtain ⟨rfl, N118q, K118q⟩ := hQ118
              have N118 := Fr.app N115 N118q
              have r119 : CHr Z own_EL s.vm T115.heap s.vm T118.heap := CHr.keep K118q sf0 R116.1
              have R119 : CHr Z own_EL s.vm h0 s.vm T118.heap := R116.trans r119
              have Z119 : n0 ≤ T118.heap.size := Nat.le_trans Z116 K118q.1
              have O119 : Old Z n0 T118.heap := O116.keep K118q all0
              have K119 : Keep h0 T118.heap [] := K116.trans K118q all0
              refine gsW (fun _ k => st118.trans k) ?_
              show OwnGoW p e below s Z own_EL _ _ _ (T118.setTop (mkF m 119 #[.val (.int i0), .val (.int i1), .val (.int i2), .val (.int i3), .val (.int (i0 &&& (3 : Int32))), .val (.int c2), .val (.int c5), .val (.int c8), .val (.ref b83), .val (.ref b92), .unset, .unset] [(.ref en3)]))
              have f120 := (((((((((((E_e3.ext O0.2).keep K2q).keep K5q).keep K8q).ext E83).wr W86).wr W89).ext E92).keep K97q).keep K115q).keep K118q)
              obtain ⟨T121, X121, e121, st121⟩ := castY X118 hx hZ hown (hw _ (List.mem_of_getElem? (i := 98) rfl)) rfl (Ins.self f120) (g := (mkF m 119 #[.val (.int i0), .val (.int i1), .val (.int i2), .val (.int i3), .val (.int (i0 &&& (3 : Int32))), .val (.int c2), .val (.int c5), .val (.int c8), .val (.ref b83), .val (.ref b92), .unset, .unset] [(.ref en3)])) rfl rfl (hb hby at_119)
              refine gsW st121 ?_
              show OwnGoW p e below s Z own_EL _ _ _ (T121.setTop (mkF m 122 #[.val (.int i0), .val (.int i1), .val (.int i2), .val (.int i3), .val (.int (i0 &&& (3 : Int32))), .val (.int c2), .val (.int c5), .val (.int c8), .val (.ref b83), .val (.ref b92), .unset, .unset] [(.ref en3)]))
              have c122 : ∀ tg, Steps p.tables e below (T121.setTop (mkF m 198 #[.val (.int i0), .val (.int i1), .val (.int i2), .val (.int i3), .val (.int (i0 &&& (3 : Int32))), .val (.int c2), .val (.int c5), .val (.int c8), .val (.ref b83), .val (.ref b92), .val (.ref en3), .val .null] [])) tg → Steps p.tables e below (T121.setTop (mkF m 122 #[.val (.int i0), .val (.int i1), .val (.int i2), .val (.int i3), .val (.int (i0 &&& (3 : Int32))), .val (.int c2), .val (.int c5), .val (.int c8), .val (.ref b83), .val (.ref b92), .unset, .unset] [(.ref en3)])) tg := fun tg kg => by
                refine XS.astore X121.here hx rfl (hb hby at_122) rfl rfl (l' := #[.val (.int i0), .val (.int i1), .val (.int i2), .val (.int i3), .val (.int (i0 &&& (3 : Int32))), .val (.int c2), .val (.int c5), .val (.int c8), .val (.ref b83), .val (.ref b92), .val (.ref en3), .unset]) rfl ?_
                show Steps p.tables e below (T121.setTop (mkF m 124 #[.val (.int i0), .val (.int i1), .val (.int i2), .val (.int i3), .val (.int (i0 &&& (3 : Int32))), .val (.int c2), .val (.int c5), .val (.int c8), .val (.ref b83), .val (.ref b92), .val (.ref en3), .unset] [])) tg
                refine XS.aconstNull X121.here hx rfl (hb hby at_124) ?_
                show Steps p.tables e below (T121.setTop (mkF m 125 #[.val (.int i0), .val (.int i1), .val (.int i2), .val (.int i3), .val (.int (i0 &&& (3 : Int32))), .val (.int c2), .val (.int c5), .val (.int c8), .val (.ref b83), .val (.ref b92), .val (.ref en3), .unset] [.null])) tg
                refine XS.astore X121.here hx rfl (hb hby at_125) rfl rfl (l' := #[.val (.int i0), .val (.int i1), .val (.int i2), .val (.int i3), .val (.int (i0 &&& (3 : Int32))), .val (.int c2), .val (.int c5), .val (.int c8), .val (.ref b83), .val (.ref b92), .val (.ref en3), .val .null]) rfl ?_
                show Steps p.tables e below (T121.setTop (mkF m 127 #[.val (.int i0), .val (.int i1), .val (.int i2), .val (.int i3), .val (.int (i0 &&& (3 : Int32))), .val (.int c2), .val (.int c5), .val (.int c8), .val (.ref b83), .val (.ref b92), .val (.ref en3), .val .null] [])) tg
                refine XS.iload X121.here hx rfl (hb hby at_127) rfl ?_
                show Steps p.tables e below (T121.setTop (mkF m 129 #[.val (.int i0), .val (.int i1), .val (.int i2), .val (.int i3), .val (.int (i0 &&& (3 : Int32))), .val (.int c2), .val (.int c5), .val (.int c8), .val (.ref b83), .val (.ref b92), .val (.ref en3), .val .null] [(.int (i0 &&& (3 : Int32)))])) tg
                refine XS.iconst X121.here hx rfl (hb hby at_129) ?_
                show Steps p.tables e below (T121.setTop (mkF m 130 #[.val (.int i0), .val (.int i1), .val (.int i2), .val (.int i3), .val (.int (i0 &&& (3 : Int32))), .val (.int c2), .val (.int c5), .val (.int c8), .val (.ref b83), .val (.ref b92), .val (.ref en3), .val .null] [(.int (1 : Int32)), (.int (i0 &&& (3 : Int32)))])) tg
                refine XS.icmpYes X121.here hx rfl (pc0 := 130) (pc' := 163) rfl (hb hby at_130) rfl (feq hc32).2 (by decide) (by decide) ?_
                show Steps p.tables e below (T121.setTop (mkF m 163 #[.val (.int i0), .val (.int i1), .val (.int i2), .val (.int i3), .val (.int (i0 &&& (3 : Int32))), .val (.int c2), .val (.int c5), .val (.int c8), .val (.ref b83), .val (.ref b92), .val (.ref en3), .val .null] [])) tg
                refine XS.iload X121.here hx rfl (hb hby at_163) rfl ?_
                show Steps p.tables e below (T121.setTop (mkF m 165 #[.val (.int i0), .val (.int i1), .val (.int i2), .val (.int i3), .val (.int (i0 &&& (3 : Int32))), .val (.int c2), .val (.int c5), .val (.int c8), .val (.ref b83), .val (.ref b92), .val (.ref en3), .val .null] [(.int (i0 &&& (3 : Int32)))])) tg
                refine XS.iconst X121.here hx rfl (hb hby at_165) ?_
                show Steps p.tables e below (T121.setTop (mkF m 166 #[.val (.int i0), .val (.int i1), .val (.int i2), .val (.int i3), .val (.int (i0 &&& (3 : Int32))), .val (.int c2), .val (.int c5), .val (.int c8), .val (.ref b83), .val (.ref b92), .val (.ref en3), .val .null] [(.int (2 : Int32)), (.int (i0 &&& (3 : Int32)))])) tg
                refine XS.icmpNo X121.here hx rfl (hb hby at_166) rfl (teq hc81).2 ?_
                show Steps p.tables e below (T121.setTop (mkF m 169 #[.val (.int i0), .val (.int i1), .val (.int i2), .val (.int i3), .val (.int (i0 &&& (3 : Int32))), .val (.int c2), .val (.int c5), .val (.int c8), .val (.ref b83), .val (.ref b92), .val (.ref en3), .val .null] [])) tg
                refine XS.iload X121.here hx rfl (hb hby at_169) rfl ?_
                show Steps p.tables e below (T121.setTop (mkF m 171 #[.val (.int i0), .val (.int i1), .val (.int i2), .val (.int i3), .val (.int (i0 &&& (3 : Int32))), .val (.int c2), .val (.int c5), .val (.int c8), .val (.ref b83), .val (.ref b92), .val (.ref en3), .val .null] [(.int c5)])) tg
                refine XS.bipush X121.here hx rfl (hb hby at_171) ?_
                show Steps p.tables e below (T121.setTop (mkF m 173 #[.val (.int i0), .val (.int i1), .val (.int i2), .val (.int i3), .val (.int (i0 &&& (3 : Int32))), .val (.int c2), .val (.int c5), .val (.int c8), .val (.ref b83), .val (.ref b92), .val (.ref en3), .val .null] [(.int (61 : Int32)), (.int c5)])) tg
                refine XS.icmpNo X121.here hx rfl (hb hby at_173) rfl (teq hc102).2 ?_
                show Steps p.tables e below (T121.setTop (mkF m 176 #[.val (.int i0), .val (.int i1), .val (.int i2), .val (.int i3), .val (.int (i0 &&& (3 : Int32))), .val (.int c2), .val (.int c5), .val (.int c8), .val (.ref b83), .val (.ref b92), .val (.ref en3), .val .null] [])) tg
                refine XS.iload X121.here hx rfl (hb hby at_176) rfl ?_
                show Steps p.tables e below (T121.setTop (mkF m 178 #[.val (.int i0), .val (.int i1), .val (.int i2), .val (.int i3), .val (.int (i0 &&& (3 : Int32))), .val (.int c2), .val (.int c5), .val (.int c8), .val (.ref b83), .val (.ref b92), .val (.ref en3), .val .null] [(.int c2)])) tg
                refine XS.bipush X121.here hx rfl (hb hby at_178) ?_
                show Steps p.tables e below (T121.setTop (mkF m 180 #[.val (.int i0), .val (.int i1), .val (.int i2), .val (.int i3), .val (.int (i0 &&& (3 : Int32))), .val (.int c2), .val (.int c5), .val (.int c8), .val (.ref b83), .val (.ref b92), .val (.ref en3), .val .null] [(.int (60 : Int32)), (.int c2)])) tg
                refine XS.icmpYes X121.here hx rfl (pc0 := 180) (pc' := 191) rfl (hb hby at_180) rfl (feq hc103).2 (by decide) (by decide) ?_
                show Steps p.tables e below (T121.setTop (mkF m 191 #[.val (.int i0), .val (.int i1), .val (.int i2), .val (.int i3), .val (.int (i0 &&& (3 : Int32))), .val (.int c2), .val (.int c5), .val (.int c8), .val (.ref b83), .val (.ref b92), .val (.ref en3), .val .null] [])) tg
                refine XS.iload X121.here hx rfl (hb hby at_191) rfl ?_
                show Steps p.tables e below (T121.setTop (mkF m 193 #[.val (.int i0), .val (.int i1), .val (.int i2), .val (.int i3), .val (.int (i0 &&& (3 : Int32))), .val (.int c2), .val (.int c5), .val (.int c8), .val (.ref b83), .val (.ref b92), .val (.ref en3), .val .null] [(.int c2)])) tg
                refine XS.bipush X121.here hx rfl (hb hby at_193) ?_
                show Steps p.tables e below (T121.setTop (mkF m 195 #[.val (.int i0), .val (.int i1), .val (.int i2), .val (.int i3), .val (.int (i0 &&& (3 : Int32))), .val (.int c2), .val (.int c5), .val (.int c8), .val (.ref b83), .val (.ref b92), .val (.ref en3), .val .null] [(.int (62 : Int32)), (.int c2)])) tg
                refine XS.icmpNo X121.here hx rfl (hb hby at_195) rfl (teq hc114).2 ?_
                show Steps p.tables e below (T121.setTop (mkF m 198 #[.val (.int i0), .val (.int i1), .val (.int i2), .val (.int i3), .val (.int (i0 &&& (3 : Int32))), .val (.int c2), .val (.int c5), .val (.int c8), .val (.ref b83), .val (.ref b92), .val (.ref en3), .val .null] [])) tg
                exact kg
              refine gsW c122 ?_
              obtain ⟨T123, X123, e123, st123⟩ := getS2 X121 hx hZ hown (host := "") (Or.inl (hw _ (List.mem_of_getElem? (i := 103) rfl))) Via.refl e121 (S_e3.ext O119.2) (g := (mkF m 198 #[.val (.int i0), .val (.int i1), .val (.int i2), .val (.int i3), .val (.int (i0 &&& (3 : Int32))), .val (.int c2), .val (.int c5), .val (.int c8), .val (.ref b83), .val (.ref b92), .val (.ref en3), .val .null] [])) rfl (hb hby at_198)
              refine gsW st123 ?_
              show OwnGoW p e below s Z own_EL _ _ _ (T123.setTop (mkF m 201 #[.val (.int i0), .val (.int i1), .val (.int i2), .val (.int i3), .val (.int (i0 &&& (3 : Int32))), .val (.int c2), .val (.int c5), .val (.int c8), .val (.ref b83), .val (.ref b92), .val (.ref en3), .val .null] [(.ref en3)]))
              have c124 : ∀ tg, Steps p.tables e below (T123.setTop (mkF m 215 #[.val (.int i0), .val (.int i1), .val (.int i2), .val (.int i3), .val (.int (i0 &&& (3 : Int32))), .val (.int c2), .val (.int c5), .val (.int c8), .val (.ref b83), .val (.ref b92), .val (.ref en3), .val (.ref en3)] [(.int (1 : Int32))])) tg → Steps p.tables e below (T123.setTop (mkF m 201 #[.val (.int i0), .val (.int i1), .val (.int i2), .val (.int i3), .val (.int (i0 &&& (3 : Int32))), .val (.int c2), .val (.int c5), .val (.int c8), .val (.ref b83), .val (.ref b92), .val (.ref en3), .val .null] [(.ref en3)])) tg := fun tg kg => by
                refine XS.astore X123.here hx rfl (hb hby at_201) rfl rfl (l' := #[.val (.int i0), .val (.int i1), .val (.int i2), .val (.int i3), .val (.int (i0 &&& (3 : Int32))), .val (.int c2), .val (.int c5), .val (.int c8), .val (.ref b83), .val (.ref b92), .val (.ref en3), .val (.ref en3)]) rfl ?_
                show Steps p.tables e below (T123.setTop (mkF m 203 #[.val (.int i0), .val (.int i1), .val (.int i2), .val (.int i3), .val (.int (i0 &&& (3 : Int32))), .val (.int c2), .val (.int c5), .val (.int c8), .val (.ref b83), .val (.ref b92), .val (.ref en3), .val (.ref en3)] [])) tg
                refine XS.aload X123.here hx rfl (hb hby at_203) rfl rfl ?_
                show Steps p.tables e below (T123.setTop (mkF m 205 #[.val (.int i0), .val (.int i1), .val (.int i2), .val (.int i3), .val (.int (i0 &&& (3 : Int32))), .val (.int c2), .val (.int c5), .val (.int c8), .val (.ref b83), .val (.ref b92), .val (.ref en3), .val (.ref en3)] [(.ref en3)])) tg
                refine XS.aload X123.here hx rfl (hb hby at_205) rfl rfl ?_
                show Steps p.tables e below (T123.setTop (mkF m 207 #[.val (.int i0), .val (.int i1), .val (.int i2), .val (.int i3), .val (.int (i0 &&& (3 : Int32))), .val (.int c2), .val (.int c5), .val (.int c8), .val (.ref b83), .val (.ref b92), .val (.ref en3), .val (.ref en3)] [(.ref en3), (.ref en3)])) tg
                refine Jvm.RoadKit.acmp (g := (mkF m 207 #[.val (.int i0), .val (.int i1), .val (.int i2), .val (.int i3), .val (.int (i0 &&& (3 : Int32))), .val (.int c2), .val (.int c5), .val (.int c8), .val (.ref b83), .val (.ref b92), .val (.ref en3), .val (.ref en3)] [(.ref en3), (.ref en3)])) X123 hx rfl rfl rfl (pc0 := 207) (pc' := 210) (same := true) rfl (hb hby at_207) rfl (decide_eq_true rfl) (by decide) (by decide) ?_
                show Steps p.tables e below (T123.setTop (mkF m 210 #[.val (.int i0), .val (.int i1), .val (.int i2), .val (.int i3), .val (.int (i0 &&& (3 : Int32))), .val (.int c2), .val (.int c5), .val (.int c8), .val (.ref b83), .val (.ref b92), .val (.ref en3), .val (.ref en3)] [])) tg
                refine XS.iconst X123.here hx rfl (hb hby at_210) ?_
                show Steps p.tables e below (T123.setTop (mkF m 211 #[.val (.int i0), .val (.int i1), .val (.int i2), .val (.int i3), .val (.int (i0 &&& (3 : Int32))), .val (.int c2), .val (.int c5), .val (.int c8), .val (.ref b83), .val (.ref b92), .val (.ref en3), .val (.ref en3)] [(.int (1 : Int32))])) tg
                refine XS.goto X123.here hx rfl (pc0 := 211) (pc' := 215) rfl (hb hby at_211) (by decide) (by decide) ?_
                show Steps p.tables e below (T123.setTop (mkF m 215 #[.val (.int i0), .val (.int i1), .val (.int i2), .val (.int i3), .val (.int (i0 &&& (3 : Int32))), .val (.int c2), .val (.int c5), .val (.int c8), .val (.ref b83), .val (.ref b92), .val (.ref en3), .val (.ref en3)] [(.int (1 : Int32))])) tg
                exact kg
              refine gsW c124 ?_
              refine goutW (v := some (.int (1 : Int32))) X123 hS (Nat.le_trans hk (Nat.le_trans (Nat.le_trans (Nat.le_trans (Nat.le_trans (Nat.le_trans (Nat.le_trans (Nat.le_trans (Nat.le_trans (Nat.le_trans K2q.1 K5q.1) K8q.1) E83.1) (Keep.of_wr W86).1) (Keep.of_wr W89).1) E92.1) K97q.1) K115q.1) K118q.1)) hZ (own_EW hw) hh e123 R119 Bd.notSynchronized (fun h => by rw [Bd.returns] at h; cases h) (by decide) (by decide) ?_ (fun fs hr => retN X123 hx (t := .boolean) Bd.returns (by simp) (hb hby at_215) hr)
              exact ⟨rfl, N118⟩
            · obtain ⟨_, _, ⟨T125, L125, k125, n125⟩, -, X125, ⟨Lc125, hQ125, l125, y125, z125⟩, st125⟩ := Jvm.LawKit.callS X97 hx (y := (⟨"com/example/tranche/tranche/terms/Comparison", "written", "(Ljava/lang/String;)Ljava/util/Optional;"⟩ : MethodName)) hown (mvT hZ (hw _ (List.mem_of_getElem? (i := 26) rfl))) (mvT hZ (hw _ (List.mem_of_getElem? (i := 27) rfl))) (mvT hZ (hw _ (List.mem_of_getElem? (i := 28) rfl))) (mvT hZ (hw _ (List.mem_of_getElem? (i := 29) rfl))) (by decide) (backC (W := 0) (rm_wr4 l Z a0 hw [] b92 ([c2, c5] : List Int32) z oe va kv en0 en1 en2 en3 sn0 sn1 sn2 sn3 T97.heap n0 Z98 O98 S0 hz T100 hb101 (by simp) S_oe S_va V_va E_va F_e0 F_e1 F_e2 F_e3 T_s0 T_s1 T_s2 T_s3 (by intro hq; simp_all) (by intro hq; simp_all) (by intro hq; simp_all) (by intro hq; simp_all)) hZ (hw _ (List.mem_of_getElem? (i := 29) rfl)) (hw _ (List.mem_of_getElem? (i := 28) rfl)) (by decide) (by decide)) (g := (mkF m 112 #[.val (.int i0), .val (.int i1), .val (.int i2), .val (.int i3), .val (.int (i0 &&& (3 : Int32))), .val (.int c2), .val (.int c5), .val (.int c8), .val (.ref b83), .val (.ref b92), .unset, .unset] [(.ref b92)])) rfl (by rw [hml]; rfl) (argsL := [(.ref b92)]) (rest := []) (lenOf pd_141 rfl) rfl (by show 2 * 0 + _ ≤ _; exact Nat.le_of_eq rfl) (hb hby at_112) (fun _ _ => ⟨rfl, rfl, (by decide : 3 + 2 ≤ _), (by decide : 8 + 5 ≤ _)⟩)
              dsimp only [Pt.U, Pt.locs, Pt.cells, Pt.slots] at X125 l125 y125 z125 st125 hQ125
              subst l125 y125 z125
              obtain ⟨rfl, N125q, K125q⟩ := hQ125
              have N125 := Fr.app N97 N125q
              have r126 : CHr Z own_EL s.vm T97.heap s.vm T125.heap := CHr.keep K125q sf0 R98.1
              have R126 : CHr Z own_EL s.vm h0 s.vm T125.heap := R98.trans r126
              have Z126 : n0 ≤ T125.heap.size := Nat.le_trans Z98 K125q.1
              have O126 : Old Z n0 T125.heap := O98.keep K125q all0
              have K126 : Keep h0 T125.heap [] := K98.trans K125q all0
              refine gsW st125 ?_
              show OwnGoW p e below s Z own_EL _ _ _ (T125.setTop (mkF m 115 #[.val (.int i0), .val (.int i1), .val (.int i2), .val (.int i3), .val (.int (i0 &&& (3 : Int32))), .val (.int c2), .val (.int c5), .val (.int c8), .val (.ref b83), .val (.ref b92), .unset, .unset] [(.ref oe)]))
              have c127 : ∀ tg, Steps p.tables e below (T125.setTop (mkF m 116 #[.val (.int i0), .val (.int i1), .val (.int i2), .val (.int i3), .val (.int (i0 &&& (3 : Int32))), .val (.int c2), .val (.int c5), .val (.int c8), .val (.ref b83), .val (.ref b92), .unset, .unset] [.null, (.ref oe)])) tg → Steps p.tables e below (T125.setTop (mkF m 115 #[.val (.int i0), .val (.int i1), .val (.int i2), .val (.int i3), .val (.int (i0 &&& (3 : Int32))), .val (.int c2), .val (.int c5), .val (.int c8), .val (.ref b83), .val (.ref b92), .unset, .unset] [(.ref oe)])) tg := fun tg kg => by
                refine XS.aconstNull X125.here hx rfl (hb hby at_115) ?_
                show Steps p.tables e below (T125.setTop (mkF m 116 #[.val (.int i0), .val (.int i1), .val (.int i2), .val (.int i3), .val (.int (i0 &&& (3 : Int32))), .val (.int c2), .val (.int c5), .val (.int c8), .val (.ref b83), .val (.ref b92), .unset, .unset] [.null, (.ref oe)])) tg
                exact kg
              refine gsW c127 ?_
              have f128 := ((((((((((F_oe.ext O0.2).keep K2q nin0).keep K5q nin0).keep K8q nin0).ext E83).other W86 (Or.inl (Nat.ne_of_lt (Nat.lt_of_lt_of_le (Nat.lt_of_lt_of_le (E_oe.ext O0.2).lt (Nat.le_trans (Nat.le_trans K2q.1 K5q.1) K8q.1)) (Nat.le_of_eq q83.symm))))).other W89 (Or.inl (Nat.ne_of_lt (Nat.lt_of_lt_of_le (Nat.lt_of_lt_of_le (E_oe.ext O0.2).lt (Nat.le_trans (Nat.le_trans K2q.1 K5q.1) K8q.1)) (Nat.le_of_eq q83.symm))))).ext E92).keep K97q (ninS (Nat.ne_of_lt (Nat.lt_of_lt_of_le (Nat.lt_of_lt_of_le (E_oe.ext O0.2).lt (Nat.le_trans (Nat.le_trans (Nat.le_trans (Nat.le_trans (Nat.le_trans K2q.1 K5q.1) K8q.1) E83.1) (Keep.of_wr W86).1) (Keep.of_wr W89).1)) (Nat.le_of_eq q92.symm))) nin0)).keep K125q nin0)
              have f130 := ((((((((((E_oe.ext O0.2).keep K2q).keep K5q).keep K8q).ext E83).wr W86).wr W89).ext E92).keep K97q).keep K125q)
              obtain ⟨cq129, kq129, q129a, q129b, q129c⟩ := isOf hZ rfl f130
              obtain ⟨_, _, ⟨T129, L129, k129, n129⟩, -, X129, ⟨Lc129, hQ129, l129, y129, z129⟩, st129⟩ := X125.virtualBack hx (y := (⟨"java/util/Optional", "orElse", "(Ljava/lang/Object;)Ljava/lang/Object;"⟩ : MethodName)) (z := (⟨"java/util/Optional", "orElse", "(Ljava/lang/Object;)Ljava/lang/Object;"⟩ : MethodName)) hown (mvT hZ (hw _ (List.mem_of_getElem? (i := 67) rfl))) (mvT hZ (hw _ (List.mem_of_getElem? (i := 68) rfl))) (notFace_of_selects (args := #[]) (mvT hZ (hw _ (List.mem_of_getElem? (i := 70) rfl)))) (mvT hZ (hw _ (List.mem_of_getElem? (i := 70) rfl))) (mvT hZ (hw _ (List.mem_of_getElem? (i := 69) rfl))) (by decide) (backC (W := 0) (rm_or_null l Z a0 hw [] oe T125.heap n0 Z126 O126 f128) hZ (hw _ (List.mem_of_getElem? (i := 71) rfl)) (hw _ (List.mem_of_getElem? (i := 32) rfl)) (by decide) (by decide)) q129a q129c (g := (mkF m 116 #[.val (.int i0), .val (.int i1), .val (.int i2), .val (.int i3), .val (.int (i0 &&& (3 : Int32))), .val (.int c2), .val (.int c5), .val (.int c8), .val (.ref b83), .val (.ref b92), .unset, .unset] [.null, (.ref oe)])) rfl (by rw [hml]; rfl) (Steps.refl _) (argsL := [.null]) (rest := []) (lenOf pd_87 rfl) rfl (by show 2 * 0 + _ ≤ _; exact Nat.le_of_eq rfl) (hb hby at_116) (fun _ _ => ⟨rfl, rfl, (by decide : 5 + 0 ≤ _), (by decide : 13 + 0 ≤ _)⟩)
              dsimp only [Pt.U, Pt.locs, Pt.cells, Pt.slots] at X129 l129 y129 z129 st129 hQ129
              subst l129 y129 z129
              obtain ⟨rfl, N129q, K129q⟩ := hQ129
              have N129 := Fr.app N125 N129q
              have r131 : CHr Z own_EL s.vm T125.heap s.vm T129.heap := CHr.keep K129q sf0 R126.1
              have R131 : CHr Z own_EL s.vm h0 s.vm T129.heap := R126.trans r131
              have Z131 : n0 ≤ T129.heap.size := Nat.le_trans Z126 K129q.1
              have O131 : Old Z n0 T129.heap := O126.keep K129q all0
              have K131 : Keep h0 T129.heap [] := K126.trans K129q all0
              refine gsW (fun _ k => st129.trans k) ?_
              show OwnGoW p e below s Z own_EL _ _ _ (T129.setTop (mkF m 119 #[.val (.int i0), .val (.int i1), .val (.int i2), .val (.int i3), .val (.int (i0 &&& (3 : Int32))), .val (.int c2), .val (.int c5), .val (.int c8), .val (.ref b83), .val (.ref b92), .unset, .unset] [.null]))
              have c132 : ∀ tg, Steps p.tables e below (T129.setTop (mkF m 215 #[.val (.int i0), .val (.int i1), .val (.int i2), .val (.int i3), .val (.int (i0 &&& (3 : Int32))), .val (.int c2), .val (.int c5), .val (.int c8), .val (.ref b83), .val (.ref b92), .val .null, .val .null] [(.int (1 : Int32))])) tg → Steps p.tables e below (T129.setTop (mkF m 119 #[.val (.int i0), .val (.int i1), .val (.int i2), .val (.int i3), .val (.int (i0 &&& (3 : Int32))), .val (.int c2), .val (.int c5), .val (.int c8), .val (.ref b83), .val (.ref b92), .unset, .unset] [.null])) tg := fun tg kg => by
                refine X129.checkcastNull hx (g := (mkF m 119 #[.val (.int i0), .val (.int i1), .val (.int i2), .val (.int i3), .val (.int (i0 &&& (3 : Int32))), .val (.int c2), .val (.int c5), .val (.int c8), .val (.ref b83), .val (.ref b92), .unset, .unset] [.null])) rfl rfl (hb hby at_119) _ ?_
                show Steps p.tables e below (T129.setTop (mkF m 122 #[.val (.int i0), .val (.int i1), .val (.int i2), .val (.int i3), .val (.int (i0 &&& (3 : Int32))), .val (.int c2), .val (.int c5), .val (.int c8), .val (.ref b83), .val (.ref b92), .unset, .unset] [.null])) tg
                refine XS.astore X129.here hx rfl (hb hby at_122) rfl rfl (l' := #[.val (.int i0), .val (.int i1), .val (.int i2), .val (.int i3), .val (.int (i0 &&& (3 : Int32))), .val (.int c2), .val (.int c5), .val (.int c8), .val (.ref b83), .val (.ref b92), .val .null, .unset]) rfl ?_
                show Steps p.tables e below (T129.setTop (mkF m 124 #[.val (.int i0), .val (.int i1), .val (.int i2), .val (.int i3), .val (.int (i0 &&& (3 : Int32))), .val (.int c2), .val (.int c5), .val (.int c8), .val (.ref b83), .val (.ref b92), .val .null, .unset] [])) tg
                refine XS.aconstNull X129.here hx rfl (hb hby at_124) ?_
                show Steps p.tables e below (T129.setTop (mkF m 125 #[.val (.int i0), .val (.int i1), .val (.int i2), .val (.int i3), .val (.int (i0 &&& (3 : Int32))), .val (.int c2), .val (.int c5), .val (.int c8), .val (.ref b83), .val (.ref b92), .val .null, .unset] [.null])) tg
                refine XS.astore X129.here hx rfl (hb hby at_125) rfl rfl (l' := #[.val (.int i0), .val (.int i1), .val (.int i2), .val (.int i3), .val (.int (i0 &&& (3 : Int32))), .val (.int c2), .val (.int c5), .val (.int c8), .val (.ref b83), .val (.ref b92), .val .null, .val .null]) rfl ?_
                show Steps p.tables e below (T129.setTop (mkF m 127 #[.val (.int i0), .val (.int i1), .val (.int i2), .val (.int i3), .val (.int (i0 &&& (3 : Int32))), .val (.int c2), .val (.int c5), .val (.int c8), .val (.ref b83), .val (.ref b92), .val .null, .val .null] [])) tg
                refine XS.iload X129.here hx rfl (hb hby at_127) rfl ?_
                show Steps p.tables e below (T129.setTop (mkF m 129 #[.val (.int i0), .val (.int i1), .val (.int i2), .val (.int i3), .val (.int (i0 &&& (3 : Int32))), .val (.int c2), .val (.int c5), .val (.int c8), .val (.ref b83), .val (.ref b92), .val .null, .val .null] [(.int (i0 &&& (3 : Int32)))])) tg
                refine XS.iconst X129.here hx rfl (hb hby at_129) ?_
                show Steps p.tables e below (T129.setTop (mkF m 130 #[.val (.int i0), .val (.int i1), .val (.int i2), .val (.int i3), .val (.int (i0 &&& (3 : Int32))), .val (.int c2), .val (.int c5), .val (.int c8), .val (.ref b83), .val (.ref b92), .val .null, .val .null] [(.int (1 : Int32)), (.int (i0 &&& (3 : Int32)))])) tg
                refine XS.icmpYes X129.here hx rfl (pc0 := 130) (pc' := 163) rfl (hb hby at_130) rfl (feq hc32).2 (by decide) (by decide) ?_
                show Steps p.tables e below (T129.setTop (mkF m 163 #[.val (.int i0), .val (.int i1), .val (.int i2), .val (.int i3), .val (.int (i0 &&& (3 : Int32))), .val (.int c2), .val (.int c5), .val (.int c8), .val (.ref b83), .val (.ref b92), .val .null, .val .null] [])) tg
                refine XS.iload X129.here hx rfl (hb hby at_163) rfl ?_
                show Steps p.tables e below (T129.setTop (mkF m 165 #[.val (.int i0), .val (.int i1), .val (.int i2), .val (.int i3), .val (.int (i0 &&& (3 : Int32))), .val (.int c2), .val (.int c5), .val (.int c8), .val (.ref b83), .val (.ref b92), .val .null, .val .null] [(.int (i0 &&& (3 : Int32)))])) tg
                refine XS.iconst X129.here hx rfl (hb hby at_165) ?_
                show Steps p.tables e below (T129.setTop (mkF m 166 #[.val (.int i0), .val (.int i1), .val (.int i2), .val (.int i3), .val (.int (i0 &&& (3 : Int32))), .val (.int c2), .val (.int c5), .val (.int c8), .val (.ref b83), .val (.ref b92), .val .null, .val .null] [(.int (2 : Int32)), (.int (i0 &&& (3 : Int32)))])) tg
                refine XS.icmpNo X129.here hx rfl (hb hby at_166) rfl (teq hc81).2 ?_
                show Steps p.tables e below (T129.setTop (mkF m 169 #[.val (.int i0), .val (.int i1), .val (.int i2), .val (.int i3), .val (.int (i0 &&& (3 : Int32))), .val (.int c2), .val (.int c5), .val (.int c8), .val (.ref b83), .val (.ref b92), .val .null, .val .null] [])) tg
                refine XS.iload X129.here hx rfl (hb hby at_169) rfl ?_
                show Steps p.tables e below (T129.setTop (mkF m 171 #[.val (.int i0), .val (.int i1), .val (.int i2), .val (.int i3), .val (.int (i0 &&& (3 : Int32))), .val (.int c2), .val (.int c5), .val (.int c8), .val (.ref b83), .val (.ref b92), .val .null, .val .null] [(.int c5)])) tg
                refine XS.bipush X129.here hx rfl (hb hby at_171) ?_
                show Steps p.tables e below (T129.setTop (mkF m 173 #[.val (.int i0), .val (.int i1), .val (.int i2), .val (.int i3), .val (.int (i0 &&& (3 : Int32))), .val (.int c2), .val (.int c5), .val (.int c8), .val (.ref b83), .val (.ref b92), .val .null, .val .null] [(.int (61 : Int32)), (.int c5)])) tg
                refine XS.icmpNo X129.here hx rfl (hb hby at_173) rfl (teq hc102).2 ?_
                show Steps p.tables e below (T129.setTop (mkF m 176 #[.val (.int i0), .val (.int i1), .val (.int i2), .val (.int i3), .val (.int (i0 &&& (3 : Int32))), .val (.int c2), .val (.int c5), .val (.int c8), .val (.ref b83), .val (.ref b92), .val .null, .val .null] [])) tg
                refine XS.iload X129.here hx rfl (hb hby at_176) rfl ?_
                show Steps p.tables e below (T129.setTop (mkF m 178 #[.val (.int i0), .val (.int i1), .val (.int i2), .val (.int i3), .val (.int (i0 &&& (3 : Int32))), .val (.int c2), .val (.int c5), .val (.int c8), .val (.ref b83), .val (.ref b92), .val .null, .val .null] [(.int c2)])) tg
                refine XS.bipush X129.here hx rfl (hb hby at_178) ?_
                show Steps p.tables e below (T129.setTop (mkF m 180 #[.val (.int i0), .val (.int i1), .val (.int i2), .val (.int i3), .val (.int (i0 &&& (3 : Int32))), .val (.int c2), .val (.int c5), .val (.int c8), .val (.ref b83), .val (.ref b92), .val .null, .val .null] [(.int (60 : Int32)), (.int c2)])) tg
                refine XS.icmpYes X129.here hx rfl (pc0 := 180) (pc' := 191) rfl (hb hby at_180) rfl (feq hc103).2 (by decide) (by decide) ?_
                show Steps p.tables e below (T129.setTop (mkF m 191 #[.val (.int i0), .val (.int i1), .val (.int i2), .val (.int i3), .val (.int (i0 &&& (3 : Int32))), .val (.int c2), .val (.int c5), .val (.int c8), .val (.ref b83), .val (.ref b92), .val .null, .val .null] [])) tg
                refine XS.iload X129.here hx rfl (hb hby at_191) rfl ?_
                show Steps p.tables e below (T129.setTop (mkF m 193 #[.val (.int i0), .val (.int i1), .val (.int i2), .val (.int i3), .val (.int (i0 &&& (3 : Int32))), .val (.int c2), .val (.int c5), .val (.int c8), .val (.ref b83), .val (.ref b92), .val .null, .val .null] [(.int c2)])) tg
                refine XS.bipush X129.here hx rfl (hb hby at_193) ?_
                show Steps p.tables e below (T129.setTop (mkF m 195 #[.val (.int i0), .val (.int i1), .val (.int i2), .val (.int i3), .val (.int (i0 &&& (3 : Int32))), .val (.int c2), .val (.int c5), .val (.int c8), .val (.ref b83), .val (.ref b92), .val .null, .val .null] [(.int (62 : Int32)), (.int c2)])) tg
                refine XS.icmpYes X129.here hx rfl (pc0 := 195) (pc' := 203) rfl (hb hby at_195) rfl (feq hc114).2 (by decide) (by decide) ?_
                show Steps p.tables e below (T129.setTop (mkF m 203 #[.val (.int i0), .val (.int i1), .val (.int i2), .val (.int i3), .val (.int (i0 &&& (3 : Int32))), .val (.int c2), .val (.int c5), .val (.int c8), .val (.ref b83), .val (.ref b92), .val .null, .val .null] [])) tg
                refine XS.aload X129.here hx rfl (hb hby at_203) rfl rfl ?_
                show Steps p.tables e below (T129.setTop (mkF m 205 #[.val (.int i0), .val (.int i1), .val (.int i2), .val (.int i3), .val (.int (i0 &&& (3 : Int32))), .val (.int c2), .val (.int c5), .val (.int c8), .val (.ref b83), .val (.ref b92), .val .null, .val .null] [.null])) tg
                refine XS.aload X129.here hx rfl (hb hby at_205) rfl rfl ?_
                show Steps p.tables e below (T129.setTop (mkF m 207 #[.val (.int i0), .val (.int i1), .val (.int i2), .val (.int i3), .val (.int (i0 &&& (3 : Int32))), .val (.int c2), .val (.int c5), .val (.int c8), .val (.ref b83), .val (.ref b92), .val .null, .val .null] [.null, .null])) tg
                refine Jvm.RoadKit.acmp (g := (mkF m 207 #[.val (.int i0), .val (.int i1), .val (.int i2), .val (.int i3), .val (.int (i0 &&& (3 : Int32))), .val (.int c2), .val (.int c5), .val (.int c8), .val (.ref b83), .val (.ref b92), .val .null, .val .null] [.null, .null])) X129 hx rfl rfl rfl (pc0 := 207) (pc' := 210) (same := true) rfl (hb hby at_207) rfl (decide_eq_true rfl) (by decide) (by decide) ?_
                show Steps p.tables e below (T129.setTop (mkF m 210 #[.val (.int i0), .val (.int i1), .val (.int i2), .val (.int i3), .val (.int (i0 &&& (3 : Int32))), .val (.int c2), .val (.int c5), .val (.int c8), .val (.ref b83), .val (.ref b92), .val .null, .val .null] [])) tg
                refine XS.iconst X129.here hx rfl (hb hby at_210) ?_
                show Steps p.tables e below (T129.setTop (mkF m 211 #[.val (.int i0), .val (.int i1), .val (.int i2), .val (.int i3), .val (.int (i0 &&& (3 : Int32))), .val (.int c2), .val (.int c5), .val (.int c8), .val (.ref b83), .val (.ref b92), .val .null, .val .null] [(.int (1 : Int32))])) tg
                refine XS.goto X129.here hx rfl (pc0 := 211) (pc' := 215) rfl (hb hby at_211) (by decide) (by decide) ?_
                show Steps p.tables e below (T129.setTop (mkF m 215 #[.val (.int i0), .val (.int i1), .val (.int i2), .val (.int i3), .val (.int (i0 &&& (3 : Int32))), .val (.int c2), .val (.int c5), .val (.int c8), .val (.ref b83), .val (.ref b92), .val .null, .val .null] [(.int (1 : Int32))])) tg
                exact kg
              refine gsW c132 ?_
              refine goutW (v := some (.int (1 : Int32))) X129 hS (Nat.le_trans hk (Nat.le_trans (Nat.le_trans (Nat.le_trans (Nat.le_trans (Nat.le_trans (Nat.le_trans (Nat.le_trans (Nat.le_trans (Nat.le_trans K2q.1 K5q.1) K8q.1) E83.1) (Keep.of_wr W86).1) (Keep.of_wr W89).1) E92.1) K97q.1) K125q.1) K129q.1)) hZ (own_EW hw) hh rfl R131 Bd.notSynchronized (fun h => by rw [Bd.returns] at h; cases h) (by decide) (by decide) ?_ (fun fs hr => retN X129 hx (t := .boolean) Bd.returns (by simp) (hb hby at_215) hr)
              exact ⟨rfl, N129⟩
        · obtain ⟨_, _, ⟨T133, L133, k133, n133⟩, -, X133, ⟨Lc133, hQ133, l133, y133, z133⟩, st133⟩ := Jvm.LawKit.callS X97 hx (y := (⟨"com/example/tranche/tranche/terms/Comparison", "written", "(Ljava/lang/String;)Ljava/util/Optional;"⟩ : MethodName)) hown (mvT hZ (hw _ (List.mem_of_getElem? (i := 26) rfl))) (mvT hZ (hw _ (List.mem_of_getElem? (i := 27) rfl))) (mvT hZ (hw _ (List.mem_of_getElem? (i := 28) rfl))) (mvT hZ (hw _ (List.mem_of_getElem? (i := 29) rfl))) (by decide) (backC (W := 0) (rm_wr4 l Z a0 hw [] b92 ([c2, c5] : List Int32) z oe va kv en0 en1 en2 en3 sn0 sn1 sn2 sn3 T97.heap n0 Z98 O98 S0 hz T100 hb101 (by simp) S_oe S_va V_va E_va F_e0 F_e1 F_e2 F_e3 T_s0 T_s1 T_s2 T_s3 (by intro hq; simp_all) (by intro hq; simp_all) (by intro hq; simp_all) (by intro hq; simp_all)) hZ (hw _ (List.mem_of_getElem? (i := 29) rfl)) (hw _ (List.mem_of_getElem? (i := 28) rfl)) (by decide) (by decide)) (g := (mkF m 112 #[.val (.int i0), .val (.int i1), .val (.int i2), .val (.int i3), .val (.int (i0 &&& (3 : Int32))), .val (.int c2), .val (.int c5), .val (.int c8), .val (.ref b83), .val (.ref b92), .unset, .unset] [(.ref b92)])) rfl (by rw [hml]; rfl) (argsL := [(.ref b92)]) (rest := []) (lenOf pd_141 rfl) rfl (by show 2 * 0 + _ ≤ _; exact Nat.le_of_eq rfl) (hb hby at_112) (fun _ _ => ⟨rfl, rfl, (by decide : 3 + 2 ≤ _), (by decide : 8 + 5 ≤ _)⟩)
          dsimp only [Pt.U, Pt.locs, Pt.cells, Pt.slots] at X133 l133 y133 z133 st133 hQ133
          subst l133 y133 z133
          obtain ⟨rfl, N133q, K133q⟩ := hQ133
          have N133 := Fr.app N97 N133q
          have r134 : CHr Z own_EL s.vm T97.heap s.vm T133.heap := CHr.keep K133q sf0 R98.1
          have R134 : CHr Z own_EL s.vm h0 s.vm T133.heap := R98.trans r134
          have Z134 : n0 ≤ T133.heap.size := Nat.le_trans Z98 K133q.1
          have O134 : Old Z n0 T133.heap := O98.keep K133q all0
          have K134 : Keep h0 T133.heap [] := K98.trans K133q all0
          refine gsW st133 ?_
          show OwnGoW p e below s Z own_EL _ _ _ (T133.setTop (mkF m 115 #[.val (.int i0), .val (.int i1), .val (.int i2), .val (.int i3), .val (.int (i0 &&& (3 : Int32))), .val (.int c2), .val (.int c5), .val (.int c8), .val (.ref b83), .val (.ref b92), .unset, .unset] [(.ref oe)]))
          have c135 : ∀ tg, Steps p.tables e below (T133.setTop (mkF m 116 #[.val (.int i0), .val (.int i1), .val (.int i2), .val (.int i3), .val (.int (i0 &&& (3 : Int32))), .val (.int c2), .val (.int c5), .val (.int c8), .val (.ref b83), .val (.ref b92), .unset, .unset] [.null, (.ref oe)])) tg → Steps p.tables e below (T133.setTop (mkF m 115 #[.val (.int i0), .val (.int i1), .val (.int i2), .val (.int i3), .val (.int (i0 &&& (3 : Int32))), .val (.int c2), .val (.int c5), .val (.int c8), .val (.ref b83), .val (.ref b92), .unset, .unset] [(.ref oe)])) tg := fun tg kg => by
            refine XS.aconstNull X133.here hx rfl (hb hby at_115) ?_
            show Steps p.tables e below (T133.setTop (mkF m 116 #[.val (.int i0), .val (.int i1), .val (.int i2), .val (.int i3), .val (.int (i0 &&& (3 : Int32))), .val (.int c2), .val (.int c5), .val (.int c8), .val (.ref b83), .val (.ref b92), .unset, .unset] [.null, (.ref oe)])) tg
            exact kg
          refine gsW c135 ?_
          have f136 := ((((((((((F_oe.ext O0.2).keep K2q nin0).keep K5q nin0).keep K8q nin0).ext E83).other W86 (Or.inl (Nat.ne_of_lt (Nat.lt_of_lt_of_le (Nat.lt_of_lt_of_le (E_oe.ext O0.2).lt (Nat.le_trans (Nat.le_trans K2q.1 K5q.1) K8q.1)) (Nat.le_of_eq q83.symm))))).other W89 (Or.inl (Nat.ne_of_lt (Nat.lt_of_lt_of_le (Nat.lt_of_lt_of_le (E_oe.ext O0.2).lt (Nat.le_trans (Nat.le_trans K2q.1 K5q.1) K8q.1)) (Nat.le_of_eq q83.symm))))).ext E92).keep K97q (ninS (Nat.ne_of_lt (Nat.lt_of_lt_of_le (Nat.lt_of_lt_of_le (E_oe.ext O0.2).lt (Nat.le_trans (Nat.le_trans (Nat.le_trans (Nat.le_trans (Nat.le_trans K2q.1 K5q.1) K8q.1) E83.1) (Keep.of_wr W86).1) (Keep.of_wr W89).1)) (Nat.le_of_eq q92.symm))) nin0)).keep K133q nin0)
          have f138 := ((((((((((E_oe.ext O0.2).keep K2q).keep K5q).keep K8q).ext E83).wr W86).wr W89).ext E92).keep K97q).keep K133q)
          obtain ⟨cq137, kq137, q137a, q137b, q137c⟩ := isOf hZ rfl f138
          obtain ⟨_, _, ⟨T137, L137, k137, n137⟩, -, X137, ⟨Lc137, hQ137, l137, y137, z137⟩, st137⟩ := X133.virtualBack hx (y := (⟨"java/util/Optional", "orElse", "(Ljava/lang/Object;)Ljava/lang/Object;"⟩ : MethodName)) (z := (⟨"java/util/Optional", "orElse", "(Ljava/lang/Object;)Ljava/lang/Object;"⟩ : MethodName)) hown (mvT hZ (hw _ (List.mem_of_getElem? (i := 67) rfl))) (mvT hZ (hw _ (List.mem_of_getElem? (i := 68) rfl))) (notFace_of_selects (args := #[]) (mvT hZ (hw _ (List.mem_of_getElem? (i := 70) rfl)))) (mvT hZ (hw _ (List.mem_of_getElem? (i := 70) rfl))) (mvT hZ (hw _ (List.mem_of_getElem? (i := 69) rfl))) (by decide) (backC (W := 0) (rm_or_null l Z a0 hw [] oe T133.heap n0 Z134 O134 f136) hZ (hw _ (List.mem_of_getElem? (i := 71) rfl)) (hw _ (List.mem_of_getElem? (i := 32) rfl)) (by decide) (by decide)) q137a q137c (g := (mkF m 116 #[.val (.int i0), .val (.int i1), .val (.int i2), .val (.int i3), .val (.int (i0 &&& (3 : Int32))), .val (.int c2), .val (.int c5), .val (.int c8), .val (.ref b83), .val (.ref b92), .unset, .unset] [.null, (.ref oe)])) rfl (by rw [hml]; rfl) (Steps.refl _) (argsL := [.null]) (rest := []) (lenOf pd_87 rfl) rfl (by show 2 * 0 + _ ≤ _; exact Nat.le_of_eq rfl) (hb hby at_116) (fun _ _ => ⟨rfl, rfl, (by decide : 5 + 0 ≤ _), (by decide : 13 + 0 ≤ _)⟩)
          dsimp only [Pt.U, Pt.locs, Pt.cells, Pt.slots] at X137 l137 y137 z137 st137 hQ137
          subst l137 y137 z137
          obtain ⟨rfl, N137q, K137q⟩ := hQ137
          have N137 := Fr.app N133 N137q
          have r139 : CHr Z own_EL s.vm T133.heap s.vm T137.heap := CHr.keep K137q sf0 R134.1
          have R139 : CHr Z own_EL s.vm h0 s.vm T137.heap := R134.trans r139
          have Z139 : n0 ≤ T137.heap.size := Nat.le_trans Z134 K137q.1
          have O139 : Old Z n0 T137.heap := O134.keep K137q all0
          have K139 : Keep h0 T137.heap [] := K134.trans K137q all0
          refine gsW (fun _ k => st137.trans k) ?_
          show OwnGoW p e below s Z own_EL _ _ _ (T137.setTop (mkF m 119 #[.val (.int i0), .val (.int i1), .val (.int i2), .val (.int i3), .val (.int (i0 &&& (3 : Int32))), .val (.int c2), .val (.int c5), .val (.int c8), .val (.ref b83), .val (.ref b92), .unset, .unset] [.null]))
          have c140 : ∀ tg, Steps p.tables e below (T137.setTop (mkF m 215 #[.val (.int i0), .val (.int i1), .val (.int i2), .val (.int i3), .val (.int (i0 &&& (3 : Int32))), .val (.int c2), .val (.int c5), .val (.int c8), .val (.ref b83), .val (.ref b92), .val .null, .val .null] [(.int (1 : Int32))])) tg → Steps p.tables e below (T137.setTop (mkF m 119 #[.val (.int i0), .val (.int i1), .val (.int i2), .val (.int i3), .val (.int (i0 &&& (3 : Int32))), .val (.int c2), .val (.int c5), .val (.int c8), .val (.ref b83), .val (.ref b92), .unset, .unset] [.null])) tg := fun tg kg => by
            refine X137.checkcastNull hx (g := (mkF m 119 #[.val (.int i0), .val (.int i1), .val (.int i2), .val (.int i3), .val (.int (i0 &&& (3 : Int32))), .val (.int c2), .val (.int c5), .val (.int c8), .val (.ref b83), .val (.ref b92), .unset, .unset] [.null])) rfl rfl (hb hby at_119) _ ?_
            show Steps p.tables e below (T137.setTop (mkF m 122 #[.val (.int i0), .val (.int i1), .val (.int i2), .val (.int i3), .val (.int (i0 &&& (3 : Int32))), .val (.int c2), .val (.int c5), .val (.int c8), .val (.ref b83), .val (.ref b92), .unset, .unset] [.null])) tg
            refine XS.astore X137.here hx rfl (hb hby at_122) rfl rfl (l' := #[.val (.int i0), .val (.int i1), .val (.int i2), .val (.int i3), .val (.int (i0 &&& (3 : Int32))), .val (.int c2), .val (.int c5), .val (.int c8), .val (.ref b83), .val (.ref b92), .val .null, .unset]) rfl ?_
            show Steps p.tables e below (T137.setTop (mkF m 124 #[.val (.int i0), .val (.int i1), .val (.int i2), .val (.int i3), .val (.int (i0 &&& (3 : Int32))), .val (.int c2), .val (.int c5), .val (.int c8), .val (.ref b83), .val (.ref b92), .val .null, .unset] [])) tg
            refine XS.aconstNull X137.here hx rfl (hb hby at_124) ?_
            show Steps p.tables e below (T137.setTop (mkF m 125 #[.val (.int i0), .val (.int i1), .val (.int i2), .val (.int i3), .val (.int (i0 &&& (3 : Int32))), .val (.int c2), .val (.int c5), .val (.int c8), .val (.ref b83), .val (.ref b92), .val .null, .unset] [.null])) tg
            refine XS.astore X137.here hx rfl (hb hby at_125) rfl rfl (l' := #[.val (.int i0), .val (.int i1), .val (.int i2), .val (.int i3), .val (.int (i0 &&& (3 : Int32))), .val (.int c2), .val (.int c5), .val (.int c8), .val (.ref b83), .val (.ref b92), .val .null, .val .null]) rfl ?_
            show Steps p.tables e below (T137.setTop (mkF m 127 #[.val (.int i0), .val (.int i1), .val (.int i2), .val (.int i3), .val (.int (i0 &&& (3 : Int32))), .val (.int c2), .val (.int c5), .val (.int c8), .val (.ref b83), .val (.ref b92), .val .null, .val .null] [])) tg
            refine XS.iload X137.here hx rfl (hb hby at_127) rfl ?_
            show Steps p.tables e below (T137.setTop (mkF m 129 #[.val (.int i0), .val (.int i1), .val (.int i2), .val (.int i3), .val (.int (i0 &&& (3 : Int32))), .val (.int c2), .val (.int c5), .val (.int c8), .val (.ref b83), .val (.ref b92), .val .null, .val .null] [(.int (i0 &&& (3 : Int32)))])) tg
            refine XS.iconst X137.here hx rfl (hb hby at_129) ?_
            show Steps p.tables e below (T137.setTop (mkF m 130 #[.val (.int i0), .val (.int i1), .val (.int i2), .val (.int i3), .val (.int (i0 &&& (3 : Int32))), .val (.int c2), .val (.int c5), .val (.int c8), .val (.ref b83), .val (.ref b92), .val .null, .val .null] [(.int (1 : Int32)), (.int (i0 &&& (3 : Int32)))])) tg
            refine XS.icmpYes X137.here hx rfl (pc0 := 130) (pc' := 163) rfl (hb hby at_130) rfl (feq hc32).2 (by decide) (by decide) ?_
            show Steps p.tables e below (T137.setTop (mkF m 163 #[.val (.int i0), .val (.int i1), .val (.int i2), .val (.int i3), .val (.int (i0 &&& (3 : Int32))), .val (.int c2), .val (.int c5), .val (.int c8), .val (.ref b83), .val (.ref b92), .val .null, .val .null] [])) tg
            refine XS.iload X137.here hx rfl (hb hby at_163) rfl ?_
            show Steps p.tables e below (T137.setTop (mkF m 165 #[.val (.int i0), .val (.int i1), .val (.int i2), .val (.int i3), .val (.int (i0 &&& (3 : Int32))), .val (.int c2), .val (.int c5), .val (.int c8), .val (.ref b83), .val (.ref b92), .val .null, .val .null] [(.int (i0 &&& (3 : Int32)))])) tg
            refine XS.iconst X137.here hx rfl (hb hby at_165) ?_
            show Steps p.tables e below (T137.setTop (mkF m 166 #[.val (.int i0), .val (.int i1), .val (.int i2), .val (.int i3), .val (.int (i0 &&& (3 : Int32))), .val (.int c2), .val (.int c5), .val (.int c8), .val (.ref b83), .val (.ref b92), .val .null, .val .null] [(.int (2 : Int32)), (.int (i0 &&& (3 : Int32)))])) tg
            refine XS.icmpNo X137.here hx rfl (hb hby at_166) rfl (teq hc81).2 ?_
            show Steps p.tables e below (T137.setTop (mkF m 169 #[.val (.int i0), .val (.int i1), .val (.int i2), .val (.int i3), .val (.int (i0 &&& (3 : Int32))), .val (.int c2), .val (.int c5), .val (.int c8), .val (.ref b83), .val (.ref b92), .val .null, .val .null] [])) tg
            refine XS.iload X137.here hx rfl (hb hby at_169) rfl ?_
            show Steps p.tables e below (T137.setTop (mkF m 171 #[.val (.int i0), .val (.int i1), .val (.int i2), .val (.int i3), .val (.int (i0 &&& (3 : Int32))), .val (.int c2), .val (.int c5), .val (.int c8), .val (.ref b83), .val (.ref b92), .val .null, .val .null] [(.int c5)])) tg
            refine XS.bipush X137.here hx rfl (hb hby at_171) ?_
            show Steps p.tables e below (T137.setTop (mkF m 173 #[.val (.int i0), .val (.int i1), .val (.int i2), .val (.int i3), .val (.int (i0 &&& (3 : Int32))), .val (.int c2), .val (.int c5), .val (.int c8), .val (.ref b83), .val (.ref b92), .val .null, .val .null] [(.int (61 : Int32)), (.int c5)])) tg
            refine XS.icmpYes X137.here hx rfl (pc0 := 173) (pc' := 203) rfl (hb hby at_173) rfl (feq hc102).2 (by decide) (by decide) ?_
            show Steps p.tables e below (T137.setTop (mkF m 203 #[.val (.int i0), .val (.int i1), .val (.int i2), .val (.int i3), .val (.int (i0 &&& (3 : Int32))), .val (.int c2), .val (.int c5), .val (.int c8), .val (.ref b83), .val (.ref b92), .val .null, .val .null] [])) tg
            refine XS.aload X137.here hx rfl (hb hby at_203) rfl rfl ?_
            show Steps p.tables e below (T137.setTop (mkF m 205 #[.val (.int i0), .val (.int i1), .val (.int i2), .val (.int i3), .val (.int (i0 &&& (3 : Int32))), .val (.int c2), .val (.int c5), .val (.int c8), .val (.ref b83), .val (.ref b92), .val .null, .val .null] [.null])) tg
            refine XS.aload X137.here hx rfl (hb hby at_205) rfl rfl ?_
            show Steps p.tables e below (T137.setTop (mkF m 207 #[.val (.int i0), .val (.int i1), .val (.int i2), .val (.int i3), .val (.int (i0 &&& (3 : Int32))), .val (.int c2), .val (.int c5), .val (.int c8), .val (.ref b83), .val (.ref b92), .val .null, .val .null] [.null, .null])) tg
            refine Jvm.RoadKit.acmp (g := (mkF m 207 #[.val (.int i0), .val (.int i1), .val (.int i2), .val (.int i3), .val (.int (i0 &&& (3 : Int32))), .val (.int c2), .val (.int c5), .val (.int c8), .val (.ref b83), .val (.ref b92), .val .null, .val .null] [.null, .null])) X137 hx rfl rfl rfl (pc0 := 207) (pc' := 210) (same := true) rfl (hb hby at_207) rfl (decide_eq_true rfl) (by decide) (by decide) ?_
            show Steps p.tables e below (T137.setTop (mkF m 210 #[.val (.int i0), .val (.int i1), .val (.int i2), .val (.int i3), .val (.int (i0 &&& (3 : Int32))), .val (.int c2), .val (.int c5), .val (.int c8), .val (.ref b83), .val (.ref b92), .val .null, .val .null] [])) tg
            refine XS.iconst X137.here hx rfl (hb hby at_210) ?_
            show Steps p.tables e below (T137.setTop (mkF m 211 #[.val (.int i0), .val (.int i1), .val (.int i2), .val (.int i3), .val (.int (i0 &&& (3 : Int32))), .val (.int c2), .val (.int c5), .val (.int c8), .val (.ref b83), .val (.ref b92), .val .null, .val .null] [(.int (1 : Int32))])) tg
            refine XS.goto X137.here hx rfl (pc0 := 211) (pc' := 215) rfl (hb hby at_211) (by decide) (by decide) ?_
            show Steps p.tables e below (T137.setTop (mkF m 215 #[.val (.int i0), .val (.int i1), .val (.int i2), .val (.int i3), .val (.int (i0 &&& (3 : Int32))), .val (.int c2), .val (.int c5), .val (.int c8), .val (.ref b83), .val (.ref b92), .val .null, .val .null] [(.int (1 : Int32))])) tg
            exact kg
          refine gsW c140 ?_
          refine goutW (v := some (.int (1 : Int32))) X137 hS (Nat.le_trans hk (Nat.le_trans (Nat.le_trans (Nat.le_trans (Nat.le_trans (Nat.le_trans (Nat.le_trans (Nat.le_trans (Nat.le_trans (Nat.le_trans K2q.1 K5q.1) K8q.1) E83.1) (Keep.of_wr W86).1) (Keep.of_wr W89).1) E92.1) K97q.1) K133q.1) K137q.1)) hZ (own_EW hw) hh rfl R139 Bd.notSynchronized (fun h => by rw [Bd.returns] at h; cases h) (by decide) (by decide) ?_ (fun fs hr => retN X137 hx (t := .boolean) Bd.returns (by simp) (hb hby at_215) hr)
          exact ⟨rfl, N137⟩
      · have c141 : ∀ tg, Steps p.tables e below (T8.setTop (mkF m 80 #[.val (.int i0), .val (.int i1), .val (.int i2), .val (.int i3), .val (.int (i0 &&& (3 : Int32))), .val (.int c2), .val (.int c5), .val (.int c8), .unset, .unset, .unset, .unset] [(.int (3 : Int32))])) tg → Steps p.tables e below (T8.setTop (mkF m 58 #[.val (.int i0), .val (.int i1), .val (.int i2), .val (.int i3), .val (.int (i0 &&& (3 : Int32))), .val (.int c2), .val (.int c5), .val (.int c8), .unset, .unset, .unset, .unset] [(.int (2 : Int32)), (.int (i0 &&& (3 : Int32)))])) tg := fun tg kg => by
          refine XS.icmpYes X8.here hx rfl (pc0 := 58) (pc' := 79) rfl (hb hby at_58) rfl (feq hc81).2 (by decide) (by decide) ?_
          show Steps p.tables e below (T8.setTop (mkF m 79 #[.val (.int i0), .val (.int i1), .val (.int i2), .val (.int i3), .val (.int (i0 &&& (3 : Int32))), .val (.int c2), .val (.int c5), .val (.int c8), .unset, .unset, .unset, .unset] [])) tg
          refine XS.iconst X8.here hx rfl (hb hby at_79) ?_
          show Steps p.tables e below (T8.setTop (mkF m 80 #[.val (.int i0), .val (.int i1), .val (.int i2), .val (.int i3), .val (.int (i0 &&& (3 : Int32))), .val (.int c2), .val (.int c5), .val (.int c8), .unset, .unset, .unset, .unset] [(.int (3 : Int32))])) tg
          exact kg
        refine gsW c141 ?_
        obtain ⟨T142, h142, k142, X142, e142, E142, A142, st142⟩ := newP X8 hx hZ (hw _ (List.mem_of_getElem? (i := 4) rfl)) rfl (g := (mkF m 80 #[.val (.int i0), .val (.int i1), .val (.int i2), .val (.int i3), .val (.int (i0 &&& (3 : Int32))), .val (.int c2), .val (.int c5), .val (.int c8), .unset, .unset, .unset, .unset] [(.int (3 : Int32))])) rfl (hb hby at_80) rfl (by decide) (cap := 3) (by decide) (by decide) (by decide) (by decide)
        obtain ⟨b142, q142⟩ : ∃ z, z = T8.heap.size := ⟨_, rfl⟩
        rw [← q142] at A142 st142
        have g_b142 : n0 ≤ b142 := Nat.le_trans Z9 (Nat.le_of_eq q142.symm)
        have sz_b142 : h0.size ≤ b142 := Nat.le_trans K9.1 (Nat.le_of_eq q142.symm)
        have r143 : CHr Z own_EL s.vm T8.heap s.vm h142 := CHr.ext E142 R9.1
        have R143 : CHr Z own_EL s.vm h0 s.vm h142 := R9.trans r143
        have Z143 : n0 ≤ h142.size := Nat.le_trans Z9 E142.1
        have O143 : Old Z n0 h142 := O9.ext E142
        have K143 : Keep h0 h142 [] := K9.ext E142
        have V142 : Arv Z h142 b142 k142 .char (3 : Int32) [(.int (0 : Int32)), (.int (0 : Int32)), (.int (0 : Int32))] (.int (0 : Int32)) := (Arv.new A142 (by decide)).pad (pad_rep [] (.int (0 : Int32)) 3)
        refine gsW st142 ?_
        show OwnGoW p e below s Z own_EL _ _ _ (T142.setTop (mkF m 82 #[.val (.int i0), .val (.int i1), .val (.int i2), .val (.int i3), .val (.int (i0 &&& (3 : Int32))), .val (.int c2), .val (.int c5), .val (.int c8), .unset, .unset, .unset, .unset] [(.ref b142)]))
        have c144 : ∀ tg, Steps p.tables e below (T142.setTop (mkF m 86 #[.val (.int i0), .val (.int i1), .val (.int i2), .val (.int i3), .val (.int (i0 &&& (3 : Int32))), .val (.int c2), .val (.int c5), .val (.int c8), .unset, .unset, .unset, .unset] [(.int c2), (.int (0 : Int32)), (.ref b142), (.ref b142)])) tg → Steps p.tables e below (T142.setTop (mkF m 82 #[.val (.int i0), .val (.int i1), .val (.int i2), .val (.int i3), .val (.int (i0 &&& (3 : Int32))), .val (.int c2), .val (.int c5), .val (.int c8), .unset, .unset, .unset, .unset] [(.ref b142)])) tg := fun tg kg => by
          refine XS.dup X142.here hx rfl (hb hby at_82) rfl rfl ?_
          show Steps p.tables e below (T142.setTop (mkF m 83 #[.val (.int i0), .val (.int i1), .val (.int i2), .val (.int i3), .val (.int (i0 &&& (3 : Int32))), .val (.int c2), .val (.int c5), .val (.int c8), .unset, .unset, .unset, .unset] [(.ref b142), (.ref b142)])) tg
          refine XS.iconst X142.here hx rfl (hb hby at_83) ?_
          show Steps p.tables e below (T142.setTop (mkF m 84 #[.val (.int i0), .val (.int i1), .val (.int i2), .val (.int i3), .val (.int (i0 &&& (3 : Int32))), .val (.int c2), .val (.int c5), .val (.int c8), .unset, .unset, .unset, .unset] [(.int (0 : Int32)), (.ref b142), (.ref b142)])) tg
          refine XS.iload X142.here hx rfl (hb hby at_84) rfl ?_
          show Steps p.tables e below (T142.setTop (mkF m 86 #[.val (.int i0), .val (.int i1), .val (.int i2), .val (.int i3), .val (.int (i0 &&& (3 : Int32))), .val (.int c2), .val (.int c5), .val (.int c8), .unset, .unset, .unset, .unset] [(.int c2), (.int (0 : Int32)), (.ref b142), (.ref b142)])) tg
          exact kg
        refine gsW c144 ?_
        obtain ⟨cl145, A145, a145q, a145S, a145N, a145H, a145G⟩ := id V142
        obtain ⟨T145, h145, X145, e145, W145, st145⟩ := stC X142 hx hZ e142 A145 (j := (0 : Int32)) (inb_of a145S ⟨by decide, by decide⟩) (g := (mkF m 86 #[.val (.int i0), .val (.int i1), .val (.int i2), .val (.int i3), .val (.int (i0 &&& (3 : Int32))), .val (.int c2), .val (.int c5), .val (.int c8), .unset, .unset, .unset, .unset] [(.int c2), (.int (0 : Int32)), (.ref b142), (.ref b142)])) rfl rfl (hb hby at_86)
        have V145 : Arv Z h145 b142 k142 .char (3 : Int32) [(.int (nar .char c2)), (.int (0 : Int32)), (.int (0 : Int32))] (.int (0 : Int32)) := Arv.set A145 a145q a145S a145N a145H a145G (fits_nar_char _) W145 0 rfl (Nat.le_of_ble_eq_true rfl)
        have N145 := Fr.snoc X145 N8 g_b142
        have r146 : CHr Z own_EL s.vm h142 s.vm h145 := CHr.wr W145 (Safe.arv hZ.alike V142 (by decide)) R143.1
        have R146 : CHr Z own_EL s.vm h0 s.vm h145 := R143.trans r146
        have Z146 : n0 ≤ h145.size := Nat.le_trans Z143 (Keep.of_wr W145).1
        have O146 : Old Z n0 h145 := O143.wr W145 g_b142
        have K146 : Keep h0 h145 [] := K143.wr W145 (Or.inr sz_b142)
        refine gsW st145 ?_
        show OwnGoW p e below s Z own_EL _ _ _ (T145.setTop (mkF m 87 #[.val (.int i0), .val (.int i1), .val (.int i2), .val (.int i3), .val (.int (i0 &&& (3 : Int32))), .val (.int c2), .val (.int c5), .val (.int c8), .unset, .unset, .unset, .unset] [(.ref b142)]))
        have c147 : ∀ tg, Steps p.tables e below (T145.setTop (mkF m 91 #[.val (.int i0), .val (.int i1), .val (.int i2), .val (.int i3), .val (.int (i0 &&& (3 : Int32))), .val (.int c2), .val (.int c5), .val (.int c8), .unset, .unset, .unset, .unset] [(.int c5), (.int (1 : Int32)), (.ref b142), (.ref b142)])) tg → Steps p.tables e below (T145.setTop (mkF m 87 #[.val (.int i0), .val (.int i1), .val (.int i2), .val (.int i3), .val (.int (i0 &&& (3 : Int32))), .val (.int c2), .val (.int c5), .val (.int c8), .unset, .unset, .unset, .unset] [(.ref b142)])) tg := fun tg kg => by
          refine XS.dup X145.here hx rfl (hb hby at_87) rfl rfl ?_
          show Steps p.tables e below (T145.setTop (mkF m 88 #[.val (.int i0), .val (.int i1), .val (.int i2), .val (.int i3), .val (.int (i0 &&& (3 : Int32))), .val (.int c2), .val (.int c5), .val (.int c8), .unset, .unset, .unset, .unset] [(.ref b142), (.ref b142)])) tg
          refine XS.iconst X145.here hx rfl (hb hby at_88) ?_
          show Steps p.tables e below (T145.setTop (mkF m 89 #[.val (.int i0), .val (.int i1), .val (.int i2), .val (.int i3), .val (.int (i0 &&& (3 : Int32))), .val (.int c2), .val (.int c5), .val (.int c8), .unset, .unset, .unset, .unset] [(.int (1 : Int32)), (.ref b142), (.ref b142)])) tg
          refine XS.iload X145.here hx rfl (hb hby at_89) rfl ?_
          show Steps p.tables e below (T145.setTop (mkF m 91 #[.val (.int i0), .val (.int i1), .val (.int i2), .val (.int i3), .val (.int (i0 &&& (3 : Int32))), .val (.int c2), .val (.int c5), .val (.int c8), .unset, .unset, .unset, .unset] [(.int c5), (.int (1 : Int32)), (.ref b142), (.ref b142)])) tg
          exact kg
        refine gsW c147 ?_
        obtain ⟨cl148, A148, a148q, a148S, a148N, a148H, a148G⟩ := id V145
        obtain ⟨T148, h148, X148, e148, W148, st148⟩ := stC X145 hx hZ e145 A148 (j := (1 : Int32)) (inb_of a148S ⟨by decide, by decide⟩) (g := (mkF m 91 #[.val (.int i0), .val (.int i1), .val (.int i2), .val (.int i3), .val (.int (i0 &&& (3 : Int32))), .val (.int c2), .val (.int c5), .val (.int c8), .unset, .unset, .unset, .unset] [(.int c5), (.int (1 : Int32)), (.ref b142), (.ref b142)])) rfl rfl (hb hby at_91)
        have V148 : Arv Z h148 b142 k142 .char (3 : Int32) [(.int (nar .char c2)), (.int (nar .char c5)), (.int (0 : Int32))] (.int (0 : Int32)) := Arv.set A148 a148q a148S a148N a148H a148G (fits_nar_char _) W148 1 rfl (Nat.le_of_ble_eq_true rfl)
        have N148 := Fr.snoc X148 N145 g_b142
        have r149 : CHr Z own_EL s.vm h145 s.vm h148 := CHr.wr W148 (Safe.arv hZ.alike V145 (by decide)) R146.1
        have R149 : CHr Z own_EL s.vm h0 s.vm h148 := R146.trans r149
        have Z149 : n0 ≤ h148.size := Nat.le_trans Z146 (Keep.of_wr W148).1
        have O149 : Old Z n0 h148 := O146.wr W148 g_b142
        have K149 : Keep h0 h148 [] := K146.wr W148 (Or.inr sz_b142)
        refine gsW st148 ?_
        show OwnGoW p e below s Z own_EL _ _ _ (T148.setTop (mkF m 92 #[.val (.int i0), .val (.int i1), .val (.int i2), .val (.int i3), .val (.int (i0 &&& (3 : Int32))), .val (.int c2), .val (.int c5), .val (.int c8), .unset, .unset, .unset, .unset] [(.ref b142)]))
        have c150 : ∀ tg, Steps p.tables e below (T148.setTop (mkF m 96 #[.val (.int i0), .val (.int i1), .val (.int i2), .val (.int i3), .val (.int (i0 &&& (3 : Int32))), .val (.int c2), .val (.int c5), .val (.int c8), .unset, .unset, .unset, .unset] [(.int c8), (.int (2 : Int32)), (.ref b142), (.ref b142)])) tg → Steps p.tables e below (T148.setTop (mkF m 92 #[.val (.int i0), .val (.int i1), .val (.int i2), .val (.int i3), .val (.int (i0 &&& (3 : Int32))), .val (.int c2), .val (.int c5), .val (.int c8), .unset, .unset, .unset, .unset] [(.ref b142)])) tg := fun tg kg => by
          refine XS.dup X148.here hx rfl (hb hby at_92) rfl rfl ?_
          show Steps p.tables e below (T148.setTop (mkF m 93 #[.val (.int i0), .val (.int i1), .val (.int i2), .val (.int i3), .val (.int (i0 &&& (3 : Int32))), .val (.int c2), .val (.int c5), .val (.int c8), .unset, .unset, .unset, .unset] [(.ref b142), (.ref b142)])) tg
          refine XS.iconst X148.here hx rfl (hb hby at_93) ?_
          show Steps p.tables e below (T148.setTop (mkF m 94 #[.val (.int i0), .val (.int i1), .val (.int i2), .val (.int i3), .val (.int (i0 &&& (3 : Int32))), .val (.int c2), .val (.int c5), .val (.int c8), .unset, .unset, .unset, .unset] [(.int (2 : Int32)), (.ref b142), (.ref b142)])) tg
          refine XS.iload X148.here hx rfl (hb hby at_94) rfl ?_
          show Steps p.tables e below (T148.setTop (mkF m 96 #[.val (.int i0), .val (.int i1), .val (.int i2), .val (.int i3), .val (.int (i0 &&& (3 : Int32))), .val (.int c2), .val (.int c5), .val (.int c8), .unset, .unset, .unset, .unset] [(.int c8), (.int (2 : Int32)), (.ref b142), (.ref b142)])) tg
          exact kg
        refine gsW c150 ?_
        obtain ⟨cl151, A151, a151q, a151S, a151N, a151H, a151G⟩ := id V148
        obtain ⟨T151, h151, X151, e151, W151, st151⟩ := stC X148 hx hZ e148 A151 (j := (2 : Int32)) (inb_of a151S ⟨by decide, by decide⟩) (g := (mkF m 96 #[.val (.int i0), .val (.int i1), .val (.int i2), .val (.int i3), .val (.int (i0 &&& (3 : Int32))), .val (.int c2), .val (.int c5), .val (.int c8), .unset, .unset, .unset, .unset] [(.int c8), (.int (2 : Int32)), (.ref b142), (.ref b142)])) rfl rfl (hb hby at_96)
        have V151 : Arv Z h151 b142 k142 .char (3 : Int32) [(.int (nar .char c2)), (.int (nar .char c5)), (.int (nar .char c8))] (.int (0 : Int32)) := Arv.set A151 a151q a151S a151N a151H a151G (fits_nar_char _) W151 2 rfl (Nat.le_of_ble_eq_true rfl)
        have N151 := Fr.snoc X151 N148 g_b142
        have r152 : CHr Z own_EL s.vm h148 s.vm h151 := CHr.wr W151 (Safe.arv hZ.alike V148 (by decide)) R149.1
        have R152 : CHr Z own_EL s.vm h0 s.vm h151 := R149.trans r152
        have Z152 : n0 ≤ h151.size := Nat.le_trans Z149 (Keep.of_wr W151).1
        have O152 : Old Z n0 h151 := O149.wr W151 g_b142
        have K152 : Keep h0 h151 [] := K149.wr W151 (Or.inr sz_b142)
        refine gsW st151 ?_
        show OwnGoW p e below s Z own_EL _ _ _ (T151.setTop (mkF m 97 #[.val (.int i0), .val (.int i1), .val (.int i2), .val (.int i3), .val (.int (i0 &&& (3 : Int32))), .val (.int c2), .val (.int c5), .val (.int c8), .unset, .unset, .unset, .unset] [(.ref b142)]))
        have c153 : ∀ tg, Steps p.tables e below (T151.setTop (mkF m 99 #[.val (.int i0), .val (.int i1), .val (.int i2), .val (.int i3), .val (.int (i0 &&& (3 : Int32))), .val (.int c2), .val (.int c5), .val (.int c8), .val (.ref b142), .unset, .unset, .unset] [])) tg → Steps p.tables e below (T151.setTop (mkF m 97 #[.val (.int i0), .val (.int i1), .val (.int i2), .val (.int i3), .val (.int (i0 &&& (3 : Int32))), .val (.int c2), .val (.int c5), .val (.int c8), .unset, .unset, .unset, .unset] [(.ref b142)])) tg := fun tg kg => by
          refine XS.astore X151.here hx rfl (hb hby at_97) rfl rfl (l' := #[.val (.int i0), .val (.int i1), .val (.int i2), .val (.int i3), .val (.int (i0 &&& (3 : Int32))), .val (.int c2), .val (.int c5), .val (.int c8), .val (.ref b142), .unset, .unset, .unset]) rfl ?_
          show Steps p.tables e below (T151.setTop (mkF m 99 #[.val (.int i0), .val (.int i1), .val (.int i2), .val (.int i3), .val (.int (i0 &&& (3 : Int32))), .val (.int c2), .val (.int c5), .val (.int c8), .val (.ref b142), .unset, .unset, .unset] [])) tg
          exact kg
        refine gsW c153 ?_
        obtain ⟨T154, h154, X154, e154, E154, A154, D154, -, st154⟩ := newO X151 hx hZ hown (hw _ (List.mem_of_getElem? (i := 5) rfl)) (hw _ (List.mem_of_getElem? (i := 6) rfl)) (hw _ (List.mem_of_getElem? (i := 7) rfl)) e151 (g := (mkF m 99 #[.val (.int i0), .val (.int i1), .val (.int i2), .val (.int i3), .val (.int (i0 &&& (3 : Int32))), .val (.int c2), .val (.int c5), .val (.int c8), .val (.ref b142), .unset, .unset, .unset] [])) rfl (hb hby at_99) (by decide) (by decide)
        obtain ⟨b154, q154⟩ : ∃ z, z = h151.size := ⟨_, rfl⟩
        rw [← q154] at A154 D154 st154
        have g_b154 : n0 ≤ b154 := Nat.le_trans Z152 (Nat.le_of_eq q154.symm)
        have sz_b154 : h0.size ≤ b154 := Nat.le_trans K152.1 (Nat.le_of_eq q154.symm)
        have sfa154 : Safe Z own_EL s.vm h151 b154 := Safe.new (Nat.le_of_eq q154.symm)
        have r155 : CHr Z own_EL s.vm h151 s.vm h154 := CHr.ext E154 R152.1
        have R155 : CHr Z own_EL s.vm h0 s.vm h154 := R152.trans r155
        have Z155 : n0 ≤ h154.size := Nat.le_trans Z152 E154.1
        have O155 : Old Z n0 h154 := O152.ext E154
        have K155 : Keep h0 h154 [] := K152.ext E154
        have sfb154 := Safe.ext E154 R152.1 sfa154
        have F_value_b154 : Fld Z h154 b154 "java/lang/String" "value" "[B" .null := D154 (Or.inr (hw _ (List.mem_of_getElem? (i := 20) rfl))) (ty := (.array .byte)) (by decide)
        have F_coder_b154 : Fld Z h154 b154 "java/lang/String" "coder" "B" (.int (0 : Int32)) := D154 (Or.inr (hw _ (List.mem_of_getElem? (i := 21) rfl))) (ty := .byte) (by decide)
        refine gsW st154 ?_
        show OwnGoW p e below s Z own_EL _ _ _ (T154.setTop (mkF m 102 #[.val (.int i0), .val (.int i1), .val (.int i2), .val (.int i3), .val (.int (i0 &&& (3 : Int32))), .val (.int c2), .val (.int c5), .val (.int c8), .val (.ref b142), .unset, .unset, .unset] [(.ref b154)]))
        have c156 : ∀ tg, Steps p.tables e below (T154.setTop (mkF m 105 #[.val (.int i0), .val (.int i1), .val (.int i2), .val (.int i3), .val (.int (i0 &&& (3 : Int32))), .val (.int c2), .val (.int c5), .val (.int c8), .val (.ref b142), .unset, .unset, .unset] [(.ref b142), (.ref b154), (.ref b154)])) tg → Steps p.tables e below (T154.setTop (mkF m 102 #[.val (.int i0), .val (.int i1), .val (.int i2), .val (.int i3), .val (.int (i0 &&& (3 : Int32))), .val (.int c2), .val (.int c5), .val (.int c8), .val (.ref b142), .unset, .unset, .unset] [(.ref b154)])) tg := fun tg kg => by
          refine XS.dup X154.here hx rfl (hb hby at_102) rfl rfl ?_
          show Steps p.tables e below (T154.setTop (mkF m 103 #[.val (.int i0), .val (.int i1), .val (.int i2), .val (.int i3), .val (.int (i0 &&& (3 : Int32))), .val (.int c2), .val (.int c5), .val (.int c8), .val (.ref b142), .unset, .unset, .unset] [(.ref b154), (.ref b154)])) tg
          refine XS.aload X154.here hx rfl (hb hby at_103) rfl rfl ?_
          show Steps p.tables e below (T154.setTop (mkF m 105 #[.val (.int i0), .val (.int i1), .val (.int i2), .val (.int i3), .val (.int (i0 &&& (3 : Int32))), .val (.int c2), .val (.int c5), .val (.int c8), .val (.ref b142), .unset, .unset, .unset] [(.ref b142), (.ref b154), (.ref b154)])) tg
          exact kg
        refine gsW c156 ?_
        have hp157 : ∀ c ∈ ([(nar .char c2), (nar .char c5), (nar .char c8)] : List Int32), ¬ c < 0 ∧ ¬ (255 : Int32) < c := by
          intro c hc
          simp only [List.mem_cons, List.not_mem_nil, or_false] at hc
          rcases hc with rfl | rfl | rfl
          all_goals first | exact own_nb b2q | exact own_nb b5q | exact own_nb b8q
        have f158 := (V151.ext E154)
        obtain ⟨_, _, ⟨T159, L159, k159, n159⟩, -, X159, ⟨Lc159, hQ159, l159, y159, z159⟩, st159⟩ := X154.specialBack hx (y := (⟨"java/lang/String", "<init>", "([C)V"⟩ : MethodName)) rfl hown (mvT hZ (hw _ (List.mem_of_getElem? (i := 8) rfl))) (mvT hZ (hw _ (List.mem_of_getElem? (i := 9) rfl))) (mvT hZ (hw _ (List.mem_of_getElem? (i := 10) rfl))) (by decide) (StrChars.Road.backV (W := 1) hZ hws (kI := 4) (hw _ (List.mem_of_getElem? (i := 6) rfl)) (cs := ([(nar .char c2), (nar .char c5), (nar .char c8)] : List Int32)) (bs := ([(nar .char c2), (nar .char c5), (nar .char c8)] : List Int32).map (fun c => c.toInt8.toInt32)) (n := 3) g_b154 Z155 A154 F_value_b154 F_coder_b154 f158 (S0.ext O155.2) hz rfl rfl (by decide) (by decide) hp157 rfl (by decide) (by decide)) (g := (mkF m 105 #[.val (.int i0), .val (.int i1), .val (.int i2), .val (.int i3), .val (.int (i0 &&& (3 : Int32))), .val (.int c2), .val (.int c5), .val (.int c8), .val (.ref b142), .unset, .unset, .unset] [(.ref b142), (.ref b154), (.ref b154)])) rfl (by rw [hml]; rfl) (Steps.refl _) (a := b154) (argsL := [(.ref b142)]) (rest := [(.ref b154)]) (lenOf pd_140 rfl) rfl (by show 2 * 0 + _ ≤ _; exact Nat.le_of_eq rfl) (hb hby at_105) (fun _ _ => ⟨rfl, e154, (by decide : 2 + 1 ≤ _), (by decide : 7 + 3 ≤ _)⟩)
        dsimp only [Pt.U, Pt.locs, Pt.cells, Pt.slots] at X159 l159 y159 z159 st159 hQ159
        subst l159 y159 z159
        obtain ⟨rfl, N159q, K159q, g159e, g159c, t159, kb159, -, g159t, -, g159v, g159a⟩ := hQ159
        have N159 := Fr.app N151 N159q
        have g_t159 : n0 ≤ t159 := Nat.le_trans Z155 g159t
        have sz_t159 : h0.size ≤ t159 := Nat.le_trans K155.1 g159t
        have r160 : CHr Z own_EL s.vm h154 s.vm T159.heap := CHr.keep K159q (sfS sfb154 sf0) R155.1
        have R160 : CHr Z own_EL s.vm h0 s.vm T159.heap := R155.trans r160
        have Z160 : n0 ≤ T159.heap.size := Nat.le_trans Z155 K159q.1
        have O160 : Old Z n0 T159.heap := O155.keep K159q (allS g_b154 all0)
        have K160 : Keep h0 T159.heap [] := K155.trans K159q (allS (Or.inr sz_b154) all0)
        refine gsW (fun _ k => st159.trans k) ?_
        show OwnGoW p e below s Z own_EL _ _ _ (T159.setTop (mkF m 108 #[.val (.int i0), .val (.int i1), .val (.int i2), .val (.int i3), .val (.int (i0 &&& (3 : Int32))), .val (.int c2), .val (.int c5), .val (.int c8), .val (.ref b142), .unset, .unset, .unset] [(.ref b154)]))
        have c161 : ∀ tg, Steps p.tables e below (T159.setTop (mkF m 112 #[.val (.int i0), .val (.int i1), .val (.int i2), .val (.int i3), .val (.int (i0 &&& (3 : Int32))), .val (.int c2), .val (.int c5), .val (.int c8), .val (.ref b142), .val (.ref b154), .unset, .unset] [(.ref b154)])) tg → Steps p.tables e below (T159.setTop (mkF m 108 #[.val (.int i0), .val (.int i1), .val (.int i2), .val (.int i3), .val (.int (i0 &&& (3 : Int32))), .val (.int c2), .val (.int c5), .val (.int c8), .val (.ref b142), .unset, .unset, .unset] [(.ref b154)])) tg := fun tg kg => by
          refine XS.astore X159.here hx rfl (hb hby at_108) rfl rfl (l' := #[.val (.int i0), .val (.int i1), .val (.int i2), .val (.int i3), .val (.int (i0 &&& (3 : Int32))), .val (.int c2), .val (.int c5), .val (.int c8), .val (.ref b142), .val (.ref b154), .unset, .unset]) rfl ?_
          show Steps p.tables e below (T159.setTop (mkF m 110 #[.val (.int i0), .val (.int i1), .val (.int i2), .val (.int i3), .val (.int (i0 &&& (3 : Int32))), .val (.int c2), .val (.int c5), .val (.int c8), .val (.ref b142), .val (.ref b154), .unset, .unset] [])) tg
          refine XS.aload X159.here hx rfl (hb hby at_110) rfl rfl ?_
          show Steps p.tables e below (T159.setTop (mkF m 112 #[.val (.int i0), .val (.int i1), .val (.int i2), .val (.int i3), .val (.int (i0 &&& (3 : Int32))), .val (.int c2), .val (.int c5), .val (.int c8), .val (.ref b142), .val (.ref b154), .unset, .unset] [(.ref b154)])) tg
          exact kg
        refine gsW c161 ?_
        have T162 : Str Z T159.heap b154 ([(nar .char c2), (nar .char c5), (nar .char c8)] : List Int32) := ⟨_, _, g159e, g159c, g159v, g159a⟩
        simp only [own_nc b2q, own_nc b5q, own_nc b8q] at T162
        have hb163 : ∀ c ∈ ([c2, c5, c8] : List Int32), ¬ c < 0 ∧ ¬ (255 : Int32) < c := by
          intro c hc
          simp only [List.mem_cons, List.not_mem_nil, or_false] at hc
          rcases hc with rfl | rfl | rfl <;> assumption
        obtain ⟨_, _, ⟨T164, L164, k164, n164⟩, -, X164, ⟨Lc164, hQ164, l164, y164, z164⟩, st164⟩ := Jvm.LawKit.callS X159 hx (y := (⟨"com/example/tranche/tranche/terms/Comparison", "written", "(Ljava/lang/String;)Ljava/util/Optional;"⟩ : MethodName)) hown (mvT hZ (hw _ (List.mem_of_getElem? (i := 26) rfl))) (mvT hZ (hw _ (List.mem_of_getElem? (i := 27) rfl))) (mvT hZ (hw _ (List.mem_of_getElem? (i := 28) rfl))) (mvT hZ (hw _ (List.mem_of_getElem? (i := 29) rfl))) (by decide) (backC (W := 0) (rm_wr4 l Z a0 hw [] b154 ([c2, c5, c8] : List Int32) z oe va kv en0 en1 en2 en3 sn0 sn1 sn2 sn3 T159.heap n0 Z160 O160 S0 hz T162 hb163 (by simp) S_oe S_va V_va E_va F_e0 F_e1 F_e2 F_e3 T_s0 T_s1 T_s2 T_s3 (by intro hq; simp_all) (by intro hq; simp_all) (by intro hq; simp_all) (by intro hq; simp_all)) hZ (hw _ (List.mem_of_getElem? (i := 29) rfl)) (hw _ (List.mem_of_getElem? (i := 28) rfl)) (by decide) (by decide)) (g := (mkF m 112 #[.val (.int i0), .val (.int i1), .val (.int i2), .val (.int i3), .val (.int (i0 &&& (3 : Int32))), .val (.int c2), .val (.int c5), .val (.int c8), .val (.ref b142), .val (.ref b154), .unset, .unset] [(.ref b154)])) rfl (by rw [hml]; rfl) (argsL := [(.ref b154)]) (rest := []) (lenOf pd_141 rfl) rfl (by show 2 * 0 + _ ≤ _; exact Nat.le_of_eq rfl) (hb hby at_112) (fun _ _ => ⟨rfl, rfl, (by decide : 3 + 2 ≤ _), (by decide : 10 + 5 ≤ _)⟩)
        dsimp only [Pt.U, Pt.locs, Pt.cells, Pt.slots] at X164 l164 y164 z164 st164 hQ164
        subst l164 y164 z164
        obtain ⟨rfl, N164q, K164q⟩ := hQ164
        have N164 := Fr.app N159 N164q
        have r165 : CHr Z own_EL s.vm T159.heap s.vm T164.heap := CHr.keep K164q sf0 R160.1
        have R165 : CHr Z own_EL s.vm h0 s.vm T164.heap := R160.trans r165
        have Z165 : n0 ≤ T164.heap.size := Nat.le_trans Z160 K164q.1
        have O165 : Old Z n0 T164.heap := O160.keep K164q all0
        have K165 : Keep h0 T164.heap [] := K160.trans K164q all0
        refine gsW st164 ?_
        show OwnGoW p e below s Z own_EL _ _ _ (T164.setTop (mkF m 115 #[.val (.int i0), .val (.int i1), .val (.int i2), .val (.int i3), .val (.int (i0 &&& (3 : Int32))), .val (.int c2), .val (.int c5), .val (.int c8), .val (.ref b142), .val (.ref b154), .unset, .unset] [(.ref oe)]))
        have c166 : ∀ tg, Steps p.tables e below (T164.setTop (mkF m 116 #[.val (.int i0), .val (.int i1), .val (.int i2), .val (.int i3), .val (.int (i0 &&& (3 : Int32))), .val (.int c2), .val (.int c5), .val (.int c8), .val (.ref b142), .val (.ref b154), .unset, .unset] [.null, (.ref oe)])) tg → Steps p.tables e below (T164.setTop (mkF m 115 #[.val (.int i0), .val (.int i1), .val (.int i2), .val (.int i3), .val (.int (i0 &&& (3 : Int32))), .val (.int c2), .val (.int c5), .val (.int c8), .val (.ref b142), .val (.ref b154), .unset, .unset] [(.ref oe)])) tg := fun tg kg => by
          refine XS.aconstNull X164.here hx rfl (hb hby at_115) ?_
          show Steps p.tables e below (T164.setTop (mkF m 116 #[.val (.int i0), .val (.int i1), .val (.int i2), .val (.int i3), .val (.int (i0 &&& (3 : Int32))), .val (.int c2), .val (.int c5), .val (.int c8), .val (.ref b142), .val (.ref b154), .unset, .unset] [.null, (.ref oe)])) tg
          exact kg
        refine gsW c166 ?_
        have f167 := (((((((((((F_oe.ext O0.2).keep K2q nin0).keep K5q nin0).keep K8q nin0).ext E142).other W145 (Or.inl (Nat.ne_of_lt (Nat.lt_of_lt_of_le (Nat.lt_of_lt_of_le (E_oe.ext O0.2).lt (Nat.le_trans (Nat.le_trans K2q.1 K5q.1) K8q.1)) (Nat.le_of_eq q142.symm))))).other W148 (Or.inl (Nat.ne_of_lt (Nat.lt_of_lt_of_le (Nat.lt_of_lt_of_le (E_oe.ext O0.2).lt (Nat.le_trans (Nat.le_trans K2q.1 K5q.1) K8q.1)) (Nat.le_of_eq q142.symm))))).other W151 (Or.inl (Nat.ne_of_lt (Nat.lt_of_lt_of_le (Nat.lt_of_lt_of_le (E_oe.ext O0.2).lt (Nat.le_trans (Nat.le_trans K2q.1 K5q.1) K8q.1)) (Nat.le_of_eq q142.symm))))).ext E154).keep K159q (ninS (Nat.ne_of_lt (Nat.lt_of_lt_of_le (Nat.lt_of_lt_of_le (E_oe.ext O0.2).lt (Nat.le_trans (Nat.le_trans (Nat.le_trans (Nat.le_trans (Nat.le_trans (Nat.le_trans K2q.1 K5q.1) K8q.1) E142.1) (Keep.of_wr W145).1) (Keep.of_wr W148).1) (Keep.of_wr W151).1)) (Nat.le_of_eq q154.symm))) nin0)).keep K164q nin0)
        have f169 := (((((((((((E_oe.ext O0.2).keep K2q).keep K5q).keep K8q).ext E142).wr W145).wr W148).wr W151).ext E154).keep K159q).keep K164q)
        obtain ⟨cq168, kq168, q168a, q168b, q168c⟩ := isOf hZ rfl f169
        obtain ⟨_, _, ⟨T168, L168, k168, n168⟩, -, X168, ⟨Lc168, hQ168, l168, y168, z168⟩, st168⟩ := X164.virtualBack hx (y := (⟨"java/util/Optional", "orElse", "(Ljava/lang/Object;)Ljava/lang/Object;"⟩ : MethodName)) (z := (⟨"java/util/Optional", "orElse", "(Ljava/lang/Object;)Ljava/lang/Object;"⟩ : MethodName)) hown (mvT hZ (hw _ (List.mem_of_getElem? (i := 67) rfl))) (mvT hZ (hw _ (List.mem_of_getElem? (i := 68) rfl))) (notFace_of_selects (args := #[]) (mvT hZ (hw _ (List.mem_of_getElem? (i := 70) rfl)))) (mvT hZ (hw _ (List.mem_of_getElem? (i := 70) rfl))) (mvT hZ (hw _ (List.mem_of_getElem? (i := 69) rfl))) (by decide) (backC (W := 0) (rm_or_null l Z a0 hw [] oe T164.heap n0 Z165 O165 f167) hZ (hw _ (List.mem_of_getElem? (i := 71) rfl)) (hw _ (List.mem_of_getElem? (i := 32) rfl)) (by decide) (by decide)) q168a q168c (g := (mkF m 116 #[.val (.int i0), .val (.int i1), .val (.int i2), .val (.int i3), .val (.int (i0 &&& (3 : Int32))), .val (.int c2), .val (.int c5), .val (.int c8), .val (.ref b142), .val (.ref b154), .unset, .unset] [.null, (.ref oe)])) rfl (by rw [hml]; rfl) (Steps.refl _) (argsL := [.null]) (rest := []) (lenOf pd_87 rfl) rfl (by show 2 * 0 + _ ≤ _; exact Nat.le_of_eq rfl) (hb hby at_116) (fun _ _ => ⟨rfl, rfl, (by decide : 5 + 0 ≤ _), (by decide : 15 + 0 ≤ _)⟩)
        dsimp only [Pt.U, Pt.locs, Pt.cells, Pt.slots] at X168 l168 y168 z168 st168 hQ168
        subst l168 y168 z168
        obtain ⟨rfl, N168q, K168q⟩ := hQ168
        have N168 := Fr.app N164 N168q
        have r170 : CHr Z own_EL s.vm T164.heap s.vm T168.heap := CHr.keep K168q sf0 R165.1
        have R170 : CHr Z own_EL s.vm h0 s.vm T168.heap := R165.trans r170
        have Z170 : n0 ≤ T168.heap.size := Nat.le_trans Z165 K168q.1
        have O170 : Old Z n0 T168.heap := O165.keep K168q all0
        have K170 : Keep h0 T168.heap [] := K165.trans K168q all0
        refine gsW (fun _ k => st168.trans k) ?_
        show OwnGoW p e below s Z own_EL _ _ _ (T168.setTop (mkF m 119 #[.val (.int i0), .val (.int i1), .val (.int i2), .val (.int i3), .val (.int (i0 &&& (3 : Int32))), .val (.int c2), .val (.int c5), .val (.int c8), .val (.ref b142), .val (.ref b154), .unset, .unset] [.null]))
        have c171 : ∀ tg, Steps p.tables e below (T168.setTop (mkF m 215 #[.val (.int i0), .val (.int i1), .val (.int i2), .val (.int i3), .val (.int (i0 &&& (3 : Int32))), .val (.int c2), .val (.int c5), .val (.int c8), .val (.ref b142), .val (.ref b154), .val .null, .val .null] [(.int (1 : Int32))])) tg → Steps p.tables e below (T168.setTop (mkF m 119 #[.val (.int i0), .val (.int i1), .val (.int i2), .val (.int i3), .val (.int (i0 &&& (3 : Int32))), .val (.int c2), .val (.int c5), .val (.int c8), .val (.ref b142), .val (.ref b154), .unset, .unset] [.null])) tg := fun tg kg => by
          refine X168.checkcastNull hx (g := (mkF m 119 #[.val (.int i0), .val (.int i1), .val (.int i2), .val (.int i3), .val (.int (i0 &&& (3 : Int32))), .val (.int c2), .val (.int c5), .val (.int c8), .val (.ref b142), .val (.ref b154), .unset, .unset] [.null])) rfl rfl (hb hby at_119) _ ?_
          show Steps p.tables e below (T168.setTop (mkF m 122 #[.val (.int i0), .val (.int i1), .val (.int i2), .val (.int i3), .val (.int (i0 &&& (3 : Int32))), .val (.int c2), .val (.int c5), .val (.int c8), .val (.ref b142), .val (.ref b154), .unset, .unset] [.null])) tg
          refine XS.astore X168.here hx rfl (hb hby at_122) rfl rfl (l' := #[.val (.int i0), .val (.int i1), .val (.int i2), .val (.int i3), .val (.int (i0 &&& (3 : Int32))), .val (.int c2), .val (.int c5), .val (.int c8), .val (.ref b142), .val (.ref b154), .val .null, .unset]) rfl ?_
          show Steps p.tables e below (T168.setTop (mkF m 124 #[.val (.int i0), .val (.int i1), .val (.int i2), .val (.int i3), .val (.int (i0 &&& (3 : Int32))), .val (.int c2), .val (.int c5), .val (.int c8), .val (.ref b142), .val (.ref b154), .val .null, .unset] [])) tg
          refine XS.aconstNull X168.here hx rfl (hb hby at_124) ?_
          show Steps p.tables e below (T168.setTop (mkF m 125 #[.val (.int i0), .val (.int i1), .val (.int i2), .val (.int i3), .val (.int (i0 &&& (3 : Int32))), .val (.int c2), .val (.int c5), .val (.int c8), .val (.ref b142), .val (.ref b154), .val .null, .unset] [.null])) tg
          refine XS.astore X168.here hx rfl (hb hby at_125) rfl rfl (l' := #[.val (.int i0), .val (.int i1), .val (.int i2), .val (.int i3), .val (.int (i0 &&& (3 : Int32))), .val (.int c2), .val (.int c5), .val (.int c8), .val (.ref b142), .val (.ref b154), .val .null, .val .null]) rfl ?_
          show Steps p.tables e below (T168.setTop (mkF m 127 #[.val (.int i0), .val (.int i1), .val (.int i2), .val (.int i3), .val (.int (i0 &&& (3 : Int32))), .val (.int c2), .val (.int c5), .val (.int c8), .val (.ref b142), .val (.ref b154), .val .null, .val .null] [])) tg
          refine XS.iload X168.here hx rfl (hb hby at_127) rfl ?_
          show Steps p.tables e below (T168.setTop (mkF m 129 #[.val (.int i0), .val (.int i1), .val (.int i2), .val (.int i3), .val (.int (i0 &&& (3 : Int32))), .val (.int c2), .val (.int c5), .val (.int c8), .val (.ref b142), .val (.ref b154), .val .null, .val .null] [(.int (i0 &&& (3 : Int32)))])) tg
          refine XS.iconst X168.here hx rfl (hb hby at_129) ?_
          show Steps p.tables e below (T168.setTop (mkF m 130 #[.val (.int i0), .val (.int i1), .val (.int i2), .val (.int i3), .val (.int (i0 &&& (3 : Int32))), .val (.int c2), .val (.int c5), .val (.int c8), .val (.ref b142), .val (.ref b154), .val .null, .val .null] [(.int (1 : Int32)), (.int (i0 &&& (3 : Int32)))])) tg
          refine XS.icmpYes X168.here hx rfl (pc0 := 130) (pc' := 163) rfl (hb hby at_130) rfl (feq hc32).2 (by decide) (by decide) ?_
          show Steps p.tables e below (T168.setTop (mkF m 163 #[.val (.int i0), .val (.int i1), .val (.int i2), .val (.int i3), .val (.int (i0 &&& (3 : Int32))), .val (.int c2), .val (.int c5), .val (.int c8), .val (.ref b142), .val (.ref b154), .val .null, .val .null] [])) tg
          refine XS.iload X168.here hx rfl (hb hby at_163) rfl ?_
          show Steps p.tables e below (T168.setTop (mkF m 165 #[.val (.int i0), .val (.int i1), .val (.int i2), .val (.int i3), .val (.int (i0 &&& (3 : Int32))), .val (.int c2), .val (.int c5), .val (.int c8), .val (.ref b142), .val (.ref b154), .val .null, .val .null] [(.int (i0 &&& (3 : Int32)))])) tg
          refine XS.iconst X168.here hx rfl (hb hby at_165) ?_
          show Steps p.tables e below (T168.setTop (mkF m 166 #[.val (.int i0), .val (.int i1), .val (.int i2), .val (.int i3), .val (.int (i0 &&& (3 : Int32))), .val (.int c2), .val (.int c5), .val (.int c8), .val (.ref b142), .val (.ref b154), .val .null, .val .null] [(.int (2 : Int32)), (.int (i0 &&& (3 : Int32)))])) tg
          refine XS.icmpYes X168.here hx rfl (pc0 := 166) (pc' := 203) rfl (hb hby at_166) rfl (feq hc81).2 (by decide) (by decide) ?_
          show Steps p.tables e below (T168.setTop (mkF m 203 #[.val (.int i0), .val (.int i1), .val (.int i2), .val (.int i3), .val (.int (i0 &&& (3 : Int32))), .val (.int c2), .val (.int c5), .val (.int c8), .val (.ref b142), .val (.ref b154), .val .null, .val .null] [])) tg
          refine XS.aload X168.here hx rfl (hb hby at_203) rfl rfl ?_
          show Steps p.tables e below (T168.setTop (mkF m 205 #[.val (.int i0), .val (.int i1), .val (.int i2), .val (.int i3), .val (.int (i0 &&& (3 : Int32))), .val (.int c2), .val (.int c5), .val (.int c8), .val (.ref b142), .val (.ref b154), .val .null, .val .null] [.null])) tg
          refine XS.aload X168.here hx rfl (hb hby at_205) rfl rfl ?_
          show Steps p.tables e below (T168.setTop (mkF m 207 #[.val (.int i0), .val (.int i1), .val (.int i2), .val (.int i3), .val (.int (i0 &&& (3 : Int32))), .val (.int c2), .val (.int c5), .val (.int c8), .val (.ref b142), .val (.ref b154), .val .null, .val .null] [.null, .null])) tg
          refine Jvm.RoadKit.acmp (g := (mkF m 207 #[.val (.int i0), .val (.int i1), .val (.int i2), .val (.int i3), .val (.int (i0 &&& (3 : Int32))), .val (.int c2), .val (.int c5), .val (.int c8), .val (.ref b142), .val (.ref b154), .val .null, .val .null] [.null, .null])) X168 hx rfl rfl rfl (pc0 := 207) (pc' := 210) (same := true) rfl (hb hby at_207) rfl (decide_eq_true rfl) (by decide) (by decide) ?_
          show Steps p.tables e below (T168.setTop (mkF m 210 #[.val (.int i0), .val (.int i1), .val (.int i2), .val (.int i3), .val (.int (i0 &&& (3 : Int32))), .val (.int c2), .val (.int c5), .val (.int c8), .val (.ref b142), .val (.ref b154), .val .null, .val .null] [])) tg
          refine XS.iconst X168.here hx rfl (hb hby at_210) ?_
          show Steps p.tables e below (T168.setTop (mkF m 211 #[.val (.int i0), .val (.int i1), .val (.int i2), .val (.int i3), .val (.int (i0 &&& (3 : Int32))), .val (.int c2), .val (.int c5), .val (.int c8), .val (.ref b142), .val (.ref b154), .val .null, .val .null] [(.int (1 : Int32))])) tg
          refine XS.goto X168.here hx rfl (pc0 := 211) (pc' := 215) rfl (hb hby at_211) (by decide) (by decide) ?_
          show Steps p.tables e below (T168.setTop (mkF m 215 #[.val (.int i0), .val (.int i1), .val (.int i2), .val (.int i3), .val (.int (i0 &&& (3 : Int32))), .val (.int c2), .val (.int c5), .val (.int c8), .val (.ref b142), .val (.ref b154), .val .null, .val .null] [(.int (1 : Int32))])) tg
          exact kg
        refine gsW c171 ?_
        refine goutW (v := some (.int (1 : Int32))) X168 hS (Nat.le_trans hk (Nat.le_trans (Nat.le_trans (Nat.le_trans (Nat.le_trans (Nat.le_trans (Nat.le_trans (Nat.le_trans (Nat.le_trans (Nat.le_trans (Nat.le_trans K2q.1 K5q.1) K8q.1) E142.1) (Keep.of_wr W145).1) (Keep.of_wr W148).1) (Keep.of_wr W151).1) E154.1) K159q.1) K164q.1) K168q.1)) hZ (own_EW hw) hh rfl R170 Bd.notSynchronized (fun h => by rw [Bd.returns] at h; cases h) (by decide) (by decide) ?_ (fun fs hr => retN X168 hx (t := .boolean) Bd.returns (by simp) (hb hby at_215) hr)
        exact ⟨rfl, N168⟩
set_option maxRecDepth 65536 in
set_option maxHeartbeats 40000000 in
theorem comes_1 {Post : Tables → Env → Array Value → State → Outcome → State → Prop} (hpost : ∀ tb e args s v u, (limb_1_1.after args s (.returned v) u = true ∧ limb_1_2.after args s (.returned v) u = true ∧ True) → ReturnedEndW s (.returned v) u (Jvm.fieldLocs frame_1_writes args s ++ Jvm.arrayLocs frame_1_arrays args s ++ Jvm.staticLocs frame_1_statics s) 24 1152 → Post tb e args s (.returned v) u) :
    ArmFor flags0 classFile x code maxLocals ret World_1 tables_1 room_1 Calls_1 rest_1 Pre_1 Post := by
  intro l hfl _ _ p e ha hc hk s m args below hf hA hF happ hP
  obtain ⟨hcalls, hrest, hpre⟩ := hP
  obtain ⟨-, -, -, hnamed, -, -, -, hat⟩ := (Spec.applies_iff hf).mp happ
  obtain ⟨hg, hn⟩ := and_e (Cond.before_iff.mp (show (Jvm.Cond.and given_1 narrow_1).before args s = true from hpre))
  obtain ⟨hcnt, ga0⟩ := and_e hg
  obtain ⟨gi0, ga1⟩ := and_e ga0
  obtain ⟨gi1, ga2⟩ := and_e ga1
  obtain ⟨gi2, ga3⟩ := and_e ga2
  have gi3 := ga3
  obtain ⟨w0, w1, w2, w3, rfl⟩ : ∃ w0 w1 w2 w3 : Value, args = #[w0, w1, w2, w3] := by
    have hs : args.size = 4 := by simpa [Cond.value, given_1] using hcnt
    obtain ⟨L⟩ := args
    match L, hs with
    | [w0, w1, w2, w3], _ => exact ⟨w0, w1, w2, w3, rfl⟩
  have hw := fun d (hd : d ∈ tables_1) => atoms_spec (ws := Jvm.Cond.code x code maxLocals ret :: tables_1) hat d (List.mem_cons_of_mem _ hd)
  obtain ⟨hsets, hown0⟩ := atoms_of _ (rest_1_c_eq ▸ (show rest_1_c.before _ s = true from hrest))
  have hfit : Fit s := fun {y c} hc i hi => by
    obtain ⟨ha, rfl⟩ := Array.getElem?_eq_some_iff.mp hc
    have q := List.all_eq_true.mp ((Array.all_eq_true_iff_forall_mem.mp hF) _ (Array.getElem_mem ha)) i (List.mem_range.mpr hi)
    simpa [Array.getElem?_eq_getElem hi] using q
  obtain ⟨i0, ei0⟩ := is_v gi0
  obtain rfl : w0 = (.int i0) := Option.some.inj ei0
  obtain ⟨i1, ei1⟩ := is_v gi1
  obtain rfl : w1 = (.int i1) := Option.some.inj ei1
  obtain ⟨i2, ei2⟩ := is_v gi2
  obtain rfl : w2 = (.int i2) := Option.some.inj ei2
  obtain ⟨i3, ei3⟩ := is_v gi3
  obtain rfl : w3 = (.int i3) := Option.some.inj ei3
  have n5 := not_v (Cond.before_iff.mp (hsets _ (List.mem_of_getElem? (i := 6) rfl)))
  obtain ⟨cz, ecz⟩ := is_v (Cond.before_iff.mp (hsets _ (List.mem_of_getElem? (i := 5) rfl)))
  have Scz : Sta s s.heap "java/lang/String" "COMPACT_STRINGS" "Z" (.int cz) := Sta.start ecz (Or.inl (hsets _ (List.mem_of_getElem? (i := 4) rfl)))
  have hcz : ¬ (cz = (0 : Int32)) := gotF (Cond.eq_ints ecz (Term.int_eval (0))) n5
  obtain ⟨oe, eoe⟩ := exa_v (Cond.before_iff.mp (hsets _ (List.mem_of_getElem? (i := 2) rfl)))
  have S_oe : Sta s s.heap "java/util/Optional" "EMPTY" "Ljava/util/Optional;" (.ref oe) := Sta.start eoe (Or.inl (hsets _ (List.mem_of_getElem? (i := 1) rfl)))
  have E_oe := Exa.start eoe (Cond.before_iff.mp (hsets _ (List.mem_of_getElem? (i := 2) rfl)))
  have F_oe : Fld s s.heap oe "java/util/Optional" "value" "Ljava/lang/Object;" .null := Fld.start ((fld_at eoe).symm.trans (null_v (Cond.before_iff.mp (hsets _ (List.mem_of_getElem? (i := 3) rfl)))))
  obtain ⟨m0, hn0⟩ := and_e hn
  obtain ⟨m1, hn1⟩ := and_e hn0
  obtain ⟨m2, hn2⟩ := and_e hn1
  obtain ⟨m3, hn3⟩ := and_e hn2
  obtain ⟨m4, hn4⟩ := and_e hn3
  obtain ⟨m5, hn5⟩ := and_e hn4
  obtain ⟨m6, hn6⟩ := and_e hn5
  obtain ⟨m7, hn7⟩ := and_e hn6
  obtain ⟨m8, hn8⟩ := and_e hn7
  obtain ⟨m9, hn9⟩ := and_e hn8
  obtain ⟨m10, hn10⟩ := and_e hn9
  obtain ⟨m11, hn11⟩ := and_e hn10
  obtain ⟨m12, hn12⟩ := and_e hn11
  obtain ⟨m13, hn13⟩ := and_e hn12
  obtain ⟨m14, hn14⟩ := and_e hn13
  obtain ⟨m15, hn15⟩ := and_e hn14
  obtain ⟨m16, hn16⟩ := and_e hn15
  obtain ⟨m17, hn17⟩ := and_e hn16
  obtain ⟨m18, hn18⟩ := and_e hn17
  obtain ⟨m19, hn19⟩ := and_e hn18
  obtain ⟨m20, hn20⟩ := and_e hn19
  obtain ⟨m21, hn21⟩ := and_e hn20
  obtain ⟨m22, hn22⟩ := and_e hn21
  obtain ⟨m23, hn23⟩ := and_e hn22
  obtain ⟨m24, hn24⟩ := and_e hn23
  obtain ⟨m25, hn25⟩ := and_e hn24
  obtain ⟨m26, hn26⟩ := and_e hn25
  obtain ⟨m27, hn27⟩ := and_e hn26
  obtain ⟨m28, hn28⟩ := and_e hn27
  obtain ⟨m29, hn29⟩ := and_e hn28
  obtain ⟨m30, hn30⟩ := and_e hn29
  obtain ⟨m31, hn31⟩ := and_e hn30
  have m32 := hn31
  obtain ⟨va, eva⟩ := arr_v m0
  have S_va : Sta s s.heap "com/example/tranche/tranche/terms/Comparison" "$VALUES" "[Lcom/example/tranche/tranche/terms/Comparison;" (.ref va) := Sta.start eva (Or.inr ⟨(hw _ (List.mem_of_getElem? (i := 28) rfl)), (hw _ (List.mem_of_getElem? (i := 39) rfl))⟩)
  obtain ⟨cva, Ava⟩ := Arr.start eva m0
  have E_va := Exa.start eva m1
  obtain ⟨q1v, q2v⟩ := own_len eva Ava (eqv_i (Term.int_eval (4)) m2)
  obtain ⟨en0, ee0⟩ := exa_v m3
  have S_e0 : Sta s s.heap "com/example/tranche/tranche/terms/Comparison" "BELOW" "Lcom/example/tranche/tranche/terms/Comparison;" (.ref en0) := Sta.start ee0 (Or.inr ⟨(hw _ (List.mem_of_getElem? (i := 28) rfl)), (hw _ (List.mem_of_getElem? (i := 47) rfl))⟩)
  have E_e0 := Exa.start ee0 m3
  have el0 := own_elR (j := 0) eva Ava (by decide) ee0 m4
  obtain ⟨en1, ee1⟩ := exa_v m5
  have S_e1 : Sta s s.heap "com/example/tranche/tranche/terms/Comparison" "AT_MOST" "Lcom/example/tranche/tranche/terms/Comparison;" (.ref en1) := Sta.start ee1 (Or.inr ⟨(hw _ (List.mem_of_getElem? (i := 28) rfl)), (hw _ (List.mem_of_getElem? (i := 48) rfl))⟩)
  have E_e1 := Exa.start ee1 m5
  have el1 := own_elR (j := 1) eva Ava (by decide) ee1 m6
  obtain ⟨en2, ee2⟩ := exa_v m7
  have S_e2 : Sta s s.heap "com/example/tranche/tranche/terms/Comparison" "ABOVE" "Lcom/example/tranche/tranche/terms/Comparison;" (.ref en2) := Sta.start ee2 (Or.inr ⟨(hw _ (List.mem_of_getElem? (i := 28) rfl)), (hw _ (List.mem_of_getElem? (i := 49) rfl))⟩)
  have E_e2 := Exa.start ee2 m7
  have el2 := own_elR (j := 2) eva Ava (by decide) ee2 m8
  obtain ⟨en3, ee3⟩ := exa_v m9
  have S_e3 : Sta s s.heap "com/example/tranche/tranche/terms/Comparison" "AT_LEAST" "Lcom/example/tranche/tranche/terms/Comparison;" (.ref en3) := Sta.start ee3 (Or.inr ⟨(hw _ (List.mem_of_getElem? (i := 28) rfl)), (hw _ (List.mem_of_getElem? (i := 50) rfl))⟩)
  have E_e3 := Exa.start ee3 m9
  have el3 := own_elR (j := 3) eva Ava (by decide) ee3 m10
  have V_va : Arv s s.heap va cva.cls (.object "com/example/tranche/tranche/terms/Comparison") (4 : Int32) [(.ref en0), (.ref en1), (.ref en2), (.ref en3)] .null := Arv.start hfit Ava q1v q2v (by decide) rfl ⟨el0, el1, el2, el3, trivial⟩
  obtain ⟨sn0, es0⟩ := exa_v m11
  have F_e0 : Fld s s.heap en0 "com/example/tranche/tranche/terms/Comparison" "written" "Ljava/lang/String;" (.ref sn0) := Fld.start ((fld_at ee0).symm.trans es0)
  have E_s0 := Exa.start es0 m11
  have C_s0 : Fld s s.heap sn0 "java/lang/String" "coder" "B" (.int (0 : Int32)) := Fld.start ((fld_at es0).symm.trans (eqv_i (Term.int_eval (0)) m12))
  obtain ⟨t0, et0⟩ := arr_v m13
  have G_s0 : Fld s s.heap sn0 "java/lang/String" "value" "[B" (.ref t0) := Fld.start ((fld_at es0).symm.trans et0)
  obtain ⟨ct0, At0⟩ := Arr.start et0 m13
  obtain ⟨q1t0, q2t0⟩ := own_len et0 At0 (eqv_i (Term.int_eval (1)) m14)
  have eb0_0 := own_elI (j := 0) et0 At0 (by decide) m29
  have V_s0 : Arv s s.heap t0 ct0.cls .byte (1 : Int32) [(.int (60 : Int32))] (.int (0 : Int32)) := Arv.start hfit At0 q1t0 q2t0 (by decide) rfl ⟨eb0_0, trivial⟩
  have T_s0 : Str s s.heap sn0 ([60] : List Int32) := ⟨_, _, E_s0, C_s0, G_s0, V_s0⟩
  obtain ⟨sn1, es1⟩ := exa_v m15
  have F_e1 : Fld s s.heap en1 "com/example/tranche/tranche/terms/Comparison" "written" "Ljava/lang/String;" (.ref sn1) := Fld.start ((fld_at ee1).symm.trans es1)
  have E_s1 := Exa.start es1 m15
  have C_s1 : Fld s s.heap sn1 "java/lang/String" "coder" "B" (.int (0 : Int32)) := Fld.start ((fld_at es1).symm.trans (eqv_i (Term.int_eval (0)) m16))
  obtain ⟨t1, et1⟩ := arr_v m17
  have G_s1 : Fld s s.heap sn1 "java/lang/String" "value" "[B" (.ref t1) := Fld.start ((fld_at es1).symm.trans et1)
  obtain ⟨ct1, At1⟩ := Arr.start et1 m17
  obtain ⟨q1t1, q2t1⟩ := own_len et1 At1 (eqv_i (Term.int_eval (2)) m18)
  have eb1_0 := own_elI (j := 0) et1 At1 (by decide) m27
  have eb1_1 := own_elI (j := 1) et1 At1 (by decide) m31
  have V_s1 : Arv s s.heap t1 ct1.cls .byte (2 : Int32) [(.int (60 : Int32)), (.int (61 : Int32))] (.int (0 : Int32)) := Arv.start hfit At1 q1t1 q2t1 (by decide) rfl ⟨eb1_0, eb1_1, trivial⟩
  have T_s1 : Str s s.heap sn1 ([60, 61] : List Int32) := ⟨_, _, E_s1, C_s1, G_s1, V_s1⟩
  obtain ⟨sn2, es2⟩ := exa_v m19
  have F_e2 : Fld s s.heap en2 "com/example/tranche/tranche/terms/Comparison" "written" "Ljava/lang/String;" (.ref sn2) := Fld.start ((fld_at ee2).symm.trans es2)
  have E_s2 := Exa.start es2 m19
  have C_s2 : Fld s s.heap sn2 "java/lang/String" "coder" "B" (.int (0 : Int32)) := Fld.start ((fld_at es2).symm.trans (eqv_i (Term.int_eval (0)) m20))
  obtain ⟨t2, et2⟩ := arr_v m21
  have G_s2 : Fld s s.heap sn2 "java/lang/String" "value" "[B" (.ref t2) := Fld.start ((fld_at es2).symm.trans et2)
  obtain ⟨ct2, At2⟩ := Arr.start et2 m21
  obtain ⟨q1t2, q2t2⟩ := own_len et2 At2 (eqv_i (Term.int_eval (1)) m22)
  have eb2_0 := own_elI (j := 0) et2 At2 (by decide) m30
  have V_s2 : Arv s s.heap t2 ct2.cls .byte (1 : Int32) [(.int (62 : Int32))] (.int (0 : Int32)) := Arv.start hfit At2 q1t2 q2t2 (by decide) rfl ⟨eb2_0, trivial⟩
  have T_s2 : Str s s.heap sn2 ([62] : List Int32) := ⟨_, _, E_s2, C_s2, G_s2, V_s2⟩
  obtain ⟨sn3, es3⟩ := exa_v m23
  have F_e3 : Fld s s.heap en3 "com/example/tranche/tranche/terms/Comparison" "written" "Ljava/lang/String;" (.ref sn3) := Fld.start ((fld_at ee3).symm.trans es3)
  have E_s3 := Exa.start es3 m23
  have C_s3 : Fld s s.heap sn3 "java/lang/String" "coder" "B" (.int (0 : Int32)) := Fld.start ((fld_at es3).symm.trans (eqv_i (Term.int_eval (0)) m24))
  obtain ⟨t3, et3⟩ := arr_v m25
  have G_s3 : Fld s s.heap sn3 "java/lang/String" "value" "[B" (.ref t3) := Fld.start ((fld_at es3).symm.trans et3)
  obtain ⟨ct3, At3⟩ := Arr.start et3 m25
  obtain ⟨q1t3, q2t3⟩ := own_len et3 At3 (eqv_i (Term.int_eval (2)) m26)
  have eb3_0 := own_elI (j := 0) et3 At3 (by decide) m28
  have eb3_1 := own_elI (j := 1) et3 At3 (by decide) m32
  have V_s3 : Arv s s.heap t3 ct3.cls .byte (2 : Int32) [(.int (62 : Int32)), (.int (61 : Int32))] (.int (0 : Int32)) := Arv.start hfit At3 q1t3 q2t3 (by decide) rfl ⟨eb3_0, eb3_1, trivial⟩
  have T_s3 : Str s s.heap sn3 ([62, 61] : List Int32) := ⟨_, _, E_s3, C_s3, G_s3, V_s3⟩
  have hC : CHv s own_EL s.vm s.heap := CHv.start (own_EW hw) (fun p hp => hcalls.1 p hp) (hsets _ (List.mem_of_getElem? (i := 6) rfl)) (hw _ (List.mem_of_getElem? (i := 19) rfl)) (hw _ (List.mem_of_getElem? (i := 6) rfl))
  obtain ⟨n, o, h1, h2, h3, _, L, rfl, ⟨rfl, N⟩, -, hq⟩ := rm_law l s _ hw tables_1 i0 i1 i2 i3 cz oe va cva.cls en0 en1 en2 en3 sn0 sn1 sn2 sn3 s.heap s.heap.size (Nat.le_refl _) (Old.start s) Scz hcz S_oe E_oe F_oe S_va V_va E_va F_e0 F_e1 F_e2 F_e3 T_s0 T_s1 T_s2 T_s3 S_e0 S_e1 S_e2 S_e3 E_e0 E_e1 E_e2 E_e3 p e ha hc hk s m _ below hf ((Spec.applies_iff_loose hf).mp happ).1 ⟨rfl, State.Warmed39.refl s, rfl, hC⟩ trivial
  refine ⟨n, _, h1, h2, h3, hpost _ _ _ _ _ _ ⟨Cond.after_iff.mpr rfl, Cond.after_iff.mpr (eq_i res_at (Term.int_eval (1)) rfl), trivial⟩ ⟨hq.1, hq.2.1, hq.2.2.1, (hq.2.2.2.sift fun y hy => Or.inr (N y hy)).mono (by decide) (by decide)⟩⟩
theorem main_1_1 : Claimed_1_1 := comes_1 fun _ _ _ _ _ _ h hF => ⟨h.1, hF⟩
theorem main_1_2 : Claimed_1_2 := comes_1 fun _ _ _ _ _ _ h hF => ⟨h.2.1, hF⟩
end Jvm.Pilot.@@N@@
namespace Jvm.Pilot.@@N@@
open Jvm Jvm.ClassFile Sem Op Lib Jvm.Free Jvm.Stand Jvm.Pilot.@@N@@.Jvm.D
/-! MADE BY PROGRAM (witnessworld.py) out of the Statement's table words and the real class files: 24 classes; the members and pool entries that the words name. The judged class is class 1, her method 2. -/
namespace start1
open Jvm.ClassFile
def u (s : String) : CpInfo := .utf8 (stringToUtf16 s)
/-- a pool by its gaps: so many unusable entries, then the entry; so many at the end -/
def gap : Nat → List CpInfo → List CpInfo
  | 0, r => r
  | n + 1, r => .unusable :: gap n r
def poolList (es : List (Nat × CpInfo)) (last : Nat) : List CpInfo := es.foldr (fun e r => gap e.1 (e.2 :: r)) (gap last [])
def pool (es : List (Nat × CpInfo)) (last : Nat) : Array CpInfo := ⟨poolList es last⟩
def fileOf (pool : Array CpInfo) (this : Nat) (attrs : Array Attribute := #[]) (ms : Array MethodInfo := #[]) (fl : Nat := 33) (sup : Nat := 0) (ifs : Array Nat := #[]) (fds : Array FieldInfo := #[]) : ClassFile where
  minorVersion := 0
  majorVersion := 65
  constantPool := pool
  accessFlags := fl
  thisClass := this
  superClass := sup
  interfaces := ifs
  fields := fds
  methods := ms
  attributes := attrs
def plain (name : String) (sup : Option ClassId) : Class where
  name := name
  kind := .ordinary
  loader := none
  accessFlags := 33
  super := sup
  interfaces := #[]
  cf := none
  fields := #[]
  methods := #[]
  instanceTypes := #[]
  staticTypes := #[]
  resolved := #[]
  callSites := []
  init := .initialized
  statics := none
  mirror := none

def pool0 : Array CpInfo := pool [(5, u "<init>"), (0, u "()V"), (1, .class_ 10), (1, u "java/lang/Object"), (85, u "clone"), (0, u "()Ljava/lang/Object;")] 26

def k0c0 : Code := { maxStack := 0, maxLocals := 1, code := object_method_1_code, exceptionTable := #[], attributes := #[] }
def k0m0 : Method := { name := "<init>", desc := "()V", sig := { parameters := [], returnType := none }, accessFlags := 1, code := some k0c0 }
def k0m1 : Method := { name := "clone", desc := "()Ljava/lang/Object;", sig := { parameters := [], returnType := some (.object "java/lang/Object") }, accessFlags := 260, code := none }
/-- java/lang/Object -/
def k0 : Class := { plain "java/lang/Object" none with
  accessFlags := 33
  interfaces := #[]
  cf := some (fileOf pool0 8 #[] #[{ accessFlags := 1, nameIndex := 5, descriptorIndex := 6, attributes := #[] }, { accessFlags := 260, nameIndex := 96, descriptorIndex := 97, attributes := #[] }] 33 0 #[] #[])
  fields := #[]
  methods := #[k0m0, k0m1]
  instanceTypes := #[]
  staticTypes := #[]
  resolved := Array.replicate 124 none
  statics := none }

def pool1 : Array CpInfo := pool [(2, .class_ 4), (1, u "java/lang/Object"), (0, u "<init>"), (0, u "()V"), (0, .methodref 8 9), (0, .class_ 10), (0, .nameAndType 11 12), (0, u "com/example/tranche/tranche/terms/ComparisonWrittenPinLaw"), (0, u "pick"), (0, u "(I)C"), (0, .class_ 14), (0, u "java/lang/String"), (0, .methodref 13 16), (0, .nameAndType 5 17), (0, u "([C)V"), (0, .methodref 19 20), (0, .class_ 21), (0, .nameAndType 22 23), (0, u "com/example/tranche/tranche/terms/Comparison"), (0, u "written"), (0, u "(Ljava/lang/String;)Ljava/util/Optional;"), (0, .methodref 25 26), (0, .class_ 27), (0, .nameAndType 28 29), (0, u "java/util/Optional"), (0, u "orElse"), (0, u "(Ljava/lang/Object;)Ljava/lang/Object;"), (0, .fieldref 19 31), (0, .nameAndType 32 33), (0, u "BELOW"), (0, u "Lcom/example/tranche/tranche/terms/Comparison;"), (0, .fieldref 19 35), (0, .nameAndType 36 33), (0, u "ABOVE"), (0, .fieldref 19 38), (0, .nameAndType 39 33), (0, u "AT_MOST"), (0, .fieldref 19 41), (0, .nameAndType 42 33), (0, u "AT_LEAST"), (3, u "law"), (0, u "(IIII)Z")] 4

def k1m0 : Method := { name := "<init>", desc := "()V", sig := { parameters := [], returnType := none }, accessFlags := 1, code := none }
def k1c1 : Code := { maxStack := 2, maxLocals := 3, code := method_2_code, exceptionTable := #[], attributes := #[] }
def k1m1 : Method := { name := "pick", desc := "(I)C", sig := { parameters := [.int], returnType := some .char }, accessFlags := 10, code := some k1c1 }
def k1c2 : Code := { maxStack := 4, maxLocals := 12, code := code, exceptionTable := #[], attributes := #[] }
def k1m2 : Method := { name := "law", desc := "(IIII)Z", sig := { parameters := [.int, .int, .int, .int], returnType := some .boolean }, accessFlags := 9, code := some k1c2 }
/-- com/example/tranche/tranche/terms/ComparisonWrittenPinLaw -/
def k1 : Class := { plain "com/example/tranche/tranche/terms/ComparisonWrittenPinLaw" (some 0) with
  accessFlags := 49
  interfaces := #[]
  cf := some (fileOf pool1 8 #[] #[{ accessFlags := 1, nameIndex := 5, descriptorIndex := 6, attributes := #[] }, { accessFlags := 10, nameIndex := 11, descriptorIndex := 12, attributes := #[] }, { accessFlags := 9, nameIndex := 46, descriptorIndex := 47, attributes := #[] }] 49 2 #[] #[])
  fields := #[]
  methods := #[k1m0, k1m1, k1m2]
  instanceTypes := #[]
  staticTypes := #[]
  resolved := Array.replicate 52 none
  statics := none }

def pool2 : Array CpInfo := pool [(1, .class_ 2), (0, u "java/io/Serializable"), (0, .class_ 4), (0, u "java/lang/Object")] 2

/-- java/io/Serializable -/
def k2 : Class := { plain "java/io/Serializable" (some 0) with
  accessFlags := 1537
  interfaces := #[]
  cf := some (fileOf pool2 1 #[] #[] 1537 3 #[] #[])
  fields := #[]
  methods := #[]
  instanceTypes := #[]
  staticTypes := #[]
  resolved := Array.replicate 7 none
  statics := none }

def pool3 : Array CpInfo := pool [(1, .class_ 2), (0, u "java/lang/Comparable"), (0, .class_ 4), (0, u "java/lang/Object")] 7

/-- java/lang/Comparable -/
def k3 : Class := { plain "java/lang/Comparable" (some 0) with
  accessFlags := 1537
  interfaces := #[]
  cf := some (fileOf pool3 1 #[] #[] 1537 3 #[] #[])
  fields := #[]
  methods := #[]
  instanceTypes := #[]
  staticTypes := #[]
  resolved := Array.replicate 12 none
  statics := none }

def pool4 : Array CpInfo := pool [(2, .class_ 4), (1, u "java/lang/CharSequence"), (42, .class_ 48), (0, u "java/lang/CharSequence$1CodePointIterator"), (10, .class_ 60), (0, u "java/lang/CharSequence$1CharIterator"), (5, .class_ 67), (0, u "java/lang/Object")] 63

/-- java/lang/CharSequence -/
def k4 : Class := { plain "java/lang/CharSequence" (some 0) with
  accessFlags := 1537
  interfaces := #[]
  cf := some (fileOf pool4 2 #[.nestMembers #[47, 59]] #[] 1537 66 #[] #[])
  fields := #[]
  methods := #[]
  instanceTypes := #[]
  staticTypes := #[]
  resolved := Array.replicate 131 none
  statics := none }

def pool5 : Array CpInfo := pool [(1, .class_ 2), (0, u "java/lang/constant/Constable"), (0, .class_ 4), (0, u "java/lang/Object")] 6

/-- java/lang/constant/Constable -/
def k5 : Class := { plain "java/lang/constant/Constable" (some 0) with
  accessFlags := 1537
  interfaces := #[]
  cf := some (fileOf pool5 1 #[] #[] 1537 3 #[] #[])
  fields := #[]
  methods := #[]
  instanceTypes := #[]
  staticTypes := #[]
  resolved := Array.replicate 11 none
  statics := none }

def pool6 : Array CpInfo := pool [(1, .class_ 2), (0, u "java/lang/constant/ConstantDesc"), (0, .class_ 4), (0, u "java/lang/Object")] 32

/-- java/lang/constant/ConstantDesc -/
def k6 : Class := { plain "java/lang/constant/ConstantDesc" (some 0) with
  accessFlags := 1537
  interfaces := #[]
  cf := some (fileOf pool6 1 #[] #[] 1537 3 #[] #[])
  fields := #[]
  methods := #[]
  instanceTypes := #[]
  staticTypes := #[]
  resolved := Array.replicate 37 none
  statics := none }

def pool7 : Array CpInfo := pool [(1, .methodref 2 3), (0, .class_ 4), (0, .nameAndType 5 6), (0, u "java/lang/Object"), (0, u "<init>"), (0, u "()V"), (0, .string 8), (0, u ""), (0, .fieldref 10 11), (0, .class_ 12), (0, .nameAndType 13 14), (0, u "java/lang/String"), (0, u "value"), (0, u "[B"), (0, .fieldref 10 16), (0, .nameAndType 17 18), (0, u "coder"), (0, u "B"), (2, u "hash"), (0, u "I"), (2, u "hashIsZero"), (0, u "Z"), (0, .methodref 10 28), (0, .nameAndType 5 29), (0, u "([CIILjava/lang/Void;)V"), (8, .fieldref 10 39), (0, .nameAndType 40 26), (0, u "COMPACT_STRINGS"), (1, .class_ 44), (1, u "java/lang/StringUTF16"), (0, u "compress"), (1, .methodref 42 48), (0, .nameAndType 49 50), (0, u "coderFromArrayLen"), (0, u "([BI)B"), (56, .class_ 109), (1, u "java/lang/StringLatin1"), (67, .methodref 42 178), (0, .nameAndType 45 179), (0, u "([CII)[B"), (361, .methodref 107 542), (0, .nameAndType 543 544), (0, u "equals"), (0, u "([B[B)Z"), (28, u "(Ljava/lang/Object;)Z"), (1, .class_ 576), (0, u "java/lang/CharSequence"), (22, u "CASE_INSENSITIVE_ORDER"), (0, u "Ljava/util/Comparator;"), (409, u "([C)V"), (90, u "serialPersistentFields"), (0, u "[Ljava/io/ObjectStreamField;"), (0, .class_ 1104), (0, u "java/lang/String$CaseInsensitiveComparator"), (1, .class_ 1107), (0, u "java/io/Serializable"), (0, .class_ 1109), (0, u "java/lang/Comparable"), (0, .class_ 1111), (0, u "java/lang/constant/Constable"), (0, .class_ 1113), (0, u "java/lang/constant/ConstantDesc"), (2, u "serialVersionUID"), (0, u "J"), (3, u "REPL"), (0, u "C"), (2, u "LATIN1"), (1, u "UTF16")] 323

def k7m0 : Method := { name := "<init>", desc := "()V", sig := { parameters := [], returnType := none }, accessFlags := 1, code := none }
def k7c1 : Code := { maxStack := 5, maxLocals := 2, code := jdk_42_method_3_code, exceptionTable := #[], attributes := #[] }
def k7m1 : Method := { name := "<init>", desc := "([C)V", sig := { parameters := [(.array .char)], returnType := none }, accessFlags := 1, code := some k7c1 }
def k7c2 : Code := { maxStack := 2, maxLocals := 3, code := jdk_42_method_66_code, exceptionTable := #[], attributes := #[] }
def k7m2 : Method := { name := "equals", desc := "(Ljava/lang/Object;)Z", sig := { parameters := [(.object "java/lang/Object")], returnType := some .boolean }, accessFlags := 1, code := some k7c2 }
def k7c3 : Code := { maxStack := 4, maxLocals := 6, code := jdk_42_method_149_code, exceptionTable := #[], attributes := #[] }
def k7m3 : Method := { name := "<init>", desc := "([CIILjava/lang/Void;)V", sig := { parameters := [(.array .char), .int, .int, (.object "java/lang/Void")], returnType := none }, accessFlags := 2, code := some k7c3 }
/-- java/lang/String -/
def k7 : Class := { plain "java/lang/String" (some 0) with
  accessFlags := 49
  interfaces := #[2, 3, 4, 5, 6]
  cf := some (fileOf pool7 10 #[.nestMembers #[1103]] #[{ accessFlags := 1, nameIndex := 5, descriptorIndex := 6, attributes := #[] }, { accessFlags := 1, nameIndex := 5, descriptorIndex := 1010, attributes := #[] }, { accessFlags := 1, nameIndex := 543, descriptorIndex := 573, attributes := #[] }, { accessFlags := 2, nameIndex := 5, descriptorIndex := 29, attributes := #[] }] 49 2 #[1106, 1108, 575, 1110, 1112] #[{ accessFlags := 18, nameIndex := 13, descriptorIndex := 14, attributes := #[] }, { accessFlags := 18, nameIndex := 17, descriptorIndex := 18, attributes := #[] }, { accessFlags := 2, nameIndex := 21, descriptorIndex := 22, attributes := #[] }, { accessFlags := 2, nameIndex := 25, descriptorIndex := 26, attributes := #[] }, { accessFlags := 26, nameIndex := 1116, descriptorIndex := 1117, attributes := #[] }, { accessFlags := 24, nameIndex := 40, descriptorIndex := 26, attributes := #[] }, { accessFlags := 26, nameIndex := 1101, descriptorIndex := 1102, attributes := #[] }, { accessFlags := 26, nameIndex := 1121, descriptorIndex := 1122, attributes := #[] }, { accessFlags := 25, nameIndex := 599, descriptorIndex := 600, attributes := #[] }, { accessFlags := 24, nameIndex := 1125, descriptorIndex := 18, attributes := #[] }, { accessFlags := 24, nameIndex := 1127, descriptorIndex := 18, attributes := #[] }])
  fields := #[{ name := "value", type := (.array .byte), accessFlags := 18, slot := 0, constantValue := 0 }, { name := "coder", type := .byte, accessFlags := 18, slot := 1, constantValue := 0 }, { name := "hash", type := .int, accessFlags := 2, slot := 2, constantValue := 0 }, { name := "hashIsZero", type := .boolean, accessFlags := 2, slot := 3, constantValue := 0 }, { name := "serialVersionUID", type := .long, accessFlags := 26, slot := 0, constantValue := 0 }, { name := "COMPACT_STRINGS", type := .boolean, accessFlags := 24, slot := 1, constantValue := 0 }, { name := "serialPersistentFields", type := (.array (.object "java/io/ObjectStreamField")), accessFlags := 26, slot := 2, constantValue := 0 }, { name := "REPL", type := .char, accessFlags := 26, slot := 3, constantValue := 0 }, { name := "CASE_INSENSITIVE_ORDER", type := (.object "java/util/Comparator"), accessFlags := 25, slot := 4, constantValue := 0 }, { name := "LATIN1", type := .byte, accessFlags := 24, slot := 5, constantValue := 0 }, { name := "UTF16", type := .byte, accessFlags := 24, slot := 6, constantValue := 0 }]
  methods := #[k7m0, k7m1, k7m2, k7m3]
  instanceTypes := #[(.array .byte), .byte, .int, .boolean]
  staticTypes := #[.long, .boolean, (.array (.object "java/io/ObjectStreamField")), .char, (.object "java/util/Comparator"), .byte, .byte]
  resolved := Array.replicate 1451 none
  statics := some 0 }

def pool8 : Array CpInfo := pool [(2, .class_ 4), (1, u "java/lang/Enum"), (0, u "name"), (0, u "Ljava/lang/String;"), (2, u "ordinal"), (0, u "I"), (1, .class_ 14), (1, u "java/lang/Object"), (4, u "hash"), (86, .class_ 108), (1, u "java/lang/Enum$EnumDesc"), (2, .class_ 112), (0, u "java/lang/constant/Constable"), (0, .class_ 114), (0, u "java/lang/Comparable"), (0, .class_ 116), (0, u "java/io/Serializable")] 87

/-- java/lang/Enum -/
def k8 : Class := { plain "java/lang/Enum" (some 0) with
  accessFlags := 1057
  interfaces := #[5, 3, 2]
  cf := some (fileOf pool8 2 #[.nestMembers #[106]] #[] 1057 12 #[111, 113, 115] #[{ accessFlags := 18, nameIndex := 5, descriptorIndex := 6, attributes := #[] }, { accessFlags := 18, nameIndex := 9, descriptorIndex := 10, attributes := #[] }, { accessFlags := 2, nameIndex := 19, descriptorIndex := 10, attributes := #[] }])
  fields := #[{ name := "name", type := (.object "java/lang/String"), accessFlags := 18, slot := 0, constantValue := 0 }, { name := "ordinal", type := .int, accessFlags := 18, slot := 1, constantValue := 0 }, { name := "hash", type := .int, accessFlags := 2, slot := 2, constantValue := 0 }]
  methods := #[]
  instanceTypes := #[(.object "java/lang/String"), .int, .int]
  staticTypes := #[]
  resolved := Array.replicate 204 none
  statics := none }

def pool9 : Array CpInfo := pool [(1, .class_ 2), (0, u "com/example/tranche/tranche/terms/Comparison"), (2, u "BELOW"), (0, u "Lcom/example/tranche/tranche/terms/Comparison;"), (2, u "AT_MOST"), (2, u "ABOVE"), (2, u "AT_LEAST"), (0, .fieldref 1 17), (0, .nameAndType 18 19), (0, u "$VALUES"), (0, u "[Lcom/example/tranche/tranche/terms/Comparison;"), (0, .methodref 21 22), (0, .class_ 19), (0, .nameAndType 23 24), (0, u "clone"), (0, u "()Ljava/lang/Object;"), (1, .class_ 28), (1, u "java/lang/Enum"), (6, .fieldref 1 36), (0, .nameAndType 37 38), (0, u "written"), (0, u "Ljava/lang/String;"), (0, .methodref 40 41), (0, .class_ 42), (0, .nameAndType 43 44), (0, u "java/util/Optional"), (0, u "empty"), (0, u "()Ljava/util/Optional;"), (0, .methodref 1 46), (0, .nameAndType 47 48), (0, u "values"), (0, u "()[Lcom/example/tranche/tranche/terms/Comparison;"), (0, .methodref 50 51), (0, .class_ 52), (0, .nameAndType 53 54), (0, u "java/lang/String"), (0, u "equals"), (0, u "(Ljava/lang/Object;)Z"), (0, .methodref 40 56), (0, .nameAndType 57 58), (0, u "of"), (0, u "(Ljava/lang/Object;)Ljava/util/Optional;"), (73, u "(Ljava/lang/String;)Ljava/util/Optional;")] 11

def k9c0 : Code := { maxStack := 1, maxLocals := 0, code := prog_36_method_1_code, exceptionTable := #[], attributes := #[] }
def k9m0 : Method := { name := "values", desc := "()[Lcom/example/tranche/tranche/terms/Comparison;", sig := { parameters := [], returnType := some (.array (.object "com/example/tranche/tranche/terms/Comparison")) }, accessFlags := 9, code := some k9c0 }
def k9c1 : Code := { maxStack := 2, maxLocals := 6, code := prog_36_method_4_code, exceptionTable := #[], attributes := #[] }
def k9m1 : Method := { name := "written", desc := "(Ljava/lang/String;)Ljava/util/Optional;", sig := { parameters := [(.object "java/lang/String")], returnType := some (.object "java/util/Optional") }, accessFlags := 8, code := some k9c1 }
/-- com/example/tranche/tranche/terms/Comparison -/
def k9 : Class := { plain "com/example/tranche/tranche/terms/Comparison" (some 8) with
  accessFlags := 16433
  interfaces := #[]
  cf := some (fileOf pool9 1 #[] #[{ accessFlags := 9, nameIndex := 47, descriptorIndex := 48, attributes := #[] }, { accessFlags := 8, nameIndex := 37, descriptorIndex := 132, attributes := #[] }] 16433 26 #[] #[{ accessFlags := 16409, nameIndex := 5, descriptorIndex := 6, attributes := #[] }, { accessFlags := 16409, nameIndex := 9, descriptorIndex := 6, attributes := #[] }, { accessFlags := 16409, nameIndex := 12, descriptorIndex := 6, attributes := #[] }, { accessFlags := 16409, nameIndex := 15, descriptorIndex := 6, attributes := #[] }, { accessFlags := 18, nameIndex := 37, descriptorIndex := 38, attributes := #[] }, { accessFlags := 4122, nameIndex := 18, descriptorIndex := 19, attributes := #[] }])
  fields := #[{ name := "BELOW", type := (.object "com/example/tranche/tranche/terms/Comparison"), accessFlags := 16409, slot := 0, constantValue := 0 }, { name := "AT_MOST", type := (.object "com/example/tranche/tranche/terms/Comparison"), accessFlags := 16409, slot := 1, constantValue := 0 }, { name := "ABOVE", type := (.object "com/example/tranche/tranche/terms/Comparison"), accessFlags := 16409, slot := 2, constantValue := 0 }, { name := "AT_LEAST", type := (.object "com/example/tranche/tranche/terms/Comparison"), accessFlags := 16409, slot := 3, constantValue := 0 }, { name := "written", type := (.object "java/lang/String"), accessFlags := 18, slot := 3, constantValue := 0 }, { name := "$VALUES", type := (.array (.object "com/example/tranche/tranche/terms/Comparison")), accessFlags := 4122, slot := 4, constantValue := 0 }]
  methods := #[k9m0, k9m1]
  instanceTypes := #[(.object "java/lang/String"), .int, .int, (.object "java/lang/String")]
  staticTypes := #[(.object "com/example/tranche/tranche/terms/Comparison"), (.object "com/example/tranche/tranche/terms/Comparison"), (.object "com/example/tranche/tranche/terms/Comparison"), (.object "com/example/tranche/tranche/terms/Comparison"), (.array (.object "com/example/tranche/tranche/terms/Comparison"))]
  resolved := Array.replicate 144 none
  statics := some 1 }

def pool10 : Array CpInfo := pool [(1, .fieldref 2 3), (0, .class_ 4), (0, .nameAndType 5 6), (0, u "java/util/Optional"), (0, u "EMPTY"), (0, u "Ljava/util/Optional;"), (0, .methodref 8 9), (0, .class_ 10), (0, .nameAndType 11 12), (0, u "java/lang/Object"), (0, u "<init>"), (0, u "()V"), (0, .fieldref 2 14), (0, .nameAndType 15 16), (0, u "value"), (0, u "Ljava/lang/Object;"), (0, .methodref 18 19), (0, .class_ 20), (0, .nameAndType 21 22), (0, u "java/util/Objects"), (0, u "requireNonNull"), (0, u "(Ljava/lang/Object;)Ljava/lang/Object;"), (0, .methodref 2 24), (0, .nameAndType 11 25), (0, u "(Ljava/lang/Object;)V"), (29, u "empty"), (0, u "()Ljava/util/Optional;"), (8, u "(Ljava/lang/Object;)Ljava/util/Optional;"), (16, u "of"), (82, u "orElse")] 21

def k10c0 : Code := { maxStack := 1, maxLocals := 1, code := jdk_32_method_1_code, exceptionTable := #[], attributes := #[] }
def k10m0 : Method := { name := "empty", desc := "()Ljava/util/Optional;", sig := { parameters := [], returnType := some (.object "java/util/Optional") }, accessFlags := 9, code := some k10c0 }
def k10c1 : Code := { maxStack := 2, maxLocals := 2, code := jdk_32_method_2_code, exceptionTable := #[], attributes := #[] }
def k10m1 : Method := { name := "<init>", desc := "(Ljava/lang/Object;)V", sig := { parameters := [(.object "java/lang/Object")], returnType := none }, accessFlags := 2, code := some k10c1 }
def k10c2 : Code := { maxStack := 3, maxLocals := 1, code := jdk_32_method_3_code, exceptionTable := #[], attributes := #[] }
def k10m2 : Method := { name := "of", desc := "(Ljava/lang/Object;)Ljava/util/Optional;", sig := { parameters := [(.object "java/lang/Object")], returnType := some (.object "java/util/Optional") }, accessFlags := 9, code := some k10c2 }
def k10c3 : Code := { maxStack := 1, maxLocals := 2, code := jdk_32_method_15_code, exceptionTable := #[], attributes := #[] }
def k10m3 : Method := { name := "orElse", desc := "(Ljava/lang/Object;)Ljava/lang/Object;", sig := { parameters := [(.object "java/lang/Object")], returnType := some (.object "java/lang/Object") }, accessFlags := 1, code := some k10c3 }
/-- java/util/Optional -/
def k10 : Class := { plain "java/util/Optional" (some 0) with
  accessFlags := 49
  interfaces := #[]
  cf := some (fileOf pool10 2 #[] #[{ accessFlags := 9, nameIndex := 55, descriptorIndex := 56, attributes := #[] }, { accessFlags := 2, nameIndex := 11, descriptorIndex := 25, attributes := #[] }, { accessFlags := 9, nameIndex := 82, descriptorIndex := 65, attributes := #[] }, { accessFlags := 1, nameIndex := 165, descriptorIndex := 22, attributes := #[] }] 49 8 #[] #[{ accessFlags := 26, nameIndex := 5, descriptorIndex := 6, attributes := #[] }, { accessFlags := 18, nameIndex := 15, descriptorIndex := 16, attributes := #[] }])
  fields := #[{ name := "EMPTY", type := (.object "java/util/Optional"), accessFlags := 26, slot := 0, constantValue := 0 }, { name := "value", type := (.object "java/lang/Object"), accessFlags := 18, slot := 0, constantValue := 0 }]
  methods := #[k10m0, k10m1, k10m2, k10m3]
  instanceTypes := #[(.object "java/lang/Object")]
  staticTypes := #[(.object "java/util/Optional")]
  resolved := Array.replicate 187 none
  statics := some 2 }

def pool11 : Array CpInfo := pool [(1, .class_ 2), (0, u "java/lang/Cloneable"), (0, .class_ 4), (0, u "java/lang/Object")] 2

/-- java/lang/Cloneable -/
def k11 : Class := { plain "java/lang/Cloneable" (some 0) with
  accessFlags := 1537
  interfaces := #[]
  cf := some (fileOf pool11 1 #[] #[] 1537 3 #[] #[])
  fields := #[]
  methods := #[]
  instanceTypes := #[]
  staticTypes := #[]
  resolved := Array.replicate 7 none
  statics := none }

def pool12 : Array CpInfo := pool [(4, .class_ 6), (1, u "java/lang/Object"), (0, u "<init>"), (0, u "()V"), (5, .class_ 16), (1, u "java/lang/StringLatin1"), (104, u "$assertionsDisabled"), (0, u "Z"), (98, .class_ 223), (1, u "java/lang/StringLatin1$LinesSpliterator"), (57, u "equals"), (0, u "([B[B)Z"), (107, .class_ 391), (0, u "java/lang/StringLatin1$CharsSpliterator")] 3

def k12m0 : Method := { name := "<init>", desc := "()V", sig := { parameters := [], returnType := none }, accessFlags := 0, code := none }
def k12c1 : Code := { maxStack := 3, maxLocals := 3, code := jdk_43_method_13_code, exceptionTable := #[], attributes := #[] }
def k12m1 : Method := { name := "equals", desc := "([B[B)Z", sig := { parameters := [(.array .byte), (.array .byte)], returnType := some .boolean }, accessFlags := 9, code := some k12c1 }
/-- java/lang/StringLatin1 -/
def k12 : Class := { plain "java/lang/StringLatin1" (some 0) with
  accessFlags := 48
  interfaces := #[]
  cf := some (fileOf pool12 14 #[.nestMembers #[390, 221]] #[{ accessFlags := 0, nameIndex := 7, descriptorIndex := 8, attributes := #[] }, { accessFlags := 9, nameIndex := 281, descriptorIndex := 282, attributes := #[] }] 48 4 #[] #[{ accessFlags := 4120, nameIndex := 121, descriptorIndex := 122, attributes := #[] }])
  fields := #[{ name := "$assertionsDisabled", type := .boolean, accessFlags := 4120, slot := 0, constantValue := 0 }]
  methods := #[k12m0, k12m1]
  instanceTypes := #[]
  staticTypes := #[.boolean]
  resolved := Array.replicate 395 none
  statics := none }

def pool13 : Array CpInfo := pool [(6, .class_ 8), (1, u "java/lang/Object"), (0, u "<init>"), (0, u "()V"), (1, .class_ 14), (1, u "java/lang/StringUTF16"), (31, u "$assertionsDisabled"), (0, u "Z"), (13, u "HI_BYTE_SHIFT"), (0, u "I"), (2, u "LO_BYTE_SHIFT"), (49, .methodref 12 116), (0, .nameAndType 117 118), (0, u "compress"), (0, u "([CI[BII)I"), (3, u "([CII)[B"), (138, u "coderFromArrayLen"), (0, u "([BI)B"), (106, .class_ 371), (1, u "java/lang/StringUTF16$LinesSpliterator"), (58, u "MAX_LENGTH"), (196, .class_ 628), (0, u "java/lang/StringUTF16$CodePointsSpliterator"), (0, .class_ 630), (0, u "java/lang/StringUTF16$CharsSpliterator")] 4

def k13m0 : Method := { name := "<init>", desc := "()V", sig := { parameters := [], returnType := none }, accessFlags := 0, code := none }
def k13c1 : Code := { maxStack := 2, maxLocals := 2, code := jdk_52_method_15_code, exceptionTable := #[], attributes := #[] }
def k13m1 : Method := { name := "coderFromArrayLen", desc := "([BI)B", sig := { parameters := [(.array .byte), .int], returnType := some .byte }, accessFlags := 8, code := some k13c1 }
def k13c2 : Code := { maxStack := 5, maxLocals := 6, code := jdk_52_method_16_code, exceptionTable := #[], attributes := #[] }
def k13m2 : Method := { name := "compress", desc := "([CII)[B", sig := { parameters := [(.array .char), .int, .int], returnType := some (.array .byte) }, accessFlags := 9, code := some k13c2 }
def k13c3 : Code := { maxStack := 3, maxLocals := 7, code := jdk_52_method_21_code, exceptionTable := #[], attributes := #[] }
def k13m3 : Method := { name := "compress", desc := "([CI[BII)I", sig := { parameters := [(.array .char), .int, (.array .byte), .int, .int], returnType := some .int }, accessFlags := 9, code := some k13c3 }
/-- java/lang/StringUTF16 -/
def k13 : Class := { plain "java/lang/StringUTF16" (some 0) with
  accessFlags := 48
  interfaces := #[]
  cf := some (fileOf pool13 12 #[.nestMembers #[627, 629, 369]] #[{ accessFlags := 0, nameIndex := 9, descriptorIndex := 10, attributes := #[] }, { accessFlags := 8, nameIndex := 261, descriptorIndex := 262, attributes := #[] }, { accessFlags := 9, nameIndex := 117, descriptorIndex := 122, attributes := #[] }, { accessFlags := 9, nameIndex := 117, descriptorIndex := 118, attributes := #[] }] 48 6 #[] #[{ accessFlags := 26, nameIndex := 61, descriptorIndex := 62, attributes := #[] }, { accessFlags := 26, nameIndex := 65, descriptorIndex := 62, attributes := #[] }, { accessFlags := 24, nameIndex := 430, descriptorIndex := 62, attributes := #[] }, { accessFlags := 4120, nameIndex := 46, descriptorIndex := 47, attributes := #[] }])
  fields := #[{ name := "HI_BYTE_SHIFT", type := .int, accessFlags := 26, slot := 0, constantValue := 0 }, { name := "LO_BYTE_SHIFT", type := .int, accessFlags := 26, slot := 1, constantValue := 0 }, { name := "MAX_LENGTH", type := .int, accessFlags := 24, slot := 2, constantValue := 0 }, { name := "$assertionsDisabled", type := .boolean, accessFlags := 4120, slot := 3, constantValue := 0 }]
  methods := #[k13m0, k13m1, k13m2, k13m3]
  instanceTypes := #[]
  staticTypes := #[.int, .int, .int, .boolean]
  resolved := Array.replicate 635 none
  statics := none }

def pool14 : Array CpInfo := pool [(2, .class_ 4), (1, u "java/lang/Object"), (0, u "<init>"), (0, u "()V"), (35, .class_ 44), (1, u "java/util/Objects"), (0, u "requireNonNull"), (0, u "(Ljava/lang/Object;)Ljava/lang/Object;")] 137

def k14m0 : Method := { name := "<init>", desc := "()V", sig := { parameters := [], returnType := none }, accessFlags := 2, code := none }
def k14c1 : Code := { maxStack := 2, maxLocals := 1, code := jdk_31_method_10_code, exceptionTable := #[], attributes := #[] }
def k14m1 : Method := { name := "requireNonNull", desc := "(Ljava/lang/Object;)Ljava/lang/Object;", sig := { parameters := [(.object "java/lang/Object")], returnType := some (.object "java/lang/Object") }, accessFlags := 9, code := some k14c1 }
/-- java/util/Objects -/
def k14 : Class := { plain "java/util/Objects" (some 0) with
  accessFlags := 49
  interfaces := #[]
  cf := some (fileOf pool14 42 #[] #[{ accessFlags := 2, nameIndex := 5, descriptorIndex := 6, attributes := #[] }, { accessFlags := 9, nameIndex := 45, descriptorIndex := 46, attributes := #[] }] 49 2 #[] #[])
  fields := #[]
  methods := #[k14m0, k14m1]
  instanceTypes := #[]
  staticTypes := #[]
  resolved := Array.replicate 184 none
  statics := none }

def pool15 : Array CpInfo := pool [(2, .class_ 4), (1, u "java/lang/Object"), (0, u "<init>"), (0, u "()V"), (17, .class_ 26), (1, u "jdk/internal/util/Preconditions"), (28, .class_ 56), (0, u "jdk/internal/util/Preconditions$4"), (57, .class_ 115), (0, u "jdk/internal/util/Preconditions$1"), (7, u "SIOOBE_FORMATTER"), (0, u "Ljava/util/function/BiFunction;"), (0, .class_ 126), (0, u "jdk/internal/util/Preconditions$2"), (3, u "AIOOBE_FORMATTER"), (0, .class_ 132), (0, u "jdk/internal/util/Preconditions$3"), (3, u "IOOBE_FORMATTER")] 57

def k15m0 : Method := { name := "<init>", desc := "()V", sig := { parameters := [], returnType := none }, accessFlags := 1, code := none }
/-- jdk/internal/util/Preconditions -/
def k15 : Class := { plain "jdk/internal/util/Preconditions" (some 0) with
  accessFlags := 33
  interfaces := #[]
  cf := some (fileOf pool15 24 #[.nestMembers #[55, 131, 125, 114]] #[{ accessFlags := 1, nameIndex := 5, descriptorIndex := 6, attributes := #[] }] 33 2 #[] #[{ accessFlags := 25, nameIndex := 123, descriptorIndex := 124, attributes := #[] }, { accessFlags := 25, nameIndex := 130, descriptorIndex := 124, attributes := #[] }, { accessFlags := 25, nameIndex := 136, descriptorIndex := 124, attributes := #[] }])
  fields := #[{ name := "SIOOBE_FORMATTER", type := (.object "java/util/function/BiFunction"), accessFlags := 25, slot := 0, constantValue := 0 }, { name := "AIOOBE_FORMATTER", type := (.object "java/util/function/BiFunction"), accessFlags := 25, slot := 1, constantValue := 0 }, { name := "IOOBE_FORMATTER", type := (.object "java/util/function/BiFunction"), accessFlags := 25, slot := 2, constantValue := 0 }]
  methods := #[k15m0]
  instanceTypes := #[]
  staticTypes := #[(.object "java/util/function/BiFunction"), (.object "java/util/function/BiFunction"), (.object "java/util/function/BiFunction")]
  resolved := Array.replicate 194 none
  statics := some 3 }

def pool16 : Array CpInfo := pool [(9, u "<init>"), (6, .class_ 18), (1, u "java/lang/Object"), (0, u "()V"), (1, .class_ 23), (1, u "jdk/internal/util/ArraysSupport"), (0, u "LOG2_ARRAY_LONG_INDEX_SCALE"), (0, u "I"), (2, u "U"), (0, u "Ljdk/internal/misc/Unsafe;"), (8, u "BIG_ENDIAN"), (0, u "Z"), (8, u "LOG2_BYTE_BIT_SIZE"), (4, u "LOG2_ARRAY_INT_INDEX_SCALE"), (54, u "JLA"), (0, u "Ljdk/internal/access/JavaLangAccess;"), (11, u "LOG2_ARRAY_BOOLEAN_INDEX_SCALE"), (9, u "LOG2_ARRAY_BYTE_INDEX_SCALE"), (5, u "LOG2_ARRAY_CHAR_INDEX_SCALE"), (5, u "LOG2_ARRAY_SHORT_INDEX_SCALE"), (18, u "LOG2_ARRAY_FLOAT_INDEX_SCALE"), (24, u "LOG2_ARRAY_DOUBLE_INDEX_SCALE"), (89, u "T_BOOLEAN"), (2, u "T_CHAR"), (1, u "T_FLOAT"), (1, u "T_DOUBLE"), (1, u "T_BYTE"), (1, u "T_SHORT"), (1, u "T_INT"), (1, u "T_LONG"), (1, u "SOFT_MAX_ARRAY_LENGTH")] 83

def k16m0 : Method := { name := "<init>", desc := "()V", sig := { parameters := [], returnType := none }, accessFlags := 2, code := none }
/-- jdk/internal/util/ArraysSupport -/
def k16 : Class := { plain "jdk/internal/util/ArraysSupport" (some 0) with
  accessFlags := 33
  interfaces := #[]
  cf := some (fileOf pool16 21 #[] #[{ accessFlags := 2, nameIndex := 9, descriptorIndex := 19, attributes := #[] }] 33 16 #[] #[{ accessFlags := 24, nameIndex := 28, descriptorIndex := 29, attributes := #[] }, { accessFlags := 26, nameIndex := 38, descriptorIndex := 39, attributes := #[] }, { accessFlags := 25, nameIndex := 121, descriptorIndex := 25, attributes := #[] }, { accessFlags := 25, nameIndex := 131, descriptorIndex := 25, attributes := #[] }, { accessFlags := 25, nameIndex := 137, descriptorIndex := 25, attributes := #[] }, { accessFlags := 25, nameIndex := 143, descriptorIndex := 25, attributes := #[] }, { accessFlags := 25, nameIndex := 53, descriptorIndex := 25, attributes := #[] }, { accessFlags := 25, nameIndex := 24, descriptorIndex := 25, attributes := #[] }, { accessFlags := 25, nameIndex := 162, descriptorIndex := 25, attributes := #[] }, { accessFlags := 25, nameIndex := 187, descriptorIndex := 25, attributes := #[] }, { accessFlags := 26, nameIndex := 48, descriptorIndex := 25, attributes := #[] }, { accessFlags := 25, nameIndex := 277, descriptorIndex := 25, attributes := #[] }, { accessFlags := 25, nameIndex := 280, descriptorIndex := 25, attributes := #[] }, { accessFlags := 25, nameIndex := 282, descriptorIndex := 25, attributes := #[] }, { accessFlags := 25, nameIndex := 284, descriptorIndex := 25, attributes := #[] }, { accessFlags := 25, nameIndex := 286, descriptorIndex := 25, attributes := #[] }, { accessFlags := 25, nameIndex := 288, descriptorIndex := 25, attributes := #[] }, { accessFlags := 25, nameIndex := 290, descriptorIndex := 25, attributes := #[] }, { accessFlags := 25, nameIndex := 292, descriptorIndex := 25, attributes := #[] }, { accessFlags := 26, nameIndex := 108, descriptorIndex := 109, attributes := #[] }, { accessFlags := 25, nameIndex := 294, descriptorIndex := 25, attributes := #[] }])
  fields := #[{ name := "U", type := (.object "jdk/internal/misc/Unsafe"), accessFlags := 24, slot := 0, constantValue := 0 }, { name := "BIG_ENDIAN", type := .boolean, accessFlags := 26, slot := 1, constantValue := 0 }, { name := "LOG2_ARRAY_BOOLEAN_INDEX_SCALE", type := .int, accessFlags := 25, slot := 2, constantValue := 0 }, { name := "LOG2_ARRAY_BYTE_INDEX_SCALE", type := .int, accessFlags := 25, slot := 3, constantValue := 0 }, { name := "LOG2_ARRAY_CHAR_INDEX_SCALE", type := .int, accessFlags := 25, slot := 4, constantValue := 0 }, { name := "LOG2_ARRAY_SHORT_INDEX_SCALE", type := .int, accessFlags := 25, slot := 5, constantValue := 0 }, { name := "LOG2_ARRAY_INT_INDEX_SCALE", type := .int, accessFlags := 25, slot := 6, constantValue := 0 }, { name := "LOG2_ARRAY_LONG_INDEX_SCALE", type := .int, accessFlags := 25, slot := 7, constantValue := 0 }, { name := "LOG2_ARRAY_FLOAT_INDEX_SCALE", type := .int, accessFlags := 25, slot := 8, constantValue := 0 }, { name := "LOG2_ARRAY_DOUBLE_INDEX_SCALE", type := .int, accessFlags := 25, slot := 9, constantValue := 0 }, { name := "LOG2_BYTE_BIT_SIZE", type := .int, accessFlags := 26, slot := 10, constantValue := 0 }, { name := "T_BOOLEAN", type := .int, accessFlags := 25, slot := 11, constantValue := 0 }, { name := "T_CHAR", type := .int, accessFlags := 25, slot := 12, constantValue := 0 }, { name := "T_FLOAT", type := .int, accessFlags := 25, slot := 13, constantValue := 0 }, { name := "T_DOUBLE", type := .int, accessFlags := 25, slot := 14, constantValue := 0 }, { name := "T_BYTE", type := .int, accessFlags := 25, slot := 15, constantValue := 0 }, { name := "T_SHORT", type := .int, accessFlags := 25, slot := 16, constantValue := 0 }, { name := "T_INT", type := .int, accessFlags := 25, slot := 17, constantValue := 0 }, { name := "T_LONG", type := .int, accessFlags := 25, slot := 18, constantValue := 0 }, { name := "JLA", type := (.object "jdk/internal/access/JavaLangAccess"), accessFlags := 26, slot := 19, constantValue := 0 }, { name := "SOFT_MAX_ARRAY_LENGTH", type := .int, accessFlags := 25, slot := 20, constantValue := 0 }]
  methods := #[k16m0]
  instanceTypes := #[]
  staticTypes := #[(.object "jdk/internal/misc/Unsafe"), .boolean, .int, .int, .int, .int, .int, .int, .int, .int, .int, .int, .int, .int, .int, .int, .int, .int, .int, (.object "jdk/internal/access/JavaLangAccess"), .int]
  resolved := Array.replicate 378 none
  statics := none }

/-- the primitive byte -/
def k17 : Class := { plain "byte" none with kind := .primitive 'B', accessFlags := 0x411 }
/-- [B -/
def k18 : Class := { plain "[B" (some 0) with kind := .array 17 .byte, interfaces := #[11, 2], accessFlags := 1041 }

/-- the primitive char -/
def k19 : Class := { plain "char" none with kind := .primitive 'C', accessFlags := 0x411 }
/-- [C -/
def k20 : Class := { plain "[C" (some 0) with kind := .array 19 .char, interfaces := #[11, 2], accessFlags := 1041 }

/-- the primitive int -/
def k21 : Class := { plain "int" none with kind := .primitive 'I', accessFlags := 0x411 }
/-- [I -/
def k22 : Class := { plain "[I" (some 0) with kind := .array 21 .int, interfaces := #[11, 2], accessFlags := 1041 }

/-- [Lcom/example/tranche/tranche/terms/Comparison; -/
def k23 : Class := { plain "[Lcom/example/tranche/tranche/terms/Comparison;" (some 0) with kind := .array 9 (.object "com/example/tranche/tranche/terms/Comparison"), interfaces := #[11, 2], accessFlags := 1041 }

def heap : Heap := #[{ cls := 7, slots := #[.long 0, .int 1, .null, .int 0, .null, .int 0, .int 0], vm := .statics 7 },
  { cls := 9, slots := #[.ref 5, .ref 6, .ref 7, .ref 8, .ref 4], vm := .statics 9 },
  { cls := 10, slots := #[.ref 17], vm := .statics 10 },
  { cls := 15, slots := #[.null, .null, .null], vm := .statics 15 },
  { cls := 23, slots := #[.ref 5, .ref 6, .ref 7, .ref 8], vm := .none },
  { cls := 9, slots := #[.null, .int 0, .int 0, .ref 9], vm := .none },
  { cls := 9, slots := #[.null, .int 1, .int 0, .ref 10], vm := .none },
  { cls := 9, slots := #[.null, .int 2, .int 0, .ref 11], vm := .none },
  { cls := 9, slots := #[.null, .int 3, .int 0, .ref 12], vm := .none },
  { cls := 7, slots := #[.ref 13, .int 0, .int 0, .int 0], vm := .none },
  { cls := 7, slots := #[.ref 14, .int 0, .int 0, .int 0], vm := .none },
  { cls := 7, slots := #[.ref 15, .int 0, .int 0, .int 0], vm := .none },
  { cls := 7, slots := #[.ref 16, .int 0, .int 0, .int 0], vm := .none },
  { cls := 18, slots := #[.int 60], vm := .none },
  { cls := 18, slots := #[.int 60, .int 61], vm := .none },
  { cls := 18, slots := #[.int 62], vm := .none },
  { cls := 18, slots := #[.int 62, .int 61], vm := .none },
  { cls := 10, slots := #[.null], vm := .none }]
def classes : Array Class := #[k0, k1, k2, k3, k4, k5, k6, k7, k8, k9, k10, k11, k12, k13, k14, k15, k16, k17, k18, k19, k20, k21, k22, k23]
def interned : List (Array UInt16 × Addr) := []
def slotsUsed : Nat := 59
def theMethod : MethodId := ⟨1, 2⟩
def args0 : Array Value := #[.int 1, .int 2, .int 3, .int 4]
def aboutOver (below : List Frame) : State where
  vm := { classes := classes, interned := interned.toArray }
  heap := heap
  slotsUsed := slotsUsed
  threads := #[{ frames := .invoking theMethod args0 :: below }]
def below0 : List Frame := [.native { method := ⟨0, 0⟩, args := #[] }]
def about1 : State := aboutOver below0
def p0 : Program := .bare "" "" ""
def e0 : Env := launch0.env 0 0 0
theorem w_frames : about1.frames = Frame.invoking theMethod args0 :: below0 := rfl
set_option maxRecDepth 65536 in
theorem w_args : argsFit about1.vm theMethod args0 = true := by decide +kernel
set_option maxRecDepth 65536 in
theorem w_heap : heapFits about1 = true := by decide +kernel
set_option maxRecDepth 65536 in
theorem w_runnable : about1.curStatus? = some .runnable := by decide +kernel
set_option maxRecDepth 65536 in
theorem w_alone : about1.alone = true := by decide +kernel
set_option maxRecDepth 65536 in
theorem w_named : about1.methodNamed? x = some theMethod := by decide +kernel
set_option maxRecDepth 65536 in
theorem w_hears : about1.hears theMethod below0 = true := by decide +kernel
set_option maxRecDepth 65536 in
theorem w_ripe : about1.ripe theMethod args0 below0 = true := by decide +kernel
theorem w_running : about1.status = .running := rfl
set_option maxRecDepth 65536 in
theorem w_room : about1.hasRoom e0.platform room_1 = true :=
  launch0.hasRoom_least _ room_1 (by decide +kernel) (by decide +kernel) (by decide +kernel) (by decide +kernel) (by decide +kernel) (by decide +kernel)
theorem allAtoms_all (ts : List Jvm.Cond) (a : Array Jvm.Value) (st : Jvm.State) : (allAtoms ts).before a st = ts.all (fun c => c.before a st) := by
  induction ts with
  | nil => rfl
  | cons c t ih =>
    show (Jvm.Cond.and c (allAtoms t)).before a st = _
    rw [Jvm.Cond.before_and, ih, List.all_cons]
def words1 : List Jvm.Cond := Jvm.Cond.code x code maxLocals ret :: tables_1
/-- a 'code' word, met by the world's own term for the bytes: nothing is compared byte by byte -/
theorem code_word {y : MethodName} {bytes : ByteArray} {mx : Nat} {rt : Option FieldType} {a : Array Value} {s : State} {m : MethodId} {meth : Method} {c : Code} (h1 : s.methodNamed? y = some m) (h2 : s.vm.method? m = some meth) (h3 : meth.code = some c) (h4 : c.code = bytes)
    (h5 : (c.maxLocals == mx && c.exceptionTable.isEmpty && decide (c.maxStack ≤ mostOperands) && decide (meth.sig.returnType = rt) && !meth.locks && decide (parseMethodDescriptor y.desc = some meth.sig)) = true) : (Jvm.Cond.code y bytes mx rt).before a s = true := by
  simp only [Bool.and_eq_true, beq_iff_eq, Bool.not_eq_true', decide_eq_true_eq] at h5
  obtain ⟨⟨⟨⟨⟨g1, g2⟩, g3⟩, g4⟩, g5⟩, g6⟩ := h5
  simp [Cond.before, Cond.holds, Cond.value, h1, h2, h3, h4, g1, g2, g3, g4, g5, g6]
def isCode : Jvm.Cond → Bool
  | .code _ _ _ _ => true
  | _ => false
theorem all_split {L : List Jvm.Cond} {P : Jvm.Cond → Bool} (h1 : L.all (fun c => isCode c || P c) = true) (h2 : ∀ c ∈ L.filter isCode, P c = true) : L.all P = true := by
  refine List.all_eq_true.mpr fun c hc => ?_
  have h := List.all_eq_true.mp h1 c hc
  rcases Bool.eq_false_or_eq_true (isCode c) with hi | hi
  · exact h2 c (List.mem_filter.mpr ⟨hc, hi⟩)
  · simpa [hi] using h
set_option maxRecDepth 65536 in
theorem w_c0 : (Jvm.Cond.code x code maxLocals ret).before args0 about1 = true := code_word (m := ⟨1, 2⟩) (meth := k1m2) (c := k1c2) (by decide +kernel) rfl rfl rfl (by decide +kernel)
set_option maxRecDepth 65536 in
theorem w_c1 : (Jvm.Cond.code ({ cls := "com/example/tranche/tranche/terms/ComparisonWrittenPinLaw", name := "pick", desc := "(I)C" } : Jvm.MethodName) method_2_code (3 : Nat) (Option.some Jvm.ClassFile.FieldType.char)).before args0 about1 = true := code_word (m := ⟨1, 1⟩) (meth := k1m1) (c := k1c1) (by decide +kernel) rfl rfl rfl (by decide +kernel)
set_option maxRecDepth 65536 in
theorem w_c2 : (Jvm.Cond.code ({ cls := "java/lang/String", name := "<init>", desc := "([C)V" } : Jvm.MethodName) jdk_42_method_3_code (2 : Nat) (Option.none : Option Jvm.ClassFile.FieldType)).before args0 about1 = true := code_word (m := ⟨7, 1⟩) (meth := k7m1) (c := k7c1) (by decide +kernel) rfl rfl rfl (by decide +kernel)
set_option maxRecDepth 65536 in
theorem w_c3 : (Jvm.Cond.code ({ cls := "java/lang/String", name := "<init>", desc := "([CIILjava/lang/Void;)V" } : Jvm.MethodName) jdk_42_method_149_code (6 : Nat) (Option.none : Option Jvm.ClassFile.FieldType)).before args0 about1 = true := code_word (m := ⟨7, 3⟩) (meth := k7m3) (c := k7c3) (by decide +kernel) rfl rfl rfl (by decide +kernel)
set_option maxRecDepth 65536 in
theorem w_c4 : (Jvm.Cond.code ({ cls := "java/lang/Object", name := "<init>", desc := "()V" } : Jvm.MethodName) object_method_1_code (1 : Nat) (Option.none : Option Jvm.ClassFile.FieldType)).before args0 about1 = true := code_word (m := ⟨0, 0⟩) (meth := k0m0) (c := k0c0) (by decide +kernel) rfl rfl rfl (by decide +kernel)
set_option maxRecDepth 65536 in
theorem w_c5 : (Jvm.Cond.code ({ cls := "com/example/tranche/tranche/terms/Comparison", name := "written", desc := "(Ljava/lang/String;)Ljava/util/Optional;" } : Jvm.MethodName) prog_36_method_4_code (6 : Nat) (Option.some (Jvm.ClassFile.FieldType.object "java/util/Optional"))).before args0 about1 = true := code_word (m := ⟨9, 1⟩) (meth := k9m1) (c := k9c1) (by decide +kernel) rfl rfl rfl (by decide +kernel)
set_option maxRecDepth 65536 in
theorem w_c6 : (Jvm.Cond.code ({ cls := "java/util/Optional", name := "empty", desc := "()Ljava/util/Optional;" } : Jvm.MethodName) jdk_32_method_1_code (1 : Nat) (Option.some (Jvm.ClassFile.FieldType.object "java/util/Optional"))).before args0 about1 = true := code_word (m := ⟨10, 0⟩) (meth := k10m0) (c := k10c0) (by decide +kernel) rfl rfl rfl (by decide +kernel)
set_option maxRecDepth 65536 in
theorem w_c7 : (Jvm.Cond.code ({ cls := "com/example/tranche/tranche/terms/Comparison", name := "values", desc := "()[Lcom/example/tranche/tranche/terms/Comparison;" } : Jvm.MethodName) prog_36_method_1_code (0 : Nat) (Option.some (Jvm.ClassFile.FieldType.array (Jvm.ClassFile.FieldType.object "com/example/tranche/tranche/terms/Comparison")))).before args0 about1 = true := code_word (m := ⟨9, 0⟩) (meth := k9m0) (c := k9c0) (by decide +kernel) rfl rfl rfl (by decide +kernel)
set_option maxRecDepth 65536 in
theorem w_c8 : (Jvm.Cond.code ({ cls := "java/lang/String", name := "equals", desc := "(Ljava/lang/Object;)Z" } : Jvm.MethodName) jdk_42_method_66_code (3 : Nat) (Option.some Jvm.ClassFile.FieldType.boolean)).before args0 about1 = true := code_word (m := ⟨7, 2⟩) (meth := k7m2) (c := k7c2) (by decide +kernel) rfl rfl rfl (by decide +kernel)
set_option maxRecDepth 65536 in
theorem w_c9 : (Jvm.Cond.code ({ cls := "java/lang/StringLatin1", name := "equals", desc := "([B[B)Z" } : Jvm.MethodName) jdk_43_method_13_code (3 : Nat) (Option.some Jvm.ClassFile.FieldType.boolean)).before args0 about1 = true := code_word (m := ⟨12, 1⟩) (meth := k12m1) (c := k12c1) (by decide +kernel) rfl rfl rfl (by decide +kernel)
set_option maxRecDepth 65536 in
theorem w_c10 : (Jvm.Cond.code ({ cls := "java/util/Optional", name := "orElse", desc := "(Ljava/lang/Object;)Ljava/lang/Object;" } : Jvm.MethodName) jdk_32_method_15_code (2 : Nat) (Option.some (Jvm.ClassFile.FieldType.object "java/lang/Object"))).before args0 about1 = true := code_word (m := ⟨10, 3⟩) (meth := k10m3) (c := k10c3) (by decide +kernel) rfl rfl rfl (by decide +kernel)
set_option maxRecDepth 65536 in
theorem w_c11 : (Jvm.Cond.code ({ cls := "java/lang/StringUTF16", name := "compress", desc := "([CII)[B" } : Jvm.MethodName) jdk_52_method_16_code (6 : Nat) (Option.some (Jvm.ClassFile.FieldType.array Jvm.ClassFile.FieldType.byte))).before args0 about1 = true := code_word (m := ⟨13, 2⟩) (meth := k13m2) (c := k13c2) (by decide +kernel) rfl rfl rfl (by decide +kernel)
set_option maxRecDepth 65536 in
theorem w_c12 : (Jvm.Cond.code ({ cls := "java/lang/StringUTF16", name := "compress", desc := "([CI[BII)I" } : Jvm.MethodName) jdk_52_method_21_code (7 : Nat) (Option.some Jvm.ClassFile.FieldType.int)).before args0 about1 = true := code_word (m := ⟨13, 3⟩) (meth := k13m3) (c := k13c3) (by decide +kernel) rfl rfl rfl (by decide +kernel)
set_option maxRecDepth 65536 in
theorem w_c13 : (Jvm.Cond.code ({ cls := "java/lang/StringUTF16", name := "coderFromArrayLen", desc := "([BI)B" } : Jvm.MethodName) jdk_52_method_15_code (2 : Nat) (Option.some Jvm.ClassFile.FieldType.byte)).before args0 about1 = true := code_word (m := ⟨13, 1⟩) (meth := k13m1) (c := k13c1) (by decide +kernel) rfl rfl rfl (by decide +kernel)
set_option maxRecDepth 65536 in
theorem w_c14 : (Jvm.Cond.code ({ cls := "java/util/Optional", name := "of", desc := "(Ljava/lang/Object;)Ljava/util/Optional;" } : Jvm.MethodName) jdk_32_method_3_code (1 : Nat) (Option.some (Jvm.ClassFile.FieldType.object "java/util/Optional"))).before args0 about1 = true := code_word (m := ⟨10, 2⟩) (meth := k10m2) (c := k10c2) (by decide +kernel) rfl rfl rfl (by decide +kernel)
set_option maxRecDepth 65536 in
theorem w_c15 : (Jvm.Cond.code ({ cls := "java/util/Objects", name := "requireNonNull", desc := "(Ljava/lang/Object;)Ljava/lang/Object;" } : Jvm.MethodName) jdk_31_method_10_code (1 : Nat) (Option.some (Jvm.ClassFile.FieldType.object "java/lang/Object"))).before args0 about1 = true := code_word (m := ⟨14, 1⟩) (meth := k14m1) (c := k14c1) (by decide +kernel) rfl rfl rfl (by decide +kernel)
set_option maxRecDepth 65536 in
theorem w_c16 : (Jvm.Cond.code ({ cls := "java/util/Optional", name := "<init>", desc := "(Ljava/lang/Object;)V" } : Jvm.MethodName) jdk_32_method_2_code (2 : Nat) (Option.none : Option Jvm.ClassFile.FieldType)).before args0 about1 = true := code_word (m := ⟨10, 1⟩) (meth := k10m1) (c := k10c1) (by decide +kernel) rfl rfl rfl (by decide +kernel)
def codes1 : List Jvm.Cond := [Jvm.Cond.code x code maxLocals ret, Jvm.Cond.code ({ cls := "com/example/tranche/tranche/terms/ComparisonWrittenPinLaw", name := "pick", desc := "(I)C" } : Jvm.MethodName) method_2_code (3 : Nat) (Option.some Jvm.ClassFile.FieldType.char), Jvm.Cond.code ({ cls := "java/lang/String", name := "<init>", desc := "([C)V" } : Jvm.MethodName) jdk_42_method_3_code (2 : Nat) (Option.none : Option Jvm.ClassFile.FieldType), Jvm.Cond.code ({ cls := "java/lang/String", name := "<init>", desc := "([CIILjava/lang/Void;)V" } : Jvm.MethodName) jdk_42_method_149_code (6 : Nat) (Option.none : Option Jvm.ClassFile.FieldType), Jvm.Cond.code ({ cls := "java/lang/Object", name := "<init>", desc := "()V" } : Jvm.MethodName) object_method_1_code (1 : Nat) (Option.none : Option Jvm.ClassFile.FieldType), Jvm.Cond.code ({ cls := "com/example/tranche/tranche/terms/Comparison", name := "written", desc := "(Ljava/lang/String;)Ljava/util/Optional;" } : Jvm.MethodName) prog_36_method_4_code (6 : Nat) (Option.some (Jvm.ClassFile.FieldType.object "java/util/Optional")), Jvm.Cond.code ({ cls := "java/util/Optional", name := "empty", desc := "()Ljava/util/Optional;" } : Jvm.MethodName) jdk_32_method_1_code (1 : Nat) (Option.some (Jvm.ClassFile.FieldType.object "java/util/Optional")), Jvm.Cond.code ({ cls := "com/example/tranche/tranche/terms/Comparison", name := "values", desc := "()[Lcom/example/tranche/tranche/terms/Comparison;" } : Jvm.MethodName) prog_36_method_1_code (0 : Nat) (Option.some (Jvm.ClassFile.FieldType.array (Jvm.ClassFile.FieldType.object "com/example/tranche/tranche/terms/Comparison"))), Jvm.Cond.code ({ cls := "java/lang/String", name := "equals", desc := "(Ljava/lang/Object;)Z" } : Jvm.MethodName) jdk_42_method_66_code (3 : Nat) (Option.some Jvm.ClassFile.FieldType.boolean), Jvm.Cond.code ({ cls := "java/lang/StringLatin1", name := "equals", desc := "([B[B)Z" } : Jvm.MethodName) jdk_43_method_13_code (3 : Nat) (Option.some Jvm.ClassFile.FieldType.boolean), Jvm.Cond.code ({ cls := "java/util/Optional", name := "orElse", desc := "(Ljava/lang/Object;)Ljava/lang/Object;" } : Jvm.MethodName) jdk_32_method_15_code (2 : Nat) (Option.some (Jvm.ClassFile.FieldType.object "java/lang/Object")), Jvm.Cond.code ({ cls := "java/lang/StringUTF16", name := "compress", desc := "([CII)[B" } : Jvm.MethodName) jdk_52_method_16_code (6 : Nat) (Option.some (Jvm.ClassFile.FieldType.array Jvm.ClassFile.FieldType.byte)), Jvm.Cond.code ({ cls := "java/lang/StringUTF16", name := "compress", desc := "([CI[BII)I" } : Jvm.MethodName) jdk_52_method_21_code (7 : Nat) (Option.some Jvm.ClassFile.FieldType.int), Jvm.Cond.code ({ cls := "java/lang/StringUTF16", name := "coderFromArrayLen", desc := "([BI)B" } : Jvm.MethodName) jdk_52_method_15_code (2 : Nat) (Option.some Jvm.ClassFile.FieldType.byte), Jvm.Cond.code ({ cls := "java/util/Optional", name := "of", desc := "(Ljava/lang/Object;)Ljava/util/Optional;" } : Jvm.MethodName) jdk_32_method_3_code (1 : Nat) (Option.some (Jvm.ClassFile.FieldType.object "java/util/Optional")), Jvm.Cond.code ({ cls := "java/util/Objects", name := "requireNonNull", desc := "(Ljava/lang/Object;)Ljava/lang/Object;" } : Jvm.MethodName) jdk_31_method_10_code (1 : Nat) (Option.some (Jvm.ClassFile.FieldType.object "java/lang/Object")), Jvm.Cond.code ({ cls := "java/util/Optional", name := "<init>", desc := "(Ljava/lang/Object;)V" } : Jvm.MethodName) jdk_32_method_2_code (2 : Nat) (Option.none : Option Jvm.ClassFile.FieldType)]
set_option maxRecDepth 65536 in
theorem codes_eq : words1.filter isCode = codes1 := rfl
theorem w_codes : ∀ c ∈ words1.filter isCode, c.before args0 about1 = true := by
  rw [codes_eq]
  intro c hc
  simp only [codes1, List.mem_cons, List.not_mem_nil, or_false] at hc
  rcases hc with rfl | rfl | rfl | rfl | rfl | rfl | rfl | rfl | rfl | rfl | rfl | rfl | rfl | rfl | rfl | rfl | rfl
  · exact w_c0
  · exact w_c1
  · exact w_c2
  · exact w_c3
  · exact w_c4
  · exact w_c5
  · exact w_c6
  · exact w_c7
  · exact w_c8
  · exact w_c9
  · exact w_c10
  · exact w_c11
  · exact w_c12
  · exact w_c13
  · exact w_c14
  · exact w_c15
  · exact w_c16
set_option maxRecDepth 65536 in
theorem w_t1 : (words1.take 24).all (fun c => isCode c || c.before args0 about1) = true := by decide +kernel
set_option maxRecDepth 65536 in
theorem w_t2 : ((words1.drop 24).take 24).all (fun c => isCode c || c.before args0 about1) = true := by decide +kernel
set_option maxRecDepth 65536 in
theorem w_t3 : (((words1.drop 24).drop 24).take 24).all (fun c => isCode c || c.before args0 about1) = true := by decide +kernel
set_option maxRecDepth 65536 in
theorem w_t4 : ((((words1.drop 24).drop 24).drop 24).take 24).all (fun c => isCode c || c.before args0 about1) = true := by decide +kernel
set_option maxRecDepth 65536 in
theorem w_t5 : ((((words1.drop 24).drop 24).drop 24).drop 24).all (fun c => isCode c || c.before args0 about1) = true := by decide +kernel
theorem w_tables : (allAtoms (Jvm.Cond.code x code maxLocals ret :: tables_1)).before args0 about1 = true := by
  rw [allAtoms_all]
  show words1.all (fun c => c.before args0 about1) = true
  refine all_split ?_ w_codes
  rw [← List.take_append_drop 24 words1, List.all_append, w_t1, ← List.take_append_drop 24 (words1.drop 24), List.all_append, w_t2, ← List.take_append_drop 24 ((words1.drop 24).drop 24), List.all_append, w_t3, ← List.take_append_drop 24 (((words1.drop 24).drop 24).drop 24), List.all_append, w_t4, w_t5]
  rfl
set_option maxRecDepth 65536 in
theorem w_rest : rest_1_c.before args0 about1 = true := by decide +kernel
set_option maxRecDepth 65536 in
theorem w_case : (Jvm.Cond.and given_1 narrow_1).before args0 about1 = true := by decide +kernel
set_option maxRecDepth 65536 in
theorem w_consts : constsHeld consts_1 about1 := Jvm.Lit.constsHeldB_iff.mp (by decide +kernel)
theorem w_applies : (headSpec (Jvm.Cond.code x code maxLocals ret :: tables_1) room_1).applies x e0.platform about1 = true :=
  (Spec.applies_iff w_frames).mpr ⟨w_running, w_runnable, w_alone, w_named, w_hears, w_ripe, w_room, w_tables⟩
theorem atStart : AtStart classFile x code maxLocals ret World_1 tables_1 room_1 Calls_1 rest_1 Pre_1 launch0 p0 e0 about1 theMethod args0 below0 :=
  ⟨lists_1, trivial, launch0.admits_env _ _ _, launch0.least_env, fairChoices_fair.cas, fairChoices_fair.clock, w_frames, w_args, w_heap, w_applies, ⟨w_consts, trivial⟩, w_rest, w_case⟩
end start1
theorem witness_1 : WitnessClaimed_1 := ⟨start1.p0, start1.e0, start1.about1, start1.theMethod, start1.args0, start1.below0, start1.atStart⟩
end Jvm.Pilot.@@N@@
