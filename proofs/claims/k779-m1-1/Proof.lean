import JvmDerived
import JvmDerived.Pilot.@@N@@Statement
import JvmDerived.Pilot.@@N@@Code
set_option linter.unusedVariables false
set_option linter.unusedSimpArgs false
namespace Jvm.RoadKit
open Sem ClassFile Op Lib Jvm.Stand Jvm.Free Jvm.LawKit
section New
variable {p : Program} {l : Launch} {e : Env} {R : Room} {s : State} {m : MethodId} {args : Array Value} {below : List Frame} {meth : Method} {c : Code} {T : State} {locs : List Loc} {cells slots : Nat}
theorem retI (X : Stand p l e R s m args below meth c T locs cells slots) (hx : p.tables.exec = Jvm.exec) {pc : Nat} {Ls : Array Slot} {z : Int32} {rest : List Value} (hret : meth.sig.returnType = some .int) (hd : decode c.code pc = .ok (.ireturn, 1)) {fs : List Frame}
    (hl : ∀ (f : JFrame) (acts : List Action), f.method = m → f.locked = none → f.entered = [] → (doReturn e (T.setTop f) acts (some (.int z))).1 = T.setFrames fs) : Steps p.tables e below (T.setTop (mkF m pc Ls (.int z :: rest))) (T.setFrames fs) := by
  have hm' : T.vm.method? m = some meth := X.method'
  have hn : narrow .int (.int z) = .int z := rfl
  show Steps p.tables e below (T.setTop { method := m, pc := pc, locals := Ls, stack := _ :: rest, locked := none }) _
  jvm_step X.here [X.here.top, hx, hd, hm', hret, hn]
  first | (intro acts; rw [hl _ acts rfl rfl rfl]) | rw [hl _ _ rfl rfl rfl]
  exact Steps.refl _
/-- what is left of a walk: from S the run comes to its end, and Q is said of that -/
def OwnGo (p : Program) (e : Env) (below : List Frame) (s : State) (Q : Option Value → Heap → List Loc → Prop) (k n : Nat) (S : State) : Prop :=
  ∃ s₂ o, Steps p.tables e below S s₂ ∧ s₂.status = .running ∧ Ended s₂ below o ∧ ∃ v L, o = .returned v ∧ Q v s₂.heap L ∧ FrameEnd s o s₂ L k n
theorem gs {Q : Option Value → Heap → List Loc → Prop} {k n : Nat} {S S' : State} (f : ∀ t, Steps p.tables e below S' t → Steps p.tables e below S t) (h : OwnGo p e below s Q k n S') : OwnGo p e below s Q k n S := by
  obtain ⟨s₂, o, h1, r⟩ := h; exact ⟨s₂, o, f _ h1, r⟩
theorem gout {Q : Option Value → Heap → List Loc → Prop} {k n : Nat} {S : State} (X : Stand p l e R s m args below meth c T locs cells slots) (hlk : meth.locks = false) {v : Option Value} (hv : meth.sig.returnType = none → v = none) (hk : cells ≤ k) (hn : slots ≤ n) (hq : Q v T.heap locs)
    (st : ∀ fs, (∀ (f : JFrame) (acts : List Action), f.method = m → f.locked = none → f.entered = [] → (doReturn e (T.setTop f) acts v).1 = T.setFrames fs) → Steps p.tables e below S (T.setFrames fs)) : OwnGo p e below s Q k n S := by
  obtain ⟨fs, hr, hrun, hended, hW, hsame⟩ := X.leave (v := v) hv hlk
  exact ⟨_, _, st fs hr, hrun, hended, v, _, rfl, hq, ⟨v, rfl⟩, hW, hsame.mono hk hn⟩
/-- .. where String constants may be loaded on the way -/
def OwnGoW (p : Program) (e : Env) (below : List Frame) (s : State) (Z : State) (EL : List (String × Nat)) (Q : Option Value → Heap → List Loc → Prop) (k n : Nat) (S : State) : Prop :=
  ∃ s₂ o, Steps p.tables e below S s₂ ∧ s₂.status = .running ∧ Ended s₂ below o ∧ ∃ v L, o = .returned v ∧ Q v s₂.heap L ∧ CHr Z EL s.vm s.heap s₂.vm s₂.heap ∧ ReturnedEndW s o s₂ L k n
theorem gsW {Z : State} {EL : List (String × Nat)} {Q : Option Value → Heap → List Loc → Prop} {k n : Nat} {S S' : State} (f : ∀ t, Steps p.tables e below S' t → Steps p.tables e below S t) (h : OwnGoW p e below s Z EL Q k n S') : OwnGoW p e below s Z EL Q k n S := by
  obtain ⟨s₂, o, h1, r⟩ := h; exact ⟨s₂, o, f _ h1, r⟩
theorem goutW {Z : State} {a0 : Array Value} {EL : List (String × Nat)} {Q : Option Value → Heap → List Loc → Prop} {k n k0 : Nat} {S : State} {vm1 : Vm} {h0 h : Heap} (X : Stand p l e R (s.setVm vm1) m args below meth c T locs cells slots) (hS : s.Since vm1 k0) (hkk : k0 ≤ h.size) (hZ : Z.Warmed39 (s.setVm vm1).vm) (hEL : EW Z a0 EL) (hh : s.heap = h0) (eT : T.heap = h) (hR : CHr Z EL s.vm h0 vm1 h)
    (hlk : meth.locks = false) {v : Option Value} (hv : meth.sig.returnType = none → v = none) (hk : cells ≤ k) (hn : slots ≤ n) (hq : Q v h locs)
    (st : ∀ fs, (∀ (f : JFrame) (acts : List Action), f.method = m → f.locked = none → f.entered = [] → (doReturn e (T.setTop f) acts v).1 = T.setFrames fs) → Steps p.tables e below S (T.setFrames fs)) : OwnGoW p e below s Z EL Q k n S := by
  subst eT hh
  obtain ⟨fs, hr, hrun, hended, hE⟩ := X.leaveW hS hkk (v := v) hv hlk
  exact ⟨_, _, st fs hr, hrun, hended, v, _, rfl, hq, hR.trans (show CHr Z EL vm1 T.heap T.vm T.heap from CHv.at X hZ hEL hR.1), hE.1, hE.2.1, hE.2.2.1, hE.2.2.2.mono hk hn⟩
end New
def CtrW (l : Launch) (Z : State) (EL : List (String × Nat)) (y : MethodName) (bytes : ByteArray) (maxL : Nat) (ret : Option FieldType) (ws : List Jvm.Cond) (R : Room) (as' : Array Value) (h0 : Heap) (Q : Option Value → Heap → List Loc → Prop) : Prop :=
  MetFree l y (head1 (Jvm.Cond.code y bytes maxL ret :: ws) R) (fun a U => a = as' ∧ Z.Warmed39 U.vm ∧ U.heap = h0 ∧ CHv Z EL U.vm h0) (fun _ _ _ _ _ => True) (fun _ U o U' => ∃ v L, o = .returned v ∧ Q v U'.heap L ∧ CHr Z EL U.vm U.heap U'.vm U'.heap ∧ ReturnedEndW U o U' L R.cells R.slots)
/-- a method's contract -/
def Ctr (l : Launch) (Z : State) (y : MethodName) (bytes : ByteArray) (maxL : Nat) (ret : Option FieldType) (ws : List Jvm.Cond) (R : Room) (as' : Array Value) (h0 : Heap) (Q : Option Value → Heap → List Loc → Prop) : Prop :=
  MetFree l y (head1 (Jvm.Cond.code y bytes maxL ret :: ws) R) (fun a U => a = as' ∧ Z.Warmed39 U.vm ∧ U.heap = h0) (fun _ _ _ _ _ => True) (fun _ U o U' => ∃ v L, o = .returned v ∧ Q v U'.heap L ∧ FrameEnd U o U' L R.cells R.slots)
section Own
variable {p : Program} {l : Launch} {e : Env} {R : Room} {s Z : State} {args a0 : Array Value} {below : List Frame} {y : MethodName} {bytes : ByteArray} {maxL : Nat} {ret : Option FieldType} {rm : Room} {len W : Nat} {as' : Array Value} {h : Heap} {Q : Option Value → Heap → List Loc → Prop} {EL : List (String × Nat)} {vm0 : Vm} {ws : List Jvm.Cond}
theorem Ctr.of (hM : MetFree l y (head1 (Jvm.Cond.code y bytes maxL ret :: ws) R) (fun a U => a = as' ∧ Z.Warmed39 U.vm ∧ U.heap = h) (fun _ _ _ _ _ => True) (fun _ U o U' => ∃ v L, o = .returned v ∧ Q v U'.heap L ∧ FrameEnd U o U' L R.cells R.slots)) : Ctr l Z y bytes maxL ret ws R as' h Q := hM
theorem CtrW.of (hM : MetFree l y (head1 (Jvm.Cond.code y bytes maxL ret :: ws) R) (fun a U => a = as' ∧ Z.Warmed39 U.vm ∧ U.heap = h ∧ CHv Z EL U.vm h) (fun _ _ _ _ _ => True) (fun _ U o U' => ∃ v L, o = .returned v ∧ Q v U'.heap L ∧ CHr Z EL U.vm U.heap U'.vm U'.heap ∧ ReturnedEndW U o U' L R.cells R.slots)) : CtrW l Z EL y bytes maxL ret ws R as' h Q := hM
theorem backC (hM : Ctr l Z y bytes maxL ret [] rm as' h Q) (hZ : Z.Warmed39 s.vm) (wc : (Cond.code y bytes maxL ret).before a0 Z = true) (wz : (Cond.initialized y.cls).before a0 Z = true) (hf : rm.frames + 1 ≤ R.frames) (hl : W + (maxL + 11) + rm.locals ≤ R.locals) :
    Back l R p e below s args y len W (fun A a => a = as' ∧ A.U.heap = h ∧ A.cells + rm.cells ≤ R.cells ∧ A.slots + rm.slots ≤ R.slots)
      (fun A _ v B => ∃ L, Q v B.U.heap L ∧ B.locs = A.locs ++ L ∧ B.cells = A.cells + rm.cells ∧ B.slots = A.slots + rm.slots) := backOf (Q := Q) hM hZ wc wz hf hl
theorem backCW (hM : CtrW l Z EL y bytes maxL ret [] rm as' h Q) (hZ : Z.Warmed39 vm0) (wc : (Cond.code y bytes maxL ret).before a0 Z = true) (wz : (Cond.initialized y.cls).before a0 Z = true) (hf : rm.frames + 1 ≤ R.frames) (hl : W + (maxL + 11) + rm.locals ≤ R.locals) (hEL : EW Z a0 EL) (H : CHv Z EL vm0 h) :
    BackS l R p e below (s.setVm vm0) args y len W (fun A a => a = as' ∧ A.U.heap = h ∧ A.cells + rm.cells ≤ R.cells ∧ A.slots + rm.slots ≤ R.slots)
      (fun A _ v B => ∃ L, Q v B.U.heap L ∧ B.locs = A.locs ++ L ∧ B.cells = A.cells + rm.cells ∧ B.slots = A.slots + rm.slots ∧ CHr Z EL vm0 h B.U.vm B.U.heap) := backOfSH (Q := Q) hM hZ wc wz hf hl hEL H
end Own
end Jvm.RoadKit
/- laws to paste: Road.backV, Road.chN, Road.codOf (cut by pick.py; bodies as the Statement names them) -/
namespace Jvm.Pilot.@@N@@
namespace StrChars
open Jvm Sem ClassFile Op Lib Jvm.Stand Jvm.Free.XT Jvm.Free.ALB Jvm.Free.JM Jvm.Free
open Jvm.Lib.Cold (StaticIs)
/-- a char array whose places are chars -/
def Ch (a : Addr) (A : Cell) (U : State) : Prop := Arr .char a A U ∧ Typed .char A
theorem Ch.mv {a : Addr} {A : Cell} {U U' : State} (h : Ch a A U) (hal : U.vm.Alike U'.vm) (hh : U'.heap = U.heap) : Ch a A U' := ⟨h.1.mv hal hh, h.2⟩
theorem Ch.keep {a : Addr} {A : Cell} {U U' : State} (h : Ch a A U) (hal : U.vm.Alike U'.vm) (hk : U'.heap[a]? = some A) : Ch a A U' := ⟨h.1.keep hal hk, h.2⟩
/-- what place i of a char[]'s cell holds -/
def cv (A : Cell) (i : Nat) : Int32 := match A.slots[i]? with | some (.int x) => x | _ => 0
theorem Ch.get {a : Addr} {A : Cell} {U : State} (h : Ch a A U) {i : Nat} (hi : i < A.slots.size) : A.slots[i]? = some (.int (cv A i)) := by
  have e := Array.getElem?_eq_getElem hi
  have f := h.2 i _ e
  unfold cv; rw [e]
  generalize A.slots[i] = v at f
  cases v <;> simp [fits] at f ⊢
/-- the byte that i2b leaves of a char -/
def lo8 (x : Int32) : Int32 := x.toInt8.toInt32
theorem fits_lo8 (y : Int32) : fits .byte (.int (lo8 y)) = true := by
  have h1 := y.toInt8.le_toInt
  have h2 := y.toInt8.toInt_lt
  simp only [lo8, fits, Bool.and_eq_true, decide_eq_true_eq, Int32.le_iff_toInt_le, Int8.toInt_toInt32, show (-128 : Int32).toInt = -128 from by decide, show (127 : Int32).toInt = 127 from by decide]
  omega
/-- A' is A but that each place j of lo .. hi - 1 holds f j -/
def Laid (A A' : Cell) (lo hi : Nat) (f : Nat → Value) : Prop := A'.cls = A.cls ∧ A'.vm = A.vm ∧ A'.slots.size = A.slots.size ∧ ∀ i, A'.slots[i]? = if lo ≤ i ∧ i < hi then some (f i) else A.slots[i]?
theorem Laid.zero (A : Cell) (lo : Nat) (f : Nat → Value) : Laid A A lo (lo + 0) f := ⟨rfl, rfl, rfl, fun i => by rw [if_neg (by omega)]⟩
theorem Laid.step {A Ak : Cell} {lo k : Nat} {f : Nat → Value} {v : Value} (h : Laid A Ak lo k f) (hlo : lo ≤ k) (hk : k < Ak.slots.size) (hv : v = f k) : Laid A (Ak.setSlot k v) lo (k + 1) f := by
  refine ⟨h.1, h.2.1, by simpa [Cell.setSlot] using h.2.2.1, fun i => ?_⟩
  by_cases e : k = i
  · subst e; rw [Cell.slots_setSlot_self v hk, if_pos (by omega), hv]
  · rw [Cell.slots_setSlot_ne v e, h.2.2.2 i]
    by_cases q : lo ≤ i ∧ i < k
    · rw [if_pos q, if_pos (by omega)]
    · rw [if_neg q, if_neg (by omega)]
def U16 : String := "java/lang/StringUTF16"
namespace Cmp5
def yN : MethodName := ⟨"java/lang/StringUTF16", "compress", "([CI[BII)I"⟩
abbrev yB : ByteArray := jdk_52_method_21_code
theorem d0 : decode yB 0 = .ok (.iconst 0, 1) := by decide +kernel
theorem d1 : decode yB 1 = .ok (.istore 5, 2) := by decide +kernel
theorem d3 : decode yB 3 = .ok (.iload 5, 2) := by decide +kernel
theorem d5 : decode yB 5 = .ok (.iload 4, 2) := by decide +kernel
theorem d7 : decode yB 7 = .ok (.if_icmp (.ge) 37, 3) := by decide +kernel
theorem d10 : decode yB 10 = .ok (.aload_n 0, 1) := by decide +kernel
theorem d11 : decode yB 11 = .ok (.iload_n 1, 1) := by decide +kernel
theorem d12 : decode yB 12 = .ok (.caload, 1) := by decide +kernel
theorem d13 : decode yB 13 = .ok (.istore 6, 2) := by decide +kernel
theorem d15 : decode yB 15 = .ok (.iload 6, 2) := by decide +kernel
theorem d17 : decode yB 17 = .ok (.sipush 255, 3) := by decide +kernel
theorem d20 : decode yB 20 = .ok (.if_icmp (.le) 6, 3) := by decide +kernel
theorem d26 : decode yB 26 = .ok (.aload_n 2, 1) := by decide +kernel
theorem d27 : decode yB 27 = .ok (.iload_n 3, 1) := by decide +kernel
theorem d28 : decode yB 28 = .ok (.iload 6, 2) := by decide +kernel
theorem d30 : decode yB 30 = .ok (.i2b, 1) := by decide +kernel
theorem d31 : decode yB 31 = .ok (.bastore, 1) := by decide +kernel
theorem d32 : decode yB 32 = .ok (.iinc 1 1, 3) := by decide +kernel
theorem d35 : decode yB 35 = .ok (.iinc 3 1, 3) := by decide +kernel
theorem d38 : decode yB 38 = .ok (.iinc 5 1, 3) := by decide +kernel
theorem d41 : decode yB 41 = .ok (.goto (-38), 3) := by decide +kernel
theorem d44 : decode yB 44 = .ok (.iload 4, 2) := by decide +kernel
theorem d46 : decode yB 46 = .ok (.ireturn, 1) := by decide +kernel
def site : List Cond := []
def tab : Cond := tabOf yN yB 7 (some .int) site
def P (b : Addr) (A : Cell) (d : Addr) (B : Cell) (o q len : Nat) (args : Array Value) (s : State) : Prop := args = #[.ref b, .int (Int32.ofNat o), .ref d, .int (Int32.ofNat q), .int (Int32.ofNat len)] ∧ Ch b A s ∧ Arr .byte d B s ∧ b ≠ d ∧ o + len ≤ A.slots.size ∧ q + len ≤ B.slots.size ∧ ∀ i, i < len → ¬ 255 < cv A (o + i)
def E (b : Addr) (A : Cell) (d : Addr) (B : Cell) (o q len : Nat) (r : Option Value) (s u : State) : Prop := r = some (.int (Int32.ofNat len)) ∧ ∃ B', Put d B' s u ∧ Laid B B' q (q + len) (fun j => Value.int (lo8 (cv A (o + (j - q)))))
/-- no char of the range above 255: len; the places written hold each char's low byte -/
theorem law (l : Launch) (b : Addr) (A : Cell) (d : Addr) (B : Cell) (o q len : Nat) : Law l yN 5 5 0 0 yB 7 (some .int) site (P b A d B o q len) (E b A d B o q len) (copyLocs d q len) 0 0 := by
  refine Law.of_walk (plainFor_of_name (by decide +kernel)) (by decide +kernel) (by decide +kernel) (by decide) (fun _ _ h => by rw [h.1]; rfl) (fun _ U U' hal hh h => ⟨h.1, h.2.1.mv hal hh, h.2.2.1.mv hal hh, h.2.2.2⟩) (fun r U U' V V' h1 hal h2 h => ⟨h.1, h.2.elim fun B' q => ⟨B', q.1.mv h1 h2, q.2⟩⟩) ?_
  intro p e s m args below meth c s₁ X0 hexec hbytes hml hret hlk hnm hown hh0 W hP
  obtain ⟨rfl, hA, hB, hne, l1, l2, hp⟩ := hP
  have c1 : Steps p.tables e below (s₁.setTop (entryFrame m #[.ref b, .int (Int32.ofNat o), .ref d, .int (Int32.ofNat q), .int (Int32.ofNat len)] 7)) (s₁.setTop (mkF m 0 #[.val (.ref b), .val (.int (Int32.ofNat o)), .val (.ref d), .val (.int (Int32.ofNat q)), .val (.int (Int32.ofNat len)), .unset, .unset] [])) := entry rfl
  have hA0 := hA.1.mv X0.warmed.alike hh0
  have hB0 := hB.mv X0.warmed.alike hh0
  have a31 := hA.1.2.2.2
  have c2 : Steps p.tables e below (s₁.setTop (entryFrame m #[.ref b, .int (Int32.ofNat o), .ref d, .int (Int32.ofNat q), .int (Int32.ofNat len)] 7)) (s₁.setTop (mkF m 3 #[.val (.ref b), .val (.int (Int32.ofNat o)), .val (.ref d), .val (.int (Int32.ofNat q)), .val (.int (Int32.ofNat len)), .val (.int 0), .unset] [])) := c1.trans (by
    refine iconstV X0.here hexec rfl 0 (hb hbytes d0) (by decide) ?_
    refine XS.istore X0.here hexec rfl (hb hbytes d1) rfl rfl ?_
    exact Steps.refl _)
  have loop : ∀ (r i : Nat), i + r = len → ∀ (z : Slot), (z = .unset ∨ ∃ w, z = .val w ∧ w.category = 1) → ∀ (Tl : State) (Bk : Cell), Stand p l e { frames := 0, locals := 0, cells := 0, slots := 0 } s m #[.ref b, .int (Int32.ofNat o), .ref d, .int (Int32.ofNat q), .int (Int32.ofNat len)] below meth c Tl ([] ++ copyLocs d q i) 0 0 → Put d Bk s₁ Tl → Laid B Bk q (q + i) (fun j => Value.int (lo8 (cv A (o + (j - q))))) →
      Steps p.tables e below (s₁.setTop (entryFrame m #[.ref b, .int (Int32.ofNat o), .ref d, .int (Int32.ofNat q), .int (Int32.ofNat len)] 7)) (Tl.setTop (mkF m 3 #[.val (.ref b), .val (.int (Int32.ofNat (o + i))), .val (.ref d), .val (.int (Int32.ofNat (q + i))), .val (.int (Int32.ofNat len)), .val (.int (Int32.ofNat i)), z] [])) → ∃ (T' : State) (B' : Cell) (z' : Slot), Stand p l e { frames := 0, locals := 0, cells := 0, slots := 0 } s m #[.ref b, .int (Int32.ofNat o), .ref d, .int (Int32.ofNat q), .int (Int32.ofNat len)] below meth c T' ([] ++ copyLocs d q len) 0 0 ∧ Put d B' s₁ T' ∧ Laid B B' q (q + len) (fun j => Value.int (lo8 (cv A (o + (j - q))))) ∧
      Steps p.tables e below (s₁.setTop (entryFrame m #[.ref b, .int (Int32.ofNat o), .ref d, .int (Int32.ofNat q), .int (Int32.ofNat len)] 7)) (T'.setTop (mkF m 3 #[.val (.ref b), .val (.int (Int32.ofNat (o + len))), .val (.ref d), .val (.int (Int32.ofNat (q + len))), .val (.int (Int32.ofNat len)), .val (.int (Int32.ofNat len)), z'] [])) := by
    intro r
    induction r with
    | zero =>
      intro i hi z hz Tl Bk Xl pl fl cl
      have hil : i = len := by omega
      rw [hil] at Xl fl cl
      exact ⟨Tl, Bk, z, Xl, pl, fl, cl⟩
    | succ r ih =>
      intro i hi z hz Tl Bk Xl pl fl cl
      have all := X0.warmed.alike.symm.trans Xl.warmed.alike
      have hAl := hA0.keep all (pl.other hne hA0.1)
      have hBk := hB0.like all pl.1 fl.1 fl.2.1 fl.2.2.1
      have hlt : q + i < Bk.slots.size := by rw [fl.2.2.1]; omega
      have c3 : Steps p.tables e below (s₁.setTop (entryFrame m #[.ref b, .int (Int32.ofNat o), .ref d, .int (Int32.ofNat q), .int (Int32.ofNat len)] 7)) (Tl.setTop (mkF m 12 #[.val (.ref b), .val (.int (Int32.ofNat (o + i))), .val (.ref d), .val (.int (Int32.ofNat (q + i))), .val (.int (Int32.ofNat len)), .val (.int (Int32.ofNat i)), z] [.int (Int32.ofNat (o + i)), .ref b])) := cl.trans (by
        refine XS.iload Xl.here hexec rfl (hb hbytes d3) rfl ?_
        refine XS.iload Xl.here hexec rfl (hb hbytes d5) rfl ?_
        refine XS.icmpNo Xl.here hexec rfl (hb hbytes d7) rfl (ii_ge_f (lt32 (by omega) (by omega))) ?_
        refine XS.aloadN Xl.here hexec rfl (hb hbytes d10) rfl rfl ?_
        refine XS.iloadN Xl.here hexec rfl (hb hbytes d11) rfl ?_
        exact Steps.refl _)
      have c4 : Steps p.tables e below (s₁.setTop (entryFrame m #[.ref b, .int (Int32.ofNat o), .ref d, .int (Int32.ofNat q), .int (Int32.ofNat len)] 7)) (Tl.setTop (mkF m 13 #[.val (.ref b), .val (.int (Int32.ofNat (o + i))), .val (.ref d), .val (.int (Int32.ofNat (q + i))), .val (.int (Int32.ofNat len)), .val (.int (Int32.ofNat i)), z] [.int (cv A (o + i))])) := c3.trans (by
        refine Xl.aget hexec hAl rfl (hA.get (i := o + i) (by omega)) rfl rfl (hb hbytes d12) ?_
        exact Steps.refl _)
      have c5 : Steps p.tables e below (s₁.setTop (entryFrame m #[.ref b, .int (Int32.ofNat o), .ref d, .int (Int32.ofNat q), .int (Int32.ofNat len)] 7)) (Tl.setTop (mkF m 15 #[.val (.ref b), .val (.int (Int32.ofNat (o + i))), .val (.ref d), .val (.int (Int32.ofNat (q + i))), .val (.int (Int32.ofNat len)), .val (.int (Int32.ofNat i)), .val (.int (cv A (o + i)))] [])) := c4.trans (by
        refine XS.istoreS Xl.here hexec rfl (hb hbytes d13) rfl rfl hz ?_
        exact Steps.refl _)
      have c6 : Steps p.tables e below (s₁.setTop (entryFrame m #[.ref b, .int (Int32.ofNat o), .ref d, .int (Int32.ofNat q), .int (Int32.ofNat len)] 7)) (Tl.setTop (mkF m 31 #[.val (.ref b), .val (.int (Int32.ofNat (o + i))), .val (.ref d), .val (.int (Int32.ofNat (q + i))), .val (.int (Int32.ofNat len)), .val (.int (Int32.ofNat i)), .val (.int (cv A (o + i)))] [.int (lo8 (cv A (o + i))), .int (Int32.ofNat (q + i)), .ref d])) := c5.trans (by
        refine XS.iload Xl.here hexec rfl (hb hbytes d15) rfl ?_
        refine sipushV Xl.here hexec rfl 255 (hb hbytes d17) (by decide) ?_
        refine XS.icmpYes Xl.here hexec rfl (pc0 := 20) rfl (hb hbytes d20) rfl (ii_le_t (hp i (by omega))) (by decide) rfl ?_
        refine XS.aloadN Xl.here hexec rfl (hb hbytes d26) rfl rfl ?_
        refine XS.iloadN Xl.here hexec rfl (hb hbytes d27) rfl ?_
        refine XS.iload Xl.here hexec rfl (hb hbytes d28) rfl ?_
        refine i2b Xl.here hexec rfl (hb hbytes d30) rfl ?_
        exact Steps.refl _)
      obtain ⟨T7, X7, p7, st7⟩ := Xl.aput hexec hBk rfl hlt rfl (fits_lo8 (cv A (o + i))) (g := (mkF m 31 #[.val (.ref b), .val (.int (Int32.ofNat (o + i))), .val (.ref d), .val (.int (Int32.ofNat (q + i))), .val (.int (Int32.ofNat len)), .val (.int (Int32.ofNat i)), .val (.int (cv A (o + i)))] [.int (lo8 (cv A (o + i))), .int (Int32.ofNat (q + i)), .ref d])) rfl (rest := []) rfl (hb hbytes d31)
      have c8 : Steps p.tables e below (s₁.setTop (entryFrame m #[.ref b, .int (Int32.ofNat o), .ref d, .int (Int32.ofNat q), .int (Int32.ofNat len)] 7)) (T7.setTop (mkF m 32 #[.val (.ref b), .val (.int (Int32.ofNat (o + i))), .val (.ref d), .val (.int (Int32.ofNat (q + i))), .val (.int (Int32.ofNat len)), .val (.int (Int32.ofNat i)), .val (.int (cv A (o + i)))] [])) := c6.trans (st7 _ (Steps.refl _))
      have c9 : Steps p.tables e below (s₁.setTop (entryFrame m #[.ref b, .int (Int32.ofNat o), .ref d, .int (Int32.ofNat q), .int (Int32.ofNat len)] 7)) (T7.setTop (mkF m 3 #[.val (.ref b), .val (.int (Int32.ofNat (o + i) + 1)), .val (.ref d), .val (.int (Int32.ofNat (q + i) + 1)), .val (.int (Int32.ofNat len)), .val (.int (Int32.ofNat i + 1)), .val (.int (cv A (o + i)))] [])) := c8.trans (by
        refine iincV X7.here hexec rfl 1 (hb hbytes d32) (by decide) rfl rfl ?_
        refine iincV X7.here hexec rfl 1 (hb hbytes d35) (by decide) rfl rfl ?_
        refine iincV X7.here hexec rfl 1 (hb hbytes d38) (by decide) rfl rfl ?_
        refine XS.goto X7.here hexec rfl (pc0 := 41) rfl (hb hbytes d41) (by decide) rfl ?_
        exact Steps.refl _)
      have c10 : Steps p.tables e below (s₁.setTop (entryFrame m #[.ref b, .int (Int32.ofNat o), .ref d, .int (Int32.ofNat q), .int (Int32.ofNat len)] 7)) (T7.setTop (mkF m 3 #[.val (.ref b), .val (.int (Int32.ofNat (o + (i + 1)))), .val (.ref d), .val (.int (Int32.ofNat (q + (i + 1)))), .val (.int (Int32.ofNat len)), .val (.int (Int32.ofNat (i + 1))), .val (.int (cv A (o + i)))] [])) := by
        have := c9
        rw [succ32, succ32, succ32] at this
        exact this
      exact ih (i + 1) (by omega) _ (Or.inr ⟨_, rfl, rfl⟩) T7 _ (by rw [copyLocs_step, ← List.append_assoc]; exact X7) (pl.trans p7) (fl.step (by omega) hlt (by simp)) c10
  obtain ⟨T9, B9, z9, X9, p9, f9, g9⟩ := loop len 0 (by omega) .unset (Or.inl rfl) s₁ B (by simpa [copyLocs] using X0) ⟨hB0.1, fun _ _ => rfl, rfl⟩ (Laid.zero _ _ _) c2
  have c11 : Steps p.tables e below (s₁.setTop (entryFrame m #[.ref b, .int (Int32.ofNat o), .ref d, .int (Int32.ofNat q), .int (Int32.ofNat len)] 7)) (T9.setTop (mkF m 46 #[.val (.ref b), .val (.int (Int32.ofNat (o + len))), .val (.ref d), .val (.int (Int32.ofNat (q + len))), .val (.int (Int32.ofNat len)), .val (.int (Int32.ofNat len)), z9] [.int (Int32.ofNat len)])) := g9.trans (by
    refine XS.iload X9.here hexec rfl (hb hbytes d3) rfl ?_
    refine XS.iload X9.here hexec rfl (hb hbytes d5) rfl ?_
    refine XS.icmpYes X9.here hexec rfl (pc0 := 7) rfl (hb hbytes d7) rfl (ii_ge_t (nlt32 (by omega) (Nat.le_refl _))) (by decide) rfl ?_
    refine XS.iload X9.here hexec rfl (hb hbytes d44) rfl ?_
    exact Steps.refl _)
  exact ⟨T9, some (.int (Int32.ofNat len)), _, _, _, X9, by simp, rfl, rfl, (fun h => by cases h), ⟨rfl, B9, p9.from hh0, f9⟩, fun fs hl => c11.trans (X9.ireturnOut hexec hret rfl (Or.inl rfl) (hb hbytes d46) hl)⟩
end Cmp5
namespace Cmp3
def yN : MethodName := ⟨"java/lang/StringUTF16", "compress", "([CII)[B"⟩
abbrev yB : ByteArray := jdk_52_method_16_code
theorem d0 : decode yB 0 = .ok (.iload_n 2, 1) := by decide +kernel
theorem d1 : decode yB 1 = .ok (.newarray .byte, 2) := by decide +kernel
theorem d3 : decode yB 3 = .ok (.astore_n 3, 1) := by decide +kernel
theorem d4 : decode yB 4 = .ok (.aload_n 0, 1) := by decide +kernel
theorem d5 : decode yB 5 = .ok (.iload_n 1, 1) := by decide +kernel
theorem d6 : decode yB 6 = .ok (.aload_n 3, 1) := by decide +kernel
theorem d7 : decode yB 7 = .ok (.iconst 0, 1) := by decide +kernel
theorem d8 : decode yB 8 = .ok (.iload_n 2, 1) := by decide +kernel
theorem d9 : decode yB 9 = .ok (.invokestatic 115, 3) := by decide +kernel
theorem d12 : decode yB 12 = .ok (.istore 4, 2) := by decide +kernel
theorem d14 : decode yB 14 = .ok (.iload 4, 2) := by decide +kernel
theorem d16 : decode yB 16 = .ok (.iload_n 2, 1) := by decide +kernel
theorem d17 : decode yB 17 = .ok (.if_icmp (.eq) 40, 3) := by decide +kernel
theorem d57 : decode yB 57 = .ok (.aload_n 3, 1) := by decide +kernel
theorem d58 : decode yB 58 = .ok (.areturn, 1) := by decide +kernel
def site : List Cond := [.arrayClass .byte, Cmp5.tab] ++ staticW U16 115 Cmp5.yN
def tab : Cond := tabOf yN yB 6 (some (.array .byte)) site
def P (b : Addr) (A : Cell) (o len : Nat) (args : Array Value) (s : State) : Prop := args = #[.ref b, .int (Int32.ofNat o), .int (Int32.ofNat len)] ∧ Ch b A s ∧ o + len ≤ A.slots.size ∧ len ≤ 536870912 ∧ ∀ i, i < len → ¬ 255 < cv A (o + i)
def E (b : Addr) (A : Cell) (o len : Nat) (r : Option Value) (s u : State) : Prop := NewArr .byte "[B" len (fun j => .int (lo8 (cv A (o + j)))) r s u ∧ u.heap.size = s.heap.size + 1
/-- no char of the range above 255: a new byte[] of their low bytes -/
theorem law (l : Launch) (b : Addr) (A : Cell) (o len : Nat) : Law l yN 3 3 1 18 yB 6 (some (.array .byte)) site (P b A o len) (E b A o len) [] 1 len := by
  refine Law.of_walk (plainFor_of_name (by decide +kernel)) (by decide +kernel) (by decide +kernel) (by decide) (fun _ _ h => by rw [h.1]; rfl) (fun _ U U' hal hh h => ⟨h.1, h.2.1.mv hal hh, h.2.2⟩) (fun r U U' V V' h1 hal h2 h => ⟨NewArr.mv r U U' V V' h1 hal h2 h.1, by rw [h1, h2]; exact h.2⟩) ?_
  intro p e s m args below meth c s₁ X0 hexec hbytes hml hret hlk hnm hown hh0 W hP
  obtain ⟨rfl, hA, l1, l2, hp⟩ := hP
  have a31 := hA.1.2.2.2
  have c1 : Steps p.tables e below (s₁.setTop (entryFrame m #[.ref b, .int (Int32.ofNat o), .int (Int32.ofNat len)] 6)) (s₁.setTop (mkF m 0 #[.val (.ref b), .val (.int (Int32.ofNat o)), .val (.int (Int32.ofNat len)), .unset, .unset, .unset] [])) := entry rfl
  have c2 : Steps p.tables e below (s₁.setTop (entryFrame m #[.ref b, .int (Int32.ofNat o), .int (Int32.ofNat len)] 6)) (s₁.setTop (mkF m 1 #[.val (.ref b), .val (.int (Int32.ofNat o)), .val (.int (Int32.ofNat len)), .unset, .unset, .unset] [.int (Int32.ofNat len)])) := c1.trans (by
    refine XS.iloadN X0.here hexec rfl (hb hbytes d0) rfl ?_
    exact Steps.refl _)
  obtain ⟨T3, B3, X3, ba3, bs3, bv3, bh3, bf3, st3⟩ := X0.anew hexec (atype := .byte) (wk W (.arrayClass .byte)) rfl (by show len * 1 ≤ _; omega) (by omega) (g := (mkF m 1 #[.val (.ref b), .val (.int (Int32.ofNat o)), .val (.int (Int32.ofNat len)), .unset, .unset, .unset] [.int (Int32.ofNat len)])) rfl (hb hbytes d1) (rest := []) rfl (Nat.le_refl _) (by show 0 + len ≤ len; omega)
  rw [hh0] at ba3 st3
  have kp3 : XT.Kept s T3 := (XT.Kept.of_eq hh0).push bh3
  have hA3 := hA.keep X3.warmed.alike (kp3 _ _ hA.1.1)
  have hne : b ≠ s.heap.size := hA.1.ne
  have c4 : Steps p.tables e below (s₁.setTop (entryFrame m #[.ref b, .int (Int32.ofNat o), .int (Int32.ofNat len)] 6)) (T3.setTop (mkF m 3 #[.val (.ref b), .val (.int (Int32.ofNat o)), .val (.int (Int32.ofNat len)), .unset, .unset, .unset] [.ref s.heap.size])) := c2.trans (st3 _ (Steps.refl _))
  have c5 : Steps p.tables e below (s₁.setTop (entryFrame m #[.ref b, .int (Int32.ofNat o), .int (Int32.ofNat len)] 6)) (T3.setTop (mkF m 9 #[.val (.ref b), .val (.int (Int32.ofNat o)), .val (.int (Int32.ofNat len)), .val (.ref s.heap.size), .unset, .unset] [.int (Int32.ofNat len), .int 0, .ref s.heap.size, .int (Int32.ofNat o), .ref b])) := c4.trans (by
    refine XS.astoreN X3.here hexec rfl (hb hbytes d3) rfl rfl rfl ?_
    refine XS.aloadN X3.here hexec rfl (hb hbytes d4) rfl rfl ?_
    refine XS.iloadN X3.here hexec rfl (hb hbytes d5) rfl ?_
    refine XS.aloadN X3.here hexec rfl (hb hbytes d6) rfl rfl ?_
    refine iconstV X3.here hexec rfl 0 (hb hbytes d7) (by decide) ?_
    refine XS.iloadN X3.here hexec rfl (hb hbytes d8) rfl ?_
    exact Steps.refl _)
  obtain ⟨v6, T6, X6, E6, g6⟩ := X3.callS hexec (Cmp5.law l b A s.heap.size B3 o 0 len) hown (wks W (staticW U16 115 Cmp5.yN)) (wk W Cmp5.tab) (W := 0) (Nat.le_of_ble_eq_true rfl) (Nat.le_of_ble_eq_true rfl) (Nat.le_refl _) (by show 0 + len + 0 ≤ len; omega) (g := (mkF m 9 #[.val (.ref b), .val (.int (Int32.ofNat o)), .val (.int (Int32.ofNat len)), .val (.ref s.heap.size), .unset, .unset] [.int (Int32.ofNat len), .int (Int32.ofNat 0), .ref s.heap.size, .int (Int32.ofNat o), .ref b])) rfl (by rw [hml]; rfl) c5 (argsL := [.ref b, .int (Int32.ofNat o), .ref s.heap.size, .int (Int32.ofNat 0), .int (Int32.ofNat len)]) (rest := []) rfl rfl (by show 2 * 0 + 0 ≤ _; decide) (hb hbytes d9) (⟨rfl, hA3, ba3, hne, l1, by rw [bs3]; simp, hp⟩)
  obtain ⟨rfl, B6, p6, f6⟩ := E6
  have c7 : Steps p.tables e below (s₁.setTop (entryFrame m #[.ref b, .int (Int32.ofNat o), .int (Int32.ofNat len)] 6)) (T6.setTop (mkF m 12 #[.val (.ref b), .val (.int (Int32.ofNat o)), .val (.int (Int32.ofNat len)), .val (.ref s.heap.size), .unset, .unset] [.int (Int32.ofNat len)])) := g6
  have c8 : Steps p.tables e below (s₁.setTop (entryFrame m #[.ref b, .int (Int32.ofNat o), .int (Int32.ofNat len)] 6)) (T6.setTop (mkF m 58 #[.val (.ref b), .val (.int (Int32.ofNat o)), .val (.int (Int32.ofNat len)), .val (.ref s.heap.size), .val (.int (Int32.ofNat len)), .unset] [.ref s.heap.size])) := c7.trans (by
    refine XS.istore X6.here hexec rfl (hb hbytes d12) rfl rfl ?_
    refine XS.iload X6.here hexec rfl (hb hbytes d14) rfl ?_
    refine XS.iloadN X6.here hexec rfl (hb hbytes d16) rfl ?_
    refine XS.icmpYes X6.here hexec rfl (pc0 := 17) rfl (hb hbytes d17) rfl (ii_eq_t rfl) (by decide) rfl ?_
    refine XS.aloadN X6.here hexec rfl (hb hbytes d57) rfl rfl ?_
    exact Steps.refl _)
  have X8 := X6.wide (L' := []) (cells' := 1) (slots' := len) (fun x hx hlt => by
    simp only [List.nil_append, copyLocs, List.mem_map, List.mem_range] at hx
    obtain ⟨i, -, rfl⟩ := hx
    exact absurd hlt (Nat.lt_irrefl _)) (Nat.le_refl _) (by omega)
  exact ⟨T6, some (.ref s.heap.size), _, _, _, X8, rfl, rfl, rfl, (fun h => by cases h), ⟨⟨rfl, B6, ba3.like (X3.warmed.alike.symm.trans X6.warmed.alike) p6.1 f6.1 f6.2.1 f6.2.2.1, f6.2.1.trans bv3, by rw [X6.warmed.alike.findClass, f6.1]; exact bf3, by rw [f6.2.2.1, bs3]; simp, fun j hj => by rw [f6.2.2.2 j, if_pos (by omega)]; rfl, kp3.put p6 (Nat.le_refl _)⟩, by rw [p6.2.2, bh3, hh0]; simp⟩, fun fs hl => c8.trans (X8.areturnOut hexec rfl hret rfl (hb hbytes d58) hl)⟩
end Cmp3
namespace CodL
def yN : MethodName := ⟨"java/lang/StringUTF16", "coderFromArrayLen", "([BI)B"⟩
abbrev yB : ByteArray := jdk_52_method_15_code
theorem d0 : decode yB 0 = .ok (.iload_n 1, 1) := by decide +kernel
theorem d1 : decode yB 1 = .ok (.aload_n 0, 1) := by decide +kernel
theorem d2 : decode yB 2 = .ok (.arraylength, 1) := by decide +kernel
theorem d3 : decode yB 3 = .ok (.isub, 1) := by decide +kernel
theorem d4 : decode yB 4 = .ok (.bipush 31, 2) := by decide +kernel
theorem d6 : decode yB 6 = .ok (.iushr, 1) := by decide +kernel
theorem d7 : decode yB 7 = .ok (.i2b, 1) := by decide +kernel
theorem d8 : decode yB 8 = .ok (.ireturn, 1) := by decide +kernel
def site : List Cond := []
def tab : Cond := tabOf yN yB 2 (some .byte) site
def P (d : Addr) (B : Cell) (args : Array Value) (s : State) : Prop := args = #[.ref d, .int (Int32.ofNat B.slots.size)] ∧ Arr .byte d B s
def E (r : Option Value) (s u : State) : Prop := XT.PureE (some (.int 0)) r s u
/-- an array as long as the number of chars: LATIN1 -/
theorem law (l : Launch) (d : Addr) (B : Cell) : Law l yN 2 2 0 0 yB 2 (some .byte) site (P d B) E [] 0 0 := by
  refine Law.of_walk (plainFor_of_name (by decide +kernel)) (by decide +kernel) (by decide +kernel) (by decide) (fun _ _ h => by rw [h.1]; rfl) (fun _ U U' hal hh h => ⟨h.1, h.2.mv hal hh⟩) (fun r U U' V V' h1 hal h2 h => XT.PureE.mv r U U' V V' h1 hal h2 h) ?_
  intro p e s m args below meth c s₁ X0 hexec hbytes hml hret hlk hnm hown hh0 W hP
  obtain ⟨rfl, hB⟩ := hP
  have hB0 := hB.mv X0.warmed.alike hh0
  have c1 : Steps p.tables e below (s₁.setTop (entryFrame m #[.ref d, .int (Int32.ofNat B.slots.size)] 2)) (s₁.setTop (mkF m 0 #[.val (.ref d), .val (.int (Int32.ofNat B.slots.size))] [])) := entry rfl
  have c2 : Steps p.tables e below (s₁.setTop (entryFrame m #[.ref d, .int (Int32.ofNat B.slots.size)] 2)) (s₁.setTop (mkF m 2 #[.val (.ref d), .val (.int (Int32.ofNat B.slots.size))] [.ref d, .int (Int32.ofNat B.slots.size)])) := c1.trans (by
    refine XS.iloadN X0.here hexec rfl (hb hbytes d0) rfl ?_
    refine XS.aloadN X0.here hexec rfl (hb hbytes d1) rfl rfl ?_
    exact Steps.refl _)
  have c3 : Steps p.tables e below (s₁.setTop (entryFrame m #[.ref d, .int (Int32.ofNat B.slots.size)] 2)) (s₁.setTop (mkF m 8 #[.val (.ref d), .val (.int (Int32.ofNat B.slots.size))] [.int (lo8 (ushr (Int32.ofNat B.slots.size - Int32.ofNat B.slots.size) 31))])) := c2.trans (by
    refine X0.alen hexec hB0 rfl rfl (hb hbytes d2) ?_
    refine XS.isub X0.here hexec rfl (hb hbytes d3) rfl ?_
    refine bipushV X0.here hexec rfl 31 (hb hbytes d4) (by decide) ?_
    refine iushr X0.here hexec rfl (hb hbytes d6) rfl ?_
    refine i2b X0.here hexec rfl (hb hbytes d7) rfl ?_
    exact Steps.refl _)
  have e0 : lo8 (ushr (Int32.ofNat B.slots.size - Int32.ofNat B.slots.size) 31) = 0 := by rw [Int32.sub_self]; decide
  rw [e0] at c3
  exact ⟨s₁, some (.int 0), _, _, _, X0, rfl, rfl, rfl, (fun h => by cases h), ⟨rfl, hh0⟩, fun fs hl => c3.trans (X0.ireturnOut hexec hret rfl (Or.inr (Or.inr (Or.inl rfl))) (hb hbytes d8) hl)⟩
end CodL
/-- the String at a is Latin-1 over a new byte[] (the heap's one new cell): the low bytes of the len chars of A from o on; every cell but a is kept -/
def Got (a : Addr) (D : Cell) (fV fC : Field) (A : Cell) (o len : Nat) (r : Option Value) (s u : State) : Prop := r = none ∧ ∃ D' V : Cell, Blank "java/lang/String" a D' u ∧ Same D D' [fV.slot, fC.slot] ∧ D'.slots[fV.slot]? = some (.ref s.heap.size) ∧ D'.slots[fC.slot]? = some (.int 0) ∧ Arr .byte s.heap.size V u ∧ V.vm = .none ∧ u.vm.findClass "[B" = some V.cls ∧ V.slots.size = len ∧ (∀ j, j < len → V.slots[j]? = some (.int (lo8 (cv A (o + j))))) ∧ (∀ (y : Addr) (c : Cell), y ≠ a → s.heap[y]? = some c → u.heap[y]? = some c) ∧ u.heap.size = s.heap.size + 1
theorem Got.mv {a : Addr} {D A : Cell} {fV fC : Field} {o len : Nat} : ∀ r (U U' V V' : State), U'.heap = U.heap → V.vm.Alike V'.vm → V'.heap = V.heap → Got a D fV fC A o len r U V → Got a D fV fC A o len r U' V' :=
  fun r U U' V V' h1 hal h2 ⟨e0, D', X, a1, a2, a3, a4, a5, a6, a7, a8, a9, a10, a11⟩ => ⟨e0, D', X, a1.mv hal h2, a2, by rw [h1]; exact a3, a4, by rw [h1]; exact a5.mv hal h2, a6, by rw [hal.findClass]; exact a7, a8, a9, by rw [h1, h2]; exact a10, by rw [h1, h2]; exact a11⟩
namespace New4
def yN : MethodName := ⟨"java/lang/String", "<init>", "([CIILjava/lang/Void;)V"⟩
abbrev yB : ByteArray := jdk_42_method_149_code
theorem d0 : decode yB 0 = .ok (.aload_n 0, 1) := by decide +kernel
theorem d1 : decode yB 1 = .ok (.invokespecial 1, 3) := by decide +kernel
theorem d4 : decode yB 4 = .ok (.iload_n 3, 1) := by decide +kernel
theorem d5 : decode yB 5 = .ok (.ifCond (.ne) 22, 3) := by decide +kernel
theorem d27 : decode yB 27 = .ok (.getstatic 38, 3) := by decide +kernel
theorem d30 : decode yB 30 = .ok (.ifCond (.eq) 28, 3) := by decide +kernel
theorem d33 : decode yB 33 = .ok (.aload_n 1, 1) := by decide +kernel
theorem d34 : decode yB 34 = .ok (.iload_n 2, 1) := by decide +kernel
theorem d35 : decode yB 35 = .ok (.iload_n 3, 1) := by decide +kernel
theorem d36 : decode yB 36 = .ok (.invokestatic 177, 3) := by decide +kernel
theorem d39 : decode yB 39 = .ok (.astore 5, 2) := by decide +kernel
theorem d41 : decode yB 41 = .ok (.aload_n 0, 1) := by decide +kernel
theorem d42 : decode yB 42 = .ok (.aload 5, 2) := by decide +kernel
theorem d44 : decode yB 44 = .ok (.iload_n 3, 1) := by decide +kernel
theorem d45 : decode yB 45 = .ok (.invokestatic 47, 3) := by decide +kernel
theorem d48 : decode yB 48 = .ok (.putfield 15, 3) := by decide +kernel
theorem d51 : decode yB 51 = .ok (.aload_n 0, 1) := by decide +kernel
theorem d52 : decode yB 52 = .ok (.aload 5, 2) := by decide +kernel
theorem d54 : decode yB 54 = .ok (.putfield 9, 3) := by decide +kernel
theorem d57 : decode yB 57 = .ok (.return_, 1) := by decide +kernel
def site : List Cond := [.fieldLink "java/lang/String" 38 "java/lang/String" "COMPACT_STRINGS" "Z", Cmp3.tab, CodL.tab, .laysFinal "java/lang/String" "java/lang/String" "value" "[B", .fieldLink "java/lang/String" 9 "java/lang/String" "value" "[B", .laysFinal "java/lang/String" "java/lang/String" "coder" "B", .fieldLink "java/lang/String" 15 "java/lang/String" "coder" "B"] ++ objW "java/lang/String" 1 ++ staticW "java/lang/String" 177 Cmp3.yN ++ staticW "java/lang/String" 47 CodL.yN
def tab : Cond := tabOf yN yB 6 none site
def P (a : Addr) (D : Cell) (fV fC : Field) (b : Addr) (A : Cell) (z : Int32) (o len : Nat) (args : Array Value) (s : State) : Prop := args = #[.ref a, .ref b, .int (Int32.ofNat o), .int (Int32.ofNat len), .null] ∧ Blank "java/lang/String" a D s ∧ Found "java/lang/String" "value" "[B" fV s ∧ Found "java/lang/String" "coder" "B" fC s ∧ Ch b A s ∧ StaticIs s "java/lang/String" "COMPACT_STRINGS" "Z" (.int z) ∧ ¬ z = 0 ∧ 0 < len ∧ o + len ≤ A.slots.size ∧ len ≤ 536870912 ∧ ∀ i, i < len → ¬ 255 < cv A (o + i)
def E (a : Addr) (D : Cell) (fV fC : Field) (A : Cell) (o len : Nat) (r : Option Value) (s u : State) : Prop := Got a D fV fC A o len r s u
/-- len > 0, no char of the range above 255: a Latin-1 String of their low bytes -/
theorem law (l : Launch) (a : Addr) (D : Cell) (fV fC : Field) (b : Addr) (A : Cell) (z : Int32) (o len : Nat) : Law l yN 5 4 2 35 yB 6 none site (P a D fV fC b A z o len) (E a D fV fC A o len) [⟨a, fC.slot⟩, ⟨a, fV.slot⟩] 1 len := by
  refine Law.of_walk (plainFor_of_name (by decide +kernel)) (by decide +kernel) (by decide +kernel) (by decide) (fun _ _ h => by rw [h.1]; rfl) (fun _ U U' hal hh h => ⟨h.1, h.2.1.mv hal hh, h.2.2.1.al hal, h.2.2.2.1.al hal, h.2.2.2.2.1.mv hal hh, h.2.2.2.2.2.1.there hal hh, h.2.2.2.2.2.2⟩) (fun r U U' V V' h1 hal h2 h => Got.mv r U U' V V' h1 hal h2 h) ?_
  intro p e s m args below meth c s₁ X0 hexec hbytes hml hret hlk hnm hown hh0 W hP
  obtain ⟨rfl, hB, f1, f2, hA, s1, hz, l0, l1, l2, hp⟩ := hP
  have a31 := hA.1.2.2.2
  have c1 : Steps p.tables e below (s₁.setTop (entryFrame m #[.ref a, .ref b, .int (Int32.ofNat o), .int (Int32.ofNat len), .null] 6)) (s₁.setTop (mkF m 0 #[.val (.ref a), .val (.ref b), .val (.int (Int32.ofNat o)), .val (.int (Int32.ofNat len)), .val .null, .unset] [])) := entry rfl
  have c2 : Steps p.tables e below (s₁.setTop (entryFrame m #[.ref a, .ref b, .int (Int32.ofNat o), .int (Int32.ofNat len), .null] 6)) (s₁.setTop (mkF m 1 #[.val (.ref a), .val (.ref b), .val (.int (Int32.ofNat o)), .val (.int (Int32.ofNat len)), .val .null, .unset] [.ref a])) := c1.trans (by
    refine XS.aloadN X0.here hexec rfl (hb hbytes d0) rfl rfl ?_
    exact Steps.refl _)
  obtain ⟨T3, X3, q3, st3⟩ := X0.oinit hexec hown (wks W (objW "java/lang/String" 1)) (g := (mkF m 1 #[.val (.ref a), .val (.ref b), .val (.int (Int32.ofNat o)), .val (.int (Int32.ofNat len)), .val .null, .unset] [.ref a])) rfl (by rw [hml]; rfl) (rest := []) rfl (hb hbytes d1) (W := 0) (by show 2 * 0 + 0 ≤ _; decide) (Nat.le_of_ble_eq_true rfl) (Nat.le_of_ble_eq_true rfl)
  have hh3 := q3.trans hh0
  have c4 : Steps p.tables e below (s₁.setTop (entryFrame m #[.ref a, .ref b, .int (Int32.ofNat o), .int (Int32.ofNat len), .null] 6)) (T3.setTop (mkF m 27 #[.val (.ref a), .val (.ref b), .val (.int (Int32.ofNat o)), .val (.int (Int32.ofNat len)), .val .null, .unset] [])) := (c2.trans (st3 _ (Steps.refl _))).trans (by
    refine XS.iloadN X3.here hexec rfl (hb hbytes d4) rfl ?_
    refine XS.ifYes X3.here hexec rfl (pc0 := 5) rfl (hb hbytes d5) rfl (i0_ne_t (nz32 (by omega) l0)) (by decide) rfl ?_
    exact Steps.refl _)
  obtain ⟨T5, X5, q5, st5⟩ := X3.sget hexec hown (wk W (.fieldLink "java/lang/String" 38 "java/lang/String" "COMPACT_STRINGS" "Z")) s1 (fun _ _ h => by rw [hh3]; exact h) (g := (mkF m 27 #[.val (.ref a), .val (.ref b), .val (.int (Int32.ofNat o)), .val (.int (Int32.ofNat len)), .val .null, .unset] [])) rfl (hb hbytes d27)
  have hh5 := q5.trans hh3
  have c6 : Steps p.tables e below (s₁.setTop (entryFrame m #[.ref a, .ref b, .int (Int32.ofNat o), .int (Int32.ofNat len), .null] 6)) (T5.setTop (mkF m 30 #[.val (.ref a), .val (.ref b), .val (.int (Int32.ofNat o)), .val (.int (Int32.ofNat len)), .val .null, .unset] [.int z])) := c4.trans (st5 _ (Steps.refl _))
  have c7 : Steps p.tables e below (s₁.setTop (entryFrame m #[.ref a, .ref b, .int (Int32.ofNat o), .int (Int32.ofNat len), .null] 6)) (T5.setTop (mkF m 36 #[.val (.ref a), .val (.ref b), .val (.int (Int32.ofNat o)), .val (.int (Int32.ofNat len)), .val .null, .unset] [.int (Int32.ofNat len), .int (Int32.ofNat o), .ref b])) := c6.trans (by
    refine XS.ifNo X5.here hexec rfl (hb hbytes d30) rfl (i0_eq_f hz) ?_
    refine XS.aloadN X5.here hexec rfl (hb hbytes d33) rfl rfl ?_
    refine XS.iloadN X5.here hexec rfl (hb hbytes d34) rfl ?_
    refine XS.iloadN X5.here hexec rfl (hb hbytes d35) rfl ?_
    exact Steps.refl _)
  obtain ⟨v8, T8, X8, E8, g8⟩ := X5.callS hexec (Cmp3.law l b A o len) hown (wks W (staticW "java/lang/String" 177 Cmp3.yN)) (wk W Cmp3.tab) (W := 0) (Nat.le_of_ble_eq_true rfl) (Nat.le_of_ble_eq_true rfl) (Nat.le_refl _) (by show 0 + len ≤ len; omega) (g := (mkF m 36 #[.val (.ref a), .val (.ref b), .val (.int (Int32.ofNat o)), .val (.int (Int32.ofNat len)), .val .null, .unset] [.int (Int32.ofNat len), .int (Int32.ofNat o), .ref b])) rfl (by rw [hml]; rfl) c7 (argsL := [.ref b, .int (Int32.ofNat o), .int (Int32.ofNat len)]) (rest := []) rfl rfl (by show 2 * 0 + 0 ≤ _; decide) (hb hbytes d36) (⟨rfl, hA.mv X5.warmed.alike hh5, l1, l2, hp⟩)
  obtain ⟨e8, z8⟩ := E8
  obtain ⟨rfl, N, n1, n2, n3, n4, n5, n6⟩ := NewArr.mv _ T5 s _ _ hh5.symm (Vm.Alike.refl _) rfl e8
  rw [hh5] at z8
  have hB1 := hB.keep X8.warmed.alike (n6 _ _ hB.1)
  have hne : s.heap.size ≠ a := (Nat.ne_of_lt (Array.getElem?_eq_some_iff.mp hB.1).1).symm
  have c9 : Steps p.tables e below (s₁.setTop (entryFrame m #[.ref a, .ref b, .int (Int32.ofNat o), .int (Int32.ofNat len), .null] 6)) (T8.setTop (mkF m 39 #[.val (.ref a), .val (.ref b), .val (.int (Int32.ofNat o)), .val (.int (Int32.ofNat len)), .val .null, .unset] [.ref s.heap.size])) := g8
  have c10 : Steps p.tables e below (s₁.setTop (entryFrame m #[.ref a, .ref b, .int (Int32.ofNat o), .int (Int32.ofNat len), .null] 6)) (T8.setTop (mkF m 45 #[.val (.ref a), .val (.ref b), .val (.int (Int32.ofNat o)), .val (.int (Int32.ofNat len)), .val .null, .val (.ref s.heap.size)] [.int (Int32.ofNat N.slots.size), .ref s.heap.size, .ref a])) := by
    have hc : Steps p.tables e below (s₁.setTop (entryFrame m #[.ref a, .ref b, .int (Int32.ofNat o), .int (Int32.ofNat len), .null] 6)) (T8.setTop (mkF m 45 #[.val (.ref a), .val (.ref b), .val (.int (Int32.ofNat o)), .val (.int (Int32.ofNat len)), .val .null, .val (.ref s.heap.size)] [.int (Int32.ofNat len), .ref s.heap.size, .ref a])) := c9.trans (by
      refine XS.astore X8.here hexec rfl (hb hbytes d39) rfl rfl rfl ?_
      refine XS.aloadN X8.here hexec rfl (hb hbytes d41) rfl rfl ?_
      refine XS.aload X8.here hexec rfl (hb hbytes d42) rfl rfl ?_
      refine XS.iloadN X8.here hexec rfl (hb hbytes d44) rfl ?_
      exact Steps.refl _)
    rw [n4]; exact hc
  obtain ⟨v11, T11, X11, E11, g11⟩ := X8.callS hexec (CodL.law l s.heap.size N) hown (wks W (staticW "java/lang/String" 47 CodL.yN)) (wk W CodL.tab) (W := 1) (Nat.le_of_ble_eq_true rfl) (Nat.le_of_ble_eq_true rfl) (Nat.le_refl _) (by show 0 + len + 0 ≤ len; omega) (g := (mkF m 45 #[.val (.ref a), .val (.ref b), .val (.int (Int32.ofNat o)), .val (.int (Int32.ofNat len)), .val .null, .val (.ref s.heap.size)] [.int (Int32.ofNat N.slots.size), .ref s.heap.size, .ref a])) rfl (by rw [hml]; rfl) c10 (argsL := [.ref s.heap.size, .int (Int32.ofNat N.slots.size)]) (rest := [.ref a]) rfl rfl (by show 2 * 0 + (1 + 0) ≤ _; decide) (hb hbytes d45) (⟨rfl, n1⟩)
  obtain ⟨rfl, q11⟩ := E11
  have hB11 := hB1.mv (X8.warmed.alike.symm.trans X11.warmed.alike) q11
  have c12 : Steps p.tables e below (s₁.setTop (entryFrame m #[.ref a, .ref b, .int (Int32.ofNat o), .int (Int32.ofNat len), .null] 6)) (T11.setTop (mkF m 48 #[.val (.ref a), .val (.ref b), .val (.int (Int32.ofNat o)), .val (.int (Int32.ofNat len)), .val .null, .val (.ref s.heap.size)] [.int 0, .ref a])) := g11
  obtain ⟨T13, X13, p13, bl13, sl13, st13⟩ := X11.finit hexec hown (wk W (.fieldLink "java/lang/String" 15 "java/lang/String" "coder" "B")) (Or.inr ⟨_, (wk W (.laysFinal "java/lang/String" "java/lang/String" "coder" "B"))⟩) (Or.inl ⟨rfl, hnm⟩) f2 (Or.inl rfl) hB11 (t := .byte) (by decide +kernel) rfl (g := (mkF m 48 #[.val (.ref a), .val (.ref b), .val (.int (Int32.ofNat o)), .val (.int (Int32.ofNat len)), .val .null, .val (.ref s.heap.size)] [.int 0, .ref a])) rfl (rest := []) rfl (hb hbytes d48)
  have c14 : Steps p.tables e below (s₁.setTop (entryFrame m #[.ref a, .ref b, .int (Int32.ofNat o), .int (Int32.ofNat len), .null] 6)) (T13.setTop (mkF m 54 #[.val (.ref a), .val (.ref b), .val (.int (Int32.ofNat o)), .val (.int (Int32.ofNat len)), .val .null, .val (.ref s.heap.size)] [.ref s.heap.size, .ref a])) := (c12.trans (st13 _ (Steps.refl _))).trans (by
    refine XS.aloadN X13.here hexec rfl (hb hbytes d51) rfl rfl ?_
    refine XS.aload X13.here hexec rfl (hb hbytes d52) rfl rfl ?_
    exact Steps.refl _)
  obtain ⟨T15, X15, p15, bl15, sl15, st15⟩ := X13.finit hexec hown (wk W (.fieldLink "java/lang/String" 9 "java/lang/String" "value" "[B")) (Or.inr ⟨_, (wk W (.laysFinal "java/lang/String" "java/lang/String" "value" "[B"))⟩) (Or.inl ⟨rfl, hnm⟩) f1 (Or.inl rfl) bl13 (t := (.array .byte)) (by decide +kernel) rfl (g := (mkF m 54 #[.val (.ref a), .val (.ref b), .val (.int (Int32.ofNat o)), .val (.int (Int32.ofNat len)), .val .null, .val (.ref s.heap.size)] [.ref s.heap.size, .ref a])) rfl (rest := []) rfl (hb hbytes d54)
  have c16 : Steps p.tables e below (s₁.setTop (entryFrame m #[.ref a, .ref b, .int (Int32.ofNat o), .int (Int32.ofNat len), .null] 6)) (T15.setTop (mkF m 57 #[.val (.ref a), .val (.ref b), .val (.int (Int32.ofNat o)), .val (.int (Int32.ofNat len)), .val .null, .val (.ref s.heap.size)] [])) := c14.trans (st15 _ (Steps.refl _))
  have ap := apart (Or.inr ⟨_, (wk W (.laysFinal "java/lang/String" "java/lang/String" "value" "[B"))⟩) (Or.inr ⟨_, (wk W (.laysFinal "java/lang/String" "java/lang/String" "coder" "B"))⟩) f1 f2 (t₁ := .array .byte) (t₂ := .byte) (by decide +kernel) (by decide +kernel) (by decide)
  have al := X8.warmed.alike.symm.trans X15.warmed.alike
  have n7 : T11.heap[s.heap.size]? = some N := by rw [q11]; exact n1.1
  exact ⟨T15, none, _, _, _, X15, by simp, rfl, by omega, (fun _ => rfl), ⟨rfl, _, N, bl15, ((Same.refl D _).set _ (by simp)).set _ (by simp), sl15, (Cell.slots_setSlot_ne _ ap).trans sl13, n1.keep al (p15.other hne (p13.other hne n7)), n2, by rw [al.findClass]; exact n3, n4, n5, fun y c h1 h2 => p15.other h1 (p13.other h1 (by rw [q11]; exact n6 y c h2)), by rw [p15.2.2, p13.2.2, q11]; exact z8⟩, fun fs hl => c16.trans (X15.returnOut hexec hret (hb hbytes d57) hl)⟩
end New4
namespace New1
def yN : MethodName := ⟨"java/lang/String", "<init>", "([C)V"⟩
abbrev yB : ByteArray := jdk_42_method_3_code
theorem d0 : decode yB 0 = .ok (.aload_n 0, 1) := by decide +kernel
theorem d1 : decode yB 1 = .ok (.aload_n 1, 1) := by decide +kernel
theorem d2 : decode yB 2 = .ok (.iconst 0, 1) := by decide +kernel
theorem d3 : decode yB 3 = .ok (.aload_n 1, 1) := by decide +kernel
theorem d4 : decode yB 4 = .ok (.arraylength, 1) := by decide +kernel
theorem d5 : decode yB 5 = .ok (.aconst_null, 1) := by decide +kernel
theorem d6 : decode yB 6 = .ok (.invokespecial 27, 3) := by decide +kernel
theorem d9 : decode yB 9 = .ok (.return_, 1) := by decide +kernel
def site : List Cond := [New4.tab] ++ initW "java/lang/String" 27 New4.yN
def tab : Cond := tabOf yN yB 2 none site
def P (a : Addr) (D : Cell) (fV fC : Field) (b : Addr) (A : Cell) (z : Int32) (args : Array Value) (s : State) : Prop := args = #[.ref a, .ref b] ∧ Blank "java/lang/String" a D s ∧ Found "java/lang/String" "value" "[B" fV s ∧ Found "java/lang/String" "coder" "B" fC s ∧ Ch b A s ∧ StaticIs s "java/lang/String" "COMPACT_STRINGS" "Z" (.int z) ∧ ¬ z = 0 ∧ 0 < A.slots.size ∧ A.slots.size ≤ 536870912 ∧ ∀ i, i < A.slots.size → ¬ 255 < cv A i
def E (a : Addr) (D : Cell) (fV fC : Field) (A : Cell) (r : Option Value) (s u : State) : Prop := Got a D fV fC A 0 A.slots.size r s u
/-- new String(chars), not empty, no char above 255: a Latin-1 String of their low bytes -/
theorem law (l : Launch) (a : Addr) (D : Cell) (fV fC : Field) (b : Addr) (A : Cell) (z : Int32) : Law l yN 2 1 3 52 yB 2 none site (P a D fV fC b A z) (E a D fV fC A) [⟨a, fC.slot⟩, ⟨a, fV.slot⟩] 1 A.slots.size := by
  refine Law.of_walk (plainFor_of_name (by decide +kernel)) (by decide +kernel) (by decide +kernel) (by decide) (fun _ _ h => by rw [h.1]; rfl) (fun _ U U' hal hh h => ⟨h.1, h.2.1.mv hal hh, h.2.2.1.al hal, h.2.2.2.1.al hal, h.2.2.2.2.1.mv hal hh, h.2.2.2.2.2.1.there hal hh, h.2.2.2.2.2.2⟩) (fun r U U' V V' h1 hal h2 h => Got.mv r U U' V V' h1 hal h2 h) ?_
  intro p e s m args below meth c s₁ X0 hexec hbytes hml hret hlk hnm hown hh0 W hP
  obtain ⟨rfl, hB, f1, f2, hA, s1, hz, l0, l2, hp⟩ := hP
  have c1 : Steps p.tables e below (s₁.setTop (entryFrame m #[.ref a, .ref b] 2)) (s₁.setTop (mkF m 0 #[.val (.ref a), .val (.ref b)] [])) := entry rfl
  have c2 : Steps p.tables e below (s₁.setTop (entryFrame m #[.ref a, .ref b] 2)) (s₁.setTop (mkF m 6 #[.val (.ref a), .val (.ref b)] [.null, .int (Int32.ofNat A.slots.size), .int 0, .ref b, .ref a])) := c1.trans (by
    refine XS.aloadN X0.here hexec rfl (hb hbytes d0) rfl rfl ?_
    refine XS.aloadN X0.here hexec rfl (hb hbytes d1) rfl rfl ?_
    refine iconstV X0.here hexec rfl 0 (hb hbytes d2) (by decide) ?_
    refine XS.aloadN X0.here hexec rfl (hb hbytes d3) rfl rfl ?_
    refine X0.alen hexec (hA.1.mv X0.warmed.alike hh0) rfl rfl (hb hbytes d4) ?_
    refine XS.aconstNull X0.here hexec rfl (hb hbytes d5) ?_
    exact Steps.refl _)
  obtain ⟨v3, T3, X3, E3, g3⟩ := X0.callN hexec (New4.law l a D fV fC b A z 0 A.slots.size) rfl hown (wks W (initW "java/lang/String" 27 New4.yN)) (W New4.tab (by simp only [site, List.mem_cons, List.mem_append, true_or, or_true])) (W := 0) (Nat.le_of_ble_eq_true rfl) (Nat.le_of_ble_eq_true rfl) (Nat.le_refl _) (by show 0 + A.slots.size ≤ A.slots.size; omega) (g := (mkF m 6 #[.val (.ref a), .val (.ref b)] [.null, .int (Int32.ofNat A.slots.size), .int (Int32.ofNat 0), .ref b, .ref a])) rfl (by rw [hml]; rfl) c2 (argsL := [.ref b, .int (Int32.ofNat 0), .int (Int32.ofNat A.slots.size), .null]) (rest := []) rfl rfl (by show 2 * 0 + 0 ≤ _; decide) (hb hbytes d6) (⟨rfl, hB.mv X0.warmed.alike hh0, f1.al X0.warmed.alike, f2.al X0.warmed.alike, hA.mv X0.warmed.alike hh0, s1.there X0.warmed.alike hh0, hz, l0, by omega, l2, fun i hi => by rw [Nat.zero_add]; exact hp i hi⟩)
  have e0 := Got.mv _ s₁ s _ _ hh0.symm (Vm.Alike.refl _) rfl E3
  obtain rfl := e0.1
  have c4 : Steps p.tables e below (s₁.setTop (entryFrame m #[.ref a, .ref b] 2)) (T3.setTop (mkF m 9 #[.val (.ref a), .val (.ref b)] [])) := g3
  exact ⟨T3, none, _, _, _, X3, by simp, rfl, by omega, (fun _ => rfl), e0, fun fs hl => c4.trans (X3.returnOut hexec hret (hb hbytes d9) hl)⟩
theorem pays {l : Launch} {R : Room} {p : Program} {e : Env} {below : List Frame} {s : State} {sargs : Array Value} {len W : Nat} (a : Addr) (D : Cell) (fV fC : Field) (b : Addr) (A : Cell) (z : Int32) (htab : tab.before sargs s = true) (hfr : 4 ≤ R.frames) (hlo : W + 65 ≤ R.locals) :
    Back l R p e below s sargs yN len W (fun A₁ a₁ => A₁.cells + 1 ≤ R.cells ∧ A₁.slots + A.slots.size ≤ R.slots ∧ P a D fV fC b A z a₁ A₁.U) (fun A₁ _ v₁ B₁ => E a D fV fC A v₁ A₁.U B₁.U ∧ B₁.locs = A₁.locs ++ [⟨a, fC.slot⟩, ⟨a, fV.slot⟩] ∧ B₁.cells = A₁.cells + 1 ∧ B₁.slots = A₁.slots + A.slots.size) :=
  (law l a D fV fC b A z).pays htab hfr (by omega)
end New1
/-- the byte, read back as charAt reads it, is the char -/
theorem lo8_mask {x : Int32} (h0 : ¬ x < 0) (h1 : ¬ 255 < x) : lo8 x &&& 255 = x := by
  have t : ∀ k : Fin 256, lo8 (Int32.ofNat k.val) &&& 255 = Int32.ofNat k.val := by decide +kernel
  rw [Int32.lt_iff_toInt_lt] at h0 h1
  have e0 : (0 : Int32).toInt = 0 := rfl
  have e1 : (255 : Int32).toInt = 255 := rfl
  obtain ⟨k, hk⟩ : ∃ k : Nat, x.toInt = k := ⟨x.toInt.toNat, by omega⟩
  have hx : x = Int32.ofNat k := Int32.toInt_inj.mp (by rw [hk, Int32.toInt_ofNat_small (by omega)])
  rw [hx]
  exact t ⟨k, by omega⟩
end StrChars
namespace StrChars.Road
open Jvm Sem ClassFile Op Lib Jvm.Stand Jvm.Free Jvm.Free.XT
open Jvm.Lib.Cold (StaticIs)
abbrev ST : String := "java/lang/String"
/-- every table word that New1's law asks, flat -/
abbrev words : List Jvm.Cond := [.code New1.yN New1.yB 2 none, .initialized ST, .methodLink ST 27 New4.yN, .instanceMethod New4.yN,
  .code New4.yN New4.yB 6 none, .fieldLink ST 38 ST "COMPACT_STRINGS" "Z", .laysFinal ST ST "value" "[B", .fieldLink ST 9 ST "value" "[B", .laysFinal ST ST "coder" "B", .fieldLink ST 15 ST "coder" "B",
  .methodLink ST 1 Lib.objectInit, .instanceMethod Lib.objectInit, .code Lib.objectInit ⟨#[0xb1]⟩ 1 none, .methodLink ST 177 Cmp3.yN, .static Cmp3.yN, .methodLink ST 47 CodL.yN, .static CodL.yN,
  .code Cmp3.yN Cmp3.yB 6 (some (.array .byte)), .initialized U16, .arrayClass .byte, .methodLink U16 115 Cmp5.yN, .static Cmp5.yN, .code Cmp5.yN Cmp5.yB 7 (some .int), .code CodL.yN CodL.yB 2 (some .byte)]
theorem tab_of {a : Array Value} {s : State} (h : ∀ w ∈ words, w.before a s = true) : New1.tab.before a s = true := by
  have h5 : Cmp5.tab.before a s = true := unparts (wk h (.code Cmp5.yN Cmp5.yB 7 (some .int))) (wks h (.initialized Cmp5.yN.cls :: Cmp5.site))
  have hc : CodL.tab.before a s = true := unparts (wk h (.code CodL.yN CodL.yB 2 (some .byte))) (wks h (.initialized CodL.yN.cls :: CodL.site))
  have q5 : ∀ w ∈ Cmp5.tab :: words, w.before a s = true := fun w hw => (List.mem_cons.mp hw).elim (fun e => e ▸ h5) (h w)
  have h3 : Cmp3.tab.before a s = true := unparts (wk q5 (.code Cmp3.yN Cmp3.yB 6 (some (.array .byte)))) (wks q5 (.initialized Cmp3.yN.cls :: Cmp3.site))
  have q3 : ∀ w ∈ Cmp3.tab :: CodL.tab :: words, w.before a s = true := fun w hw => (List.mem_cons.mp hw).elim (fun e => e ▸ h3) fun hw => (List.mem_cons.mp hw).elim (fun e => e ▸ hc) (h w)
  have h4 : New4.tab.before a s = true := unparts (wk q3 (.code New4.yN New4.yB 6 none)) (wks q3 (.initialized New4.yN.cls :: New4.site))
  have q4 : ∀ w ∈ New4.tab :: words, w.before a s = true := fun w hw => (List.mem_cons.mp hw).elim (fun e => e ▸ h4) (h w)
  exact unparts (wk q4 (.code New1.yN New1.yB 2 none)) (wks q4 (.initialized New1.yN.cls :: New1.site))
/-- the words ride from the start Z to the walk's own state -/
theorem moved {Z s : State} {a0 args : Array Value} (hZ : Z.Warmed39 s.vm) (hw : ∀ d ∈ words, d.before a0 Z = true) : ∀ d ∈ words, d.before args s = true := fun d hd => by
  have q := hw d hd
  have t : ∀ d ∈ words, d = .arrayClass .byte ∨ (d.onTables && d.keepsFace) = true := by decide +kernel
  rcases t d hd with rfl | t
  · exact RoadKit.mvA hZ q
  · exact RoadKit.mv hZ q t
/-- WHAT COMES BACK, over the tables of the start Z: h the heap at the call, h' behind it -/
def Q (Z : State) (x : Addr) (A : Cell) (h : Heap) (v : Option Value) (h' : Heap) (L : List Loc) : Prop := v = none ∧ (∀ y ∈ L, y.base = x) ∧ RoadKit.Keep h h' [x] ∧ h'.size = h.size + 1 ∧ RoadKit.Exa Z h' x ST ∧ RoadKit.Fld Z h' x ST "value" "[B" (.ref h.size) ∧ RoadKit.Fld Z h' x ST "coder" "B" (.int 0) ∧
  (∃ V : Cell, RoadKit.Arr Z h' h.size V .byte ∧ V.vm = .none ∧ Z.vm.findClass "[B" = some V.cls ∧ V.slots.size = A.slots.size ∧ ∀ j, j < A.slots.size → V.slots[j]? = some (.int (lo8 (cv A j)))) ∧
  ∀ (O n d : String) (w : Value), RoadKit.Fld Z h x O n d w → RoadKit.slotOf Z O n d ≠ RoadKit.slotOf Z ST "value" "[B" → RoadKit.slotOf Z O n d ≠ RoadKit.slotOf Z ST "coder" "B" → RoadKit.Fld Z h' x O n d w
/-- **new String(chars) AT A CALL, IN THE ROAD'S FORM**: for specialBack behind newO: x the fresh String, b the char[] with the cell A -/
theorem back {p : Program} {l : Launch} {e : Env} {R : Room} {s : State} {args : Array Value} {below : List Frame} {len W : Nat} {Z : State} {a0 : Array Value} {h : Heap} (hZ : Z.Warmed39 s.vm) (hw : ∀ d ∈ words, d.before a0 Z = true) {kI : Nat} (wi : (Jvm.Cond.instantiable ST kI).before a0 Z = true)
    {x b : Addr} {A : Cell} {z : Int32} {v0 c0 : Value} (E : RoadKit.Exa Z h x ST) (V : RoadKit.Fld Z h x ST "value" "[B" v0) (C : RoadKit.Fld Z h x ST "coder" "B" c0) (K : RoadKit.Arr Z h b A .char) (hty : Typed .char A) (S : RoadKit.Sta Z h ST "COMPACT_STRINGS" "Z" (.int z)) (hz : ¬ z = 0)
    (l0 : 0 < A.slots.size) (l2 : A.slots.size ≤ 536870912) (hp : ∀ i, i < A.slots.size → ¬ 255 < cv A i) (hfr : 4 ≤ R.frames) (hlo : W + 65 ≤ R.locals) :
    Back l R p e below s args New1.yN len W (fun P a => a = #[.ref x, .ref b] ∧ P.U.heap = h ∧ P.cells + 1 ≤ R.cells ∧ P.slots + A.slots.size ≤ R.slots)
      (fun P _ v B => ∃ L, Q Z x A h v B.U.heap L ∧ B.locs = P.locs ++ L ∧ B.cells = P.cells + 1 ∧ B.slots = P.slots + A.slots.size) := by
  intro m meth c P g ig mk a X hg hsize hdg hW hn hp'
  obtain ⟨rfl, rfl, r1, r2⟩ := hp'
  have al : Z.vm.Alike P.U.vm := hZ.alike.trans X.warmed.alike
  obtain ⟨D, cfV, kV, iV, fV, hD, gV, stV, knV, obV, asV, slV⟩ := id V
  obtain ⟨D', cfC, kC, iC, fC, hD', gC, stC, -, -, asC, slC⟩ := id C
  cases hD.symm.trans hD'
  obtain ⟨D2, kD, e1, e2, e3, e4, e5⟩ := id E
  cases hD.symm.trans e1
  obtain ⟨c2, k2, i1, i2, i3, -⟩ := Cond.instantiable_spec wi
  cases e2.symm.trans i1
  cases e3.symm.trans i2
  obtain ⟨kU, u1, u2⟩ := al.2.2 _ _ e3
  have hB : Blank ST x D P.U := ⟨hD, ⟨knV, fun q hq => by rw [hq] at obV; cases obV⟩, by rw [al.findClass]; exact e2, kU, u1, by rw [u2]; exact i3, by rw [u2]; exact e5 i3⟩
  have F1 : Found ST "value" "[B" fV P.U := ⟨SBG.found_only al ⟨cfV, kV, iV, gV⟩, stV⟩
  have F2 : Found ST "coder" "B" fC P.U := ⟨SBG.found_only al ⟨cfC, kC, iC, gC⟩, stC⟩
  have hA : Ch b A P.U := ⟨⟨K.1, State.isArrayOf_alike al K.2.1, K.2.2, by omega⟩, hty⟩
  have hS : StaticIs P.U ST "COMPACT_STRINGS" "Z" (.int z) := by
    obtain ⟨cfS, iS, kS, fS, st, cS, t1, t2, t3, t4, t5, t6, t7⟩ := S
    exact StaticIs.there (s := { Z with heap := P.U.heap }) ⟨cfS, iS, kS, fS, st, cS, t1, t2, t3, t4, t5, (fun q => by rw [q] at t6; cases t6), t7⟩ al rfl
  obtain ⟨v, B, X', ⟨⟨hv, E', V', q1, q2, q3, q4, q5, q6, q7, q8, q9, q10, q11⟩, hl, hc, hs⟩, st⟩ := New1.pays x D fV fC b A z (tab_of (moved hZ hw)) hfr hlo m meth c P g ig mk _ X hg hsize hdg hW hn ⟨r1, r2, rfl, hB, F1, F2, hA, hS, hz, l0, l2, hp⟩
  have al' : Z.vm.Alike B.U.vm := hZ.alike.trans X'.warmed.alike
  have hsz : E'.slots.size = D.slots.size := by
    obtain ⟨-, -, -, kB, w1, w2, w3⟩ := q1
    obtain ⟨kB', y1, y2⟩ := al'.2.2 _ _ e3
    rw [q2.2.1] at w1
    cases w1.symm.trans y1
    rw [w3, e5 i3, y2]
  refine ⟨v, B, X', ⟨_, ⟨hv, ?_, ⟨by omega, fun y cy hy hn' => q10 y cy (by simpa using hn') hy, fun y cy hy => ?_⟩, q11, ⟨E', _, q1.1, by rw [q2.2.1]; exact e2, by rw [q2.2.1]; exact e3, by rw [q2.1]; exact obV, fun _ => by rw [hsz]; exact e5 i3⟩,
    ⟨E', cfV, kV, iV, fV, q1.1, gV, stV, by rw [q2.1]; exact knV, by rw [q2.1]; exact obV, by rw [q2.2.1]; exact asV, q3⟩, ⟨E', cfC, kC, iC, fC, q1.1, gC, stC, by rw [q2.1]; exact knV, by rw [q2.1]; exact obV, by rw [q2.2.1]; exact asC, q4⟩,
    ⟨V', ⟨q5.1, State.isArrayOf_alike al'.symm q5.2.1, q5.2.2.1⟩, q6, by rw [← al'.findClass]; exact q7, q8, fun j hj => by have := q9 j hj; rwa [Nat.zero_add] at this⟩, fun O n d w F n1 n2 => ?_⟩, hl, hc, hs⟩, st⟩
  · intro y hy
    simp only [List.mem_cons, List.not_mem_nil, or_false] at hy
    rcases hy with rfl | rfl <;> rfl
  · by_cases q : y = x
    · subst q
      cases hD.symm.trans hy
      exact ⟨E', q1.1, q2.2.1, q2.1, hsz⟩
    · exact ⟨cy, q10 y cy q hy, rfl, rfl, rfl⟩
  · obtain ⟨D3, cf, k, i, f, g1, g2, g3, g4, g5, g6, g7⟩ := F
    cases hD.symm.trans g1
    simp only [RoadKit.slotOf, g2, gV, gC, Option.map_some, Option.getD_some] at n1 n2
    exact ⟨E', cf, k, i, f, q1.1, g2, g3, by rw [q2.1]; exact g4, by rw [q2.1]; exact g5, by rw [q2.2.1]; exact g6, by rw [q2.2.2 f.slot (by simp [n1, n2])]; exact g7⟩
end StrChars.Road
namespace StrChars.Road
open Jvm Sem ClassFile Op Lib Jvm.Stand Jvm.Free Jvm.Free.XT
/-- WHAT COMES BACK, the byte[] as a list of values -/
def QA (Z : State) (x : Addr) (zn : Int32) (cs : List Int32) (h : Heap) (v : Option Value) (h' : Heap) (L : List Loc) : Prop := v = none ∧ (∀ y ∈ L, y.base = x) ∧ RoadKit.Keep h h' [x] ∧ h'.size = h.size + 1 ∧ RoadKit.Exa Z h' x ST ∧ RoadKit.Fld Z h' x ST "value" "[B" (.ref h.size) ∧ RoadKit.Fld Z h' x ST "coder" "B" (.int 0) ∧
  (∃ kb, Z.vm.findClass "[B" = some kb ∧ RoadKit.Arv Z h' h.size kb .byte zn (cs.map fun c => .int (lo8 c)) (.int 0)) ∧
  ∀ (O n d : String) (w : Value), RoadKit.Fld Z h x O n d w → RoadKit.slotOf Z O n d ≠ RoadKit.slotOf Z ST "value" "[B" → RoadKit.slotOf Z O n d ≠ RoadKit.slotOf Z ST "coder" "B" → RoadKit.Fld Z h' x O n d w
/-- **new String(chars) AT A CALL, THE ARRAYS AS LISTS**: the char[] at b holds cs, not empty, no char above 255 -/
theorem backArv {p : Program} {l : Launch} {e : Env} {R : Room} {s : State} {args : Array Value} {below : List Frame} {len W : Nat} {Z : State} {a0 : Array Value} {h : Heap} (hZ : Z.Warmed39 s.vm) (hw : ∀ d ∈ words, d.before a0 Z = true) {kI : Nat} (wi : (Jvm.Cond.instantiable ST kI).before a0 Z = true)
    {x b : Addr} {k : ClassId} {zn z : Int32} {cs : List Int32} {dv v0 c0 : Value} (E : RoadKit.Exa Z h x ST) (V : RoadKit.Fld Z h x ST "value" "[B" v0) (C : RoadKit.Fld Z h x ST "coder" "B" c0) (K : RoadKit.Arv Z h b k .char zn (cs.map Value.int) dv) (S : RoadKit.Sta Z h ST "COMPACT_STRINGS" "Z" (.int z)) (hz : ¬ z = 0)
    (hlen : zn.toNatClampNeg = cs.length) (h0 : 0 < cs.length) (hbig : cs.length ≤ 536870912) (hall : ∀ c ∈ cs, ¬ 255 < c) (hfr : 4 ≤ R.frames) (hlo : W + 65 ≤ R.locals) :
    Back l R p e below s args New1.yN len W (fun P a => a = #[.ref x, .ref b] ∧ P.U.heap = h ∧ P.cells + 1 ≤ R.cells ∧ P.slots + cs.length ≤ R.slots)
      (fun P _ v B => ∃ L, QA Z x zn cs h v B.U.heap L ∧ B.locs = P.locs ++ L ∧ B.cells = P.cells + 1 ∧ B.slots = P.slots + cs.length) := by
  obtain ⟨A, K1, K2, K3, K4, K5, K6⟩ := K
  have e : A.slots.size = cs.length := K3.trans hlen
  have hat : ∀ (i : Nat) (hi : i < cs.length), A.slots[i]? = some (.int cs[i]) := fun i hi => by rw [K5 i (by omega)]; simp [List.getD_eq_getElem?_getD, hi]
  have hcv : ∀ (i : Nat) (hi : i < cs.length), cv A i = cs[i] := fun i hi => by unfold cv; rw [hat i hi]
  have hty : Typed .char A := fun i v hv => by
    have hi : i < A.slots.size := (Array.getElem?_eq_some_iff.mp hv).1
    have q := K5 i hi
    rw [hv] at q
    rw [Option.some.inj q]
    exact K6 i hi
  refine Back.mono (back hZ hw wi E V C K1 hty S hz (by omega) (by omega) (fun i hi => by rw [hcv i (by omega)]; exact hall _ (List.getElem_mem _)) hfr hlo) (fun P a hp => ⟨hp.1, hp.2.1, hp.2.2.1, by rw [e]; exact hp.2.2.2⟩) (fun P a v B hp hq => ?_)
  obtain ⟨L, ⟨q1, q2, q3, q4, q5, q6, q7, ⟨V', v1, v2, v3, v4, v5⟩, q9⟩, hl, hc, hs⟩ := hq
  refine ⟨L, ⟨q1, q2, q3, q4, q5, q6, q7, ⟨V'.cls, v3, V', v1, rfl, by rw [v4, e, hlen], K4, fun i hi => ?_, fun i hi => ?_⟩, q9⟩, hl, hc, by rw [hs, e]⟩
  · have hi' : i < cs.length := by omega
    rw [v5 i (by omega), hcv i hi']; simp [List.getD_eq_getElem?_getD, hi']
  · have hi' : i < cs.length := by omega
    simp only [List.getD_eq_getElem?_getD, List.getElem?_map, List.getElem?_eq_getElem hi', Option.map_some, Option.getD_some]
    exact fits_lo8 _
end StrChars.Road
namespace StrChars.Road
open Jvm Sem ClassFile Op Lib Jvm.Stand Jvm.Free Jvm.Free.XT
/-- WHAT COMES BACK, in the writer's own shape -/
def QV (Z : State) (x : Addr) (N : Int32) (bs : List Int32) (h : Heap) (n0 : Nat) (v : Option Value) (h' : Heap) (L : List Loc) : Prop := v = none ∧ RoadKit.Fr n0 L ∧ RoadKit.Keep h h' [x] ∧ RoadKit.Exa Z h' x ST ∧ RoadKit.Fld Z h' x ST "coder" "B" (.int 0) ∧
  ∃ (t : Addr) (kb : ClassId), n0 ≤ t ∧ h.size ≤ t ∧ ¬ t = x ∧ RoadKit.Fld Z h' x ST "value" "[B" (.ref t) ∧ RoadKit.Arv Z h' t kb .byte N (bs.map Value.int) (.int 0)
/-- **new String(chars) AT A CALL, FOR THE WRITER**: a char[] of n known ints, each 0 to 255 -/
theorem backV {p : Program} {l : Launch} {e : Env} {R : Room} {s : State} {args : Array Value} {below : List Frame} {len W : Nat} {Z : State} {a0 : Array Value} {h : Heap} (hZ : Z.Warmed39 s.vm) (hw : ∀ d ∈ words, d.before a0 Z = true) {kI : Nat} (wi : (Jvm.Cond.instantiable ST kI).before a0 Z = true)
    {x b : Addr} {kC : ClassId} {cs bs : List Int32} {d v0 c0 : Value} {z N : Int32} {n n0 : Nat} (hx0 : n0 ≤ x) (hh0 : n0 ≤ h.size) (E : RoadKit.Exa Z h x ST) (V : RoadKit.Fld Z h x ST "value" "[B" v0) (C : RoadKit.Fld Z h x ST "coder" "B" c0) (K : RoadKit.Arv Z h b kC .char N (cs.map Value.int) d) (S : RoadKit.Sta Z h ST "COMPACT_STRINGS" "Z" (.int z)) (hz : ¬ z = 0)
    (hn : cs.length = n) (hN : N = Int32.ofNat n) (l0 : 0 < n) (l2 : n ≤ 4000) (hp : ∀ c ∈ cs, ¬ c < 0 ∧ ¬ (255 : Int32) < c) (hb : bs = cs.map (fun c => c.toInt8.toInt32)) (hfr : 4 ≤ R.frames) (hlo : W + 65 ≤ R.locals) :
    Back l R p e below s args (⟨"java/lang/String", "<init>", "([C)V"⟩ : MethodName) len W (fun P a => a = #[.ref x, .ref b] ∧ P.U.heap = h ∧ P.cells + 1 ≤ R.cells ∧ P.slots + n ≤ R.slots)
      (fun P _ v B => ∃ L, QV Z x N bs h n0 v B.U.heap L ∧ B.locs = P.locs ++ L ∧ B.cells = P.cells + 1 ∧ B.slots = P.slots + n) := by
  subst hn hN hb
  refine Back.mono (backArv hZ hw wi E V C K S hz (n32 (by omega)) l0 (by omega) (fun c hc => (hp c hc).2) hfr hlo) (fun P a hp => hp) (fun P a v B hp hq => ?_)
  obtain ⟨L, ⟨q1, q2, q3, q4, q5, q6, q7, ⟨kb, v1, v2⟩, q9⟩, hl, hc, hs⟩ := hq
  exact ⟨L, ⟨q1, fun y hy => by rw [q2 y hy]; exact hx0, q3, q5, q7, h.size, kb, hh0, Nat.le_refl _, Nat.ne_of_gt E.lt, q6, by rw [List.map_map]; exact v2⟩, hl, hc, hs⟩
end StrChars.Road
namespace StrChars
open Jvm Sem ClassFile Op Lib Jvm.Stand Jvm.Free.XT Jvm.Free.ALB Jvm.Free.JM Jvm.Free
open Jvm.Lib.Cold (StaticIs)
def hi8 (x : Int32) : Int32 := lo8 (x >>> ((8 : Int32) &&& 31))
/-- what StringUTF16.getChar makes of two bytes -/
def pairCh (u v : Int32) : Int32 := (((u &&& 255) <<< ((0 : Int32) &&& 31)) ||| ((v &&& 255) <<< ((8 : Int32) &&& 31))).toUInt32.toUInt16.toUInt32.toInt32
theorem lo8_and (x : Int32) : (lo8 x &&& 255).toBitVec.toNat = x.toBitVec.toNat % 256 := by
  have h : (lo8 x).toBitVec = (x.toBitVec.signExtend 8).signExtend 32 := by rw [lo8, Int8.toBitVec_toInt32, Int32.toBitVec_toInt8]
  rw [Int32.toBitVec_and, BitVec.toNat_and, h]
  have e : ((x.toBitVec.signExtend 8).signExtend 32).toNat % 256 = x.toBitVec.toNat % 256 := by
    rw [BitVec.toNat_signExtend]
    have hlt := x.toBitVec.isLt
    simp only [BitVec.toNat_setWidth, BitVec.toNat_signExtend]
    split <;> split <;> omega
  rw [← e]
  exact Nat.and_two_pow_sub_one_eq_mod _ 8
theorem pair_says {c : Int32} (h0 : ¬ c < 0) (h1 : ¬ 65535 < c) : pairCh (lo8 c) (hi8 c) = c := by
  rw [Int32.lt_iff_toInt_lt] at h0 h1
  have e0 : (0 : Int32).toInt = 0 := rfl
  have e1 : (65535 : Int32).toInt = 65535 := rfl
  have hc : c.toInt = c.toBitVec.toNat := by
    have := c.toBitVec.isLt
    have e : c.toInt = c.toBitVec.toInt := rfl
    rw [e] at h0 h1
    rw [e]
    rw [BitVec.toInt_eq_toNat_cond] at h0 h1 ⊢
    split at h0 <;> split <;> omega
  have hn : c.toBitVec.toNat < 65536 := by omega
  have a1 := lo8_and c
  have a2 : (hi8 c &&& 255).toBitVec.toNat = c.toBitVec.toNat / 256 := by
    rw [hi8, lo8_and]
    have e : ((8 : Int32) &&& 31) = 8 := by decide
    rw [e, Int32.toBitVec_shiftRight]
    have e2 : ((8 : Int32).toBitVec.smod 32) = 8#32 := by decide
    rw [e2, BitVec.sshiftRight_eq', BitVec.toNat_sshiftRight_of_msb_false (by rw [BitVec.msb_eq_false_iff_two_mul_lt]; omega)]
    show c.toBitVec.toNat >>> 8 % 256 = _
    rw [Nat.shiftRight_eq_div_pow]
    omega
  unfold pairCh
  apply Int32.toBitVec_inj.mp
  apply BitVec.eq_of_toNat_eq
  have f0 : ((0 : Int32) &&& 31) = 0 := by decide
  have f8 : ((8 : Int32) &&& 31) = 8 := by decide
  rw [f0, f8]
  have g : (((lo8 c &&& 255) <<< (0 : Int32)) ||| ((hi8 c &&& 255) <<< (8 : Int32))).toBitVec.toNat = c.toBitVec.toNat := by
    rw [Int32.toBitVec_or, Int32.toBitVec_shiftLeft, Int32.toBitVec_shiftLeft]
    have s0 : ((0 : Int32).toBitVec.smod 32) = 0#32 := by decide
    have s8 : ((8 : Int32).toBitVec.smod 32) = 8#32 := by decide
    rw [s0, s8, BitVec.toNat_or]
    simp only [BitVec.shiftLeft_eq', BitVec.toNat_shiftLeft, a1, a2]
    show (c.toBitVec.toNat % 256) <<< 0 % 2 ^ 32 ||| (c.toBitVec.toNat / 256) <<< 8 % 2 ^ 32 = _
    rw [Nat.shiftLeft_zero, Nat.mod_eq_of_lt (show c.toBitVec.toNat % 256 < 2 ^ 32 by omega), Nat.mod_eq_of_lt (show (c.toBitVec.toNat / 256) <<< 8 < 2 ^ 32 by rw [Nat.shiftLeft_eq]; omega), Nat.or_comm, ← Nat.shiftLeft_add_eq_or_of_lt (by omega), Nat.shiftLeft_eq]
    omega
  show BitVec.toNat (((((lo8 c &&& 255) <<< (0 : Int32)) ||| ((hi8 c &&& 255) <<< (8 : Int32))).toBitVec.setWidth 16).setWidth 32) = _
  rw [BitVec.toNat_setWidth, BitVec.toNat_setWidth, g]
  omega
end StrChars
namespace StrChars
open Jvm Sem ClassFile Op Lib Jvm.Stand Jvm.Free.XT Jvm.Free.ALB Jvm.Free.JM Jvm.Free
open Jvm.Lib.Cold (StaticIs)
/-- charAt's cast of a byte read back -/
def chr8 (u : Int32) : Int32 := (u &&& 255).toUInt32.toUInt16.toUInt32.toInt32
theorem chr8_lo8 {c : Int32} (h0 : ¬ c < 0) (h1 : ¬ 255 < c) : chr8 (lo8 c) = c := by
  have t : ∀ k : Fin 256, (Int32.ofNat k.val).toUInt32.toUInt16.toUInt32.toInt32 = Int32.ofNat k.val := by decide +kernel
  unfold chr8
  rw [lo8_mask h0 h1]
  rw [Int32.lt_iff_toInt_lt] at h0 h1
  have e0 : (0 : Int32).toInt = 0 := rfl
  have e1 : (255 : Int32).toInt = 255 := rfl
  obtain ⟨k, hk⟩ : ∃ k : Nat, c.toInt = k := ⟨c.toInt.toNat, by omega⟩
  have hx : c = Int32.ofNat k := Int32.toInt_inj.mp (by rw [hk, Int32.toInt_ofNat_small (by omega)])
  rw [hx]
  exact t ⟨k, by omega⟩
theorem narrow_ch {c : Int32} (h0 : ¬ c < 0) (h1 : ¬ 65535 < c) : narrow .char (.int c) = .int c := by
  have q : narrow .char (.int (pairCh (lo8 c) (hi8 c))) = .int (pairCh (lo8 c) (hi8 c)) := narrow_c _
  rwa [pair_says h0 h1] at q
/-- the array's cell V codes the n chars f 0 .. f (n - 1) by the coder cd, as the JDK does: coder 1 just where some char is above 255 -/
def Cod (cd : Int32) (n : Nat) (f : Nat → Int32) (V : Cell) : Prop := (cd = 0 ∧ V.slots.size = n ∧ ∀ j, j < n → V.slots[j]? = some (.int (lo8 (f j))) ∧ ¬ 255 < f j) ∨ (cd = 1 ∧ V.slots.size = 2 * n ∧ (∀ j, j < n → V.slots[2 * j]? = some (.int (lo8 (f j))) ∧ V.slots[2 * j + 1]? = some (.int (hi8 (f j)))) ∧ ∃ j, j < n ∧ 255 < f j)
theorem Cod.cd {cd : Int32} {n : Nat} {f : Nat → Int32} {V : Cell} (h : Cod cd n f V) : cd = 0 ∨ cd = 1 := h.imp (fun q => q.1) fun q => q.1
/-- **x is a String of the n chars f 0 .. f (n - 1)**, Latin-1 or UTF-16; its array at t has the cell V -/
def Txt (x t : Addr) (V : Cell) (cd : Int32) (n : Nat) (f : Nat → Int32) (U : State) : Prop := Exact "java/lang/String" x U ∧ Has x "java/lang/String" "value" "[B" (.ref t) U ∧ Has x "java/lang/String" "coder" "B" (.int cd) U ∧ XT.Arr .byte t V U ∧ Cod cd n f V ∧ ∀ j, j < n → ¬ f j < 0 ∧ ¬ 65535 < f j
theorem Txt.mv {x t : Addr} {V : Cell} {cd : Int32} {n : Nat} {f : Nat → Int32} {U U' : State} (h : Txt x t V cd n f U) (hal : U.vm.Alike U'.vm) (hh : U'.heap = U.heap) : Txt x t V cd n f U' := ⟨h.1.mv hal hh, h.2.1.mv hal hh, h.2.2.1.mv hal hh, h.2.2.2.1.mv hal hh, h.2.2.2.2⟩
namespace IsL
def yN : MethodName := ⟨"java/lang/String", "isLatin1", "()Z"⟩
abbrev yB : ByteArray := jdk_42_method_154_code
theorem d0 : decode yB 0 = .ok (.getstatic 38, 3) := by decide +kernel
theorem d3 : decode yB 3 = .ok (.ifCond (.eq) 14, 3) := by decide +kernel
theorem d6 : decode yB 6 = .ok (.aload_n 0, 1) := by decide +kernel
theorem d7 : decode yB 7 = .ok (.getfield 15, 3) := by decide +kernel
theorem d10 : decode yB 10 = .ok (.ifCond (.ne) 7, 3) := by decide +kernel
theorem d13 : decode yB 13 = .ok (.iconst 1, 1) := by decide +kernel
theorem d14 : decode yB 14 = .ok (.goto 4, 3) := by decide +kernel
theorem d17 : decode yB 17 = .ok (.iconst 0, 1) := by decide +kernel
theorem d18 : decode yB 18 = .ok (.ireturn, 1) := by decide +kernel
def site : List Cond := [.fieldLink "java/lang/String" 38 "java/lang/String" "COMPACT_STRINGS" "Z", .fieldLink "java/lang/String" 15 "java/lang/String" "coder" "B"]
def tab : Cond := tabOf yN yB 1 (some .boolean) site
def P (x : Addr) (cd z : Int32) (args : Array Value) (s : State) : Prop := args = #[.ref x] ∧ Has x "java/lang/String" "coder" "B" (.int cd) s ∧ (cd = 0 ∨ cd = 1) ∧ StaticIs s "java/lang/String" "COMPACT_STRINGS" "Z" (.int z) ∧ ¬ z = 0
def E (cd : Int32) (r : Option Value) (s u : State) : Prop := XT.PureE (some (.int (1 - cd))) r s u
theorem law (l : Launch) (x : Addr) (cd z : Int32) : Law l yN 1 0 0 0 yB 1 (some .boolean) site (P x cd z) (E cd) [] 0 0 := by
  refine Law.of_walk (plainFor_of_name (by decide +kernel)) (by decide +kernel) (by decide +kernel) (by decide) (fun _ _ h => by rw [h.1]; rfl) (fun _ U U' hal hh h => ⟨h.1, h.2.1.mv hal hh, h.2.2.1, h.2.2.2.1.there hal hh, h.2.2.2.2⟩) (fun r U U' V V' h1 hal h2 h => XT.PureE.mv r U U' V V' h1 hal h2 h) ?_
  intro p e s m args below meth c s₁ X0 hexec hbytes hml hret hlk hnm hown hh0 W hP
  obtain ⟨rfl, hx, hc, s1, hz⟩ := hP
  have c1 : Steps p.tables e below (s₁.setTop (entryFrame m #[.ref x] 1)) (s₁.setTop (mkF m 0 #[.val (.ref x)] [])) := entry rfl
  obtain ⟨T2, X2, q2, st2⟩ := X0.sget hexec hown (wk W (.fieldLink "java/lang/String" 38 "java/lang/String" "COMPACT_STRINGS" "Z")) s1 (fun _ _ h => by rw [hh0]; exact h) (g := (mkF m 0 #[.val (.ref x)] [])) rfl (hb hbytes d0)
  have hh2 := q2.trans hh0
  have c3 : Steps p.tables e below (s₁.setTop (entryFrame m #[.ref x] 1)) (T2.setTop (mkF m 7 #[.val (.ref x)] [.ref x])) := (c1.trans (st2 _ (Steps.refl _))).trans (by
    refine XS.ifNo X2.here hexec rfl (hb hbytes d3) rfl (i0_eq_f hz) ?_
    refine XS.aloadN X2.here hexec rfl (hb hbytes d6) rfl rfl ?_
    exact Steps.refl _)
  obtain ⟨T4, X4, q4, st4⟩ := X2.hget hexec hown (wk W (.fieldLink "java/lang/String" 15 "java/lang/String" "coder" "B")) (hx.mv X2.warmed.alike hh2) (g := (mkF m 7 #[.val (.ref x)] [.ref x])) rfl (rest := []) rfl (hb hbytes d7)
  have c5 : Steps p.tables e below (s₁.setTop (entryFrame m #[.ref x] 1)) (T4.setTop (mkF m 10 #[.val (.ref x)] [.int cd])) := c3.trans (st4 _ (Steps.refl _))
  have c6 : Steps p.tables e below (s₁.setTop (entryFrame m #[.ref x] 1)) (T4.setTop (mkF m 18 #[.val (.ref x)] [.int (1 - cd)])) := by
    rcases hc with rfl | rfl
    · exact c5.trans (by
        refine XS.ifNo X4.here hexec rfl (hb hbytes d10) rfl (i0_ne_f rfl) ?_
        refine iconstV X4.here hexec rfl 1 (hb hbytes d13) (by decide) ?_
        refine XS.goto X4.here hexec rfl (pc0 := 14) rfl (hb hbytes d14) (by decide) rfl ?_
        exact Steps.refl _)
    · exact c5.trans (by
        refine XS.ifYes X4.here hexec rfl (pc0 := 10) rfl (hb hbytes d10) rfl (i0_ne_t (by decide)) (by decide) rfl ?_
        refine iconstV X4.here hexec rfl 0 (hb hbytes d17) (by decide) ?_
        exact Steps.refl _)
  exact ⟨T4, some (.int (1 - cd)), _, _, _, X4, rfl, rfl, rfl, (fun h => by cases h), ⟨rfl, q4.trans hh2⟩, fun fs hl => c6.trans (X4.ireturnOut hexec hret (by rcases hc with rfl | rfl <;> rfl) (Or.inr (Or.inl rfl)) (hb hbytes d18) hl)⟩
end IsL
namespace LChA
def yN : MethodName := ⟨"java/lang/StringLatin1", "charAt", "([BI)C"⟩
abbrev yB : ByteArray := jdk_43_method_2_code
theorem d0 : decode yB 0 = .ok (.iload_n 1, 1) := by decide +kernel
theorem d1 : decode yB 1 = .ok (.aload_n 0, 1) := by decide +kernel
theorem d2 : decode yB 2 = .ok (.arraylength, 1) := by decide +kernel
theorem d3 : decode yB 3 = .ok (.invokestatic 9, 3) := by decide +kernel
theorem d6 : decode yB 6 = .ok (.aload_n 0, 1) := by decide +kernel
theorem d7 : decode yB 7 = .ok (.iload_n 1, 1) := by decide +kernel
theorem d8 : decode yB 8 = .ok (.baload, 1) := by decide +kernel
theorem d9 : decode yB 9 = .ok (.sipush 255, 3) := by decide +kernel
theorem d12 : decode yB 12 = .ok (.iand, 1) := by decide +kernel
theorem d13 : decode yB 13 = .ok (.i2c, 1) := by decide +kernel
theorem d14 : decode yB 14 = .ok (.ireturn, 1) := by decide +kernel
def site : List Cond := [JO.Str_checkIndex.tab] ++ staticW "java/lang/StringLatin1" 9 JO.Str_checkIndex.yN
def tab : Cond := tabOf yN yB 2 (some .char) site
def P (t : Addr) (V : Cell) (i : Nat) (u : Int32) (fm : Value) (args : Array Value) (s : State) : Prop := args = #[.ref t, .int (Int32.ofNat i)] ∧ XT.Arr .byte t V s ∧ V.slots[i]? = some (.int u) ∧ (StaticIs s "jdk/internal/util/Preconditions" "SIOOBE_FORMATTER" "Ljava/util/function/BiFunction;" fm ∧ fm.isRef = true)
def E (u : Int32) (r : Option Value) (s w : State) : Prop := XT.PureE (some (.int (chr8 u))) r s w
theorem law (l : Launch) (t : Addr) (V : Cell) (i : Nat) (u : Int32) (fm : Value) : Law l yN 2 2 2 27 yB 2 (some .char) site (P t V i u fm) (E u) [] 0 0 := by
  refine Law.of_walk (plainFor_of_name (by decide +kernel)) (by decide +kernel) (by decide +kernel) (by decide) (fun _ _ h => by rw [h.1]; rfl) (fun _ U U' hal hh h => ⟨h.1, h.2.1.mv hal hh, h.2.2.1, h.2.2.2.1.there hal hh, h.2.2.2.2⟩) (fun r U U' V V' h1 hal h2 h => XT.PureE.mv r U U' V V' h1 hal h2 h) ?_
  intro p e s m args below meth c s₁ X0 hexec hbytes hml hret hlk hnm hown hh0 W hP
  obtain ⟨rfl, hV, hu, s1, rf⟩ := hP
  have v31 := hV.2.2.2
  have hi : i < V.slots.size := (Array.getElem?_eq_some_iff.mp hu).1
  have c1 : Steps p.tables e below (s₁.setTop (entryFrame m #[.ref t, .int (Int32.ofNat i)] 2)) (s₁.setTop (mkF m 0 #[.val (.ref t), .val (.int (Int32.ofNat i))] [])) := entry rfl
  have c2 : Steps p.tables e below (s₁.setTop (entryFrame m #[.ref t, .int (Int32.ofNat i)] 2)) (s₁.setTop (mkF m 3 #[.val (.ref t), .val (.int (Int32.ofNat i))] [.int (Int32.ofNat V.slots.size), .int (Int32.ofNat i)])) := c1.trans (by
    refine XS.iloadN X0.here hexec rfl (hb hbytes d0) rfl ?_
    refine XS.aloadN X0.here hexec rfl (hb hbytes d1) rfl rfl ?_
    refine X0.alen hexec (hV.mv X0.warmed.alike hh0) rfl rfl (hb hbytes d2) ?_
    exact Steps.refl _)
  obtain ⟨v3, T3, X3, E3, g3⟩ := X0.callS hexec (JO.Str_checkIndex.law l (Int32.ofNat i) (Int32.ofNat V.slots.size) fm) hown (wks W (staticW "java/lang/StringLatin1" 9 JO.Str_checkIndex.yN)) (wk W JO.Str_checkIndex.tab) (W := 0) (Nat.le_of_ble_eq_true rfl) (Nat.le_of_ble_eq_true rfl) (Nat.le_refl _) (Nat.le_refl _) (g := (mkF m 3 #[.val (.ref t), .val (.int (Int32.ofNat i))] [.int (Int32.ofNat V.slots.size), .int (Int32.ofNat i)])) rfl (by rw [hml]; rfl) c2 (argsL := [.int (Int32.ofNat i), .int (Int32.ofNat V.slots.size)]) (rest := []) rfl rfl (by show 2 * 0 + 0 ≤ _; decide) (hb hbytes d3) (⟨rfl, rf, s1.there X0.warmed.alike hh0, Int32.ofNat_not_neg (by omega), lt32 v31 hi⟩)
  obtain ⟨rfl, q3⟩ := E3
  have hh3 := q3.trans hh0
  have c4 : Steps p.tables e below (s₁.setTop (entryFrame m #[.ref t, .int (Int32.ofNat i)] 2)) (T3.setTop (mkF m 14 #[.val (.ref t), .val (.int (Int32.ofNat i))] [.int (chr8 u)])) := Steps.trans g3 (by
    refine XS.aloadN X3.here hexec rfl (hb hbytes d6) rfl rfl ?_
    refine XS.iloadN X3.here hexec rfl (hb hbytes d7) rfl ?_
    refine X3.aget hexec (hV.mv X3.warmed.alike hh3) rfl hu rfl rfl (hb hbytes d8) ?_
    refine sipushV X3.here hexec rfl 255 (hb hbytes d9) (by decide) ?_
    refine XS.iand X3.here hexec rfl (hb hbytes d12) rfl ?_
    refine i2c X3.here hexec rfl (hb hbytes d13) rfl ?_
    exact Steps.refl _)
  exact ⟨T3, some (.int (chr8 u)), _, _, _, X3, rfl, rfl, rfl, (fun h => by cases h), ⟨rfl, hh3⟩, fun fs hl => c4.trans (X3.ireturnOut hexec hret (narrow_c _) (Or.inr (Or.inr (Or.inr (Or.inl rfl)))) (hb hbytes d14) hl)⟩
end LChA
end StrChars
namespace StrChars.Road
open Jvm Sem ClassFile Op Lib Jvm.Stand Jvm.Free Jvm.Free.XT
open Jvm.Lib.Cold (StaticIs)
theorem consq {a : Array Value} {s : State} {c : Jvm.Cond} {L : List Jvm.Cond} (h0 : c.before a s = true) (h : ∀ w ∈ L, w.before a s = true) : ∀ w ∈ c :: L, w.before a s = true := fun w hw => (List.mem_cons.mp hw).elim (fun e => e ▸ h0) (h w)
/-- the bytes of the chars cs, low before high -/
def wideBytes : List Int32 → List Value
  | [] => []
  | c :: cs => .int (lo8 c) :: .int (hi8 c) :: wideBytes cs
theorem wide_lo (d : Value) : ∀ (cs : List Int32) (j : Nat), j < cs.length → (wideBytes cs).getD (2 * j) d = .int (lo8 (cs.getD j 0))
  | [], j, h => absurd h (Nat.not_lt_zero j)
  | c :: cs, 0, _ => rfl
  | c :: cs, j + 1, h => by
    have q := wide_lo d cs j (by simpa using h)
    rw [show 2 * (j + 1) = 2 * j + 1 + 1 from by omega]
    simpa [wideBytes] using q
theorem wide_hi (d : Value) : ∀ (cs : List Int32) (j : Nat), j < cs.length → (wideBytes cs).getD (2 * j + 1) d = .int (hi8 (cs.getD j 0))
  | [], j, h => absurd h (Nat.not_lt_zero j)
  | c :: cs, 0, _ => rfl
  | c :: cs, j + 1, h => by
    have q := wide_hi d cs j (by simpa using h)
    rw [show 2 * (j + 1) + 1 = 2 * j + 1 + 1 + 1 from by omega]
    simpa [wideBytes] using q
theorem low_at (d : Value) (cs : List Int32) (j : Nat) (h : j < cs.length) : (cs.map fun c => Value.int (lo8 c)).getD j d = .int (lo8 (cs.getD j 0)) := by
  simp [List.getD_eq_getElem?_getD, h]
/-- an array of N2 bytes vs codes the chars cs by the coder cd -/
def CodA (cs : List Int32) (cd N2 : Int32) (vs : List Value) : Prop := (cd = 0 ∧ N2 = Int32.ofNat cs.length ∧ vs = (cs.map fun c => Value.int (lo8 c)) ∧ ∀ c ∈ cs, ¬ 255 < c) ∨ (cd = 1 ∧ N2 = Int32.ofNat (2 * cs.length) ∧ vs = wideBytes cs ∧ ∃ c ∈ cs, 255 < c)
theorem CodA.cod {cs : List Int32} {cd N2 : Int32} {vs : List Value} {V : Cell} (h : CodA cs cd N2 vs) (hn : 2 * cs.length < 2 ^ 31) (hs : V.slots.size = N2.toNatClampNeg) (hv : RoadKit.Has V vs (.int 0)) : Cod cd cs.length (fun j => cs.getD j 0) V := by
  rcases h with ⟨rfl, rfl, rfl, h⟩ | ⟨rfl, rfl, rfl, c, hc, hw⟩
  · rw [n32 (by omega)] at hs
    exact Or.inl ⟨rfl, hs, fun j hj => ⟨by rw [hv j (by omega), low_at _ _ _ hj], by
      have e : cs.getD j 0 = cs[j] := by simp [List.getD_eq_getElem?_getD, hj]
      show ¬ 255 < cs.getD j 0
      rw [e]; exact h _ (List.getElem_mem _)⟩⟩
  · rw [n32 (by omega)] at hs
    obtain ⟨j, hj, rfl⟩ := List.getElem_of_mem hc
    exact Or.inr ⟨rfl, hs, fun j hj => ⟨by rw [hv _ (by omega), wide_lo _ _ _ hj], by rw [hv _ (by omega), wide_hi _ _ _ hj]⟩, j, hj, by
      have e : cs.getD j 0 = cs[j] := by simp [List.getD_eq_getElem?_getD, hj]
      show 255 < cs.getD j 0
      rw [e]; exact hw⟩
/-- an object of exactly java/lang/String, its two fields found: as the laws ask it -/
theorem strObj {Z U : State} {a0 : Array Value} {kI : Nat} (wi : (Jvm.Cond.instantiable ST kI).before a0 Z = true) (al : Z.vm.Alike U.vm) {x : Addr} {v0 c0 : Value} (E : RoadKit.Exa Z U.heap x ST) (V : RoadKit.Fld Z U.heap x ST "value" "[B" v0) (C : RoadKit.Fld Z U.heap x ST "coder" "B" c0) :
    ∃ (D : Cell) (fV fC : Field), Blank ST x D U ∧ Found ST "value" "[B" fV U ∧ Found ST "coder" "B" fC U ∧ D.slots[fV.slot]? = some v0 ∧ D.slots[fC.slot]? = some c0 ∧ RoadKit.slotOf Z ST "value" "[B" = fV.slot ∧ RoadKit.slotOf Z ST "coder" "B" = fC.slot := by
  obtain ⟨D, cfV, kV, iV, fV, hD, gV, stV, knV, obV, asV, slV⟩ := V
  obtain ⟨D', cfC, kC, iC, fC, hD', gC, stC, -, -, asC, slC⟩ := C
  cases hD.symm.trans hD'
  obtain ⟨D2, kD, e1, e2, e3, e4, e5⟩ := E
  cases hD.symm.trans e1
  obtain ⟨c2, k2, i1, i2, i3, -⟩ := Cond.instantiable_spec wi
  cases e2.symm.trans i1
  cases e3.symm.trans i2
  obtain ⟨kU, u1, u2⟩ := al.2.2 _ _ e3
  exact ⟨D, fV, fC, ⟨hD, ⟨knV, fun q hq => by rw [hq] at obV; cases obV⟩, by rw [al.findClass]; exact e2, kU, u1, by rw [u2]; exact i3, by rw [u2]; exact e5 i3⟩, ⟨SBG.found_only al ⟨cfV, kV, iV, gV⟩, stV⟩, ⟨SBG.found_only al ⟨cfC, kC, iC, gC⟩, stC⟩, slV, slC, by simp [RoadKit.slotOf, gV], by simp [RoadKit.slotOf, gC]⟩
theorem sta_is {Z U : State} (al : Z.vm.Alike U.vm) {C n d : String} {v : Value} (S : RoadKit.Sta Z U.heap C n d v) : StaticIs U C n d v := by
  obtain ⟨cfS, iS, kS, fS, st, cS, t1, t2, t3, t4, t5, t6, t7⟩ := S
  exact StaticIs.there (s := { Z with heap := U.heap }) ⟨cfS, iS, kS, fS, st, cS, t1, t2, t3, t4, t5, (fun q => by rw [q] at t6; cases t6), t7⟩ al rfl
end StrChars.Road
namespace StrChars.Road
open Jvm Sem ClassFile Op Lib Jvm.Stand Jvm.Free Jvm.Free.XT
open Jvm.Lib.Cold (StaticIs)
/-- the road's facts of a String, as the laws ask it -/
theorem txt_of {Z U : State} {a0 : Array Value} {kI : Nat} (wi : (Jvm.Cond.instantiable ST kI).before a0 Z = true) (al : Z.vm.Alike U.vm) {x t : Addr} {kb : ClassId} {cs : List Int32} {cd N2 : Int32} {vs : List Value} (E : RoadKit.Exa Z U.heap x ST) (V : RoadKit.Fld Z U.heap x ST "value" "[B" (.ref t)) (C : RoadKit.Fld Z U.heap x ST "coder" "B" (.int cd)) (K : RoadKit.Arv Z U.heap t kb .byte N2 vs (.int 0)) (hc : CodA cs cd N2 vs) (hb : ∀ c ∈ cs, ¬ c < 0 ∧ ¬ (65535 : Int32) < c) (l2 : cs.length ≤ 4000) :
    ∃ A, Txt x t A cd cs.length (fun j => cs.getD j 0) U := by
  obtain ⟨A, K1, K2, K3, K4, K5, K6⟩ := K
  have hcod := hc.cod (by omega) K3 K5
  obtain ⟨D, fV, fC, hB, F1, F2, g1, g2, -, -⟩ := strObj wi al E V C
  exact ⟨A, ⟨_, hB.2.2.1, D, hB.1, rfl, by cases q : D.vm <;> first | rfl | exact absurd q (hB.2.1.2 _)⟩, Has.of hB F1 g1, Has.of hB F2 g2, ⟨K1.1, State.isArrayOf_alike al K1.2.1, K1.2.2, by rcases hcod with ⟨-, q, -⟩ | ⟨-, q, -⟩ <;> omega⟩, hcod, fun j hj => by
    have e : cs.getD j 0 = cs[j] := by simp [List.getD_eq_getElem?_getD, hj]
    show ¬ cs.getD j 0 < 0 ∧ ¬ 65535 < cs.getD j 0
    rw [e]; exact hb _ (List.getElem_mem _)⟩
end StrChars.Road
namespace StrChars
open Jvm Sem ClassFile Op Lib Jvm.Stand Jvm.Free.XT Jvm.Free.ALB Jvm.Free.JM Jvm.Free
open Jvm.Lib.Cold (StaticIs)
namespace ChN
def yN : MethodName := ⟨"java/lang/String", "charAt", "(I)C"⟩
abbrev yB : ByteArray := jdk_42_method_56_code
theorem d0 : decode yB 0 = .ok (.aload_n 0, 1) := by decide +kernel
theorem d1 : decode yB 1 = .ok (.invokevirtual 492, 3) := by decide +kernel
theorem d4 : decode yB 4 = .ok (.ifCond (.eq) 12, 3) := by decide +kernel
theorem d7 : decode yB 7 = .ok (.aload_n 0, 1) := by decide +kernel
theorem d8 : decode yB 8 = .ok (.getfield 9, 3) := by decide +kernel
theorem d11 : decode yB 11 = .ok (.iload_n 1, 1) := by decide +kernel
theorem d12 : decode yB 12 = .ok (.invokestatic 495, 3) := by decide +kernel
theorem d15 : decode yB 15 = .ok (.ireturn, 1) := by decide +kernel
def site : List Cond := [.fieldLink "java/lang/String" 9 "java/lang/String" "value" "[B", IsL.tab, LChA.tab] ++ virtW "java/lang/String" 492 "java/lang/String" IsL.yN IsL.yN ++ staticW "java/lang/String" 495 LChA.yN
def tab : Cond := tabOf yN yB 2 (some .char) site
def P (x t : Addr) (V : Cell) (n : Nat) (f : Nat → Int32) (z : Int32) (fm : Value) (i : Nat) (args : Array Value) (s : State) : Prop := args = #[.ref x, .int (Int32.ofNat i)] ∧ Txt x t V 0 n f s ∧ i < n ∧ StaticIs s "java/lang/String" "COMPACT_STRINGS" "Z" (.int z) ∧ ¬ z = 0 ∧ StaticIs s "jdk/internal/util/Preconditions" "SIOOBE_FORMATTER" "Ljava/util/function/BiFunction;" fm ∧ fm.isRef = true
def E (f : Nat → Int32) (i : Nat) (r : Option Value) (s u : State) : Prop := XT.PureE (some (.int (f i))) r s u
/-- charAt(i) of a Latin-1 String of n chars, i < n: f i -/
theorem law (l : Launch) (x t : Addr) (V : Cell) (n : Nat) (f : Nat → Int32) (z : Int32) (fm : Value) (i : Nat) : Law l yN 2 1 3 40 yB 2 (some .char) site (P x t V n f z fm i) (E f i) [] 0 0 := by
  refine Law.of_walk (plainFor_of_name (by decide +kernel)) (by decide +kernel) (by decide +kernel) (by decide) (fun _ _ h => by rw [h.1]; rfl) (fun _ U U' hal hh h => ⟨h.1, h.2.1.mv hal hh, h.2.2.1, h.2.2.2.1.there hal hh, h.2.2.2.2.1, h.2.2.2.2.2.1.there hal hh, h.2.2.2.2.2.2⟩) (fun r U U' V V' h1 hal h2 h => XT.PureE.mv r U U' V V' h1 hal h2 h) ?_
  intro p e s m args below meth c s₁ X0 hexec hbytes hml hret hlk hnm hown hh0 W hP
  obtain ⟨rfl, hx, hi, s1, hz, s3, rf⟩ := hP
  have v31 := hx.2.2.2.1.2.2.2
  have hr := hx.2.2.2.2.2 i hi
  have hx0 := hx.mv X0.warmed.alike hh0
  have c1 : Steps p.tables e below (s₁.setTop (entryFrame m #[.ref x, .int (Int32.ofNat i)] 2)) (s₁.setTop (mkF m 1 #[.val (.ref x), .val (.int (Int32.ofNat i))] [.ref x])) := Steps.trans (entry rfl) (by
    show Steps p.tables e below (s₁.setTop (mkF m 0 #[.val (.ref x), .val (.int (Int32.ofNat i))] [])) _
    refine XS.aloadN X0.here hexec rfl (hb hbytes d0) rfl rfl ?_
    exact Steps.refl _)
  obtain ⟨v2, T2, X2, E2, g2⟩ := X0.callV hexec (IsL.law l x 0 z) hown (wks W (virtW "java/lang/String" 492 "java/lang/String" IsL.yN IsL.yN)) rfl (by decide) (wk W IsL.tab) (W := 0) (Nat.le_of_ble_eq_true rfl) (Nat.le_of_ble_eq_true rfl) (Nat.le_refl _) (Nat.le_refl _) (hx0.1.fc X0.warmed.alike) hx0.1.is (g := (mkF m 1 #[.val (.ref x), .val (.int (Int32.ofNat i))] [.ref x])) rfl (by rw [hml]; rfl) c1 (argsL := []) (rest := []) rfl rfl (by show 2 * 0 + 0 ≤ _; decide) (hb hbytes d1) (⟨rfl, hx0.2.2.1, hx.2.2.2.2.1.cd, s1.there X0.warmed.alike hh0, hz⟩)
  obtain ⟨rfl, q2⟩ := E2
  have hh2 := q2.trans hh0
  have hx2 := hx.mv X2.warmed.alike hh2
  obtain ⟨-, k1, k2⟩ | ⟨k0, -⟩ := hx.2.2.2.2.1
  · have c3 : Steps p.tables e below (s₁.setTop (entryFrame m #[.ref x, .int (Int32.ofNat i)] 2)) (T2.setTop (mkF m 8 #[.val (.ref x), .val (.int (Int32.ofNat i))] [.ref x])) := Steps.trans g2 (by
      refine XS.ifNo X2.here hexec rfl (hb hbytes d4) rfl (i0_eq_f (by decide)) ?_
      refine XS.aloadN X2.here hexec rfl (hb hbytes d7) rfl rfl ?_
      exact Steps.refl _)
    obtain ⟨T4, X4, q4, st4⟩ := X2.hget hexec hown (wk W (.fieldLink "java/lang/String" 9 "java/lang/String" "value" "[B")) hx2.2.1 (g := (mkF m 8 #[.val (.ref x), .val (.int (Int32.ofNat i))] [.ref x])) rfl (rest := []) rfl (hb hbytes d8)
    have hh4 := q4.trans hh2
    have c5 : Steps p.tables e below (s₁.setTop (entryFrame m #[.ref x, .int (Int32.ofNat i)] 2)) (T4.setTop (mkF m 12 #[.val (.ref x), .val (.int (Int32.ofNat i))] [.int (Int32.ofNat i), .ref t])) := (c3.trans (st4 _ (Steps.refl _))).trans (by
      refine XS.iloadN X4.here hexec rfl (hb hbytes d11) rfl ?_
      exact Steps.refl _)
    obtain ⟨v6, T6, X6, E6, g6⟩ := X4.callS hexec (LChA.law l t V i (lo8 (f i)) fm) hown (wks W (staticW "java/lang/String" 495 LChA.yN)) (wk W LChA.tab) (W := 0) (Nat.le_of_ble_eq_true rfl) (Nat.le_of_ble_eq_true rfl) (Nat.le_refl _) (Nat.le_refl _) (g := (mkF m 12 #[.val (.ref x), .val (.int (Int32.ofNat i))] [.int (Int32.ofNat i), .ref t])) rfl (by rw [hml]; rfl) c5 (argsL := [.ref t, .int (Int32.ofNat i)]) (rest := []) rfl rfl (by show 2 * 0 + 0 ≤ _; decide) (hb hbytes d12) (⟨rfl, hx.2.2.2.1.mv X4.warmed.alike hh4, (k2 i hi).1, s3.there X4.warmed.alike hh4, rf⟩)
    obtain ⟨rfl, q6⟩ := E6
    rw [chr8_lo8 hr.1 (k2 i hi).2] at g6
    exact ⟨T6, some (.int (f i)), _, _, _, X6, rfl, rfl, rfl, (fun h => by cases h), ⟨rfl, q6.trans hh4⟩, fun fs hl => Steps.trans g6 (X6.ireturnOut hexec hret (narrow_ch hr.1 hr.2) (Or.inr (Or.inr (Or.inr (Or.inl rfl)))) (hb hbytes d15) hl)⟩
  · exact absurd k0 (by decide)
theorem pays {l : Launch} {R : Room} {p : Program} {e : Env} {below : List Frame} {s : State} {sargs : Array Value} {len W : Nat} (x t : Addr) (V : Cell) (n : Nat) (f : Nat → Int32) (z : Int32) (fm : Value) (i : Nat) (htab : tab.before sargs s = true) (hfr : 4 ≤ R.frames) (hlo : W + 53 ≤ R.locals) :
    Back l R p e below s sargs yN len W (fun A₁ a₁ => A₁.cells + 0 ≤ R.cells ∧ A₁.slots + 0 ≤ R.slots ∧ P x t V n f z fm i a₁ A₁.U) (fun A₁ _ v₁ B₁ => E f i v₁ A₁.U B₁.U ∧ B₁.locs = A₁.locs ++ [] ∧ B₁.cells = A₁.cells + 0 ∧ B₁.slots = A₁.slots + 0) :=
  (law l x t V n f z fm i).pays htab hfr (by omega)
end ChN
end StrChars
namespace StrChars.Road
open Jvm Sem ClassFile Op Lib Jvm.Stand Jvm.Free Jvm.Free.XT
open Jvm.Lib.Cold (StaticIs)
/-- the words of String.charAt(int), the Latin-1 road alone -/
abbrev wordsChN : List Jvm.Cond := [.code ChN.yN ChN.yB 2 (some .char), .initialized ST, .fieldLink ST 9 ST "value" "[B", .fieldLink ST 38 ST "COMPACT_STRINGS" "Z", .fieldLink ST 15 ST "coder" "B", .code IsL.yN IsL.yB 1 (some .boolean), .methodLink ST 492 IsL.yN, .declares IsL.yN, .selects ST IsL.yN IsL.yN, .instanceMethod IsL.yN,
  .methodLink ST 495 LChA.yN, .static LChA.yN, .code LChA.yN LChA.yB 2 (some .char), .initialized "java/lang/StringLatin1", .methodLink "java/lang/StringLatin1" 9 JO.Str_checkIndex.yN, .static JO.Str_checkIndex.yN, .code JO.Str_checkIndex.yN JO.Str_checkIndex.yB 2 none,
  .fieldLink ST 1053 "jdk/internal/util/Preconditions" "SIOOBE_FORMATTER" "Ljava/util/function/BiFunction;", .methodLink ST 1059 JC.PreCheck.yN, .static JC.PreCheck.yN, .code JC.PreCheck.yN JC.PreCheck.yB 3 (some .int), .initialized "jdk/internal/util/Preconditions"]
theorem tabChN_of {a : Array Value} {s : State} (h : ∀ w ∈ wordsChN, w.before a s = true) : ChN.tab.before a s = true := by
  have hp : JC.PreCheck.tab.before a s = true := unparts (wk h (.code JC.PreCheck.yN JC.PreCheck.yB 3 (some .int))) (wks h (.initialized JC.PreCheck.yN.cls :: JC.PreCheck.site))
  have qk := consq hp h
  have hk : JO.Str_checkIndex.tab.before a s = true := unparts (wk qk (.code JO.Str_checkIndex.yN JO.Str_checkIndex.yB 2 none)) (wks qk (.initialized JO.Str_checkIndex.yN.cls :: JO.Str_checkIndex.site))
  have ql := consq hk h
  have hl : LChA.tab.before a s = true := unparts (wk ql (.code LChA.yN LChA.yB 2 (some .char))) (wks ql (.initialized LChA.yN.cls :: LChA.site))
  have hi : IsL.tab.before a s = true := unparts (wk h (.code IsL.yN IsL.yB 1 (some .boolean))) (wks h (.initialized IsL.yN.cls :: IsL.site))
  have q := consq hi (consq hl h)
  exact unparts (wk q (.code ChN.yN ChN.yB 2 (some .char))) (wks q (.initialized ChN.yN.cls :: ChN.site))
theorem movedChN {Z s : State} {a0 args : Array Value} (hZ : Z.Warmed39 s.vm) (hw : ∀ d ∈ wordsChN, d.before a0 Z = true) : ∀ d ∈ wordsChN, d.before args s = true := fun d hd => by
  have t : ∀ d ∈ wordsChN, (d.onTables && d.keepsFace) = true := by decide +kernel
  exact RoadKit.mv hZ (hw d hd) (t d hd)
/-- **charAt(i) OF A LATIN-1 STRING**, i < n: the char -/
theorem chN {p : Program} {l : Launch} {e : Env} {R : Room} {s : State} {args : Array Value} {below : List Frame} {len W : Nat} {Z : State} {a0 : Array Value} {h : Heap} (hZ : Z.Warmed39 s.vm) (hw : ∀ d ∈ wordsChN, d.before a0 Z = true) {kI : Nat} (wi : (Jvm.Cond.instantiable ST kI).before a0 Z = true)
    {x t : Addr} {kb : ClassId} {cs : List Int32} {N2 z : Int32} {vs : List Value} {fm : Value} {i : Nat} {j : Int32} (E : RoadKit.Exa Z h x ST) (V : RoadKit.Fld Z h x ST "value" "[B" (.ref t)) (C : RoadKit.Fld Z h x ST "coder" "B" (.int 0)) (K : RoadKit.Arv Z h t kb .byte N2 vs (.int 0)) (hc : CodA cs 0 N2 vs) (hb : ∀ c ∈ cs, ¬ c < 0 ∧ ¬ (65535 : Int32) < c)
    (S : RoadKit.Sta Z h ST "COMPACT_STRINGS" "Z" (.int z)) (hz : ¬ z = 0) (F : RoadKit.Sta Z h "jdk/internal/util/Preconditions" "SIOOBE_FORMATTER" "Ljava/util/function/BiFunction;" fm) (rf : fm.isRef = true) (l2 : cs.length ≤ 4000) (hi : i < cs.length) (hj : j = Int32.ofNat i) (hfr : 4 ≤ R.frames) (hlo : W + 53 ≤ R.locals) :
    Back l R p e below s args (⟨"java/lang/String", "charAt", "(I)C"⟩ : MethodName) len W (fun P a => a = #[.ref x, .int j] ∧ P.U.heap = h ∧ P.cells + 0 ≤ R.cells ∧ P.slots + 0 ≤ R.slots)
      (fun P _ v B => ∃ L, (v = some (.int (cs.getD i 0)) ∧ L = [] ∧ B.U.heap = h) ∧ B.locs = P.locs ++ L ∧ B.cells = P.cells + 0 ∧ B.slots = P.slots + 0) := by
  subst hj
  intro m meth c P g ig mk a X hg hsize hdg hW hn hp'
  obtain ⟨rfl, rfl, r1, r2⟩ := hp'
  have al : Z.vm.Alike P.U.vm := hZ.alike.trans X.warmed.alike
  obtain ⟨A, hx⟩ := txt_of wi al E V C K hc hb l2
  obtain ⟨v, B, X', ⟨⟨hv, hh⟩, hl, hk, hs⟩, st⟩ := ChN.pays x t A cs.length (fun j => cs.getD j 0) z fm i (tabChN_of (movedChN hZ hw)) hfr hlo m meth c P g ig mk _ X hg hsize hdg hW hn ⟨r1, r2, rfl, hx, hi, sta_is al S, hz, sta_is al F, rf⟩
  exact ⟨v, B, X', ⟨[], ⟨hv, rfl, hh⟩, hl, hk, hs⟩, st⟩
/-- what backV says of its String, as the contracts of this text ask it: cs's low bytes, coder 0 -/
theorem codOf {cs : List Int32} {n : Nat} (hn : cs.length = n) (hb : ∀ c ∈ cs, ¬ 255 < c) : CodA cs 0 (Int32.ofNat n) ((cs.map lo8).map Value.int) := Or.inl ⟨rfl, by rw [hn], by simp [List.map_map, Function.comp_def], hb⟩
end StrChars.Road
end Jvm.Pilot.@@N@@
namespace Jvm.Pilot.@@N@@
open Jvm Jvm.ClassFile Sem Op Lib Jvm.Free Jvm.Stand Jvm.LawKit Jvm.RoadKit Bundle Jvm.Pilot.@@N@@.Jvm.D
theorem own_and255 (x : Int32) : ¬ nar .char ((x &&& (255 : Int32)).toUInt32.toUInt16.toUInt32.toInt32) < 0 ∧ ¬ (255 : Int32) < nar .char ((x &&& (255 : Int32)).toUInt32.toUInt16.toUInt32.toInt32) := by
  have h := c_i2c (x &&& (255 : Int32)); have h2 := c_and x 255 (by decide)
  have h3 := c_i2c ((x &&& (255 : Int32)).toUInt32.toUInt16.toUInt32.toInt32)
  have e : (255 : Int32).toInt = 255 := by decide
  have z : (0 : Int32).toInt = 0 := by decide
  show ¬ ((x &&& (255 : Int32)).toUInt32.toUInt16.toUInt32.toInt32).toUInt32.toUInt16.toUInt32.toInt32 < 0 ∧ ¬ (255 : Int32) < ((x &&& (255 : Int32)).toUInt32.toUInt16.toUInt32.toInt32).toUInt32.toUInt16.toUInt32.toInt32
  simp only [Int32.lt_iff_toInt_lt]
  omega
theorem own_narc (x : Int32) : nar .char (x.toUInt32.toUInt16.toUInt32.toInt32) = x.toUInt32.toUInt16.toUInt32.toInt32 := by
  show (x.toUInt32.toUInt16.toUInt32.toInt32).toUInt32.toUInt16.toUInt32.toInt32 = _
  simp only [UInt32.toUInt32_toInt32, UInt16.toUInt16_toUInt32]
theorem own_narb (x : Int32) : nar .byte (x.toInt8.toInt32) = x.toInt8.toInt32 := by
  show (x.toInt8.toInt32).toInt8.toInt32 = _
  simp
theorem own_ci (x : Int32) : ¬ (x &&& (255 : Int32)).toUInt32.toUInt16.toUInt32.toInt32 < 0 ∧ ¬ (255 : Int32) < (x &&& (255 : Int32)).toUInt32.toUInt16.toUInt32.toInt32 := by
  have h := c_i2c (x &&& (255 : Int32)); have h2 := c_and x 255 (by decide)
  have e : (255 : Int32).toInt = 255 := by decide
  have z : (0 : Int32).toInt = 0 := by decide
  simp only [Int32.lt_iff_toInt_lt]
  omega


/-- a String at a spells cs (each 0 to 255) -/
def Str (Z : State) (h : Heap) (a : Addr) (cs : List Int32) : Prop := ∃ (t : Addr) (kb : ClassId), Exa Z h a "java/lang/String" ∧ Fld Z h a "java/lang/String" "coder" "B" (.int 0) ∧ Fld Z h a "java/lang/String" "value" "[B" (.ref t) ∧ Arv Z h t kb .byte (Int32.ofNat cs.length) ((cs.map (fun c => c.toInt8.toInt32)).map Value.int) (.int 0)
theorem Str.exa {Z : State} {h : Heap} {a : Addr} {cs : List Int32} (F : Str Z h a cs) : Exa Z h a "java/lang/String" := by obtain ⟨t, kb, E, -⟩ := F; exact E
theorem Str.lt {Z : State} {h : Heap} {a : Addr} {cs : List Int32} (F : Str Z h a cs) : a < h.size := F.exa.lt
theorem Str.ext {Z : State} {h h' : Heap} {a : Addr} {cs : List Int32} (F : Str Z h a cs) (E : Ext h h') : Str Z h' a cs := by obtain ⟨t, kb, x, c, v, k⟩ := F; exact ⟨t, kb, x.ext E, c.ext E, v.ext E, k.ext E⟩
theorem Str.keep0 {Z : State} {h h' : Heap} {a : Addr} {cs : List Int32} (F : Str Z h a cs) (K : Keep h h' []) : Str Z h' a cs := by obtain ⟨t, kb, x, c, v, k⟩ := F; exact ⟨t, kb, x.keep K, c.keep K nin0, v.keep K nin0, k.keep K nin0⟩
theorem Str.keepE {Z : State} {h h' : Heap} {a b : Addr} {C : String} {cs : List Int32} (F : Str Z h a cs) (K : Keep h h' [b]) (E : Exa Z h b C) (hC : C ≠ "java/lang/String") {a0 : Array Value} {n : Nat} (w : (Cond.instantiable C n).before a0 Z = true) : Str Z h' a cs := by
  obtain ⟨t, kb, x, c, v, k⟩ := F
  have n1 : a ≠ b := Ne.symm (Exa.ne E x hC)
  have n2 : t ≠ b := Ne.symm (Exa.neArv E k w)
  exact ⟨t, kb, x.keep K, c.keep K (ninS n1 nin0), v.keep K (ninS n1 nin0), k.keep K (ninS n2 nin0)⟩
theorem Str.wrE {Z : State} {h h' : Heap} {a b : Addr} {C : String} {cs : List Int32} {sl : Nat} {v : Value} (F : Str Z h a cs) (W : Wr h h' b sl v) (E : Exa Z h b C) (hC : C ≠ "java/lang/String") {a0 : Array Value} {n : Nat} (w : (Cond.instantiable C n).before a0 Z = true) : Str Z h' a cs := F.keepE (Keep.of_wr W) E hC w
theorem own_up {cs : List Int32} (hb : ∀ c ∈ cs, ¬ c < 0 ∧ ¬ (255 : Int32) < c) : ∀ c ∈ cs, ¬ c < 0 ∧ ¬ (65535 : Int32) < c := fun c hc => by
  have h := hb c hc
  have e1 : (255 : Int32).toInt = 255 := by decide
  have e2 : (65535 : Int32).toInt = 65535 := by decide
  simp only [Int32.lt_iff_toInt_lt] at h ⊢
  omega

theorem own_chB {p : Program} {l : Launch} {e : Env} {R : Room} {s : State} {args : Array Value} {below : List Frame} {len W : Nat} {Z : State} {a0 : Array Value} {h : Heap} {x : Addr} {cs : List Int32} {z : Int32} {fm : Value} {i : Nat} {j : Int32} (hZ : Z.Warmed39 s.vm) (hw : ∀ d ∈ tables_1, d.before a0 Z = true) (F : Str Z h x cs) (hb : ∀ c ∈ cs, ¬ c < 0 ∧ ¬ (255 : Int32) < c)
    (S : Sta Z h "java/lang/String" "COMPACT_STRINGS" "Z" (.int z)) (hz : ¬ z = 0) (G : Sta Z h "jdk/internal/util/Preconditions" "SIOOBE_FORMATTER" "Ljava/util/function/BiFunction;" fm) (rf : fm.isRef = true) (l2 : cs.length ≤ 4000) (hi : i < cs.length) (hj : j = Int32.ofNat i) (hfr : 4 ≤ R.frames) (hlo : W + 53 ≤ R.locals) :
    Back l R p e below s args (⟨"java/lang/String", "charAt", "(I)C"⟩ : MethodName) len W (fun P a => a = #[.ref x, .int j] ∧ P.U.heap = h ∧ P.cells + 0 ≤ R.cells ∧ P.slots + 0 ≤ R.slots)
      (fun P _ v B => ∃ L, (v = some (.int (cs.getD i 0)) ∧ L = [] ∧ B.U.heap = h) ∧ B.locs = P.locs ++ L ∧ B.cells = P.cells + 0 ∧ B.slots = P.slots + 0) := by
  obtain ⟨t, kb, E, C, V, K⟩ := F
  exact StrChars.Road.chN hZ (fun d hd => hw d ((by decide +kernel : ∀ d ∈ StrChars.Road.wordsChN, d ∈ tables_1) d hd)) (kI := 4) (hw _ (List.mem_of_getElem? (i := 7) rfl)) E V C K (StrChars.Road.codOf rfl fun c hc => (hb c hc).2) (own_up hb) S hz G rf l2 hi hj hfr hlo

abbrev own_dgP (c : Int32) : Prop := ¬ c < (48 : Int32) ∧ ¬ (57 : Int32) < c
def own_de : List Int32 → Nat → Nat → Nat
  | _, 0, i => i
  | cs, k + 1, i => if own_dgP (cs.getD i 0) then own_de cs k (i + 1) else i
def own_deB : List Bool → Nat → Nat → Nat
  | _, 0, i => i
  | bs, k + 1, i => if bs.getD i false = true then own_deB bs k (i + 1) else i
theorem own_de_eq (cs : List Int32) : ∀ k i, own_de cs k i = own_deB (cs.map fun c => decide (own_dgP c)) k i
  | 0, _ => rfl
  | k + 1, i => by
    have e : (cs.map fun c => decide (own_dgP c)).getD i false = decide (own_dgP (cs.getD i 0)) := by
      rw [List.getD_eq_getElem?_getD, List.getD_eq_getElem?_getD, List.getElem?_map]
      cases cs[i]? with
      | none => decide
      | some c => rfl
    simp only [own_de, own_deB, e, decide_eq_true_eq, own_de_eq cs k (i + 1)]
theorem own_dt_eq (cs : List Int32) (i : Nat) : ((cs.map fun c => decide (c = (46 : Int32))).getD i false = true) ↔ cs.getD i 0 = (46 : Int32) := by
  rw [List.getD_eq_getElem?_getD, List.getD_eq_getElem?_getD, List.getElem?_map]
  cases cs[i]? with
  | none => decide
  | some c => simp
theorem own_de_le (cs : List Int32) : ∀ k i, own_de cs k i ≤ i + k ∧ i ≤ own_de cs k i
  | 0, i => ⟨Nat.le_refl _, Nat.le_refl _⟩
  | k + 1, i => by
    have h := own_de_le cs k (i + 1)
    simp only [own_de]
    split
    · omega
    · omega
abbrev own_okP (d k F E : Int32) : Prop := k < F ∨ ¬ k < E ∨ own_dgP d ∨ d = (46 : Int32)
def own_okI (d k F E : Int32) : Int32 := if own_okP d k F E then 1 else 0
def own_dotI (d k F E : Int32) : Int32 := if ¬ k < F ∧ k < E ∧ d = (46 : Int32) then 1 else 0
def own_first (d0 : Int32) (en : Nat) (x8 : Int32) : Nat := if ¬ x8 = (0 : Int32) ∧ (0 : Int32) < Int32.ofNat en ∧ d0 = (45 : Int32) then 1 else 0
def own_okB (b t : Bool) (k F E : Int32) : Bool := decide (k < F) || !decide (k < E) || b || t
def own_dotB (t : Bool) (k F E : Int32) : Int32 := if (!decide (k < F) && decide (k < E) && t) = true then 1 else 0
def own_coreB (en f : Nat) (b0 b1 b2 b3 b4 t0 t1 t2 t3 t4 : Bool) : Bool :=
  let E := Int32.ofNat en
  let F := Int32.ofNat f
  let A := own_okB b0 t0 0 F E && own_okB b1 t1 1 F E && own_okB b2 t2 2 F E && own_okB b3 t3 3 F E && own_okB b4 t4 4 F E && !decide (E - F < 1)
  let dots := own_dotB t0 0 F E + own_dotB t1 1 F E + own_dotB t2 2 F E + own_dotB t3 3 F E + own_dotB t4 4 F E
  let P := own_dotB t1 1 F E + 2 * own_dotB t2 2 F E + 3 * own_dotB t3 3 F E + 4 * own_dotB t4 4 F E
  let p := own_deB [b0, b1, b2, b3, b4] (en - f) f
  let q := own_deB [b0, b1, b2, b3, b4] (en - (p + 1)) (p + 1)
  let pd := decide (Int32.ofNat p < E) && [t0, t1, t2, t3, t4].getD p false
  let X := A && decide (dots = 0)
  let Y := A && (decide (dots = 1) && decide (F < P) && decide (P < E - 1))
  let B := !decide (Int32.ofNat p = F)
  let X' := B && (!pd && decide (Int32.ofNat p = E))
  let Y' := B && (pd && decide (Int32.ofNat q = E) && !decide (Int32.ofNat q - Int32.ofNat p - 1 < 1))
  (X == X') && (Y == Y') && (!Y || decide (E - 1 - P = Int32.ofNat q - Int32.ofNat p - 1))
set_option maxRecDepth 100000 in
theorem own_core : ∀ (en : Fin 6) (f : Fin 2) (b0 b1 b2 b3 b4 t0 t1 t2 t3 t4 : Bool), (decide (f.1 ≤ en.1) && !(b0 && t0) && !(b1 && t1) && !(b2 && t2) && !(b3 && t3) && !(b4 && t4)) = true → own_coreB en.1 f.1 b0 b1 b2 b3 b4 t0 t1 t2 t3 t4 = true := by decide +kernel

abbrev own_Wp (cs : List Int32) (en : Nat) (dd : Int32) (f p q : Nat) : Prop := ¬ Int32.ofNat p = Int32.ofNat f ∧ (((Int32.ofNat p < Int32.ofNat en ∧ cs.getD p 0 = (46 : Int32)) ∧ Int32.ofNat q = Int32.ofNat en ∧ ¬ Int32.ofNat q - Int32.ofNat p - 1 < 1 ∧ ¬ dd < Int32.ofNat q - Int32.ofNat p - 1) ∨ (¬ (Int32.ofNat p < Int32.ofNat en ∧ cs.getD p 0 = (46 : Int32)) ∧ Int32.ofNat p = Int32.ofNat en))
abbrev own_A (d0 d1 d2 d3 d4 F E : Int32) : Prop := own_okP d0 0 F E ∧ own_okP d1 1 F E ∧ own_okP d2 2 F E ∧ own_okP d3 3 F E ∧ own_okP d4 4 F E
abbrev own_E (x10 dd E F D P : Int32) : Prop := ¬ x10 = (0 : Int32) ∧ ¬ E - F < (1 : Int32) ∧ (D = (0 : Int32) ∨ (D = (1 : Int32) ∧ F < P ∧ P < E - (1 : Int32) ∧ ¬ dd < E - (1 : Int32) - P))
theorem own_excl (d : Int32) : (decide (own_dgP d) && decide (d = (46 : Int32))) = false := by
  by_cases h : d = (46 : Int32)
  · subst h; decide
  · simp [h]
theorem own_okB_eq (d k F E : Int32) : own_okB (decide (own_dgP d)) (decide (d = (46 : Int32))) k F E = decide (own_okP d k F E) := by
  simp only [own_okB, own_okP, Bool.decide_or, decide_not, Bool.or_assoc]
theorem own_dotB_eq (d k F E : Int32) : own_dotB (decide (d = (46 : Int32))) k F E = own_dotI d k F E := by
  simp only [own_dotB, own_dotI, Bool.and_eq_true, Bool.not_eq_true', decide_eq_true_eq, decide_eq_false_iff_not, and_assoc]
theorem own_main (d0 d1 d2 d3 d4 dd x10 : Int32) (en f p q : Nat) (hen : en ≤ 5) (hf1 : f ≤ 1) (hfe : f ≤ en) (hp : p = own_de [d0, d1, d2, d3, d4] (en - f) f) (hq : q = own_de [d0, d1, d2, d3, d4] (en - (p + 1)) (p + 1))
    (hx : (x10 = 1 ∧ own_A d0 d1 d2 d3 d4 (Int32.ofNat f) (Int32.ofNat en)) ∨ (x10 = 0 ∧ ¬ own_A d0 d1 d2 d3 d4 (Int32.ofNat f) (Int32.ofNat en))) :
    own_E x10 dd (Int32.ofNat en) (Int32.ofNat f) (own_dotI d0 0 (Int32.ofNat f) (Int32.ofNat en) + own_dotI d1 1 (Int32.ofNat f) (Int32.ofNat en) + own_dotI d2 2 (Int32.ofNat f) (Int32.ofNat en) + own_dotI d3 3 (Int32.ofNat f) (Int32.ofNat en) + own_dotI d4 4 (Int32.ofNat f) (Int32.ofNat en))
      (own_dotI d1 1 (Int32.ofNat f) (Int32.ofNat en) + 2 * own_dotI d2 2 (Int32.ofNat f) (Int32.ofNat en) + 3 * own_dotI d3 3 (Int32.ofNat f) (Int32.ofNat en) + 4 * own_dotI d4 4 (Int32.ofNat f) (Int32.ofNat en)) ↔ own_Wp [d0, d1, d2, d3, d4] en dd f p q := by
  have core := own_core ⟨en, by omega⟩ ⟨f, by omega⟩ (decide (own_dgP d0)) (decide (own_dgP d1)) (decide (own_dgP d2)) (decide (own_dgP d3)) (decide (own_dgP d4)) (decide (d0 = (46 : Int32))) (decide (d1 = (46 : Int32))) (decide (d2 = (46 : Int32))) (decide (d3 = (46 : Int32))) (decide (d4 = (46 : Int32))) (by
    simp only [own_excl, Bool.not_false, Bool.and_true, decide_eq_true_eq]; exact hfe)
  have e1 : ∀ k i, own_deB [decide (own_dgP d0), decide (own_dgP d1), decide (own_dgP d2), decide (own_dgP d3), decide (own_dgP d4)] k i = own_de [d0, d1, d2, d3, d4] k i := fun k i => (own_de_eq [d0, d1, d2, d3, d4] k i).symm
  have e2 : [decide (d0 = (46 : Int32)), decide (d1 = (46 : Int32)), decide (d2 = (46 : Int32)), decide (d3 = (46 : Int32)), decide (d4 = (46 : Int32))].getD p false = decide (([d0, d1, d2, d3, d4] : List Int32).getD p 0 = (46 : Int32)) := by
    rw [Bool.eq_iff_iff, decide_eq_true_eq]; exact own_dt_eq [d0, d1, d2, d3, d4] p
  simp only [own_coreB, own_okB_eq, own_dotB_eq, e1, ← hp, ← hq, e2] at core
  unfold own_E own_Wp
  generalize own_dotI d0 0 (Int32.ofNat f) (Int32.ofNat en) + own_dotI d1 1 (Int32.ofNat f) (Int32.ofNat en) + own_dotI d2 2 (Int32.ofNat f) (Int32.ofNat en) + own_dotI d3 3 (Int32.ofNat f) (Int32.ofNat en) + own_dotI d4 4 (Int32.ofNat f) (Int32.ofNat en) = D at core ⊢
  generalize own_dotI d1 1 (Int32.ofNat f) (Int32.ofNat en) + 2 * own_dotI d2 2 (Int32.ofNat f) (Int32.ofNat en) + 3 * own_dotI d3 3 (Int32.ofNat f) (Int32.ofNat en) + 4 * own_dotI d4 4 (Int32.ofNat f) (Int32.ofNat en) = P at core ⊢
  generalize ([d0, d1, d2, d3, d4] : List Int32).getD p 0 = g at core ⊢
  generalize Int32.ofNat en = E at *
  generalize Int32.ofNat f = F at *
  generalize Int32.ofNat p = p' at *
  generalize Int32.ofNat q = q' at *
  have hA : own_A d0 d1 d2 d3 d4 F E ↔ ¬ x10 = (0 : Int32) := by
    rcases hx with ⟨rfl, h⟩ | ⟨rfl, h⟩
    · exact ⟨fun _ => by decide, fun _ => h⟩
    · exact ⟨fun r => absurd r h, fun r => absurd rfl r⟩
  rw [Bool.and_eq_true, Bool.and_eq_true, beq_iff_eq, beq_iff_eq] at core
  obtain ⟨⟨c1, c2⟩, c3⟩ := core
  have c1 := Bool.eq_iff_iff.mp c1
  have c2 := Bool.eq_iff_iff.mp c2
  simp only [Bool.or_eq_true, Bool.not_eq_true', ← Bool.not_eq_true, Bool.and_eq_true, decide_eq_true_eq, and_assoc] at c1 c2 c3
  constructor
  · rintro ⟨h1, h2, h3 | ⟨h3, h4, h5, h6⟩⟩
    · obtain ⟨a0, a1, a2, a3, a4⟩ := hA.mpr h1
      obtain ⟨r1, r2, r3⟩ := c1.mp ⟨a0, a1, a2, a3, a4, h2, h3⟩
      exact ⟨r1, Or.inr ⟨r2, r3⟩⟩
    · obtain ⟨a0, a1, a2, a3, a4⟩ := hA.mpr h1
      obtain ⟨r1, r2, r3, r4, r5⟩ := c2.mp ⟨a0, a1, a2, a3, a4, h2, h3, h4, h5⟩
      rcases c3 with c3 | c3
      · exact absurd ⟨a0, a1, a2, a3, a4, h2, h3, h4, h5⟩ c3
      · exact ⟨r1, Or.inl ⟨⟨r2, r3⟩, r4, r5, by rw [← c3]; exact h6⟩⟩
  · rintro ⟨r1, ⟨⟨r2, r3⟩, r4, r5, r6⟩ | ⟨r2, r3⟩⟩
    · obtain ⟨a0, a1, a2, a3, a4, h2, h3, h4, h5⟩ := c2.mpr ⟨r1, r2, r3, r4, r5⟩
      rcases c3 with c3 | c3
      · exact absurd ⟨a0, a1, a2, a3, a4, h2, h3, h4, h5⟩ c3
      · exact ⟨hA.mp ⟨a0, a1, a2, a3, a4⟩, h2, Or.inr ⟨h3, h4, h5, by rw [c3]; exact r6⟩⟩
    · obtain ⟨a0, a1, a2, a3, a4, h2, h3⟩ := c1.mpr ⟨r1, r2, r3⟩
      exact ⟨hA.mp ⟨a0, a1, a2, a3, a4⟩, h2, Or.inl h3⟩
theorem own_lt {a b : Nat} (ha : a ≤ 1000) (hb : b ≤ 1000) : Int32.ofNat a < Int32.ofNat b ↔ a < b := by
  rw [Int32.lt_iff_toInt_lt, Int32.toInt_ofNat_of_lt (by omega), Int32.toInt_ofNat_of_lt (by omega)]; omega
theorem own_succ (i : Nat) : Int32.ofNat i + (1 : Int32) = Int32.ofNat (i + 1) := by rw [Int32.ofNat_add]; rfl
theorem own_m6 (x : Int32) : ∃ en : Nat, en ≤ 5 ∧ (x &&& (2147483647 : Int32)) % (6 : Int32) = Int32.ofNat en := by
  have a := c_and x 2147483647 (by decide)
  have b := (c_iremV (x &&& (2147483647 : Int32)) 6).1 a.1 (by decide)
  have e6 : (6 : Int32).toInt = 6 := by decide
  refine ⟨((x &&& (2147483647 : Int32)) % (6 : Int32)).toInt.toNat, by omega, ?_⟩
  rw [← Int32.toInt_inj, Int32.toInt_ofNat_of_lt (by omega)]
  omega
theorem own_first_le (d : Int32) (en : Nat) (x : Int32) (hen : en ≤ 5) : own_first d en x ≤ 1 ∧ own_first d en x ≤ en := by
  unfold own_first
  split
  · rename_i h
    have := (own_lt (a := 0) (b := en) (by omega) (by omega)).mp h.2.1
    omega
  · omega
theorem own_fin {r x : Int32} {P W : Prop} (h1 : (r = 1 ∧ W) ∨ (r = 0 ∧ ¬ W)) (h2 : (x = 1 ∧ P) ∨ (x = 0 ∧ ¬ P)) (h : P ↔ W) : r = x := by
  rcases h1 with ⟨rfl, a⟩ | ⟨rfl, a⟩ <;> rcases h2 with ⟨rfl, b⟩ | ⟨rfl, b⟩ <;> first | rfl | exact absurd (h.mpr a) b | exact absurd (h.mp b) a

theorem own_nb {x : Int32} (h : ¬ x < 0 ∧ ¬ (255 : Int32) < x) : ¬ nar .char x < 0 ∧ ¬ (255 : Int32) < nar .char x := by
  have a := c_i2c x
  have e : (255 : Int32).toInt = 255 := by decide
  have z : (0 : Int32).toInt = 0 := by decide
  show ¬ x.toUInt32.toUInt16.toUInt32.toInt32 < 0 ∧ ¬ (255 : Int32) < x.toUInt32.toUInt16.toUInt32.toInt32
  simp only [Int32.lt_iff_toInt_lt] at h ⊢
  omega
theorem ef_0 (m : MethodId) (x0 : Int64) : entryFrame m #[(.long x0)] 4 = mkF m 0 #[.val (.long x0), .second, .unset, .unset] [] := by first | (simp [entryFrame, mkF, argsToLocals, Value.category]; done) | rfl
theorem d_method_3_code_0 : decode method_3_code 0 = .ok (.lload_n 0, 1) := by decide +kernel
theorem d_method_3_code_1 : decode method_3_code 1 = .ok (.ldc2_w 7, 3) := by decide +kernel
theorem d_method_3_code_4 : decode method_3_code 4 = .ok (.land, 1) := by decide +kernel
theorem d_method_3_code_5 : decode method_3_code 5 = .ok (.l2i, 1) := by decide +kernel
theorem d_method_3_code_6 : decode method_3_code 6 = .ok (.istore_n 2, 1) := by decide +kernel
theorem d_method_3_code_7 : decode method_3_code 7 = .ok (.iload_n 2, 1) := by decide +kernel
theorem d_method_3_code_8 : decode method_3_code 8 = .ok (.sipush 256, 3) := by decide +kernel
theorem d_method_3_code_11 : decode method_3_code 11 = .ok (.iand, 1) := by decide +kernel
theorem d_method_3_code_12 : decode method_3_code 12 = .ok (.ifCond .eq 10, 3) := by decide +kernel
theorem d_method_3_code_22 : decode method_3_code 22 = .ok (.iload_n 2, 1) := by decide +kernel
theorem d_method_3_code_23 : decode method_3_code 23 = .ok (.bipush 7, 2) := by decide +kernel
theorem d_method_3_code_25 : decode method_3_code 25 = .ok (.iand, 1) := by decide +kernel
theorem d_method_3_code_26 : decode method_3_code 26 = .ok (.istore_n 3, 1) := by decide +kernel
theorem d_method_3_code_27 : decode method_3_code 27 = .ok (.iload_n 3, 1) := by decide +kernel
theorem d_method_3_code_28 : decode method_3_code 28 = .ok (.ifCond .ne 6, 3) := by decide +kernel
theorem d_method_3_code_31 : decode method_3_code 31 = .ok (.bipush 48, 2) := by decide +kernel
theorem d_method_3_code_33 : decode method_3_code 33 = .ok (.ireturn, 1) := by decide +kernel
theorem d_method_3_code_34 : decode method_3_code 34 = .ok (.iload_n 3, 1) := by decide +kernel
theorem d_method_3_code_35 : decode method_3_code 35 = .ok (.iconst 1, 1) := by decide +kernel
theorem d_method_3_code_36 : decode method_3_code 36 = .ok (.if_icmp .ne 6, 3) := by decide +kernel
theorem d_method_3_code_39 : decode method_3_code 39 = .ok (.bipush 57, 2) := by decide +kernel
theorem d_method_3_code_41 : decode method_3_code 41 = .ok (.ireturn, 1) := by decide +kernel
theorem d_method_3_code_42 : decode method_3_code 42 = .ok (.iload_n 3, 1) := by decide +kernel
theorem d_method_3_code_43 : decode method_3_code 43 = .ok (.iconst 2, 1) := by decide +kernel
theorem d_method_3_code_44 : decode method_3_code 44 = .ok (.if_icmp .ne 6, 3) := by decide +kernel
theorem d_method_3_code_47 : decode method_3_code 47 = .ok (.bipush 45, 2) := by decide +kernel
theorem d_method_3_code_49 : decode method_3_code 49 = .ok (.ireturn, 1) := by decide +kernel
theorem d_method_3_code_50 : decode method_3_code 50 = .ok (.iload_n 3, 1) := by decide +kernel
theorem d_method_3_code_51 : decode method_3_code 51 = .ok (.iconst 3, 1) := by decide +kernel
theorem d_method_3_code_52 : decode method_3_code 52 = .ok (.if_icmp .ne 6, 3) := by decide +kernel
theorem d_method_3_code_55 : decode method_3_code 55 = .ok (.bipush 46, 2) := by decide +kernel
theorem d_method_3_code_57 : decode method_3_code 57 = .ok (.ireturn, 1) := by decide +kernel
theorem d_method_3_code_58 : decode method_3_code 58 = .ok (.iload_n 3, 1) := by decide +kernel
theorem d_method_3_code_59 : decode method_3_code 59 = .ok (.iconst 4, 1) := by decide +kernel
theorem d_method_3_code_60 : decode method_3_code 60 = .ok (.if_icmp .ne 6, 3) := by decide +kernel
theorem d_method_3_code_63 : decode method_3_code 63 = .ok (.bipush 53, 2) := by decide +kernel
theorem d_method_3_code_65 : decode method_3_code 65 = .ok (.ireturn, 1) := by decide +kernel
theorem d_method_3_code_66 : decode method_3_code 66 = .ok (.iload_n 3, 1) := by decide +kernel
theorem d_method_3_code_67 : decode method_3_code 67 = .ok (.iconst 5, 1) := by decide +kernel
theorem d_method_3_code_68 : decode method_3_code 68 = .ok (.if_icmp .ne 6, 3) := by decide +kernel
theorem d_method_3_code_71 : decode method_3_code 71 = .ok (.bipush 47, 2) := by decide +kernel
theorem d_method_3_code_73 : decode method_3_code 73 = .ok (.ireturn, 1) := by decide +kernel
theorem d_method_3_code_74 : decode method_3_code 74 = .ok (.iload_n 3, 1) := by decide +kernel
theorem d_method_3_code_75 : decode method_3_code 75 = .ok (.bipush 6, 2) := by decide +kernel
theorem d_method_3_code_77 : decode method_3_code 77 = .ok (.if_icmp .ne 6, 3) := by decide +kernel
theorem d_method_3_code_80 : decode method_3_code 80 = .ok (.bipush 58, 2) := by decide +kernel
theorem d_method_3_code_82 : decode method_3_code 82 = .ok (.ireturn, 1) := by decide +kernel
theorem d_method_3_code_83 : decode method_3_code 83 = .ok (.bipush 55, 2) := by decide +kernel
theorem d_method_3_code_85 : decode method_3_code 85 = .ok (.ireturn, 1) := by decide +kernel
theorem d_method_3_code_15 : decode method_3_code 15 = .ok (.iload_n 2, 1) := by decide +kernel
theorem d_method_3_code_16 : decode method_3_code 16 = .ok (.sipush 255, 3) := by decide +kernel
theorem d_method_3_code_19 : decode method_3_code 19 = .ok (.iand, 1) := by decide +kernel
theorem d_method_3_code_20 : decode method_3_code 20 = .ok (.i2c, 1) := by decide +kernel
theorem d_method_3_code_21 : decode method_3_code 21 = .ok (.ireturn, 1) := by decide +kernel
theorem pn_55 : plainName "com/example/tranche/tranche/DecimalsIsWrittenPinLaw" = true := by first | (simp [plainName, overriddenIn]; done) | decide +kernel
set_option maxRecDepth 65536 in
set_option maxHeartbeats 40000000 in
theorem rm_dr (l : Launch) (Z : State) (a0 : Array Value) (hw : ∀ d ∈ tables_1, d.before a0 Z = true) (ws : List Jvm.Cond) (q : Int64) (h0 : Heap) (n0 : Nat) (Z0 : n0 ≤ h0.size) (O0 : Old Z n0 h0)  :
    Ctr l Z (⟨"com/example/tranche/tranche/DecimalsIsWrittenPinLaw", "draw", "(J)C"⟩ : MethodName) method_3_code 4 ((Option.some Jvm.ClassFile.FieldType.char)) ws ({ frames := 0, cells := 0, slots := 0, locals := 0 } : Room) #[(.long q)] h0 (fun v h L => ∃ c : Int32, v = some (.int c) ∧ Fr n0 L ∧ h = h0 ∧ (¬ c < 0 ∧ ¬ (255 : Int32) < c)) := by
  refine Ctr.of (MetFree.of_bodySF (plainFor_of_name pn_55) hisR ?_)
  intro p e s m args below meth c s₁ Bd hml0 hP hK
  obtain ⟨rfl, hZ, hh⟩ := hP
  have hx := Bd.exec
  have hby := Bd.bytes
  have hml : c.maxLocals = 4 := hml0
  have hown : s.vm.findClass "com/example/tranche/tranche/DecimalsIsWrittenPinLaw" = some m.cls := findClass_of_methodNamed Bd.named
  have hnm := (name_of_methodNamed Bd.named Bd.method).1
  have X0 : Stand p l e ({ frames := 0, cells := 0, slots := 0, locals := 0 } : Room) s m #[(.long q)] below meth c s₁ [] 0 0 := Stand.of_body Bd
  have e0 : s₁.heap = h0 := by rw [← hh, Bd.state]; rfl
  have N0 := Fr.nil n0
  have K0 : Keep h0 h0 [] := Keep.refl h0 []
  show OwnGo p e below s (fun v h L => ∃ c : Int32, v = some (.int c) ∧ Fr n0 L ∧ h = h0 ∧ (¬ c < 0 ∧ ¬ (255 : Int32) < c)) ({ frames := 0, cells := 0, slots := 0, locals := 0 } : Room).cells ({ frames := 0, cells := 0, slots := 0, locals := 0 } : Room).slots _
  refine gs (S' := s₁.setTop (mkF m 0 #[.val (.long q), .second, .unset, .unset] [])) (fun tg kg => castTop (ef_0 m q) kg) ?_
  have c1 : ∀ tg, Steps p.tables e below (s₁.setTop (mkF m 12 #[.val (.long q), .second, .val (.int ((q &&& (511 : Int64)).toInt32)), .unset] [(.int (((q &&& (511 : Int64)).toInt32) &&& (256 : Int32)))])) tg → Steps p.tables e below (s₁.setTop (mkF m 0 #[.val (.long q), .second, .unset, .unset] [])) tg := fun tg kg => by
    refine XS.lloadN X0.here hx rfl (hb hby d_method_3_code_0) rfl ?_
    show Steps p.tables e below (s₁.setTop (mkF m 1 #[.val (.long q), .second, .unset, .unset] [(.long q)])) tg
    refine X0.ldc2Long hx hown (mvT hZ (hw _ (List.mem_of_getElem? (i := 5) rfl))) (g := (mkF m 1 #[.val (.long q), .second, .unset, .unset] [(.long q)])) rfl (hb hby d_method_3_code_1) _ ?_
    show Steps p.tables e below (s₁.setTop (mkF m 4 #[.val (.long q), .second, .unset, .unset] [(.long (511 : Int64)), (.long q)])) tg
    refine XS.land X0.here hx rfl (hb hby d_method_3_code_4) rfl ?_
    show Steps p.tables e below (s₁.setTop (mkF m 5 #[.val (.long q), .second, .unset, .unset] [(.long (q &&& (511 : Int64)))])) tg
    refine XS.l2i X0.here hx rfl (hb hby d_method_3_code_5) rfl ?_
    show Steps p.tables e below (s₁.setTop (mkF m 6 #[.val (.long q), .second, .unset, .unset] [(.int ((q &&& (511 : Int64)).toInt32))])) tg
    refine XS.istoreN X0.here hx rfl (hb hby d_method_3_code_6) rfl (l' := #[.val (.long q), .second, .val (.int ((q &&& (511 : Int64)).toInt32)), .unset]) rfl ?_
    show Steps p.tables e below (s₁.setTop (mkF m 7 #[.val (.long q), .second, .val (.int ((q &&& (511 : Int64)).toInt32)), .unset] [])) tg
    refine XS.iloadN X0.here hx rfl (hb hby d_method_3_code_7) rfl ?_
    show Steps p.tables e below (s₁.setTop (mkF m 8 #[.val (.long q), .second, .val (.int ((q &&& (511 : Int64)).toInt32)), .unset] [(.int ((q &&& (511 : Int64)).toInt32))])) tg
    refine XS.sipush X0.here hx rfl (hb hby d_method_3_code_8) ?_
    show Steps p.tables e below (s₁.setTop (mkF m 11 #[.val (.long q), .second, .val (.int ((q &&& (511 : Int64)).toInt32)), .unset] [(.int (256 : Int32)), (.int ((q &&& (511 : Int64)).toInt32))])) tg
    refine XS.iand X0.here hx rfl (hb hby d_method_3_code_11) rfl ?_
    show Steps p.tables e below (s₁.setTop (mkF m 12 #[.val (.long q), .second, .val (.int ((q &&& (511 : Int64)).toInt32)), .unset] [(.int (((q &&& (511 : Int64)).toInt32) &&& (256 : Int32)))])) tg
    exact kg
  refine gs c1 ?_
  by_cases hc2 : (((q &&& (511 : Int64)).toInt32) &&& (256 : Int32)) = (0 : Int32)
  · have c3 : ∀ tg, Steps p.tables e below (s₁.setTop (mkF m 28 #[.val (.long q), .second, .val (.int ((q &&& (511 : Int64)).toInt32)), .val (.int (((q &&& (511 : Int64)).toInt32) &&& (7 : Int32)))] [(.int (((q &&& (511 : Int64)).toInt32) &&& (7 : Int32)))])) tg → Steps p.tables e below (s₁.setTop (mkF m 12 #[.val (.long q), .second, .val (.int ((q &&& (511 : Int64)).toInt32)), .unset] [(.int (((q &&& (511 : Int64)).toInt32) &&& (256 : Int32)))])) tg := fun tg kg => by
      refine XS.ifYes X0.here hx rfl (pc0 := 12) (pc' := 22) rfl (hb hby d_method_3_code_12) rfl ((if0 _ _).trans (teq hc2).1) (by decide) (by decide) ?_
      show Steps p.tables e below (s₁.setTop (mkF m 22 #[.val (.long q), .second, .val (.int ((q &&& (511 : Int64)).toInt32)), .unset] [])) tg
      refine XS.iloadN X0.here hx rfl (hb hby d_method_3_code_22) rfl ?_
      show Steps p.tables e below (s₁.setTop (mkF m 23 #[.val (.long q), .second, .val (.int ((q &&& (511 : Int64)).toInt32)), .unset] [(.int ((q &&& (511 : Int64)).toInt32))])) tg
      refine XS.bipush X0.here hx rfl (hb hby d_method_3_code_23) ?_
      show Steps p.tables e below (s₁.setTop (mkF m 25 #[.val (.long q), .second, .val (.int ((q &&& (511 : Int64)).toInt32)), .unset] [(.int (7 : Int32)), (.int ((q &&& (511 : Int64)).toInt32))])) tg
      refine XS.iand X0.here hx rfl (hb hby d_method_3_code_25) rfl ?_
      show Steps p.tables e below (s₁.setTop (mkF m 26 #[.val (.long q), .second, .val (.int ((q &&& (511 : Int64)).toInt32)), .unset] [(.int (((q &&& (511 : Int64)).toInt32) &&& (7 : Int32)))])) tg
      refine XS.istoreN X0.here hx rfl (hb hby d_method_3_code_26) rfl (l' := #[.val (.long q), .second, .val (.int ((q &&& (511 : Int64)).toInt32)), .val (.int (((q &&& (511 : Int64)).toInt32) &&& (7 : Int32)))]) rfl ?_
      show Steps p.tables e below (s₁.setTop (mkF m 27 #[.val (.long q), .second, .val (.int ((q &&& (511 : Int64)).toInt32)), .val (.int (((q &&& (511 : Int64)).toInt32) &&& (7 : Int32)))] [])) tg
      refine XS.iloadN X0.here hx rfl (hb hby d_method_3_code_27) rfl ?_
      show Steps p.tables e below (s₁.setTop (mkF m 28 #[.val (.long q), .second, .val (.int ((q &&& (511 : Int64)).toInt32)), .val (.int (((q &&& (511 : Int64)).toInt32) &&& (7 : Int32)))] [(.int (((q &&& (511 : Int64)).toInt32) &&& (7 : Int32)))])) tg
      exact kg
    refine gs c3 ?_
    by_cases hc4 : (((q &&& (511 : Int64)).toInt32) &&& (7 : Int32)) = (0 : Int32)
    · have c5 : ∀ tg, Steps p.tables e below (s₁.setTop (mkF m 33 #[.val (.long q), .second, .val (.int ((q &&& (511 : Int64)).toInt32)), .val (.int (((q &&& (511 : Int64)).toInt32) &&& (7 : Int32)))] [(.int (48 : Int32))])) tg → Steps p.tables e below (s₁.setTop (mkF m 28 #[.val (.long q), .second, .val (.int ((q &&& (511 : Int64)).toInt32)), .val (.int (((q &&& (511 : Int64)).toInt32) &&& (7 : Int32)))] [(.int (((q &&& (511 : Int64)).toInt32) &&& (7 : Int32)))])) tg := fun tg kg => by
        refine XS.ifNo X0.here hx rfl (hb hby d_method_3_code_28) rfl ((if0 _ _).trans (teq hc4).2) ?_
        show Steps p.tables e below (s₁.setTop (mkF m 31 #[.val (.long q), .second, .val (.int ((q &&& (511 : Int64)).toInt32)), .val (.int (((q &&& (511 : Int64)).toInt32) &&& (7 : Int32)))] [])) tg
        refine XS.bipush X0.here hx rfl (hb hby d_method_3_code_31) ?_
        show Steps p.tables e below (s₁.setTop (mkF m 33 #[.val (.long q), .second, .val (.int ((q &&& (511 : Int64)).toInt32)), .val (.int (((q &&& (511 : Int64)).toInt32) &&& (7 : Int32)))] [(.int (48 : Int32))])) tg
        exact kg
      refine gs c5 ?_
      refine gout (v := some (.int (nar .char (48 : Int32)))) X0 Bd.notSynchronized (fun h => by rw [Bd.returns] at h; cases h) (by decide) (by decide) ?_ (fun fs hr => retN X0 hx (t := .char) Bd.returns (by simp) (hb hby d_method_3_code_33) hr)
      rw [e0]
      exact ⟨_, rfl, N0, rfl, by decide⟩
    · have c6 : ∀ tg, Steps p.tables e below (s₁.setTop (mkF m 36 #[.val (.long q), .second, .val (.int ((q &&& (511 : Int64)).toInt32)), .val (.int (((q &&& (511 : Int64)).toInt32) &&& (7 : Int32)))] [(.int (1 : Int32)), (.int (((q &&& (511 : Int64)).toInt32) &&& (7 : Int32)))])) tg → Steps p.tables e below (s₁.setTop (mkF m 28 #[.val (.long q), .second, .val (.int ((q &&& (511 : Int64)).toInt32)), .val (.int (((q &&& (511 : Int64)).toInt32) &&& (7 : Int32)))] [(.int (((q &&& (511 : Int64)).toInt32) &&& (7 : Int32)))])) tg := fun tg kg => by
        refine XS.ifYes X0.here hx rfl (pc0 := 28) (pc' := 34) rfl (hb hby d_method_3_code_28) rfl ((if0 _ _).trans (feq hc4).2) (by decide) (by decide) ?_
        show Steps p.tables e below (s₁.setTop (mkF m 34 #[.val (.long q), .second, .val (.int ((q &&& (511 : Int64)).toInt32)), .val (.int (((q &&& (511 : Int64)).toInt32) &&& (7 : Int32)))] [])) tg
        refine XS.iloadN X0.here hx rfl (hb hby d_method_3_code_34) rfl ?_
        show Steps p.tables e below (s₁.setTop (mkF m 35 #[.val (.long q), .second, .val (.int ((q &&& (511 : Int64)).toInt32)), .val (.int (((q &&& (511 : Int64)).toInt32) &&& (7 : Int32)))] [(.int (((q &&& (511 : Int64)).toInt32) &&& (7 : Int32)))])) tg
        refine XS.iconst X0.here hx rfl (hb hby d_method_3_code_35) ?_
        show Steps p.tables e below (s₁.setTop (mkF m 36 #[.val (.long q), .second, .val (.int ((q &&& (511 : Int64)).toInt32)), .val (.int (((q &&& (511 : Int64)).toInt32) &&& (7 : Int32)))] [(.int (1 : Int32)), (.int (((q &&& (511 : Int64)).toInt32) &&& (7 : Int32)))])) tg
        exact kg
      refine gs c6 ?_
      by_cases hc7 : (((q &&& (511 : Int64)).toInt32) &&& (7 : Int32)) = (1 : Int32)
      · have c8 : ∀ tg, Steps p.tables e below (s₁.setTop (mkF m 41 #[.val (.long q), .second, .val (.int ((q &&& (511 : Int64)).toInt32)), .val (.int (((q &&& (511 : Int64)).toInt32) &&& (7 : Int32)))] [(.int (57 : Int32))])) tg → Steps p.tables e below (s₁.setTop (mkF m 36 #[.val (.long q), .second, .val (.int ((q &&& (511 : Int64)).toInt32)), .val (.int (((q &&& (511 : Int64)).toInt32) &&& (7 : Int32)))] [(.int (1 : Int32)), (.int (((q &&& (511 : Int64)).toInt32) &&& (7 : Int32)))])) tg := fun tg kg => by
          refine XS.icmpNo X0.here hx rfl (hb hby d_method_3_code_36) rfl (teq hc7).2 ?_
          show Steps p.tables e below (s₁.setTop (mkF m 39 #[.val (.long q), .second, .val (.int ((q &&& (511 : Int64)).toInt32)), .val (.int (((q &&& (511 : Int64)).toInt32) &&& (7 : Int32)))] [])) tg
          refine XS.bipush X0.here hx rfl (hb hby d_method_3_code_39) ?_
          show Steps p.tables e below (s₁.setTop (mkF m 41 #[.val (.long q), .second, .val (.int ((q &&& (511 : Int64)).toInt32)), .val (.int (((q &&& (511 : Int64)).toInt32) &&& (7 : Int32)))] [(.int (57 : Int32))])) tg
          exact kg
        refine gs c8 ?_
        refine gout (v := some (.int (nar .char (57 : Int32)))) X0 Bd.notSynchronized (fun h => by rw [Bd.returns] at h; cases h) (by decide) (by decide) ?_ (fun fs hr => retN X0 hx (t := .char) Bd.returns (by simp) (hb hby d_method_3_code_41) hr)
        rw [e0]
        exact ⟨_, rfl, N0, rfl, by decide⟩
      · have c9 : ∀ tg, Steps p.tables e below (s₁.setTop (mkF m 44 #[.val (.long q), .second, .val (.int ((q &&& (511 : Int64)).toInt32)), .val (.int (((q &&& (511 : Int64)).toInt32) &&& (7 : Int32)))] [(.int (2 : Int32)), (.int (((q &&& (511 : Int64)).toInt32) &&& (7 : Int32)))])) tg → Steps p.tables e below (s₁.setTop (mkF m 36 #[.val (.long q), .second, .val (.int ((q &&& (511 : Int64)).toInt32)), .val (.int (((q &&& (511 : Int64)).toInt32) &&& (7 : Int32)))] [(.int (1 : Int32)), (.int (((q &&& (511 : Int64)).toInt32) &&& (7 : Int32)))])) tg := fun tg kg => by
          refine XS.icmpYes X0.here hx rfl (pc0 := 36) (pc' := 42) rfl (hb hby d_method_3_code_36) rfl (feq hc7).2 (by decide) (by decide) ?_
          show Steps p.tables e below (s₁.setTop (mkF m 42 #[.val (.long q), .second, .val (.int ((q &&& (511 : Int64)).toInt32)), .val (.int (((q &&& (511 : Int64)).toInt32) &&& (7 : Int32)))] [])) tg
          refine XS.iloadN X0.here hx rfl (hb hby d_method_3_code_42) rfl ?_
          show Steps p.tables e below (s₁.setTop (mkF m 43 #[.val (.long q), .second, .val (.int ((q &&& (511 : Int64)).toInt32)), .val (.int (((q &&& (511 : Int64)).toInt32) &&& (7 : Int32)))] [(.int (((q &&& (511 : Int64)).toInt32) &&& (7 : Int32)))])) tg
          refine XS.iconst X0.here hx rfl (hb hby d_method_3_code_43) ?_
          show Steps p.tables e below (s₁.setTop (mkF m 44 #[.val (.long q), .second, .val (.int ((q &&& (511 : Int64)).toInt32)), .val (.int (((q &&& (511 : Int64)).toInt32) &&& (7 : Int32)))] [(.int (2 : Int32)), (.int (((q &&& (511 : Int64)).toInt32) &&& (7 : Int32)))])) tg
          exact kg
        refine gs c9 ?_
        by_cases hc10 : (((q &&& (511 : Int64)).toInt32) &&& (7 : Int32)) = (2 : Int32)
        · have c11 : ∀ tg, Steps p.tables e below (s₁.setTop (mkF m 49 #[.val (.long q), .second, .val (.int ((q &&& (511 : Int64)).toInt32)), .val (.int (((q &&& (511 : Int64)).toInt32) &&& (7 : Int32)))] [(.int (45 : Int32))])) tg → Steps p.tables e below (s₁.setTop (mkF m 44 #[.val (.long q), .second, .val (.int ((q &&& (511 : Int64)).toInt32)), .val (.int (((q &&& (511 : Int64)).toInt32) &&& (7 : Int32)))] [(.int (2 : Int32)), (.int (((q &&& (511 : Int64)).toInt32) &&& (7 : Int32)))])) tg := fun tg kg => by
            refine XS.icmpNo X0.here hx rfl (hb hby d_method_3_code_44) rfl (teq hc10).2 ?_
            show Steps p.tables e below (s₁.setTop (mkF m 47 #[.val (.long q), .second, .val (.int ((q &&& (511 : Int64)).toInt32)), .val (.int (((q &&& (511 : Int64)).toInt32) &&& (7 : Int32)))] [])) tg
            refine XS.bipush X0.here hx rfl (hb hby d_method_3_code_47) ?_
            show Steps p.tables e below (s₁.setTop (mkF m 49 #[.val (.long q), .second, .val (.int ((q &&& (511 : Int64)).toInt32)), .val (.int (((q &&& (511 : Int64)).toInt32) &&& (7 : Int32)))] [(.int (45 : Int32))])) tg
            exact kg
          refine gs c11 ?_
          refine gout (v := some (.int (nar .char (45 : Int32)))) X0 Bd.notSynchronized (fun h => by rw [Bd.returns] at h; cases h) (by decide) (by decide) ?_ (fun fs hr => retN X0 hx (t := .char) Bd.returns (by simp) (hb hby d_method_3_code_49) hr)
          rw [e0]
          exact ⟨_, rfl, N0, rfl, by decide⟩
        · have c12 : ∀ tg, Steps p.tables e below (s₁.setTop (mkF m 52 #[.val (.long q), .second, .val (.int ((q &&& (511 : Int64)).toInt32)), .val (.int (((q &&& (511 : Int64)).toInt32) &&& (7 : Int32)))] [(.int (3 : Int32)), (.int (((q &&& (511 : Int64)).toInt32) &&& (7 : Int32)))])) tg → Steps p.tables e below (s₁.setTop (mkF m 44 #[.val (.long q), .second, .val (.int ((q &&& (511 : Int64)).toInt32)), .val (.int (((q &&& (511 : Int64)).toInt32) &&& (7 : Int32)))] [(.int (2 : Int32)), (.int (((q &&& (511 : Int64)).toInt32) &&& (7 : Int32)))])) tg := fun tg kg => by
            refine XS.icmpYes X0.here hx rfl (pc0 := 44) (pc' := 50) rfl (hb hby d_method_3_code_44) rfl (feq hc10).2 (by decide) (by decide) ?_
            show Steps p.tables e below (s₁.setTop (mkF m 50 #[.val (.long q), .second, .val (.int ((q &&& (511 : Int64)).toInt32)), .val (.int (((q &&& (511 : Int64)).toInt32) &&& (7 : Int32)))] [])) tg
            refine XS.iloadN X0.here hx rfl (hb hby d_method_3_code_50) rfl ?_
            show Steps p.tables e below (s₁.setTop (mkF m 51 #[.val (.long q), .second, .val (.int ((q &&& (511 : Int64)).toInt32)), .val (.int (((q &&& (511 : Int64)).toInt32) &&& (7 : Int32)))] [(.int (((q &&& (511 : Int64)).toInt32) &&& (7 : Int32)))])) tg
            refine XS.iconst X0.here hx rfl (hb hby d_method_3_code_51) ?_
            show Steps p.tables e below (s₁.setTop (mkF m 52 #[.val (.long q), .second, .val (.int ((q &&& (511 : Int64)).toInt32)), .val (.int (((q &&& (511 : Int64)).toInt32) &&& (7 : Int32)))] [(.int (3 : Int32)), (.int (((q &&& (511 : Int64)).toInt32) &&& (7 : Int32)))])) tg
            exact kg
          refine gs c12 ?_
          by_cases hc13 : (((q &&& (511 : Int64)).toInt32) &&& (7 : Int32)) = (3 : Int32)
          · have c14 : ∀ tg, Steps p.tables e below (s₁.setTop (mkF m 57 #[.val (.long q), .second, .val (.int ((q &&& (511 : Int64)).toInt32)), .val (.int (((q &&& (511 : Int64)).toInt32) &&& (7 : Int32)))] [(.int (46 : Int32))])) tg → Steps p.tables e below (s₁.setTop (mkF m 52 #[.val (.long q), .second, .val (.int ((q &&& (511 : Int64)).toInt32)), .val (.int (((q &&& (511 : Int64)).toInt32) &&& (7 : Int32)))] [(.int (3 : Int32)), (.int (((q &&& (511 : Int64)).toInt32) &&& (7 : Int32)))])) tg := fun tg kg => by
              refine XS.icmpNo X0.here hx rfl (hb hby d_method_3_code_52) rfl (teq hc13).2 ?_
              show Steps p.tables e below (s₁.setTop (mkF m 55 #[.val (.long q), .second, .val (.int ((q &&& (511 : Int64)).toInt32)), .val (.int (((q &&& (511 : Int64)).toInt32) &&& (7 : Int32)))] [])) tg
              refine XS.bipush X0.here hx rfl (hb hby d_method_3_code_55) ?_
              show Steps p.tables e below (s₁.setTop (mkF m 57 #[.val (.long q), .second, .val (.int ((q &&& (511 : Int64)).toInt32)), .val (.int (((q &&& (511 : Int64)).toInt32) &&& (7 : Int32)))] [(.int (46 : Int32))])) tg
              exact kg
            refine gs c14 ?_
            refine gout (v := some (.int (nar .char (46 : Int32)))) X0 Bd.notSynchronized (fun h => by rw [Bd.returns] at h; cases h) (by decide) (by decide) ?_ (fun fs hr => retN X0 hx (t := .char) Bd.returns (by simp) (hb hby d_method_3_code_57) hr)
            rw [e0]
            exact ⟨_, rfl, N0, rfl, by decide⟩
          · have c15 : ∀ tg, Steps p.tables e below (s₁.setTop (mkF m 60 #[.val (.long q), .second, .val (.int ((q &&& (511 : Int64)).toInt32)), .val (.int (((q &&& (511 : Int64)).toInt32) &&& (7 : Int32)))] [(.int (4 : Int32)), (.int (((q &&& (511 : Int64)).toInt32) &&& (7 : Int32)))])) tg → Steps p.tables e below (s₁.setTop (mkF m 52 #[.val (.long q), .second, .val (.int ((q &&& (511 : Int64)).toInt32)), .val (.int (((q &&& (511 : Int64)).toInt32) &&& (7 : Int32)))] [(.int (3 : Int32)), (.int (((q &&& (511 : Int64)).toInt32) &&& (7 : Int32)))])) tg := fun tg kg => by
              refine XS.icmpYes X0.here hx rfl (pc0 := 52) (pc' := 58) rfl (hb hby d_method_3_code_52) rfl (feq hc13).2 (by decide) (by decide) ?_
              show Steps p.tables e below (s₁.setTop (mkF m 58 #[.val (.long q), .second, .val (.int ((q &&& (511 : Int64)).toInt32)), .val (.int (((q &&& (511 : Int64)).toInt32) &&& (7 : Int32)))] [])) tg
              refine XS.iloadN X0.here hx rfl (hb hby d_method_3_code_58) rfl ?_
              show Steps p.tables e below (s₁.setTop (mkF m 59 #[.val (.long q), .second, .val (.int ((q &&& (511 : Int64)).toInt32)), .val (.int (((q &&& (511 : Int64)).toInt32) &&& (7 : Int32)))] [(.int (((q &&& (511 : Int64)).toInt32) &&& (7 : Int32)))])) tg
              refine XS.iconst X0.here hx rfl (hb hby d_method_3_code_59) ?_
              show Steps p.tables e below (s₁.setTop (mkF m 60 #[.val (.long q), .second, .val (.int ((q &&& (511 : Int64)).toInt32)), .val (.int (((q &&& (511 : Int64)).toInt32) &&& (7 : Int32)))] [(.int (4 : Int32)), (.int (((q &&& (511 : Int64)).toInt32) &&& (7 : Int32)))])) tg
              exact kg
            refine gs c15 ?_
            by_cases hc16 : (((q &&& (511 : Int64)).toInt32) &&& (7 : Int32)) = (4 : Int32)
            · have c17 : ∀ tg, Steps p.tables e below (s₁.setTop (mkF m 65 #[.val (.long q), .second, .val (.int ((q &&& (511 : Int64)).toInt32)), .val (.int (((q &&& (511 : Int64)).toInt32) &&& (7 : Int32)))] [(.int (53 : Int32))])) tg → Steps p.tables e below (s₁.setTop (mkF m 60 #[.val (.long q), .second, .val (.int ((q &&& (511 : Int64)).toInt32)), .val (.int (((q &&& (511 : Int64)).toInt32) &&& (7 : Int32)))] [(.int (4 : Int32)), (.int (((q &&& (511 : Int64)).toInt32) &&& (7 : Int32)))])) tg := fun tg kg => by
                refine XS.icmpNo X0.here hx rfl (hb hby d_method_3_code_60) rfl (teq hc16).2 ?_
                show Steps p.tables e below (s₁.setTop (mkF m 63 #[.val (.long q), .second, .val (.int ((q &&& (511 : Int64)).toInt32)), .val (.int (((q &&& (511 : Int64)).toInt32) &&& (7 : Int32)))] [])) tg
                refine XS.bipush X0.here hx rfl (hb hby d_method_3_code_63) ?_
                show Steps p.tables e below (s₁.setTop (mkF m 65 #[.val (.long q), .second, .val (.int ((q &&& (511 : Int64)).toInt32)), .val (.int (((q &&& (511 : Int64)).toInt32) &&& (7 : Int32)))] [(.int (53 : Int32))])) tg
                exact kg
              refine gs c17 ?_
              refine gout (v := some (.int (nar .char (53 : Int32)))) X0 Bd.notSynchronized (fun h => by rw [Bd.returns] at h; cases h) (by decide) (by decide) ?_ (fun fs hr => retN X0 hx (t := .char) Bd.returns (by simp) (hb hby d_method_3_code_65) hr)
              rw [e0]
              exact ⟨_, rfl, N0, rfl, by decide⟩
            · have c18 : ∀ tg, Steps p.tables e below (s₁.setTop (mkF m 68 #[.val (.long q), .second, .val (.int ((q &&& (511 : Int64)).toInt32)), .val (.int (((q &&& (511 : Int64)).toInt32) &&& (7 : Int32)))] [(.int (5 : Int32)), (.int (((q &&& (511 : Int64)).toInt32) &&& (7 : Int32)))])) tg → Steps p.tables e below (s₁.setTop (mkF m 60 #[.val (.long q), .second, .val (.int ((q &&& (511 : Int64)).toInt32)), .val (.int (((q &&& (511 : Int64)).toInt32) &&& (7 : Int32)))] [(.int (4 : Int32)), (.int (((q &&& (511 : Int64)).toInt32) &&& (7 : Int32)))])) tg := fun tg kg => by
                refine XS.icmpYes X0.here hx rfl (pc0 := 60) (pc' := 66) rfl (hb hby d_method_3_code_60) rfl (feq hc16).2 (by decide) (by decide) ?_
                show Steps p.tables e below (s₁.setTop (mkF m 66 #[.val (.long q), .second, .val (.int ((q &&& (511 : Int64)).toInt32)), .val (.int (((q &&& (511 : Int64)).toInt32) &&& (7 : Int32)))] [])) tg
                refine XS.iloadN X0.here hx rfl (hb hby d_method_3_code_66) rfl ?_
                show Steps p.tables e below (s₁.setTop (mkF m 67 #[.val (.long q), .second, .val (.int ((q &&& (511 : Int64)).toInt32)), .val (.int (((q &&& (511 : Int64)).toInt32) &&& (7 : Int32)))] [(.int (((q &&& (511 : Int64)).toInt32) &&& (7 : Int32)))])) tg
                refine XS.iconst X0.here hx rfl (hb hby d_method_3_code_67) ?_
                show Steps p.tables e below (s₁.setTop (mkF m 68 #[.val (.long q), .second, .val (.int ((q &&& (511 : Int64)).toInt32)), .val (.int (((q &&& (511 : Int64)).toInt32) &&& (7 : Int32)))] [(.int (5 : Int32)), (.int (((q &&& (511 : Int64)).toInt32) &&& (7 : Int32)))])) tg
                exact kg
              refine gs c18 ?_
              by_cases hc19 : (((q &&& (511 : Int64)).toInt32) &&& (7 : Int32)) = (5 : Int32)
              · have c20 : ∀ tg, Steps p.tables e below (s₁.setTop (mkF m 73 #[.val (.long q), .second, .val (.int ((q &&& (511 : Int64)).toInt32)), .val (.int (((q &&& (511 : Int64)).toInt32) &&& (7 : Int32)))] [(.int (47 : Int32))])) tg → Steps p.tables e below (s₁.setTop (mkF m 68 #[.val (.long q), .second, .val (.int ((q &&& (511 : Int64)).toInt32)), .val (.int (((q &&& (511 : Int64)).toInt32) &&& (7 : Int32)))] [(.int (5 : Int32)), (.int (((q &&& (511 : Int64)).toInt32) &&& (7 : Int32)))])) tg := fun tg kg => by
                  refine XS.icmpNo X0.here hx rfl (hb hby d_method_3_code_68) rfl (teq hc19).2 ?_
                  show Steps p.tables e below (s₁.setTop (mkF m 71 #[.val (.long q), .second, .val (.int ((q &&& (511 : Int64)).toInt32)), .val (.int (((q &&& (511 : Int64)).toInt32) &&& (7 : Int32)))] [])) tg
                  refine XS.bipush X0.here hx rfl (hb hby d_method_3_code_71) ?_
                  show Steps p.tables e below (s₁.setTop (mkF m 73 #[.val (.long q), .second, .val (.int ((q &&& (511 : Int64)).toInt32)), .val (.int (((q &&& (511 : Int64)).toInt32) &&& (7 : Int32)))] [(.int (47 : Int32))])) tg
                  exact kg
                refine gs c20 ?_
                refine gout (v := some (.int (nar .char (47 : Int32)))) X0 Bd.notSynchronized (fun h => by rw [Bd.returns] at h; cases h) (by decide) (by decide) ?_ (fun fs hr => retN X0 hx (t := .char) Bd.returns (by simp) (hb hby d_method_3_code_73) hr)
                rw [e0]
                exact ⟨_, rfl, N0, rfl, by decide⟩
              · have c21 : ∀ tg, Steps p.tables e below (s₁.setTop (mkF m 77 #[.val (.long q), .second, .val (.int ((q &&& (511 : Int64)).toInt32)), .val (.int (((q &&& (511 : Int64)).toInt32) &&& (7 : Int32)))] [(.int (6 : Int32)), (.int (((q &&& (511 : Int64)).toInt32) &&& (7 : Int32)))])) tg → Steps p.tables e below (s₁.setTop (mkF m 68 #[.val (.long q), .second, .val (.int ((q &&& (511 : Int64)).toInt32)), .val (.int (((q &&& (511 : Int64)).toInt32) &&& (7 : Int32)))] [(.int (5 : Int32)), (.int (((q &&& (511 : Int64)).toInt32) &&& (7 : Int32)))])) tg := fun tg kg => by
                  refine XS.icmpYes X0.here hx rfl (pc0 := 68) (pc' := 74) rfl (hb hby d_method_3_code_68) rfl (feq hc19).2 (by decide) (by decide) ?_
                  show Steps p.tables e below (s₁.setTop (mkF m 74 #[.val (.long q), .second, .val (.int ((q &&& (511 : Int64)).toInt32)), .val (.int (((q &&& (511 : Int64)).toInt32) &&& (7 : Int32)))] [])) tg
                  refine XS.iloadN X0.here hx rfl (hb hby d_method_3_code_74) rfl ?_
                  show Steps p.tables e below (s₁.setTop (mkF m 75 #[.val (.long q), .second, .val (.int ((q &&& (511 : Int64)).toInt32)), .val (.int (((q &&& (511 : Int64)).toInt32) &&& (7 : Int32)))] [(.int (((q &&& (511 : Int64)).toInt32) &&& (7 : Int32)))])) tg
                  refine XS.bipush X0.here hx rfl (hb hby d_method_3_code_75) ?_
                  show Steps p.tables e below (s₁.setTop (mkF m 77 #[.val (.long q), .second, .val (.int ((q &&& (511 : Int64)).toInt32)), .val (.int (((q &&& (511 : Int64)).toInt32) &&& (7 : Int32)))] [(.int (6 : Int32)), (.int (((q &&& (511 : Int64)).toInt32) &&& (7 : Int32)))])) tg
                  exact kg
                refine gs c21 ?_
                by_cases hc22 : (((q &&& (511 : Int64)).toInt32) &&& (7 : Int32)) = (6 : Int32)
                · have c23 : ∀ tg, Steps p.tables e below (s₁.setTop (mkF m 82 #[.val (.long q), .second, .val (.int ((q &&& (511 : Int64)).toInt32)), .val (.int (((q &&& (511 : Int64)).toInt32) &&& (7 : Int32)))] [(.int (58 : Int32))])) tg → Steps p.tables e below (s₁.setTop (mkF m 77 #[.val (.long q), .second, .val (.int ((q &&& (511 : Int64)).toInt32)), .val (.int (((q &&& (511 : Int64)).toInt32) &&& (7 : Int32)))] [(.int (6 : Int32)), (.int (((q &&& (511 : Int64)).toInt32) &&& (7 : Int32)))])) tg := fun tg kg => by
                    refine XS.icmpNo X0.here hx rfl (hb hby d_method_3_code_77) rfl (teq hc22).2 ?_
                    show Steps p.tables e below (s₁.setTop (mkF m 80 #[.val (.long q), .second, .val (.int ((q &&& (511 : Int64)).toInt32)), .val (.int (((q &&& (511 : Int64)).toInt32) &&& (7 : Int32)))] [])) tg
                    refine XS.bipush X0.here hx rfl (hb hby d_method_3_code_80) ?_
                    show Steps p.tables e below (s₁.setTop (mkF m 82 #[.val (.long q), .second, .val (.int ((q &&& (511 : Int64)).toInt32)), .val (.int (((q &&& (511 : Int64)).toInt32) &&& (7 : Int32)))] [(.int (58 : Int32))])) tg
                    exact kg
                  refine gs c23 ?_
                  refine gout (v := some (.int (nar .char (58 : Int32)))) X0 Bd.notSynchronized (fun h => by rw [Bd.returns] at h; cases h) (by decide) (by decide) ?_ (fun fs hr => retN X0 hx (t := .char) Bd.returns (by simp) (hb hby d_method_3_code_82) hr)
                  rw [e0]
                  exact ⟨_, rfl, N0, rfl, by decide⟩
                · have c24 : ∀ tg, Steps p.tables e below (s₁.setTop (mkF m 85 #[.val (.long q), .second, .val (.int ((q &&& (511 : Int64)).toInt32)), .val (.int (((q &&& (511 : Int64)).toInt32) &&& (7 : Int32)))] [(.int (55 : Int32))])) tg → Steps p.tables e below (s₁.setTop (mkF m 77 #[.val (.long q), .second, .val (.int ((q &&& (511 : Int64)).toInt32)), .val (.int (((q &&& (511 : Int64)).toInt32) &&& (7 : Int32)))] [(.int (6 : Int32)), (.int (((q &&& (511 : Int64)).toInt32) &&& (7 : Int32)))])) tg := fun tg kg => by
                    refine XS.icmpYes X0.here hx rfl (pc0 := 77) (pc' := 83) rfl (hb hby d_method_3_code_77) rfl (feq hc22).2 (by decide) (by decide) ?_
                    show Steps p.tables e below (s₁.setTop (mkF m 83 #[.val (.long q), .second, .val (.int ((q &&& (511 : Int64)).toInt32)), .val (.int (((q &&& (511 : Int64)).toInt32) &&& (7 : Int32)))] [])) tg
                    refine XS.bipush X0.here hx rfl (hb hby d_method_3_code_83) ?_
                    show Steps p.tables e below (s₁.setTop (mkF m 85 #[.val (.long q), .second, .val (.int ((q &&& (511 : Int64)).toInt32)), .val (.int (((q &&& (511 : Int64)).toInt32) &&& (7 : Int32)))] [(.int (55 : Int32))])) tg
                    exact kg
                  refine gs c24 ?_
                  refine gout (v := some (.int (nar .char (55 : Int32)))) X0 Bd.notSynchronized (fun h => by rw [Bd.returns] at h; cases h) (by decide) (by decide) ?_ (fun fs hr => retN X0 hx (t := .char) Bd.returns (by simp) (hb hby d_method_3_code_85) hr)
                  rw [e0]
                  exact ⟨_, rfl, N0, rfl, by decide⟩
  · have c25 : ∀ tg, Steps p.tables e below (s₁.setTop (mkF m 21 #[.val (.long q), .second, .val (.int ((q &&& (511 : Int64)).toInt32)), .unset] [(.int ((((q &&& (511 : Int64)).toInt32) &&& (255 : Int32)).toUInt32.toUInt16.toUInt32.toInt32))])) tg → Steps p.tables e below (s₁.setTop (mkF m 12 #[.val (.long q), .second, .val (.int ((q &&& (511 : Int64)).toInt32)), .unset] [(.int (((q &&& (511 : Int64)).toInt32) &&& (256 : Int32)))])) tg := fun tg kg => by
      refine XS.ifNo X0.here hx rfl (hb hby d_method_3_code_12) rfl ((if0 _ _).trans (feq hc2).1) ?_
      show Steps p.tables e below (s₁.setTop (mkF m 15 #[.val (.long q), .second, .val (.int ((q &&& (511 : Int64)).toInt32)), .unset] [])) tg
      refine XS.iloadN X0.here hx rfl (hb hby d_method_3_code_15) rfl ?_
      show Steps p.tables e below (s₁.setTop (mkF m 16 #[.val (.long q), .second, .val (.int ((q &&& (511 : Int64)).toInt32)), .unset] [(.int ((q &&& (511 : Int64)).toInt32))])) tg
      refine XS.sipush X0.here hx rfl (hb hby d_method_3_code_16) ?_
      show Steps p.tables e below (s₁.setTop (mkF m 19 #[.val (.long q), .second, .val (.int ((q &&& (511 : Int64)).toInt32)), .unset] [(.int (255 : Int32)), (.int ((q &&& (511 : Int64)).toInt32))])) tg
      refine XS.iand X0.here hx rfl (hb hby d_method_3_code_19) rfl ?_
      show Steps p.tables e below (s₁.setTop (mkF m 20 #[.val (.long q), .second, .val (.int ((q &&& (511 : Int64)).toInt32)), .unset] [(.int (((q &&& (511 : Int64)).toInt32) &&& (255 : Int32)))])) tg
      refine XS.i2c X0.here hx rfl (hb hby d_method_3_code_20) rfl ?_
      show Steps p.tables e below (s₁.setTop (mkF m 21 #[.val (.long q), .second, .val (.int ((q &&& (511 : Int64)).toInt32)), .unset] [(.int ((((q &&& (511 : Int64)).toInt32) &&& (255 : Int32)).toUInt32.toUInt16.toUInt32.toInt32))])) tg
      exact kg
    refine gs c25 ?_
    refine gout (v := some (.int (nar .char ((((q &&& (511 : Int64)).toInt32) &&& (255 : Int32)).toUInt32.toUInt16.toUInt32.toInt32)))) X0 Bd.notSynchronized (fun h => by rw [Bd.returns] at h; cases h) (by decide) (by decide) ?_ (fun fs hr => retN X0 hx (t := .char) Bd.returns (by simp) (hb hby d_method_3_code_21) hr)
    rw [e0]
    exact ⟨_, rfl, N0, rfl, own_and255 _⟩
theorem ef_56 (m : MethodId) (x0 : Int32) : entryFrame m #[(.int x0)] 1 = mkF m 0 #[.val (.int x0)] [] := by first | (simp [entryFrame, mkF, argsToLocals, Value.category]; done) | rfl
theorem d_method_2_code_0 : decode method_2_code 0 = .ok (.iload_n 0, 1) := by decide +kernel
theorem d_method_2_code_1 : decode method_2_code 1 = .ok (.bipush 48, 2) := by decide +kernel
theorem d_method_2_code_3 : decode method_2_code 3 = .ok (.if_icmp .lt 13, 3) := by decide +kernel
theorem d_method_2_code_16 : decode method_2_code 16 = .ok (.iconst 0, 1) := by decide +kernel
theorem d_method_2_code_17 : decode method_2_code 17 = .ok (.ireturn, 1) := by decide +kernel
theorem d_method_2_code_6 : decode method_2_code 6 = .ok (.iload_n 0, 1) := by decide +kernel
theorem d_method_2_code_7 : decode method_2_code 7 = .ok (.bipush 57, 2) := by decide +kernel
theorem d_method_2_code_9 : decode method_2_code 9 = .ok (.if_icmp .gt 7, 3) := by decide +kernel
theorem d_method_2_code_12 : decode method_2_code 12 = .ok (.iconst 1, 1) := by decide +kernel
theorem d_method_2_code_13 : decode method_2_code 13 = .ok (.goto 4, 3) := by decide +kernel
set_option maxRecDepth 65536 in
set_option maxHeartbeats 40000000 in
theorem rm_dg (l : Launch) (Z : State) (a0 : Array Value) (hw : ∀ d ∈ tables_1, d.before a0 Z = true) (ws : List Jvm.Cond) (c0 : Int32) (h0 : Heap) (n0 : Nat) (Z0 : n0 ≤ h0.size) (O0 : Old Z n0 h0)  :
    Ctr l Z (⟨"com/example/tranche/tranche/DecimalsIsWrittenPinLaw", "isDigit", "(C)Z"⟩ : MethodName) method_2_code 1 ((Option.some Jvm.ClassFile.FieldType.boolean)) ws ({ frames := 0, cells := 0, slots := 0, locals := 0 } : Room) #[(.int c0)] h0 (fun v h L => v = some (.int (if own_dgP c0 then 1 else 0)) ∧ Fr n0 L ∧ h = h0) := by
  refine Ctr.of (MetFree.of_bodySF (plainFor_of_name pn_55) hisR ?_)
  intro p e s m args below meth c s₁ Bd hml0 hP hK
  obtain ⟨rfl, hZ, hh⟩ := hP
  have hx := Bd.exec
  have hby := Bd.bytes
  have hml : c.maxLocals = 1 := hml0
  have hown : s.vm.findClass "com/example/tranche/tranche/DecimalsIsWrittenPinLaw" = some m.cls := findClass_of_methodNamed Bd.named
  have hnm := (name_of_methodNamed Bd.named Bd.method).1
  have X0 : Stand p l e ({ frames := 0, cells := 0, slots := 0, locals := 0 } : Room) s m #[(.int c0)] below meth c s₁ [] 0 0 := Stand.of_body Bd
  have e0 : s₁.heap = h0 := by rw [← hh, Bd.state]; rfl
  have N0 := Fr.nil n0
  have K0 : Keep h0 h0 [] := Keep.refl h0 []
  show OwnGo p e below s (fun v h L => v = some (.int (if own_dgP c0 then 1 else 0)) ∧ Fr n0 L ∧ h = h0) ({ frames := 0, cells := 0, slots := 0, locals := 0 } : Room).cells ({ frames := 0, cells := 0, slots := 0, locals := 0 } : Room).slots _
  refine gs (S' := s₁.setTop (mkF m 0 #[.val (.int c0)] [])) (fun tg kg => castTop (ef_56 m c0) kg) ?_
  have c1 : ∀ tg, Steps p.tables e below (s₁.setTop (mkF m 3 #[.val (.int c0)] [(.int (48 : Int32)), (.int c0)])) tg → Steps p.tables e below (s₁.setTop (mkF m 0 #[.val (.int c0)] [])) tg := fun tg kg => by
    refine XS.iloadN X0.here hx rfl (hb hby d_method_2_code_0) rfl ?_
    show Steps p.tables e below (s₁.setTop (mkF m 1 #[.val (.int c0)] [(.int c0)])) tg
    refine XS.bipush X0.here hx rfl (hb hby d_method_2_code_1) ?_
    show Steps p.tables e below (s₁.setTop (mkF m 3 #[.val (.int c0)] [(.int (48 : Int32)), (.int c0)])) tg
    exact kg
  refine gs c1 ?_
  by_cases hc2 : c0 < (48 : Int32)
  · have c3 : ∀ tg, Steps p.tables e below (s₁.setTop (mkF m 17 #[.val (.int c0)] [(.int (0 : Int32))])) tg → Steps p.tables e below (s₁.setTop (mkF m 3 #[.val (.int c0)] [(.int (48 : Int32)), (.int c0)])) tg := fun tg kg => by
      refine XS.icmpYes X0.here hx rfl (pc0 := 3) (pc' := 16) rfl (hb hby d_method_2_code_3) rfl (tlt hc2).1 (by decide) (by decide) ?_
      show Steps p.tables e below (s₁.setTop (mkF m 16 #[.val (.int c0)] [])) tg
      refine XS.iconst X0.here hx rfl (hb hby d_method_2_code_16) ?_
      show Steps p.tables e below (s₁.setTop (mkF m 17 #[.val (.int c0)] [(.int (0 : Int32))])) tg
      exact kg
    refine gs c3 ?_
    refine gout (v := some (.int (0 : Int32))) X0 Bd.notSynchronized (fun h => by rw [Bd.returns] at h; cases h) (by decide) (by decide) ?_ (fun fs hr => retN X0 hx (t := .boolean) Bd.returns (by simp) (hb hby d_method_2_code_17) hr)
    rw [e0]
    exact ⟨by simp [own_dgP, hc2], N0, rfl⟩
  · have c4 : ∀ tg, Steps p.tables e below (s₁.setTop (mkF m 9 #[.val (.int c0)] [(.int (57 : Int32)), (.int c0)])) tg → Steps p.tables e below (s₁.setTop (mkF m 3 #[.val (.int c0)] [(.int (48 : Int32)), (.int c0)])) tg := fun tg kg => by
      refine XS.icmpNo X0.here hx rfl (hb hby d_method_2_code_3) rfl (flt hc2).1 ?_
      show Steps p.tables e below (s₁.setTop (mkF m 6 #[.val (.int c0)] [])) tg
      refine XS.iloadN X0.here hx rfl (hb hby d_method_2_code_6) rfl ?_
      show Steps p.tables e below (s₁.setTop (mkF m 7 #[.val (.int c0)] [(.int c0)])) tg
      refine XS.bipush X0.here hx rfl (hb hby d_method_2_code_7) ?_
      show Steps p.tables e below (s₁.setTop (mkF m 9 #[.val (.int c0)] [(.int (57 : Int32)), (.int c0)])) tg
      exact kg
    refine gs c4 ?_
    by_cases hc5 : (57 : Int32) < c0
    · have c6 : ∀ tg, Steps p.tables e below (s₁.setTop (mkF m 17 #[.val (.int c0)] [(.int (0 : Int32))])) tg → Steps p.tables e below (s₁.setTop (mkF m 9 #[.val (.int c0)] [(.int (57 : Int32)), (.int c0)])) tg := fun tg kg => by
        refine XS.icmpYes X0.here hx rfl (pc0 := 9) (pc' := 16) rfl (hb hby d_method_2_code_9) rfl (tlt hc5).2.2.1 (by decide) (by decide) ?_
        show Steps p.tables e below (s₁.setTop (mkF m 16 #[.val (.int c0)] [])) tg
        refine XS.iconst X0.here hx rfl (hb hby d_method_2_code_16) ?_
        show Steps p.tables e below (s₁.setTop (mkF m 17 #[.val (.int c0)] [(.int (0 : Int32))])) tg
        exact kg
      refine gs c6 ?_
      refine gout (v := some (.int (0 : Int32))) X0 Bd.notSynchronized (fun h => by rw [Bd.returns] at h; cases h) (by decide) (by decide) ?_ (fun fs hr => retN X0 hx (t := .boolean) Bd.returns (by simp) (hb hby d_method_2_code_17) hr)
      rw [e0]
      exact ⟨by simp [own_dgP, hc2, hc5], N0, rfl⟩
    · have c7 : ∀ tg, Steps p.tables e below (s₁.setTop (mkF m 17 #[.val (.int c0)] [(.int (1 : Int32))])) tg → Steps p.tables e below (s₁.setTop (mkF m 9 #[.val (.int c0)] [(.int (57 : Int32)), (.int c0)])) tg := fun tg kg => by
        refine XS.icmpNo X0.here hx rfl (hb hby d_method_2_code_9) rfl (flt hc5).2.2.1 ?_
        show Steps p.tables e below (s₁.setTop (mkF m 12 #[.val (.int c0)] [])) tg
        refine XS.iconst X0.here hx rfl (hb hby d_method_2_code_12) ?_
        show Steps p.tables e below (s₁.setTop (mkF m 13 #[.val (.int c0)] [(.int (1 : Int32))])) tg
        refine XS.goto X0.here hx rfl (pc0 := 13) (pc' := 17) rfl (hb hby d_method_2_code_13) (by decide) (by decide) ?_
        show Steps p.tables e below (s₁.setTop (mkF m 17 #[.val (.int c0)] [(.int (1 : Int32))])) tg
        exact kg
      refine gs c7 ?_
      refine gout (v := some (.int (1 : Int32))) X0 Bd.notSynchronized (fun h => by rw [Bd.returns] at h; cases h) (by decide) (by decide) ?_ (fun fs hr => retN X0 hx (t := .boolean) Bd.returns (by simp) (hb hby d_method_2_code_17) hr)
      rw [e0]
      exact ⟨by simp [own_dgP, hc2, hc5], N0, rfl⟩
theorem ef_67 (m : MethodId) (x0 : Int32) (x1 : Int32) (x2 : Int32) (x3 : Int32) : entryFrame m #[(.int x0), (.int x1), (.int x2), (.int x3)] 4 = mkF m 0 #[.val (.int x0), .val (.int x1), .val (.int x2), .val (.int x3)] [] := by first | (simp [entryFrame, mkF, argsToLocals, Value.category]; done) | rfl
theorem d_method_4_code_0 : decode method_4_code 0 = .ok (.iload_n 1, 1) := by decide +kernel
theorem d_method_4_code_1 : decode method_4_code 1 = .ok (.iload_n 2, 1) := by decide +kernel
theorem d_method_4_code_2 : decode method_4_code 2 = .ok (.if_icmp .lt 21, 3) := by decide +kernel
theorem d_method_4_code_23 : decode method_4_code 23 = .ok (.iconst 1, 1) := by decide +kernel
theorem d_method_4_code_24 : decode method_4_code 24 = .ok (.goto 4, 3) := by decide +kernel
theorem d_method_4_code_28 : decode method_4_code 28 = .ok (.ireturn, 1) := by decide +kernel
theorem d_method_4_code_5 : decode method_4_code 5 = .ok (.iload_n 1, 1) := by decide +kernel
theorem d_method_4_code_6 : decode method_4_code 6 = .ok (.iload_n 3, 1) := by decide +kernel
theorem d_method_4_code_7 : decode method_4_code 7 = .ok (.if_icmp .ge 16, 3) := by decide +kernel
theorem d_method_4_code_10 : decode method_4_code 10 = .ok (.iload_n 0, 1) := by decide +kernel
theorem d_method_4_code_11 : decode method_4_code 11 = .ok (.invokestatic 9, 3) := by decide +kernel
theorem pd_79 : parseMethodDescriptor "(C)Z" = some ⟨[.char], some .boolean⟩ := by decide +kernel
theorem d_method_4_code_14 : decode method_4_code 14 = .ok (.ifCond .ne 9, 3) := by decide +kernel
theorem d_method_4_code_17 : decode method_4_code 17 = .ok (.iload_n 0, 1) := by decide +kernel
theorem d_method_4_code_18 : decode method_4_code 18 = .ok (.bipush 46, 2) := by decide +kernel
theorem d_method_4_code_20 : decode method_4_code 20 = .ok (.if_icmp .ne 7, 3) := by decide +kernel
theorem d_method_4_code_27 : decode method_4_code 27 = .ok (.iconst 0, 1) := by decide +kernel
set_option maxRecDepth 65536 in
set_option maxHeartbeats 40000000 in
theorem rm_ok (l : Launch) (Z : State) (a0 : Array Value) (hw : ∀ d ∈ tables_1, d.before a0 Z = true) (ws : List Jvm.Cond) (c0 : Int32) (k0 : Int32) (f0 : Int32) (t0 : Int32) (h0 : Heap) (n0 : Nat) (Z0 : n0 ≤ h0.size) (O0 : Old Z n0 h0)  :
    Ctr l Z (⟨"com/example/tranche/tranche/DecimalsIsWrittenPinLaw", "ok", "(CIII)Z"⟩ : MethodName) method_4_code 4 ((Option.some Jvm.ClassFile.FieldType.boolean)) ws ({ frames := 1, cells := 0, slots := 0, locals := 12 } : Room) #[(.int c0), (.int k0), (.int f0), (.int t0)] h0 (fun v h L => v = some (.int (own_okI c0 k0 f0 t0)) ∧ Fr n0 L ∧ h = h0) := by
  refine Ctr.of (MetFree.of_bodySF (plainFor_of_name pn_55) hisR ?_)
  intro p e s m args below meth c s₁ Bd hml0 hP hK
  obtain ⟨rfl, hZ, hh⟩ := hP
  have hx := Bd.exec
  have hby := Bd.bytes
  have hml : c.maxLocals = 4 := hml0
  have hown : s.vm.findClass "com/example/tranche/tranche/DecimalsIsWrittenPinLaw" = some m.cls := findClass_of_methodNamed Bd.named
  have hnm := (name_of_methodNamed Bd.named Bd.method).1
  have X0 : Stand p l e ({ frames := 1, cells := 0, slots := 0, locals := 12 } : Room) s m #[(.int c0), (.int k0), (.int f0), (.int t0)] below meth c s₁ [] 0 0 := Stand.of_body Bd
  have e0 : s₁.heap = h0 := by rw [← hh, Bd.state]; rfl
  have N0 := Fr.nil n0
  have K0 : Keep h0 h0 [] := Keep.refl h0 []
  show OwnGo p e below s (fun v h L => v = some (.int (own_okI c0 k0 f0 t0)) ∧ Fr n0 L ∧ h = h0) ({ frames := 1, cells := 0, slots := 0, locals := 12 } : Room).cells ({ frames := 1, cells := 0, slots := 0, locals := 12 } : Room).slots _
  refine gs (S' := s₁.setTop (mkF m 0 #[.val (.int c0), .val (.int k0), .val (.int f0), .val (.int t0)] [])) (fun tg kg => castTop (ef_67 m c0 k0 f0 t0) kg) ?_
  have c1 : ∀ tg, Steps p.tables e below (s₁.setTop (mkF m 2 #[.val (.int c0), .val (.int k0), .val (.int f0), .val (.int t0)] [(.int f0), (.int k0)])) tg → Steps p.tables e below (s₁.setTop (mkF m 0 #[.val (.int c0), .val (.int k0), .val (.int f0), .val (.int t0)] [])) tg := fun tg kg => by
    refine XS.iloadN X0.here hx rfl (hb hby d_method_4_code_0) rfl ?_
    show Steps p.tables e below (s₁.setTop (mkF m 1 #[.val (.int c0), .val (.int k0), .val (.int f0), .val (.int t0)] [(.int k0)])) tg
    refine XS.iloadN X0.here hx rfl (hb hby d_method_4_code_1) rfl ?_
    show Steps p.tables e below (s₁.setTop (mkF m 2 #[.val (.int c0), .val (.int k0), .val (.int f0), .val (.int t0)] [(.int f0), (.int k0)])) tg
    exact kg
  refine gs c1 ?_
  by_cases hc2 : k0 < f0
  · have c3 : ∀ tg, Steps p.tables e below (s₁.setTop (mkF m 28 #[.val (.int c0), .val (.int k0), .val (.int f0), .val (.int t0)] [(.int (1 : Int32))])) tg → Steps p.tables e below (s₁.setTop (mkF m 2 #[.val (.int c0), .val (.int k0), .val (.int f0), .val (.int t0)] [(.int f0), (.int k0)])) tg := fun tg kg => by
      refine XS.icmpYes X0.here hx rfl (pc0 := 2) (pc' := 23) rfl (hb hby d_method_4_code_2) rfl (tlt hc2).1 (by decide) (by decide) ?_
      show Steps p.tables e below (s₁.setTop (mkF m 23 #[.val (.int c0), .val (.int k0), .val (.int f0), .val (.int t0)] [])) tg
      refine XS.iconst X0.here hx rfl (hb hby d_method_4_code_23) ?_
      show Steps p.tables e below (s₁.setTop (mkF m 24 #[.val (.int c0), .val (.int k0), .val (.int f0), .val (.int t0)] [(.int (1 : Int32))])) tg
      refine XS.goto X0.here hx rfl (pc0 := 24) (pc' := 28) rfl (hb hby d_method_4_code_24) (by decide) (by decide) ?_
      show Steps p.tables e below (s₁.setTop (mkF m 28 #[.val (.int c0), .val (.int k0), .val (.int f0), .val (.int t0)] [(.int (1 : Int32))])) tg
      exact kg
    refine gs c3 ?_
    refine gout (v := some (.int (1 : Int32))) X0 Bd.notSynchronized (fun h => by rw [Bd.returns] at h; cases h) (by decide) (by decide) ?_ (fun fs hr => retN X0 hx (t := .boolean) Bd.returns (by simp) (hb hby d_method_4_code_28) hr)
    rw [e0]
    exact ⟨by rw [own_okI, if_pos (Or.inl hc2)], N0, rfl⟩
  · have c4 : ∀ tg, Steps p.tables e below (s₁.setTop (mkF m 7 #[.val (.int c0), .val (.int k0), .val (.int f0), .val (.int t0)] [(.int t0), (.int k0)])) tg → Steps p.tables e below (s₁.setTop (mkF m 2 #[.val (.int c0), .val (.int k0), .val (.int f0), .val (.int t0)] [(.int f0), (.int k0)])) tg := fun tg kg => by
      refine XS.icmpNo X0.here hx rfl (hb hby d_method_4_code_2) rfl (flt hc2).1 ?_
      show Steps p.tables e below (s₁.setTop (mkF m 5 #[.val (.int c0), .val (.int k0), .val (.int f0), .val (.int t0)] [])) tg
      refine XS.iloadN X0.here hx rfl (hb hby d_method_4_code_5) rfl ?_
      show Steps p.tables e below (s₁.setTop (mkF m 6 #[.val (.int c0), .val (.int k0), .val (.int f0), .val (.int t0)] [(.int k0)])) tg
      refine XS.iloadN X0.here hx rfl (hb hby d_method_4_code_6) rfl ?_
      show Steps p.tables e below (s₁.setTop (mkF m 7 #[.val (.int c0), .val (.int k0), .val (.int f0), .val (.int t0)] [(.int t0), (.int k0)])) tg
      exact kg
    refine gs c4 ?_
    by_cases hc5 : k0 < t0
    · have c6 : ∀ tg, Steps p.tables e below (s₁.setTop (mkF m 11 #[.val (.int c0), .val (.int k0), .val (.int f0), .val (.int t0)] [(.int c0)])) tg → Steps p.tables e below (s₁.setTop (mkF m 7 #[.val (.int c0), .val (.int k0), .val (.int f0), .val (.int t0)] [(.int t0), (.int k0)])) tg := fun tg kg => by
        refine XS.icmpNo X0.here hx rfl (hb hby d_method_4_code_7) rfl (tlt hc5).2.1 ?_
        show Steps p.tables e below (s₁.setTop (mkF m 10 #[.val (.int c0), .val (.int k0), .val (.int f0), .val (.int t0)] [])) tg
        refine XS.iloadN X0.here hx rfl (hb hby d_method_4_code_10) rfl ?_
        show Steps p.tables e below (s₁.setTop (mkF m 11 #[.val (.int c0), .val (.int k0), .val (.int f0), .val (.int t0)] [(.int c0)])) tg
        exact kg
      refine gs c6 ?_
      obtain ⟨_, _, ⟨T7, L7, k7, n7⟩, -, X7, ⟨Lc7, hQ7, l7, y7, z7⟩, st7⟩ := Jvm.LawKit.callS X0 hx (y := (⟨"com/example/tranche/tranche/DecimalsIsWrittenPinLaw", "isDigit", "(C)Z"⟩ : MethodName)) hown (mvT hZ (hw _ (List.mem_of_getElem? (i := 39) rfl))) (mvT hZ (hw _ (List.mem_of_getElem? (i := 40) rfl))) (mvT hZ (hw _ (List.mem_of_getElem? (i := 3) rfl))) (mvT hZ (hw _ (List.mem_of_getElem? (i := 41) rfl))) (by decide) (backC (W := 0) (rm_dg l Z a0 hw [] c0 h0 n0 Z0 O0 ) hZ (hw _ (List.mem_of_getElem? (i := 41) rfl)) (hw _ (List.mem_of_getElem? (i := 3) rfl)) (by decide) (by decide)) (g := (mkF m 11 #[.val (.int c0), .val (.int k0), .val (.int f0), .val (.int t0)] [(.int c0)])) rfl (by rw [hml]; rfl) (argsL := [(.int c0)]) (rest := []) (lenOf pd_79 rfl) rfl (by show 2 * 0 + _ ≤ _; exact Nat.le_of_eq rfl) (hb hby d_method_4_code_11) (fun _ _ => ⟨rfl, e0, (by decide : 0 + 0 ≤ _), (by decide : 0 + 0 ≤ _)⟩)
      dsimp only [Pt.U, Pt.locs, Pt.cells, Pt.slots] at X7 l7 y7 z7 st7 hQ7
      subst l7 y7 z7
      obtain ⟨rfl, N7q, e7q⟩ := hQ7
      have N7 := Fr.app N0 N7q
      refine gs st7 ?_
      show OwnGo p e below s _ _ _ (T7.setTop (mkF m 14 #[.val (.int c0), .val (.int k0), .val (.int f0), .val (.int t0)] [(.int (if own_dgP c0 then 1 else 0))]))
      by_cases hc8 : own_dgP c0
      · have c9 : ∀ tg, Steps p.tables e below (T7.setTop (mkF m 28 #[.val (.int c0), .val (.int k0), .val (.int f0), .val (.int t0)] [(.int (1 : Int32))])) tg → Steps p.tables e below (T7.setTop (mkF m 14 #[.val (.int c0), .val (.int k0), .val (.int f0), .val (.int t0)] [(.int (if own_dgP c0 then 1 else 0))])) tg := fun tg kg => by
          refine XS.ifYes X7.here hx rfl (pc0 := 14) (pc' := 23) rfl (hb hby d_method_4_code_14) rfl ((if0 _ _).trans (feq (by rw [if_pos hc8]; decide)).2) (by decide) (by decide) ?_
          show Steps p.tables e below (T7.setTop (mkF m 23 #[.val (.int c0), .val (.int k0), .val (.int f0), .val (.int t0)] [])) tg
          refine XS.iconst X7.here hx rfl (hb hby d_method_4_code_23) ?_
          show Steps p.tables e below (T7.setTop (mkF m 24 #[.val (.int c0), .val (.int k0), .val (.int f0), .val (.int t0)] [(.int (1 : Int32))])) tg
          refine XS.goto X7.here hx rfl (pc0 := 24) (pc' := 28) rfl (hb hby d_method_4_code_24) (by decide) (by decide) ?_
          show Steps p.tables e below (T7.setTop (mkF m 28 #[.val (.int c0), .val (.int k0), .val (.int f0), .val (.int t0)] [(.int (1 : Int32))])) tg
          exact kg
        refine gs c9 ?_
        refine gout (v := some (.int (1 : Int32))) X7 Bd.notSynchronized (fun h => by rw [Bd.returns] at h; cases h) (by decide) (by decide) ?_ (fun fs hr => retN X7 hx (t := .boolean) Bd.returns (by simp) (hb hby d_method_4_code_28) hr)
        rw [e7q]
        exact ⟨by rw [own_okI, if_pos (Or.inr (Or.inr (Or.inl hc8)))], N7, rfl⟩
      · have c10 : ∀ tg, Steps p.tables e below (T7.setTop (mkF m 20 #[.val (.int c0), .val (.int k0), .val (.int f0), .val (.int t0)] [(.int (46 : Int32)), (.int c0)])) tg → Steps p.tables e below (T7.setTop (mkF m 14 #[.val (.int c0), .val (.int k0), .val (.int f0), .val (.int t0)] [(.int (if own_dgP c0 then 1 else 0))])) tg := fun tg kg => by
          refine XS.ifNo X7.here hx rfl (hb hby d_method_4_code_14) rfl ((if0 _ _).trans (teq (by rw [if_neg hc8])).2) ?_
          show Steps p.tables e below (T7.setTop (mkF m 17 #[.val (.int c0), .val (.int k0), .val (.int f0), .val (.int t0)] [])) tg
          refine XS.iloadN X7.here hx rfl (hb hby d_method_4_code_17) rfl ?_
          show Steps p.tables e below (T7.setTop (mkF m 18 #[.val (.int c0), .val (.int k0), .val (.int f0), .val (.int t0)] [(.int c0)])) tg
          refine XS.bipush X7.here hx rfl (hb hby d_method_4_code_18) ?_
          show Steps p.tables e below (T7.setTop (mkF m 20 #[.val (.int c0), .val (.int k0), .val (.int f0), .val (.int t0)] [(.int (46 : Int32)), (.int c0)])) tg
          exact kg
        refine gs c10 ?_
        by_cases hc11 : c0 = (46 : Int32)
        · have c12 : ∀ tg, Steps p.tables e below (T7.setTop (mkF m 28 #[.val (.int c0), .val (.int k0), .val (.int f0), .val (.int t0)] [(.int (1 : Int32))])) tg → Steps p.tables e below (T7.setTop (mkF m 20 #[.val (.int c0), .val (.int k0), .val (.int f0), .val (.int t0)] [(.int (46 : Int32)), (.int c0)])) tg := fun tg kg => by
            refine XS.icmpNo X7.here hx rfl (hb hby d_method_4_code_20) rfl (teq hc11).2 ?_
            show Steps p.tables e below (T7.setTop (mkF m 23 #[.val (.int c0), .val (.int k0), .val (.int f0), .val (.int t0)] [])) tg
            refine XS.iconst X7.here hx rfl (hb hby d_method_4_code_23) ?_
            show Steps p.tables e below (T7.setTop (mkF m 24 #[.val (.int c0), .val (.int k0), .val (.int f0), .val (.int t0)] [(.int (1 : Int32))])) tg
            refine XS.goto X7.here hx rfl (pc0 := 24) (pc' := 28) rfl (hb hby d_method_4_code_24) (by decide) (by decide) ?_
            show Steps p.tables e below (T7.setTop (mkF m 28 #[.val (.int c0), .val (.int k0), .val (.int f0), .val (.int t0)] [(.int (1 : Int32))])) tg
            exact kg
          refine gs c12 ?_
          refine gout (v := some (.int (1 : Int32))) X7 Bd.notSynchronized (fun h => by rw [Bd.returns] at h; cases h) (by decide) (by decide) ?_ (fun fs hr => retN X7 hx (t := .boolean) Bd.returns (by simp) (hb hby d_method_4_code_28) hr)
          rw [e7q]
          exact ⟨by rw [own_okI, if_pos (Or.inr (Or.inr (Or.inr hc11)))], N7, rfl⟩
        · have c13 : ∀ tg, Steps p.tables e below (T7.setTop (mkF m 28 #[.val (.int c0), .val (.int k0), .val (.int f0), .val (.int t0)] [(.int (0 : Int32))])) tg → Steps p.tables e below (T7.setTop (mkF m 20 #[.val (.int c0), .val (.int k0), .val (.int f0), .val (.int t0)] [(.int (46 : Int32)), (.int c0)])) tg := fun tg kg => by
            refine XS.icmpYes X7.here hx rfl (pc0 := 20) (pc' := 27) rfl (hb hby d_method_4_code_20) rfl (feq hc11).2 (by decide) (by decide) ?_
            show Steps p.tables e below (T7.setTop (mkF m 27 #[.val (.int c0), .val (.int k0), .val (.int f0), .val (.int t0)] [])) tg
            refine XS.iconst X7.here hx rfl (hb hby d_method_4_code_27) ?_
            show Steps p.tables e below (T7.setTop (mkF m 28 #[.val (.int c0), .val (.int k0), .val (.int f0), .val (.int t0)] [(.int (0 : Int32))])) tg
            exact kg
          refine gs c13 ?_
          refine gout (v := some (.int (0 : Int32))) X7 Bd.notSynchronized (fun h => by rw [Bd.returns] at h; cases h) (by decide) (by decide) ?_ (fun fs hr => retN X7 hx (t := .boolean) Bd.returns (by simp) (hb hby d_method_4_code_28) hr)
          rw [e7q]
          exact ⟨by rw [own_okI, if_neg (fun q => q.elim hc2 (fun q => q.elim (fun q => q hc5) (fun q => q.elim hc8 hc11)))], N7, rfl⟩
    · have c14 : ∀ tg, Steps p.tables e below (s₁.setTop (mkF m 28 #[.val (.int c0), .val (.int k0), .val (.int f0), .val (.int t0)] [(.int (1 : Int32))])) tg → Steps p.tables e below (s₁.setTop (mkF m 7 #[.val (.int c0), .val (.int k0), .val (.int f0), .val (.int t0)] [(.int t0), (.int k0)])) tg := fun tg kg => by
        refine XS.icmpYes X0.here hx rfl (pc0 := 7) (pc' := 23) rfl (hb hby d_method_4_code_7) rfl (flt hc5).2.1 (by decide) (by decide) ?_
        show Steps p.tables e below (s₁.setTop (mkF m 23 #[.val (.int c0), .val (.int k0), .val (.int f0), .val (.int t0)] [])) tg
        refine XS.iconst X0.here hx rfl (hb hby d_method_4_code_23) ?_
        show Steps p.tables e below (s₁.setTop (mkF m 24 #[.val (.int c0), .val (.int k0), .val (.int f0), .val (.int t0)] [(.int (1 : Int32))])) tg
        refine XS.goto X0.here hx rfl (pc0 := 24) (pc' := 28) rfl (hb hby d_method_4_code_24) (by decide) (by decide) ?_
        show Steps p.tables e below (s₁.setTop (mkF m 28 #[.val (.int c0), .val (.int k0), .val (.int f0), .val (.int t0)] [(.int (1 : Int32))])) tg
        exact kg
      refine gs c14 ?_
      refine gout (v := some (.int (1 : Int32))) X0 Bd.notSynchronized (fun h => by rw [Bd.returns] at h; cases h) (by decide) (by decide) ?_ (fun fs hr => retN X0 hx (t := .boolean) Bd.returns (by simp) (hb hby d_method_4_code_28) hr)
      rw [e0]
      exact ⟨by rw [own_okI, if_pos (Or.inr (Or.inl hc5))], N0, rfl⟩
theorem ef_85 (m : MethodId) (x0 : Int32) (x1 : Int32) (x2 : Int32) (x3 : Int32) : entryFrame m #[(.int x0), (.int x1), (.int x2), (.int x3)] 4 = mkF m 0 #[.val (.int x0), .val (.int x1), .val (.int x2), .val (.int x3)] [] := by first | (simp [entryFrame, mkF, argsToLocals, Value.category]; done) | rfl
theorem d_method_5_code_0 : decode method_5_code 0 = .ok (.iload_n 1, 1) := by decide +kernel
theorem d_method_5_code_1 : decode method_5_code 1 = .ok (.iload_n 2, 1) := by decide +kernel
theorem d_method_5_code_2 : decode method_5_code 2 = .ok (.if_icmp .lt 18, 3) := by decide +kernel
theorem d_method_5_code_20 : decode method_5_code 20 = .ok (.iconst 0, 1) := by decide +kernel
theorem d_method_5_code_21 : decode method_5_code 21 = .ok (.ireturn, 1) := by decide +kernel
theorem d_method_5_code_5 : decode method_5_code 5 = .ok (.iload_n 1, 1) := by decide +kernel
theorem d_method_5_code_6 : decode method_5_code 6 = .ok (.iload_n 3, 1) := by decide +kernel
theorem d_method_5_code_7 : decode method_5_code 7 = .ok (.if_icmp .ge 13, 3) := by decide +kernel
theorem d_method_5_code_10 : decode method_5_code 10 = .ok (.iload_n 0, 1) := by decide +kernel
theorem d_method_5_code_11 : decode method_5_code 11 = .ok (.bipush 46, 2) := by decide +kernel
theorem d_method_5_code_13 : decode method_5_code 13 = .ok (.if_icmp .ne 7, 3) := by decide +kernel
theorem d_method_5_code_16 : decode method_5_code 16 = .ok (.iconst 1, 1) := by decide +kernel
theorem d_method_5_code_17 : decode method_5_code 17 = .ok (.goto 4, 3) := by decide +kernel
set_option maxRecDepth 65536 in
set_option maxHeartbeats 40000000 in
theorem rm_dt (l : Launch) (Z : State) (a0 : Array Value) (hw : ∀ d ∈ tables_1, d.before a0 Z = true) (ws : List Jvm.Cond) (c0 : Int32) (k0 : Int32) (f0 : Int32) (t0 : Int32) (h0 : Heap) (n0 : Nat) (Z0 : n0 ≤ h0.size) (O0 : Old Z n0 h0)  :
    Ctr l Z (⟨"com/example/tranche/tranche/DecimalsIsWrittenPinLaw", "dot", "(CIII)I"⟩ : MethodName) method_5_code 4 ((Option.some Jvm.ClassFile.FieldType.int)) ws ({ frames := 0, cells := 0, slots := 0, locals := 0 } : Room) #[(.int c0), (.int k0), (.int f0), (.int t0)] h0 (fun v h L => v = some (.int (own_dotI c0 k0 f0 t0)) ∧ Fr n0 L ∧ h = h0) := by
  refine Ctr.of (MetFree.of_bodySF (plainFor_of_name pn_55) hisR ?_)
  intro p e s m args below meth c s₁ Bd hml0 hP hK
  obtain ⟨rfl, hZ, hh⟩ := hP
  have hx := Bd.exec
  have hby := Bd.bytes
  have hml : c.maxLocals = 4 := hml0
  have hown : s.vm.findClass "com/example/tranche/tranche/DecimalsIsWrittenPinLaw" = some m.cls := findClass_of_methodNamed Bd.named
  have hnm := (name_of_methodNamed Bd.named Bd.method).1
  have X0 : Stand p l e ({ frames := 0, cells := 0, slots := 0, locals := 0 } : Room) s m #[(.int c0), (.int k0), (.int f0), (.int t0)] below meth c s₁ [] 0 0 := Stand.of_body Bd
  have e0 : s₁.heap = h0 := by rw [← hh, Bd.state]; rfl
  have N0 := Fr.nil n0
  have K0 : Keep h0 h0 [] := Keep.refl h0 []
  show OwnGo p e below s (fun v h L => v = some (.int (own_dotI c0 k0 f0 t0)) ∧ Fr n0 L ∧ h = h0) ({ frames := 0, cells := 0, slots := 0, locals := 0 } : Room).cells ({ frames := 0, cells := 0, slots := 0, locals := 0 } : Room).slots _
  refine gs (S' := s₁.setTop (mkF m 0 #[.val (.int c0), .val (.int k0), .val (.int f0), .val (.int t0)] [])) (fun tg kg => castTop (ef_85 m c0 k0 f0 t0) kg) ?_
  have c1 : ∀ tg, Steps p.tables e below (s₁.setTop (mkF m 2 #[.val (.int c0), .val (.int k0), .val (.int f0), .val (.int t0)] [(.int f0), (.int k0)])) tg → Steps p.tables e below (s₁.setTop (mkF m 0 #[.val (.int c0), .val (.int k0), .val (.int f0), .val (.int t0)] [])) tg := fun tg kg => by
    refine XS.iloadN X0.here hx rfl (hb hby d_method_5_code_0) rfl ?_
    show Steps p.tables e below (s₁.setTop (mkF m 1 #[.val (.int c0), .val (.int k0), .val (.int f0), .val (.int t0)] [(.int k0)])) tg
    refine XS.iloadN X0.here hx rfl (hb hby d_method_5_code_1) rfl ?_
    show Steps p.tables e below (s₁.setTop (mkF m 2 #[.val (.int c0), .val (.int k0), .val (.int f0), .val (.int t0)] [(.int f0), (.int k0)])) tg
    exact kg
  refine gs c1 ?_
  by_cases hc2 : k0 < f0
  · have c3 : ∀ tg, Steps p.tables e below (s₁.setTop (mkF m 21 #[.val (.int c0), .val (.int k0), .val (.int f0), .val (.int t0)] [(.int (0 : Int32))])) tg → Steps p.tables e below (s₁.setTop (mkF m 2 #[.val (.int c0), .val (.int k0), .val (.int f0), .val (.int t0)] [(.int f0), (.int k0)])) tg := fun tg kg => by
      refine XS.icmpYes X0.here hx rfl (pc0 := 2) (pc' := 20) rfl (hb hby d_method_5_code_2) rfl (tlt hc2).1 (by decide) (by decide) ?_
      show Steps p.tables e below (s₁.setTop (mkF m 20 #[.val (.int c0), .val (.int k0), .val (.int f0), .val (.int t0)] [])) tg
      refine XS.iconst X0.here hx rfl (hb hby d_method_5_code_20) ?_
      show Steps p.tables e below (s₁.setTop (mkF m 21 #[.val (.int c0), .val (.int k0), .val (.int f0), .val (.int t0)] [(.int (0 : Int32))])) tg
      exact kg
    refine gs c3 ?_
    refine gout (v := some (.int (0 : Int32))) X0 Bd.notSynchronized (fun h => by rw [Bd.returns] at h; cases h) (by decide) (by decide) ?_ (fun fs hr => retI X0 hx Bd.returns (hb hby d_method_5_code_21) hr)
    rw [e0]
    exact ⟨by rw [own_dotI, if_neg (fun q => q.1 hc2)], N0, rfl⟩
  · have c4 : ∀ tg, Steps p.tables e below (s₁.setTop (mkF m 7 #[.val (.int c0), .val (.int k0), .val (.int f0), .val (.int t0)] [(.int t0), (.int k0)])) tg → Steps p.tables e below (s₁.setTop (mkF m 2 #[.val (.int c0), .val (.int k0), .val (.int f0), .val (.int t0)] [(.int f0), (.int k0)])) tg := fun tg kg => by
      refine XS.icmpNo X0.here hx rfl (hb hby d_method_5_code_2) rfl (flt hc2).1 ?_
      show Steps p.tables e below (s₁.setTop (mkF m 5 #[.val (.int c0), .val (.int k0), .val (.int f0), .val (.int t0)] [])) tg
      refine XS.iloadN X0.here hx rfl (hb hby d_method_5_code_5) rfl ?_
      show Steps p.tables e below (s₁.setTop (mkF m 6 #[.val (.int c0), .val (.int k0), .val (.int f0), .val (.int t0)] [(.int k0)])) tg
      refine XS.iloadN X0.here hx rfl (hb hby d_method_5_code_6) rfl ?_
      show Steps p.tables e below (s₁.setTop (mkF m 7 #[.val (.int c0), .val (.int k0), .val (.int f0), .val (.int t0)] [(.int t0), (.int k0)])) tg
      exact kg
    refine gs c4 ?_
    by_cases hc5 : k0 < t0
    · have c6 : ∀ tg, Steps p.tables e below (s₁.setTop (mkF m 13 #[.val (.int c0), .val (.int k0), .val (.int f0), .val (.int t0)] [(.int (46 : Int32)), (.int c0)])) tg → Steps p.tables e below (s₁.setTop (mkF m 7 #[.val (.int c0), .val (.int k0), .val (.int f0), .val (.int t0)] [(.int t0), (.int k0)])) tg := fun tg kg => by
        refine XS.icmpNo X0.here hx rfl (hb hby d_method_5_code_7) rfl (tlt hc5).2.1 ?_
        show Steps p.tables e below (s₁.setTop (mkF m 10 #[.val (.int c0), .val (.int k0), .val (.int f0), .val (.int t0)] [])) tg
        refine XS.iloadN X0.here hx rfl (hb hby d_method_5_code_10) rfl ?_
        show Steps p.tables e below (s₁.setTop (mkF m 11 #[.val (.int c0), .val (.int k0), .val (.int f0), .val (.int t0)] [(.int c0)])) tg
        refine XS.bipush X0.here hx rfl (hb hby d_method_5_code_11) ?_
        show Steps p.tables e below (s₁.setTop (mkF m 13 #[.val (.int c0), .val (.int k0), .val (.int f0), .val (.int t0)] [(.int (46 : Int32)), (.int c0)])) tg
        exact kg
      refine gs c6 ?_
      by_cases hc7 : c0 = (46 : Int32)
      · have c8 : ∀ tg, Steps p.tables e below (s₁.setTop (mkF m 21 #[.val (.int c0), .val (.int k0), .val (.int f0), .val (.int t0)] [(.int (1 : Int32))])) tg → Steps p.tables e below (s₁.setTop (mkF m 13 #[.val (.int c0), .val (.int k0), .val (.int f0), .val (.int t0)] [(.int (46 : Int32)), (.int c0)])) tg := fun tg kg => by
          refine XS.icmpNo X0.here hx rfl (hb hby d_method_5_code_13) rfl (teq hc7).2 ?_
          show Steps p.tables e below (s₁.setTop (mkF m 16 #[.val (.int c0), .val (.int k0), .val (.int f0), .val (.int t0)] [])) tg
          refine XS.iconst X0.here hx rfl (hb hby d_method_5_code_16) ?_
          show Steps p.tables e below (s₁.setTop (mkF m 17 #[.val (.int c0), .val (.int k0), .val (.int f0), .val (.int t0)] [(.int (1 : Int32))])) tg
          refine XS.goto X0.here hx rfl (pc0 := 17) (pc' := 21) rfl (hb hby d_method_5_code_17) (by decide) (by decide) ?_
          show Steps p.tables e below (s₁.setTop (mkF m 21 #[.val (.int c0), .val (.int k0), .val (.int f0), .val (.int t0)] [(.int (1 : Int32))])) tg
          exact kg
        refine gs c8 ?_
        refine gout (v := some (.int (1 : Int32))) X0 Bd.notSynchronized (fun h => by rw [Bd.returns] at h; cases h) (by decide) (by decide) ?_ (fun fs hr => retI X0 hx Bd.returns (hb hby d_method_5_code_21) hr)
        rw [e0]
        exact ⟨by rw [own_dotI, if_pos ⟨hc2, hc5, hc7⟩], N0, rfl⟩
      · have c9 : ∀ tg, Steps p.tables e below (s₁.setTop (mkF m 21 #[.val (.int c0), .val (.int k0), .val (.int f0), .val (.int t0)] [(.int (0 : Int32))])) tg → Steps p.tables e below (s₁.setTop (mkF m 13 #[.val (.int c0), .val (.int k0), .val (.int f0), .val (.int t0)] [(.int (46 : Int32)), (.int c0)])) tg := fun tg kg => by
          refine XS.icmpYes X0.here hx rfl (pc0 := 13) (pc' := 20) rfl (hb hby d_method_5_code_13) rfl (feq hc7).2 (by decide) (by decide) ?_
          show Steps p.tables e below (s₁.setTop (mkF m 20 #[.val (.int c0), .val (.int k0), .val (.int f0), .val (.int t0)] [])) tg
          refine XS.iconst X0.here hx rfl (hb hby d_method_5_code_20) ?_
          show Steps p.tables e below (s₁.setTop (mkF m 21 #[.val (.int c0), .val (.int k0), .val (.int f0), .val (.int t0)] [(.int (0 : Int32))])) tg
          exact kg
        refine gs c9 ?_
        refine gout (v := some (.int (0 : Int32))) X0 Bd.notSynchronized (fun h => by rw [Bd.returns] at h; cases h) (by decide) (by decide) ?_ (fun fs hr => retI X0 hx Bd.returns (hb hby d_method_5_code_21) hr)
        rw [e0]
        exact ⟨by rw [own_dotI, if_neg (fun q => hc7 q.2.2)], N0, rfl⟩
    · have c10 : ∀ tg, Steps p.tables e below (s₁.setTop (mkF m 21 #[.val (.int c0), .val (.int k0), .val (.int f0), .val (.int t0)] [(.int (0 : Int32))])) tg → Steps p.tables e below (s₁.setTop (mkF m 7 #[.val (.int c0), .val (.int k0), .val (.int f0), .val (.int t0)] [(.int t0), (.int k0)])) tg := fun tg kg => by
        refine XS.icmpYes X0.here hx rfl (pc0 := 7) (pc' := 20) rfl (hb hby d_method_5_code_7) rfl (flt hc5).2.1 (by decide) (by decide) ?_
        show Steps p.tables e below (s₁.setTop (mkF m 20 #[.val (.int c0), .val (.int k0), .val (.int f0), .val (.int t0)] [])) tg
        refine XS.iconst X0.here hx rfl (hb hby d_method_5_code_20) ?_
        show Steps p.tables e below (s₁.setTop (mkF m 21 #[.val (.int c0), .val (.int k0), .val (.int f0), .val (.int t0)] [(.int (0 : Int32))])) tg
        exact kg
      refine gs c10 ?_
      refine gout (v := some (.int (0 : Int32))) X0 Bd.notSynchronized (fun h => by rw [Bd.returns] at h; cases h) (by decide) (by decide) ?_ (fun fs hr => retI X0 hx Bd.returns (hb hby d_method_5_code_21) hr)
      rw [e0]
      exact ⟨by rw [own_dotI, if_neg (fun q => hc5 q.2.1)], N0, rfl⟩
theorem ef_99 (m : MethodId) (x0 : Addr) (x1 : Int32) (x2 : Int32) : entryFrame m #[(.ref x0), (.int x1), (.int x2)] 4 = mkF m 0 #[.val (.ref x0), .val (.int x1), .val (.int x2), .unset] [] := by first | (simp [entryFrame, mkF, argsToLocals, Value.category]; done) | rfl
theorem d_prog_9_method_4_code_0 : decode prog_9_method_4_code 0 = .ok (.iload_n 1, 1) := by decide +kernel
theorem d_prog_9_method_4_code_1 : decode prog_9_method_4_code 1 = .ok (.istore_n 3, 1) := by decide +kernel
theorem d_prog_9_method_4_code_2 : decode prog_9_method_4_code 2 = .ok (.iload_n 3, 1) := by decide +kernel
theorem d_prog_9_method_4_code_3 : decode prog_9_method_4_code 3 = .ok (.iload_n 2, 1) := by decide +kernel
theorem d_prog_9_method_4_code_4 : decode prog_9_method_4_code 4 = .ok (.if_icmp .ge 29, 3) := by decide +kernel
theorem d_prog_9_method_4_code_33 : decode prog_9_method_4_code 33 = .ok (.iload_n 3, 1) := by decide +kernel
theorem d_prog_9_method_4_code_34 : decode prog_9_method_4_code 34 = .ok (.ireturn, 1) := by decide +kernel
theorem d_prog_9_method_4_code_7 : decode prog_9_method_4_code 7 = .ok (.aload_n 0, 1) := by decide +kernel
theorem d_prog_9_method_4_code_8 : decode prog_9_method_4_code 8 = .ok (.iload_n 3, 1) := by decide +kernel
theorem d_prog_9_method_4_code_9 : decode prog_9_method_4_code 9 = .ok (.invokevirtual 59, 3) := by decide +kernel
theorem pd_110 : parseMethodDescriptor "(I)C" = some ⟨[.int], some .char⟩ := by decide +kernel
theorem d_prog_9_method_4_code_12 : decode prog_9_method_4_code 12 = .ok (.bipush 48, 2) := by decide +kernel
theorem d_prog_9_method_4_code_14 : decode prog_9_method_4_code 14 = .ok (.if_icmp .lt 19, 3) := by decide +kernel
theorem d_prog_9_method_4_code_17 : decode prog_9_method_4_code 17 = .ok (.aload_n 0, 1) := by decide +kernel
theorem d_prog_9_method_4_code_18 : decode prog_9_method_4_code 18 = .ok (.iload_n 3, 1) := by decide +kernel
theorem d_prog_9_method_4_code_19 : decode prog_9_method_4_code 19 = .ok (.invokevirtual 59, 3) := by decide +kernel
theorem d_prog_9_method_4_code_22 : decode prog_9_method_4_code 22 = .ok (.bipush 57, 2) := by decide +kernel
theorem d_prog_9_method_4_code_24 : decode prog_9_method_4_code 24 = .ok (.if_icmp .gt 9, 3) := by decide +kernel
theorem d_prog_9_method_4_code_27 : decode prog_9_method_4_code 27 = .ok (.iinc 3 1, 3) := by decide +kernel
theorem d_prog_9_method_4_code_30 : decode prog_9_method_4_code 30 = .ok (.goto (-28), 3) := by decide +kernel
theorem pn_120 : plainName "com/example/tranche/tranche/Decimals" = true := by first | (simp [plainName, overriddenIn]; done) | decide +kernel
set_option maxRecDepth 65536 in
set_option maxHeartbeats 40000000 in
theorem rm_de (l : Launch) (Z : State) (a0 : Array Value) (hw : ∀ d ∈ tables_1, d.before a0 Z = true) (ws : List Jvm.Cond) (a : Addr) (cs : List Int32) (z : Int32) (fm : Value) (sn : Nat) (en : Nat) (r : Nat) (h0 : Heap) (n0 : Nat) (Z0 : n0 ≤ h0.size) (O0 : Old Z n0 h0) (S0 : Sta Z Z.heap "java/lang/String" "COMPACT_STRINGS" "Z" (.int z)) (hz : ¬ z = 0) (S4 : Sta Z Z.heap "jdk/internal/util/Preconditions" "SIOOBE_FORMATTER" "Ljava/util/function/BiFunction;" fm) (hfm : fm.isRef = true) (T_a : Str Z h0 a cs) (hbd : ∀ c ∈ cs, ¬ c < 0 ∧ ¬ (255 : Int32) < c) (hlen : cs.length = 5) (hen : en ≤ 5) (hse : sn ≤ en) (hr : r = own_de cs (en - sn) sn) :
    Ctr l Z (⟨"com/example/tranche/tranche/Decimals", "digitsEnd", "(Ljava/lang/String;II)I"⟩ : MethodName) prog_9_method_4_code 4 ((Option.some Jvm.ClassFile.FieldType.int)) ws ({ frames := 4, cells := 0, slots := 0, locals := 60 } : Room) #[(.ref a), (.int (Int32.ofNat sn)), (.int (Int32.ofNat en))] h0 (fun v h L => v = some (.int (Int32.ofNat r)) ∧ Fr n0 L ∧ h = h0) := by
  refine Ctr.of (MetFree.of_bodySF (plainFor_of_name pn_120) hisR ?_)
  intro p e s m args below meth c s₁ Bd hml0 hP hK
  obtain ⟨rfl, hZ, hh⟩ := hP
  have hx := Bd.exec
  have hby := Bd.bytes
  have hml : c.maxLocals = 4 := hml0
  have hown : s.vm.findClass "com/example/tranche/tranche/Decimals" = some m.cls := findClass_of_methodNamed Bd.named
  have hnm := (name_of_methodNamed Bd.named Bd.method).1
  have X0 : Stand p l e ({ frames := 4, cells := 0, slots := 0, locals := 60 } : Room) s m #[(.ref a), (.int (Int32.ofNat sn)), (.int (Int32.ofNat en))] below meth c s₁ [] 0 0 := Stand.of_body Bd
  have e0 : s₁.heap = h0 := by rw [← hh, Bd.state]; rfl
  have N0 := Fr.nil n0
  have K0 : Keep h0 h0 [] := Keep.refl h0 []
  show OwnGo p e below s (fun v h L => v = some (.int (Int32.ofNat r)) ∧ Fr n0 L ∧ h = h0) ({ frames := 4, cells := 0, slots := 0, locals := 60 } : Room).cells ({ frames := 4, cells := 0, slots := 0, locals := 60 } : Room).slots _
  refine gs (S' := s₁.setTop (mkF m 0 #[.val (.ref a), .val (.int (Int32.ofNat sn)), .val (.int (Int32.ofNat en)), .unset] [])) (fun tg kg => castTop (ef_99 m a (Int32.ofNat sn) (Int32.ofNat en)) kg) ?_
  have c1 : ∀ tg, Steps p.tables e below (s₁.setTop (mkF m 2 #[.val (.ref a), .val (.int (Int32.ofNat sn)), .val (.int (Int32.ofNat en)), .val (.int (Int32.ofNat sn))] [])) tg → Steps p.tables e below (s₁.setTop (mkF m 0 #[.val (.ref a), .val (.int (Int32.ofNat sn)), .val (.int (Int32.ofNat en)), .unset] [])) tg := fun tg kg => by
    refine XS.iloadN X0.here hx rfl (hb hby d_prog_9_method_4_code_0) rfl ?_
    show Steps p.tables e below (s₁.setTop (mkF m 1 #[.val (.ref a), .val (.int (Int32.ofNat sn)), .val (.int (Int32.ofNat en)), .unset] [(.int (Int32.ofNat sn))])) tg
    refine XS.istoreN X0.here hx rfl (hb hby d_prog_9_method_4_code_1) rfl (l' := #[.val (.ref a), .val (.int (Int32.ofNat sn)), .val (.int (Int32.ofNat en)), .val (.int (Int32.ofNat sn))]) rfl ?_
    show Steps p.tables e below (s₁.setTop (mkF m 2 #[.val (.ref a), .val (.int (Int32.ofNat sn)), .val (.int (Int32.ofNat en)), .val (.int (Int32.ofNat sn))] [])) tg
    exact kg
  refine gs c1 ?_
  have loop : ∀ (k i : Nat) (Tl : State) (ll : List Loc), i + k = en → r = own_de cs k i → Stand p l e ({ frames := 4, cells := 0, slots := 0, locals := 60 } : Room) s m #[(.ref a), (.int (Int32.ofNat sn)), (.int (Int32.ofNat en))] below meth c Tl ll 0 0 → Tl.heap = h0 → Fr n0 ll → OwnGo p e below s (fun v h L => v = some (.int (Int32.ofNat r)) ∧ Fr n0 L ∧ h = h0) ({ frames := 4, cells := 0, slots := 0, locals := 60 } : Room).cells ({ frames := 4, cells := 0, slots := 0, locals := 60 } : Room).slots (Tl.setTop (mkF m 2 #[.val (.ref a), .val (.int (Int32.ofNat sn)), .val (.int (Int32.ofNat en)), .val (.int (Int32.ofNat i))] [])) := by
    intro k
    induction k with
    | zero =>
      intro i Tl ll hik hri Xl el Nl
      have c2 : ∀ tg, Steps p.tables e below (Tl.setTop (mkF m 34 #[.val (.ref a), .val (.int (Int32.ofNat sn)), .val (.int (Int32.ofNat en)), .val (.int (Int32.ofNat i))] [(.int (Int32.ofNat i))])) tg → Steps p.tables e below (Tl.setTop (mkF m 2 #[.val (.ref a), .val (.int (Int32.ofNat sn)), .val (.int (Int32.ofNat en)), .val (.int (Int32.ofNat i))] [])) tg := fun tg kg => by
        refine XS.iloadN Xl.here hx rfl (hb hby d_prog_9_method_4_code_2) rfl ?_
        show Steps p.tables e below (Tl.setTop (mkF m 3 #[.val (.ref a), .val (.int (Int32.ofNat sn)), .val (.int (Int32.ofNat en)), .val (.int (Int32.ofNat i))] [(.int (Int32.ofNat i))])) tg
        refine XS.iloadN Xl.here hx rfl (hb hby d_prog_9_method_4_code_3) rfl ?_
        show Steps p.tables e below (Tl.setTop (mkF m 4 #[.val (.ref a), .val (.int (Int32.ofNat sn)), .val (.int (Int32.ofNat en)), .val (.int (Int32.ofNat i))] [(.int (Int32.ofNat en)), (.int (Int32.ofNat i))])) tg
        refine XS.icmpYes Xl.here hx rfl (pc0 := 4) (pc' := 33) rfl (hb hby d_prog_9_method_4_code_4) rfl (flt (fun q => absurd ((own_lt (by omega) (by omega)).mp q) (by omega))).2.1 (by decide) (by decide) ?_
        show Steps p.tables e below (Tl.setTop (mkF m 33 #[.val (.ref a), .val (.int (Int32.ofNat sn)), .val (.int (Int32.ofNat en)), .val (.int (Int32.ofNat i))] [])) tg
        refine XS.iloadN Xl.here hx rfl (hb hby d_prog_9_method_4_code_33) rfl ?_
        show Steps p.tables e below (Tl.setTop (mkF m 34 #[.val (.ref a), .val (.int (Int32.ofNat sn)), .val (.int (Int32.ofNat en)), .val (.int (Int32.ofNat i))] [(.int (Int32.ofNat i))])) tg
        exact kg
      refine gs c2 ?_
      refine gout (v := some (.int (Int32.ofNat i))) Xl Bd.notSynchronized (fun h => by rw [Bd.returns] at h; cases h) (by decide) (by decide) ?_ (fun fs hr => retI Xl hx Bd.returns (hb hby d_prog_9_method_4_code_34) hr)
      rw [el]
      exact ⟨by rw [hri]; rfl, Nl, rfl⟩
    | succ k ih =>
      intro i Tl ll hik hri Xl el Nl
      have c3 : ∀ tg, Steps p.tables e below (Tl.setTop (mkF m 9 #[.val (.ref a), .val (.int (Int32.ofNat sn)), .val (.int (Int32.ofNat en)), .val (.int (Int32.ofNat i))] [(.int (Int32.ofNat i)), (.ref a)])) tg → Steps p.tables e below (Tl.setTop (mkF m 2 #[.val (.ref a), .val (.int (Int32.ofNat sn)), .val (.int (Int32.ofNat en)), .val (.int (Int32.ofNat i))] [])) tg := fun tg kg => by
        refine XS.iloadN Xl.here hx rfl (hb hby d_prog_9_method_4_code_2) rfl ?_
        show Steps p.tables e below (Tl.setTop (mkF m 3 #[.val (.ref a), .val (.int (Int32.ofNat sn)), .val (.int (Int32.ofNat en)), .val (.int (Int32.ofNat i))] [(.int (Int32.ofNat i))])) tg
        refine XS.iloadN Xl.here hx rfl (hb hby d_prog_9_method_4_code_3) rfl ?_
        show Steps p.tables e below (Tl.setTop (mkF m 4 #[.val (.ref a), .val (.int (Int32.ofNat sn)), .val (.int (Int32.ofNat en)), .val (.int (Int32.ofNat i))] [(.int (Int32.ofNat en)), (.int (Int32.ofNat i))])) tg
        refine XS.icmpNo Xl.here hx rfl (hb hby d_prog_9_method_4_code_4) rfl (tlt ((own_lt (by omega) (by omega)).mpr (by omega))).2.1 ?_
        show Steps p.tables e below (Tl.setTop (mkF m 7 #[.val (.ref a), .val (.int (Int32.ofNat sn)), .val (.int (Int32.ofNat en)), .val (.int (Int32.ofNat i))] [])) tg
        refine XS.aloadN Xl.here hx rfl (hb hby d_prog_9_method_4_code_7) rfl rfl ?_
        show Steps p.tables e below (Tl.setTop (mkF m 8 #[.val (.ref a), .val (.int (Int32.ofNat sn)), .val (.int (Int32.ofNat en)), .val (.int (Int32.ofNat i))] [(.ref a)])) tg
        refine XS.iloadN Xl.here hx rfl (hb hby d_prog_9_method_4_code_8) rfl ?_
        show Steps p.tables e below (Tl.setTop (mkF m 9 #[.val (.ref a), .val (.int (Int32.ofNat sn)), .val (.int (Int32.ofNat en)), .val (.int (Int32.ofNat i))] [(.int (Int32.ofNat i)), (.ref a)])) tg
        exact kg
      refine gs c3 ?_
      obtain ⟨cq4, kq4, q4a, q4b, q4c⟩ := isOf hZ el T_a.exa
      obtain ⟨_, _, ⟨T4, L4, k4, n4⟩, -, X4, ⟨Lc4, hQ4, l4, y4, z4⟩, st4⟩ := Xl.virtualBack hx (y := (⟨"java/lang/String", "charAt", "(I)C"⟩ : MethodName)) (z := (⟨"java/lang/String", "charAt", "(I)C"⟩ : MethodName)) hown (mvT hZ (hw _ (List.mem_of_getElem? (i := 49) rfl))) (mvT hZ (hw _ (List.mem_of_getElem? (i := 50) rfl))) (notFace_of_selects (args := #[]) (mvT hZ (hw _ (List.mem_of_getElem? (i := 52) rfl)))) (mvT hZ (hw _ (List.mem_of_getElem? (i := 52) rfl))) (mvT hZ (hw _ (List.mem_of_getElem? (i := 51) rfl))) (by decide) (own_chB (W := 0) hZ hw T_a hbd (S0.ext O0.2) hz (S4.ext O0.2) hfm (by omega) (i := i) (by omega) rfl (by decide) (by decide)) q4a q4c (g := (mkF m 9 #[.val (.ref a), .val (.int (Int32.ofNat sn)), .val (.int (Int32.ofNat en)), .val (.int (Int32.ofNat i))] [(.int (Int32.ofNat i)), (.ref a)])) rfl (by rw [hml]; rfl) (Steps.refl _) (argsL := [(.int (Int32.ofNat i))]) (rest := []) (lenOf pd_110 rfl) rfl (by show 2 * 0 + _ ≤ _; exact Nat.le_of_eq rfl) (hb hby d_prog_9_method_4_code_9) (fun _ _ => ⟨rfl, el, (by decide : 0 + 0 ≤ _), (by decide : 0 + 0 ≤ _)⟩)
      dsimp only [Pt.U, Pt.locs, Pt.cells, Pt.slots] at X4 l4 y4 z4 st4 hQ4
      subst l4 y4 z4
      obtain ⟨rfl, rfl, e4q⟩ := hQ4
      have N4 := Fr.app Nl (Fr.nil n0)
      refine gs (fun _ k => st4.trans k) ?_
      show OwnGo p e below s _ _ _ (T4.setTop (mkF m 12 #[.val (.ref a), .val (.int (Int32.ofNat sn)), .val (.int (Int32.ofNat en)), .val (.int (Int32.ofNat i))] [(.int (cs.getD i 0))]))
      have c5 : ∀ tg, Steps p.tables e below (T4.setTop (mkF m 14 #[.val (.ref a), .val (.int (Int32.ofNat sn)), .val (.int (Int32.ofNat en)), .val (.int (Int32.ofNat i))] [(.int (48 : Int32)), (.int (cs.getD i 0))])) tg → Steps p.tables e below (T4.setTop (mkF m 12 #[.val (.ref a), .val (.int (Int32.ofNat sn)), .val (.int (Int32.ofNat en)), .val (.int (Int32.ofNat i))] [(.int (cs.getD i 0))])) tg := fun tg kg => by
        refine XS.bipush X4.here hx rfl (hb hby d_prog_9_method_4_code_12) ?_
        show Steps p.tables e below (T4.setTop (mkF m 14 #[.val (.ref a), .val (.int (Int32.ofNat sn)), .val (.int (Int32.ofNat en)), .val (.int (Int32.ofNat i))] [(.int (48 : Int32)), (.int (cs.getD i 0))])) tg
        exact kg
      refine gs c5 ?_
      by_cases hc6 : (cs.getD i 0) < (48 : Int32)
      · have c7 : ∀ tg, Steps p.tables e below (T4.setTop (mkF m 34 #[.val (.ref a), .val (.int (Int32.ofNat sn)), .val (.int (Int32.ofNat en)), .val (.int (Int32.ofNat i))] [(.int (Int32.ofNat i))])) tg → Steps p.tables e below (T4.setTop (mkF m 14 #[.val (.ref a), .val (.int (Int32.ofNat sn)), .val (.int (Int32.ofNat en)), .val (.int (Int32.ofNat i))] [(.int (48 : Int32)), (.int (cs.getD i 0))])) tg := fun tg kg => by
          refine XS.icmpYes X4.here hx rfl (pc0 := 14) (pc' := 33) rfl (hb hby d_prog_9_method_4_code_14) rfl (tlt hc6).1 (by decide) (by decide) ?_
          show Steps p.tables e below (T4.setTop (mkF m 33 #[.val (.ref a), .val (.int (Int32.ofNat sn)), .val (.int (Int32.ofNat en)), .val (.int (Int32.ofNat i))] [])) tg
          refine XS.iloadN X4.here hx rfl (hb hby d_prog_9_method_4_code_33) rfl ?_
          show Steps p.tables e below (T4.setTop (mkF m 34 #[.val (.ref a), .val (.int (Int32.ofNat sn)), .val (.int (Int32.ofNat en)), .val (.int (Int32.ofNat i))] [(.int (Int32.ofNat i))])) tg
          exact kg
        refine gs c7 ?_
        refine gout (v := some (.int (Int32.ofNat i))) X4 Bd.notSynchronized (fun h => by rw [Bd.returns] at h; cases h) (by decide) (by decide) ?_ (fun fs hr => retI X4 hx Bd.returns (hb hby d_prog_9_method_4_code_34) hr)
        rw [e4q]
        exact ⟨by rw [hri, own_de, if_neg (fun q => q.1 hc6)], N4, rfl⟩
      · have c8 : ∀ tg, Steps p.tables e below (T4.setTop (mkF m 19 #[.val (.ref a), .val (.int (Int32.ofNat sn)), .val (.int (Int32.ofNat en)), .val (.int (Int32.ofNat i))] [(.int (Int32.ofNat i)), (.ref a)])) tg → Steps p.tables e below (T4.setTop (mkF m 14 #[.val (.ref a), .val (.int (Int32.ofNat sn)), .val (.int (Int32.ofNat en)), .val (.int (Int32.ofNat i))] [(.int (48 : Int32)), (.int (cs.getD i 0))])) tg := fun tg kg => by
          refine XS.icmpNo X4.here hx rfl (hb hby d_prog_9_method_4_code_14) rfl (flt hc6).1 ?_
          show Steps p.tables e below (T4.setTop (mkF m 17 #[.val (.ref a), .val (.int (Int32.ofNat sn)), .val (.int (Int32.ofNat en)), .val (.int (Int32.ofNat i))] [])) tg
          refine XS.aloadN X4.here hx rfl (hb hby d_prog_9_method_4_code_17) rfl rfl ?_
          show Steps p.tables e below (T4.setTop (mkF m 18 #[.val (.ref a), .val (.int (Int32.ofNat sn)), .val (.int (Int32.ofNat en)), .val (.int (Int32.ofNat i))] [(.ref a)])) tg
          refine XS.iloadN X4.here hx rfl (hb hby d_prog_9_method_4_code_18) rfl ?_
          show Steps p.tables e below (T4.setTop (mkF m 19 #[.val (.ref a), .val (.int (Int32.ofNat sn)), .val (.int (Int32.ofNat en)), .val (.int (Int32.ofNat i))] [(.int (Int32.ofNat i)), (.ref a)])) tg
          exact kg
        refine gs c8 ?_
        obtain ⟨cq9, kq9, q9a, q9b, q9c⟩ := isOf hZ e4q T_a.exa
        obtain ⟨_, _, ⟨T9, L9, k9, n9⟩, -, X9, ⟨Lc9, hQ9, l9, y9, z9⟩, st9⟩ := X4.virtualBack hx (y := (⟨"java/lang/String", "charAt", "(I)C"⟩ : MethodName)) (z := (⟨"java/lang/String", "charAt", "(I)C"⟩ : MethodName)) hown (mvT hZ (hw _ (List.mem_of_getElem? (i := 49) rfl))) (mvT hZ (hw _ (List.mem_of_getElem? (i := 50) rfl))) (notFace_of_selects (args := #[]) (mvT hZ (hw _ (List.mem_of_getElem? (i := 52) rfl)))) (mvT hZ (hw _ (List.mem_of_getElem? (i := 52) rfl))) (mvT hZ (hw _ (List.mem_of_getElem? (i := 51) rfl))) (by decide) (own_chB (W := 0) hZ hw T_a hbd (S0.ext O0.2) hz (S4.ext O0.2) hfm (by omega) (i := i) (by omega) rfl (by decide) (by decide)) q9a q9c (g := (mkF m 19 #[.val (.ref a), .val (.int (Int32.ofNat sn)), .val (.int (Int32.ofNat en)), .val (.int (Int32.ofNat i))] [(.int (Int32.ofNat i)), (.ref a)])) rfl (by rw [hml]; rfl) (Steps.refl _) (argsL := [(.int (Int32.ofNat i))]) (rest := []) (lenOf pd_110 rfl) rfl (by show 2 * 0 + _ ≤ _; exact Nat.le_of_eq rfl) (hb hby d_prog_9_method_4_code_19) (fun _ _ => ⟨rfl, e4q, (by decide : 0 + 0 ≤ _), (by decide : 0 + 0 ≤ _)⟩)
        dsimp only [Pt.U, Pt.locs, Pt.cells, Pt.slots] at X9 l9 y9 z9 st9 hQ9
        subst l9 y9 z9
        obtain ⟨rfl, rfl, e9q⟩ := hQ9
        have N9 := Fr.app N4 (Fr.nil n0)
        refine gs (fun _ k => st9.trans k) ?_
        show OwnGo p e below s _ _ _ (T9.setTop (mkF m 22 #[.val (.ref a), .val (.int (Int32.ofNat sn)), .val (.int (Int32.ofNat en)), .val (.int (Int32.ofNat i))] [(.int (cs.getD i 0))]))
        have c10 : ∀ tg, Steps p.tables e below (T9.setTop (mkF m 24 #[.val (.ref a), .val (.int (Int32.ofNat sn)), .val (.int (Int32.ofNat en)), .val (.int (Int32.ofNat i))] [(.int (57 : Int32)), (.int (cs.getD i 0))])) tg → Steps p.tables e below (T9.setTop (mkF m 22 #[.val (.ref a), .val (.int (Int32.ofNat sn)), .val (.int (Int32.ofNat en)), .val (.int (Int32.ofNat i))] [(.int (cs.getD i 0))])) tg := fun tg kg => by
          refine XS.bipush X9.here hx rfl (hb hby d_prog_9_method_4_code_22) ?_
          show Steps p.tables e below (T9.setTop (mkF m 24 #[.val (.ref a), .val (.int (Int32.ofNat sn)), .val (.int (Int32.ofNat en)), .val (.int (Int32.ofNat i))] [(.int (57 : Int32)), (.int (cs.getD i 0))])) tg
          exact kg
        refine gs c10 ?_
        by_cases hc11 : (57 : Int32) < (cs.getD i 0)
        · have c12 : ∀ tg, Steps p.tables e below (T9.setTop (mkF m 34 #[.val (.ref a), .val (.int (Int32.ofNat sn)), .val (.int (Int32.ofNat en)), .val (.int (Int32.ofNat i))] [(.int (Int32.ofNat i))])) tg → Steps p.tables e below (T9.setTop (mkF m 24 #[.val (.ref a), .val (.int (Int32.ofNat sn)), .val (.int (Int32.ofNat en)), .val (.int (Int32.ofNat i))] [(.int (57 : Int32)), (.int (cs.getD i 0))])) tg := fun tg kg => by
            refine XS.icmpYes X9.here hx rfl (pc0 := 24) (pc' := 33) rfl (hb hby d_prog_9_method_4_code_24) rfl (tlt hc11).2.2.1 (by decide) (by decide) ?_
            show Steps p.tables e below (T9.setTop (mkF m 33 #[.val (.ref a), .val (.int (Int32.ofNat sn)), .val (.int (Int32.ofNat en)), .val (.int (Int32.ofNat i))] [])) tg
            refine XS.iloadN X9.here hx rfl (hb hby d_prog_9_method_4_code_33) rfl ?_
            show Steps p.tables e below (T9.setTop (mkF m 34 #[.val (.ref a), .val (.int (Int32.ofNat sn)), .val (.int (Int32.ofNat en)), .val (.int (Int32.ofNat i))] [(.int (Int32.ofNat i))])) tg
            exact kg
          refine gs c12 ?_
          refine gout (v := some (.int (Int32.ofNat i))) X9 Bd.notSynchronized (fun h => by rw [Bd.returns] at h; cases h) (by decide) (by decide) ?_ (fun fs hr => retI X9 hx Bd.returns (hb hby d_prog_9_method_4_code_34) hr)
          rw [e9q]
          exact ⟨by rw [hri, own_de, if_neg (fun q => q.2 hc11)], N9, rfl⟩
        · have c13 : ∀ tg, Steps p.tables e below (T9.setTop (mkF m 2 #[.val (.ref a), .val (.int (Int32.ofNat sn)), .val (.int (Int32.ofNat en)), .val (.int ((Int32.ofNat i) + (1 : Int32)))] [])) tg → Steps p.tables e below (T9.setTop (mkF m 24 #[.val (.ref a), .val (.int (Int32.ofNat sn)), .val (.int (Int32.ofNat en)), .val (.int (Int32.ofNat i))] [(.int (57 : Int32)), (.int (cs.getD i 0))])) tg := fun tg kg => by
            refine XS.icmpNo X9.here hx rfl (hb hby d_prog_9_method_4_code_24) rfl (flt hc11).2.2.1 ?_
            show Steps p.tables e below (T9.setTop (mkF m 27 #[.val (.ref a), .val (.int (Int32.ofNat sn)), .val (.int (Int32.ofNat en)), .val (.int (Int32.ofNat i))] [])) tg
            refine XS.iinc X9.here hx rfl (hb hby d_prog_9_method_4_code_27) rfl (l' := #[.val (.ref a), .val (.int (Int32.ofNat sn)), .val (.int (Int32.ofNat en)), .val (.int ((Int32.ofNat i) + (1 : Int32)))]) rfl ?_
            show Steps p.tables e below (T9.setTop (mkF m 30 #[.val (.ref a), .val (.int (Int32.ofNat sn)), .val (.int (Int32.ofNat en)), .val (.int ((Int32.ofNat i) + (1 : Int32)))] [])) tg
            refine XS.goto X9.here hx rfl (pc0 := 30) (pc' := 2) rfl (hb hby d_prog_9_method_4_code_30) (by decide) (by decide) ?_
            show Steps p.tables e below (T9.setTop (mkF m 2 #[.val (.ref a), .val (.int (Int32.ofNat sn)), .val (.int (Int32.ofNat en)), .val (.int ((Int32.ofNat i) + (1 : Int32)))] [])) tg
            exact kg
          refine gs c13 ?_
          rw [own_succ]
          exact ih (i + 1) T9 _ (by omega) (by rw [hri, own_de, if_pos ⟨hc6, hc11⟩]) X9 e9q N9
  exact loop (en - sn) sn s₁ _ (by omega) hr X0 e0 N0
theorem ef_121 (m : MethodId) (x0 : Addr) (x1 : Int32) (x2 : Int32) (x3 : Int32) : entryFrame m #[(.ref x0), (.int x1), (.int x2), (.int x3)] 9 = mkF m 0 #[.val (.ref x0), .val (.int x1), .val (.int x2), .val (.int x3), .unset, .unset, .unset, .unset, .unset] [] := by first | (simp [entryFrame, mkF, argsToLocals, Value.category]; done) | rfl
theorem d_prog_9_method_3_code_23 : decode prog_9_method_3_code 23 = .ok (.istore 4, 2) := by decide +kernel
theorem d_prog_9_method_3_code_25 : decode prog_9_method_3_code 25 = .ok (.aload_n 0, 1) := by decide +kernel
theorem d_prog_9_method_3_code_26 : decode prog_9_method_3_code 26 = .ok (.iload 4, 2) := by decide +kernel
theorem d_prog_9_method_3_code_28 : decode prog_9_method_3_code 28 = .ok (.iload_n 1, 1) := by decide +kernel
theorem d_prog_9_method_3_code_29 : decode prog_9_method_3_code 29 = .ok (.invokestatic 63, 3) := by decide +kernel
theorem pd_127 : parseMethodDescriptor "(Ljava/lang/String;II)I" = some ⟨[(.object "java/lang/String"), .int, .int], some .int⟩ := by decide +kernel
theorem d_prog_9_method_3_code_32 : decode prog_9_method_3_code 32 = .ok (.istore 5, 2) := by decide +kernel
theorem d_prog_9_method_3_code_34 : decode prog_9_method_3_code 34 = .ok (.iload 5, 2) := by decide +kernel
theorem d_prog_9_method_3_code_36 : decode prog_9_method_3_code 36 = .ok (.iload 4, 2) := by decide +kernel
theorem d_prog_9_method_3_code_38 : decode prog_9_method_3_code 38 = .ok (.if_icmp .ne 5, 3) := by decide +kernel
theorem d_prog_9_method_3_code_41 : decode prog_9_method_3_code 41 = .ok (.iconst 0, 1) := by decide +kernel
theorem d_prog_9_method_3_code_42 : decode prog_9_method_3_code 42 = .ok (.ireturn, 1) := by decide +kernel
theorem d_prog_9_method_3_code_43 : decode prog_9_method_3_code 43 = .ok (.iload 5, 2) := by decide +kernel
theorem d_prog_9_method_3_code_45 : decode prog_9_method_3_code 45 = .ok (.iload_n 1, 1) := by decide +kernel
theorem d_prog_9_method_3_code_46 : decode prog_9_method_3_code 46 = .ok (.if_icmp .ge 18, 3) := by decide +kernel
theorem d_prog_9_method_3_code_49 : decode prog_9_method_3_code 49 = .ok (.aload_n 0, 1) := by decide +kernel
theorem d_prog_9_method_3_code_50 : decode prog_9_method_3_code 50 = .ok (.iload 5, 2) := by decide +kernel
theorem d_prog_9_method_3_code_52 : decode prog_9_method_3_code 52 = .ok (.invokevirtual 59, 3) := by decide +kernel
theorem d_prog_9_method_3_code_55 : decode prog_9_method_3_code 55 = .ok (.bipush 46, 2) := by decide +kernel
theorem d_prog_9_method_3_code_57 : decode prog_9_method_3_code 57 = .ok (.if_icmp .ne 7, 3) := by decide +kernel
theorem d_prog_9_method_3_code_60 : decode prog_9_method_3_code 60 = .ok (.iconst 1, 1) := by decide +kernel
theorem d_prog_9_method_3_code_61 : decode prog_9_method_3_code 61 = .ok (.goto 4, 3) := by decide +kernel
theorem d_prog_9_method_3_code_65 : decode prog_9_method_3_code 65 = .ok (.istore 6, 2) := by decide +kernel
theorem d_prog_9_method_3_code_67 : decode prog_9_method_3_code 67 = .ok (.iload 6, 2) := by decide +kernel
theorem d_prog_9_method_3_code_69 : decode prog_9_method_3_code 69 = .ok (.ifCond .eq 15, 3) := by decide +kernel
theorem d_prog_9_method_3_code_72 : decode prog_9_method_3_code 72 = .ok (.aload_n 0, 1) := by decide +kernel
theorem d_prog_9_method_3_code_73 : decode prog_9_method_3_code 73 = .ok (.iload 5, 2) := by decide +kernel
theorem d_prog_9_method_3_code_75 : decode prog_9_method_3_code 75 = .ok (.iconst 1, 1) := by decide +kernel
theorem d_prog_9_method_3_code_76 : decode prog_9_method_3_code 76 = .ok (.iadd, 1) := by decide +kernel
theorem d_prog_9_method_3_code_77 : decode prog_9_method_3_code 77 = .ok (.iload_n 1, 1) := by decide +kernel
theorem d_prog_9_method_3_code_78 : decode prog_9_method_3_code 78 = .ok (.invokestatic 63, 3) := by decide +kernel
theorem d_prog_9_method_3_code_81 : decode prog_9_method_3_code 81 = .ok (.goto 5, 3) := by decide +kernel
theorem d_prog_9_method_3_code_86 : decode prog_9_method_3_code 86 = .ok (.istore 7, 2) := by decide +kernel
theorem d_prog_9_method_3_code_88 : decode prog_9_method_3_code 88 = .ok (.iload 7, 2) := by decide +kernel
theorem d_prog_9_method_3_code_90 : decode prog_9_method_3_code 90 = .ok (.iload 5, 2) := by decide +kernel
theorem d_prog_9_method_3_code_92 : decode prog_9_method_3_code 92 = .ok (.isub, 1) := by decide +kernel
theorem d_prog_9_method_3_code_93 : decode prog_9_method_3_code 93 = .ok (.iconst 1, 1) := by decide +kernel
theorem d_prog_9_method_3_code_94 : decode prog_9_method_3_code 94 = .ok (.isub, 1) := by decide +kernel
theorem d_prog_9_method_3_code_95 : decode prog_9_method_3_code 95 = .ok (.istore 8, 2) := by decide +kernel
theorem d_prog_9_method_3_code_97 : decode prog_9_method_3_code 97 = .ok (.iload 7, 2) := by decide +kernel
theorem d_prog_9_method_3_code_99 : decode prog_9_method_3_code 99 = .ok (.iload_n 1, 1) := by decide +kernel
theorem d_prog_9_method_3_code_100 : decode prog_9_method_3_code 100 = .ok (.if_icmp .ne 24, 3) := by decide +kernel
theorem d_prog_9_method_3_code_103 : decode prog_9_method_3_code 103 = .ok (.iload 6, 2) := by decide +kernel
theorem d_prog_9_method_3_code_105 : decode prog_9_method_3_code 105 = .ok (.ifCond .eq 15, 3) := by decide +kernel
theorem d_prog_9_method_3_code_108 : decode prog_9_method_3_code 108 = .ok (.iload 8, 2) := by decide +kernel
theorem d_prog_9_method_3_code_110 : decode prog_9_method_3_code 110 = .ok (.iconst 1, 1) := by decide +kernel
theorem d_prog_9_method_3_code_111 : decode prog_9_method_3_code 111 = .ok (.if_icmp .lt 13, 3) := by decide +kernel
theorem d_prog_9_method_3_code_124 : decode prog_9_method_3_code 124 = .ok (.iconst 0, 1) := by decide +kernel
theorem d_prog_9_method_3_code_125 : decode prog_9_method_3_code 125 = .ok (.ireturn, 1) := by decide +kernel
theorem d_prog_9_method_3_code_114 : decode prog_9_method_3_code 114 = .ok (.iload 8, 2) := by decide +kernel
theorem d_prog_9_method_3_code_116 : decode prog_9_method_3_code 116 = .ok (.iload_n 3, 1) := by decide +kernel
theorem d_prog_9_method_3_code_117 : decode prog_9_method_3_code 117 = .ok (.if_icmp .gt 7, 3) := by decide +kernel
theorem d_prog_9_method_3_code_120 : decode prog_9_method_3_code 120 = .ok (.iconst 1, 1) := by decide +kernel
theorem d_prog_9_method_3_code_121 : decode prog_9_method_3_code 121 = .ok (.goto 4, 3) := by decide +kernel
theorem d_prog_9_method_3_code_64 : decode prog_9_method_3_code 64 = .ok (.iconst 0, 1) := by decide +kernel
theorem d_prog_9_method_3_code_84 : decode prog_9_method_3_code 84 = .ok (.iload 5, 2) := by decide +kernel
theorem d_prog_9_method_3_code_0 : decode prog_9_method_3_code 0 = .ok (.iload_n 2, 1) := by decide +kernel
theorem d_prog_9_method_3_code_1 : decode prog_9_method_3_code 1 = .ok (.ifCond .eq 21, 3) := by decide +kernel
theorem d_prog_9_method_3_code_22 : decode prog_9_method_3_code 22 = .ok (.iconst 0, 1) := by decide +kernel
theorem d_prog_9_method_3_code_4 : decode prog_9_method_3_code 4 = .ok (.iload_n 1, 1) := by decide +kernel
theorem d_prog_9_method_3_code_5 : decode prog_9_method_3_code 5 = .ok (.ifCond .le 17, 3) := by decide +kernel
theorem d_prog_9_method_3_code_8 : decode prog_9_method_3_code 8 = .ok (.aload_n 0, 1) := by decide +kernel
theorem d_prog_9_method_3_code_9 : decode prog_9_method_3_code 9 = .ok (.iconst 0, 1) := by decide +kernel
theorem d_prog_9_method_3_code_10 : decode prog_9_method_3_code 10 = .ok (.invokevirtual 59, 3) := by decide +kernel
theorem d_prog_9_method_3_code_13 : decode prog_9_method_3_code 13 = .ok (.bipush 45, 2) := by decide +kernel
theorem d_prog_9_method_3_code_15 : decode prog_9_method_3_code 15 = .ok (.if_icmp .ne 7, 3) := by decide +kernel
theorem d_prog_9_method_3_code_18 : decode prog_9_method_3_code 18 = .ok (.iconst 1, 1) := by decide +kernel
theorem d_prog_9_method_3_code_19 : decode prog_9_method_3_code 19 = .ok (.goto 4, 3) := by decide +kernel
set_option maxRecDepth 65536 in
set_option maxHeartbeats 40000000 in
theorem rm_iw (l : Launch) (Z : State) (a0 : Array Value) (hw : ∀ d ∈ tables_1, d.before a0 Z = true) (ws : List Jvm.Cond) (a : Addr) (cs : List Int32) (z : Int32) (fm : Value) (en : Nat) (x8 : Int32) (dd : Int32) (f : Nat) (pt : Nat) (ql : Nat) (h0 : Heap) (n0 : Nat) (Z0 : n0 ≤ h0.size) (O0 : Old Z n0 h0) (S0 : Sta Z Z.heap "java/lang/String" "COMPACT_STRINGS" "Z" (.int z)) (hz : ¬ z = 0) (S4 : Sta Z Z.heap "jdk/internal/util/Preconditions" "SIOOBE_FORMATTER" "Ljava/util/function/BiFunction;" fm) (hfm : fm.isRef = true) (T_a : Str Z h0 a cs) (hbd : ∀ c ∈ cs, ¬ c < 0 ∧ ¬ (255 : Int32) < c) (hlen : cs.length = 5) (hen : en ≤ 5) (hf : f = own_first (cs.getD 0 0) en x8) (hpt : pt = own_de cs (en - f) f) (hql : ql = own_de cs (en - (pt + 1)) (pt + 1)) :
    Ctr l Z (⟨"com/example/tranche/tranche/Decimals", "isWritten", "(Ljava/lang/String;IZI)Z"⟩ : MethodName) prog_9_method_3_code 9 ((Option.some Jvm.ClassFile.FieldType.boolean)) ws ({ frames := 5, cells := 0, slots := 0, locals := 80 } : Room) #[(.ref a), (.int (Int32.ofNat en)), (.int x8), (.int dd)] h0 (fun v h L => ∃ r : Int32, v = some (.int r) ∧ Fr n0 L ∧ h = h0 ∧ ((r = 1 ∧ own_Wp cs en dd f pt ql) ∨ (r = 0 ∧ ¬ own_Wp cs en dd f pt ql))) := by
  refine Ctr.of (MetFree.of_bodySF (plainFor_of_name pn_120) hisR ?_)
  intro p e s m args below meth c s₁ Bd hml0 hP hK
  obtain ⟨rfl, hZ, hh⟩ := hP
  have hx := Bd.exec
  have hby := Bd.bytes
  have hml : c.maxLocals = 9 := hml0
  have hown : s.vm.findClass "com/example/tranche/tranche/Decimals" = some m.cls := findClass_of_methodNamed Bd.named
  have hnm := (name_of_methodNamed Bd.named Bd.method).1
  have X0 : Stand p l e ({ frames := 5, cells := 0, slots := 0, locals := 80 } : Room) s m #[(.ref a), (.int (Int32.ofNat en)), (.int x8), (.int dd)] below meth c s₁ [] 0 0 := Stand.of_body Bd
  have e0 : s₁.heap = h0 := by rw [← hh, Bd.state]; rfl
  have N0 := Fr.nil n0
  have K0 : Keep h0 h0 [] := Keep.refl h0 []
  show OwnGo p e below s (fun v h L => ∃ r : Int32, v = some (.int r) ∧ Fr n0 L ∧ h = h0 ∧ ((r = 1 ∧ own_Wp cs en dd f pt ql) ∨ (r = 0 ∧ ¬ own_Wp cs en dd f pt ql))) ({ frames := 5, cells := 0, slots := 0, locals := 80 } : Room).cells ({ frames := 5, cells := 0, slots := 0, locals := 80 } : Room).slots _
  refine gs (S' := s₁.setTop (mkF m 0 #[.val (.ref a), .val (.int (Int32.ofNat en)), .val (.int x8), .val (.int dd), .unset, .unset, .unset, .unset, .unset] [])) (fun tg kg => castTop (ef_121 m a (Int32.ofNat en) x8 dd) kg) ?_
  have hfl : f ≤ 1 ∧ f ≤ en := by rw [hf]; exact own_first_le _ _ _ hen
  have hpl := own_de_le cs (en - f) f
  rw [← hpt] at hpl
  have mid1 : ∀ (y : Int32) (Tj1 : State) (lj1 : List Loc), (y = Int32.ofNat f) → Stand p l e ({ frames := 5, cells := 0, slots := 0, locals := 80 } : Room) s m #[(.ref a), (.int (Int32.ofNat en)), (.int x8), (.int dd)] below meth c Tj1 lj1 0 0 → Tj1.heap = h0 → Fr n0 lj1 → OwnGo p e below s (fun v h L => ∃ r : Int32, v = some (.int r) ∧ Fr n0 L ∧ h = h0 ∧ ((r = 1 ∧ own_Wp cs en dd f pt ql) ∨ (r = 0 ∧ ¬ own_Wp cs en dd f pt ql))) ({ frames := 5, cells := 0, slots := 0, locals := 80 } : Room).cells ({ frames := 5, cells := 0, slots := 0, locals := 80 } : Room).slots (Tj1.setTop (mkF m 23 #[.val (.ref a), .val (.int (Int32.ofNat en)), .val (.int x8), .val (.int dd), .unset, .unset, .unset, .unset, .unset] [(.int y)])) := by
    intro y Tj1 lj1 hy Xj1 ej1 Nj1
    subst hy
    have c2 : ∀ tg, Steps p.tables e below (Tj1.setTop (mkF m 29 #[.val (.ref a), .val (.int (Int32.ofNat en)), .val (.int x8), .val (.int dd), .val (.int (Int32.ofNat f)), .unset, .unset, .unset, .unset] [(.int (Int32.ofNat en)), (.int (Int32.ofNat f)), (.ref a)])) tg → Steps p.tables e below (Tj1.setTop (mkF m 23 #[.val (.ref a), .val (.int (Int32.ofNat en)), .val (.int x8), .val (.int dd), .unset, .unset, .unset, .unset, .unset] [(.int (Int32.ofNat f))])) tg := fun tg kg => by
      refine XS.istore Xj1.here hx rfl (hb hby d_prog_9_method_3_code_23) rfl (l' := #[.val (.ref a), .val (.int (Int32.ofNat en)), .val (.int x8), .val (.int dd), .val (.int (Int32.ofNat f)), .unset, .unset, .unset, .unset]) rfl ?_
      show Steps p.tables e below (Tj1.setTop (mkF m 25 #[.val (.ref a), .val (.int (Int32.ofNat en)), .val (.int x8), .val (.int dd), .val (.int (Int32.ofNat f)), .unset, .unset, .unset, .unset] [])) tg
      refine XS.aloadN Xj1.here hx rfl (hb hby d_prog_9_method_3_code_25) rfl rfl ?_
      show Steps p.tables e below (Tj1.setTop (mkF m 26 #[.val (.ref a), .val (.int (Int32.ofNat en)), .val (.int x8), .val (.int dd), .val (.int (Int32.ofNat f)), .unset, .unset, .unset, .unset] [(.ref a)])) tg
      refine XS.iload Xj1.here hx rfl (hb hby d_prog_9_method_3_code_26) rfl ?_
      show Steps p.tables e below (Tj1.setTop (mkF m 28 #[.val (.ref a), .val (.int (Int32.ofNat en)), .val (.int x8), .val (.int dd), .val (.int (Int32.ofNat f)), .unset, .unset, .unset, .unset] [(.int (Int32.ofNat f)), (.ref a)])) tg
      refine XS.iloadN Xj1.here hx rfl (hb hby d_prog_9_method_3_code_28) rfl ?_
      show Steps p.tables e below (Tj1.setTop (mkF m 29 #[.val (.ref a), .val (.int (Int32.ofNat en)), .val (.int x8), .val (.int dd), .val (.int (Int32.ofNat f)), .unset, .unset, .unset, .unset] [(.int (Int32.ofNat en)), (.int (Int32.ofNat f)), (.ref a)])) tg
      exact kg
    refine gs c2 ?_
    obtain ⟨_, _, ⟨T3, L3, k3, n3⟩, -, X3, ⟨Lc3, hQ3, l3, y3, z3⟩, st3⟩ := Jvm.LawKit.callS Xj1 hx (y := (⟨"com/example/tranche/tranche/Decimals", "digitsEnd", "(Ljava/lang/String;II)I"⟩ : MethodName)) hown (mvT hZ (hw _ (List.mem_of_getElem? (i := 71) rfl))) (mvT hZ (hw _ (List.mem_of_getElem? (i := 72) rfl))) (mvT hZ (hw _ (List.mem_of_getElem? (i := 47) rfl))) (mvT hZ (hw _ (List.mem_of_getElem? (i := 73) rfl))) (by decide) (backC (W := 0) (rm_de l Z a0 hw [] a cs z fm f en pt h0 n0 Z0 O0 S0 hz S4 hfm T_a hbd hlen hen hfl.2 hpt) hZ (hw _ (List.mem_of_getElem? (i := 73) rfl)) (hw _ (List.mem_of_getElem? (i := 47) rfl)) (by decide) (by decide)) (g := (mkF m 29 #[.val (.ref a), .val (.int (Int32.ofNat en)), .val (.int x8), .val (.int dd), .val (.int (Int32.ofNat f)), .unset, .unset, .unset, .unset] [(.int (Int32.ofNat en)), (.int (Int32.ofNat f)), (.ref a)])) rfl (by rw [hml]; rfl) (argsL := [(.ref a), (.int (Int32.ofNat f)), (.int (Int32.ofNat en))]) (rest := []) (lenOf pd_127 rfl) rfl (by show 2 * 0 + _ ≤ _; exact Nat.le_of_eq rfl) (hb hby d_prog_9_method_3_code_29) (fun _ _ => ⟨rfl, ej1, (by decide : 0 + 0 ≤ _), (by decide : 0 + 0 ≤ _)⟩)
    dsimp only [Pt.U, Pt.locs, Pt.cells, Pt.slots] at X3 l3 y3 z3 st3 hQ3
    subst l3 y3 z3
    obtain ⟨rfl, N3q, e3q⟩ := hQ3
    have N3 := Fr.app Nj1 N3q
    refine gs st3 ?_
    show OwnGo p e below s _ _ _ (T3.setTop (mkF m 32 #[.val (.ref a), .val (.int (Int32.ofNat en)), .val (.int x8), .val (.int dd), .val (.int (Int32.ofNat f)), .unset, .unset, .unset, .unset] [(.int (Int32.ofNat pt))]))
    have c4 : ∀ tg, Steps p.tables e below (T3.setTop (mkF m 38 #[.val (.ref a), .val (.int (Int32.ofNat en)), .val (.int x8), .val (.int dd), .val (.int (Int32.ofNat f)), .val (.int (Int32.ofNat pt)), .unset, .unset, .unset] [(.int (Int32.ofNat f)), (.int (Int32.ofNat pt))])) tg → Steps p.tables e below (T3.setTop (mkF m 32 #[.val (.ref a), .val (.int (Int32.ofNat en)), .val (.int x8), .val (.int dd), .val (.int (Int32.ofNat f)), .unset, .unset, .unset, .unset] [(.int (Int32.ofNat pt))])) tg := fun tg kg => by
      refine XS.istore X3.here hx rfl (hb hby d_prog_9_method_3_code_32) rfl (l' := #[.val (.ref a), .val (.int (Int32.ofNat en)), .val (.int x8), .val (.int dd), .val (.int (Int32.ofNat f)), .val (.int (Int32.ofNat pt)), .unset, .unset, .unset]) rfl ?_
      show Steps p.tables e below (T3.setTop (mkF m 34 #[.val (.ref a), .val (.int (Int32.ofNat en)), .val (.int x8), .val (.int dd), .val (.int (Int32.ofNat f)), .val (.int (Int32.ofNat pt)), .unset, .unset, .unset] [])) tg
      refine XS.iload X3.here hx rfl (hb hby d_prog_9_method_3_code_34) rfl ?_
      show Steps p.tables e below (T3.setTop (mkF m 36 #[.val (.ref a), .val (.int (Int32.ofNat en)), .val (.int x8), .val (.int dd), .val (.int (Int32.ofNat f)), .val (.int (Int32.ofNat pt)), .unset, .unset, .unset] [(.int (Int32.ofNat pt))])) tg
      refine XS.iload X3.here hx rfl (hb hby d_prog_9_method_3_code_36) rfl ?_
      show Steps p.tables e below (T3.setTop (mkF m 38 #[.val (.ref a), .val (.int (Int32.ofNat en)), .val (.int x8), .val (.int dd), .val (.int (Int32.ofNat f)), .val (.int (Int32.ofNat pt)), .unset, .unset, .unset] [(.int (Int32.ofNat f)), (.int (Int32.ofNat pt))])) tg
      exact kg
    refine gs c4 ?_
    by_cases hc5 : (Int32.ofNat pt) = (Int32.ofNat f)
    · have c6 : ∀ tg, Steps p.tables e below (T3.setTop (mkF m 42 #[.val (.ref a), .val (.int (Int32.ofNat en)), .val (.int x8), .val (.int dd), .val (.int (Int32.ofNat f)), .val (.int (Int32.ofNat pt)), .unset, .unset, .unset] [(.int (0 : Int32))])) tg → Steps p.tables e below (T3.setTop (mkF m 38 #[.val (.ref a), .val (.int (Int32.ofNat en)), .val (.int x8), .val (.int dd), .val (.int (Int32.ofNat f)), .val (.int (Int32.ofNat pt)), .unset, .unset, .unset] [(.int (Int32.ofNat f)), (.int (Int32.ofNat pt))])) tg := fun tg kg => by
        refine XS.icmpNo X3.here hx rfl (hb hby d_prog_9_method_3_code_38) rfl (teq hc5).2 ?_
        show Steps p.tables e below (T3.setTop (mkF m 41 #[.val (.ref a), .val (.int (Int32.ofNat en)), .val (.int x8), .val (.int dd), .val (.int (Int32.ofNat f)), .val (.int (Int32.ofNat pt)), .unset, .unset, .unset] [])) tg
        refine XS.iconst X3.here hx rfl (hb hby d_prog_9_method_3_code_41) ?_
        show Steps p.tables e below (T3.setTop (mkF m 42 #[.val (.ref a), .val (.int (Int32.ofNat en)), .val (.int x8), .val (.int dd), .val (.int (Int32.ofNat f)), .val (.int (Int32.ofNat pt)), .unset, .unset, .unset] [(.int (0 : Int32))])) tg
        exact kg
      refine gs c6 ?_
      refine gout (v := some (.int (0 : Int32))) X3 Bd.notSynchronized (fun h => by rw [Bd.returns] at h; cases h) (by decide) (by decide) ?_ (fun fs hr => retN X3 hx (t := .boolean) Bd.returns (by simp) (hb hby d_prog_9_method_3_code_42) hr)
      rw [e3q]
      exact ⟨_, rfl, N3, rfl, Or.inr ⟨rfl, fun q => q.1 hc5⟩⟩
    · have c7 : ∀ tg, Steps p.tables e below (T3.setTop (mkF m 46 #[.val (.ref a), .val (.int (Int32.ofNat en)), .val (.int x8), .val (.int dd), .val (.int (Int32.ofNat f)), .val (.int (Int32.ofNat pt)), .unset, .unset, .unset] [(.int (Int32.ofNat en)), (.int (Int32.ofNat pt))])) tg → Steps p.tables e below (T3.setTop (mkF m 38 #[.val (.ref a), .val (.int (Int32.ofNat en)), .val (.int x8), .val (.int dd), .val (.int (Int32.ofNat f)), .val (.int (Int32.ofNat pt)), .unset, .unset, .unset] [(.int (Int32.ofNat f)), (.int (Int32.ofNat pt))])) tg := fun tg kg => by
        refine XS.icmpYes X3.here hx rfl (pc0 := 38) (pc' := 43) rfl (hb hby d_prog_9_method_3_code_38) rfl (feq hc5).2 (by decide) (by decide) ?_
        show Steps p.tables e below (T3.setTop (mkF m 43 #[.val (.ref a), .val (.int (Int32.ofNat en)), .val (.int x8), .val (.int dd), .val (.int (Int32.ofNat f)), .val (.int (Int32.ofNat pt)), .unset, .unset, .unset] [])) tg
        refine XS.iload X3.here hx rfl (hb hby d_prog_9_method_3_code_43) rfl ?_
        show Steps p.tables e below (T3.setTop (mkF m 45 #[.val (.ref a), .val (.int (Int32.ofNat en)), .val (.int x8), .val (.int dd), .val (.int (Int32.ofNat f)), .val (.int (Int32.ofNat pt)), .unset, .unset, .unset] [(.int (Int32.ofNat pt))])) tg
        refine XS.iloadN X3.here hx rfl (hb hby d_prog_9_method_3_code_45) rfl ?_
        show Steps p.tables e below (T3.setTop (mkF m 46 #[.val (.ref a), .val (.int (Int32.ofNat en)), .val (.int x8), .val (.int dd), .val (.int (Int32.ofNat f)), .val (.int (Int32.ofNat pt)), .unset, .unset, .unset] [(.int (Int32.ofNat en)), (.int (Int32.ofNat pt))])) tg
        exact kg
      refine gs c7 ?_
      by_cases hc8 : (Int32.ofNat pt) < (Int32.ofNat en)
      · have c9 : ∀ tg, Steps p.tables e below (T3.setTop (mkF m 52 #[.val (.ref a), .val (.int (Int32.ofNat en)), .val (.int x8), .val (.int dd), .val (.int (Int32.ofNat f)), .val (.int (Int32.ofNat pt)), .unset, .unset, .unset] [(.int (Int32.ofNat pt)), (.ref a)])) tg → Steps p.tables e below (T3.setTop (mkF m 46 #[.val (.ref a), .val (.int (Int32.ofNat en)), .val (.int x8), .val (.int dd), .val (.int (Int32.ofNat f)), .val (.int (Int32.ofNat pt)), .unset, .unset, .unset] [(.int (Int32.ofNat en)), (.int (Int32.ofNat pt))])) tg := fun tg kg => by
          refine XS.icmpNo X3.here hx rfl (hb hby d_prog_9_method_3_code_46) rfl (tlt hc8).2.1 ?_
          show Steps p.tables e below (T3.setTop (mkF m 49 #[.val (.ref a), .val (.int (Int32.ofNat en)), .val (.int x8), .val (.int dd), .val (.int (Int32.ofNat f)), .val (.int (Int32.ofNat pt)), .unset, .unset, .unset] [])) tg
          refine XS.aloadN X3.here hx rfl (hb hby d_prog_9_method_3_code_49) rfl rfl ?_
          show Steps p.tables e below (T3.setTop (mkF m 50 #[.val (.ref a), .val (.int (Int32.ofNat en)), .val (.int x8), .val (.int dd), .val (.int (Int32.ofNat f)), .val (.int (Int32.ofNat pt)), .unset, .unset, .unset] [(.ref a)])) tg
          refine XS.iload X3.here hx rfl (hb hby d_prog_9_method_3_code_50) rfl ?_
          show Steps p.tables e below (T3.setTop (mkF m 52 #[.val (.ref a), .val (.int (Int32.ofNat en)), .val (.int x8), .val (.int dd), .val (.int (Int32.ofNat f)), .val (.int (Int32.ofNat pt)), .unset, .unset, .unset] [(.int (Int32.ofNat pt)), (.ref a)])) tg
          exact kg
        refine gs c9 ?_
        obtain ⟨cq10, kq10, q10a, q10b, q10c⟩ := isOf hZ e3q T_a.exa
        obtain ⟨_, _, ⟨T10, L10, k10, n10⟩, -, X10, ⟨Lc10, hQ10, l10, y10, z10⟩, st10⟩ := X3.virtualBack hx (y := (⟨"java/lang/String", "charAt", "(I)C"⟩ : MethodName)) (z := (⟨"java/lang/String", "charAt", "(I)C"⟩ : MethodName)) hown (mvT hZ (hw _ (List.mem_of_getElem? (i := 49) rfl))) (mvT hZ (hw _ (List.mem_of_getElem? (i := 50) rfl))) (notFace_of_selects (args := #[]) (mvT hZ (hw _ (List.mem_of_getElem? (i := 52) rfl)))) (mvT hZ (hw _ (List.mem_of_getElem? (i := 52) rfl))) (mvT hZ (hw _ (List.mem_of_getElem? (i := 51) rfl))) (by decide) (own_chB (W := 0) hZ hw T_a hbd (S0.ext O0.2) hz (S4.ext O0.2) hfm (by omega) (i := pt) (by have := (own_lt (by omega) (by omega)).mp hc8; omega) rfl (by decide) (by decide)) q10a q10c (g := (mkF m 52 #[.val (.ref a), .val (.int (Int32.ofNat en)), .val (.int x8), .val (.int dd), .val (.int (Int32.ofNat f)), .val (.int (Int32.ofNat pt)), .unset, .unset, .unset] [(.int (Int32.ofNat pt)), (.ref a)])) rfl (by rw [hml]; rfl) (Steps.refl _) (argsL := [(.int (Int32.ofNat pt))]) (rest := []) (lenOf pd_110 rfl) rfl (by show 2 * 0 + _ ≤ _; exact Nat.le_of_eq rfl) (hb hby d_prog_9_method_3_code_52) (fun _ _ => ⟨rfl, e3q, (by decide : 0 + 0 ≤ _), (by decide : 0 + 0 ≤ _)⟩)
        dsimp only [Pt.U, Pt.locs, Pt.cells, Pt.slots] at X10 l10 y10 z10 st10 hQ10
        subst l10 y10 z10
        obtain ⟨rfl, rfl, e10q⟩ := hQ10
        have N10 := Fr.app N3 (Fr.nil n0)
        refine gs (fun _ k => st10.trans k) ?_
        show OwnGo p e below s _ _ _ (T10.setTop (mkF m 55 #[.val (.ref a), .val (.int (Int32.ofNat en)), .val (.int x8), .val (.int dd), .val (.int (Int32.ofNat f)), .val (.int (Int32.ofNat pt)), .unset, .unset, .unset] [(.int (cs.getD pt 0))]))
        have c11 : ∀ tg, Steps p.tables e below (T10.setTop (mkF m 57 #[.val (.ref a), .val (.int (Int32.ofNat en)), .val (.int x8), .val (.int dd), .val (.int (Int32.ofNat f)), .val (.int (Int32.ofNat pt)), .unset, .unset, .unset] [(.int (46 : Int32)), (.int (cs.getD pt 0))])) tg → Steps p.tables e below (T10.setTop (mkF m 55 #[.val (.ref a), .val (.int (Int32.ofNat en)), .val (.int x8), .val (.int dd), .val (.int (Int32.ofNat f)), .val (.int (Int32.ofNat pt)), .unset, .unset, .unset] [(.int (cs.getD pt 0))])) tg := fun tg kg => by
          refine XS.bipush X10.here hx rfl (hb hby d_prog_9_method_3_code_55) ?_
          show Steps p.tables e below (T10.setTop (mkF m 57 #[.val (.ref a), .val (.int (Int32.ofNat en)), .val (.int x8), .val (.int dd), .val (.int (Int32.ofNat f)), .val (.int (Int32.ofNat pt)), .unset, .unset, .unset] [(.int (46 : Int32)), (.int (cs.getD pt 0))])) tg
          exact kg
        refine gs c11 ?_
        by_cases hc12 : (cs.getD pt 0) = (46 : Int32)
        · have c13 : ∀ tg, Steps p.tables e below (T10.setTop (mkF m 77 #[.val (.ref a), .val (.int (Int32.ofNat en)), .val (.int x8), .val (.int dd), .val (.int (Int32.ofNat f)), .val (.int (Int32.ofNat pt)), .val (.int (1 : Int32)), .unset, .unset] [(.int ((Int32.ofNat pt) + (1 : Int32))), (.ref a)])) tg → Steps p.tables e below (T10.setTop (mkF m 57 #[.val (.ref a), .val (.int (Int32.ofNat en)), .val (.int x8), .val (.int dd), .val (.int (Int32.ofNat f)), .val (.int (Int32.ofNat pt)), .unset, .unset, .unset] [(.int (46 : Int32)), (.int (cs.getD pt 0))])) tg := fun tg kg => by
            refine XS.icmpNo X10.here hx rfl (hb hby d_prog_9_method_3_code_57) rfl (teq hc12).2 ?_
            show Steps p.tables e below (T10.setTop (mkF m 60 #[.val (.ref a), .val (.int (Int32.ofNat en)), .val (.int x8), .val (.int dd), .val (.int (Int32.ofNat f)), .val (.int (Int32.ofNat pt)), .unset, .unset, .unset] [])) tg
            refine XS.iconst X10.here hx rfl (hb hby d_prog_9_method_3_code_60) ?_
            show Steps p.tables e below (T10.setTop (mkF m 61 #[.val (.ref a), .val (.int (Int32.ofNat en)), .val (.int x8), .val (.int dd), .val (.int (Int32.ofNat f)), .val (.int (Int32.ofNat pt)), .unset, .unset, .unset] [(.int (1 : Int32))])) tg
            refine XS.goto X10.here hx rfl (pc0 := 61) (pc' := 65) rfl (hb hby d_prog_9_method_3_code_61) (by decide) (by decide) ?_
            show Steps p.tables e below (T10.setTop (mkF m 65 #[.val (.ref a), .val (.int (Int32.ofNat en)), .val (.int x8), .val (.int dd), .val (.int (Int32.ofNat f)), .val (.int (Int32.ofNat pt)), .unset, .unset, .unset] [(.int (1 : Int32))])) tg
            refine XS.istore X10.here hx rfl (hb hby d_prog_9_method_3_code_65) rfl (l' := #[.val (.ref a), .val (.int (Int32.ofNat en)), .val (.int x8), .val (.int dd), .val (.int (Int32.ofNat f)), .val (.int (Int32.ofNat pt)), .val (.int (1 : Int32)), .unset, .unset]) rfl ?_
            show Steps p.tables e below (T10.setTop (mkF m 67 #[.val (.ref a), .val (.int (Int32.ofNat en)), .val (.int x8), .val (.int dd), .val (.int (Int32.ofNat f)), .val (.int (Int32.ofNat pt)), .val (.int (1 : Int32)), .unset, .unset] [])) tg
            refine XS.iload X10.here hx rfl (hb hby d_prog_9_method_3_code_67) rfl ?_
            show Steps p.tables e below (T10.setTop (mkF m 69 #[.val (.ref a), .val (.int (Int32.ofNat en)), .val (.int x8), .val (.int dd), .val (.int (Int32.ofNat f)), .val (.int (Int32.ofNat pt)), .val (.int (1 : Int32)), .unset, .unset] [(.int (1 : Int32))])) tg
            refine XS.ifNo X10.here hx rfl (hb hby d_prog_9_method_3_code_69) rfl ((if0 _ _).trans (feq (by decide : ¬ ((1 : Int32) = (0 : Int32)))).1) ?_
            show Steps p.tables e below (T10.setTop (mkF m 72 #[.val (.ref a), .val (.int (Int32.ofNat en)), .val (.int x8), .val (.int dd), .val (.int (Int32.ofNat f)), .val (.int (Int32.ofNat pt)), .val (.int (1 : Int32)), .unset, .unset] [])) tg
            refine XS.aloadN X10.here hx rfl (hb hby d_prog_9_method_3_code_72) rfl rfl ?_
            show Steps p.tables e below (T10.setTop (mkF m 73 #[.val (.ref a), .val (.int (Int32.ofNat en)), .val (.int x8), .val (.int dd), .val (.int (Int32.ofNat f)), .val (.int (Int32.ofNat pt)), .val (.int (1 : Int32)), .unset, .unset] [(.ref a)])) tg
            refine XS.iload X10.here hx rfl (hb hby d_prog_9_method_3_code_73) rfl ?_
            show Steps p.tables e below (T10.setTop (mkF m 75 #[.val (.ref a), .val (.int (Int32.ofNat en)), .val (.int x8), .val (.int dd), .val (.int (Int32.ofNat f)), .val (.int (Int32.ofNat pt)), .val (.int (1 : Int32)), .unset, .unset] [(.int (Int32.ofNat pt)), (.ref a)])) tg
            refine XS.iconst X10.here hx rfl (hb hby d_prog_9_method_3_code_75) ?_
            show Steps p.tables e below (T10.setTop (mkF m 76 #[.val (.ref a), .val (.int (Int32.ofNat en)), .val (.int x8), .val (.int dd), .val (.int (Int32.ofNat f)), .val (.int (Int32.ofNat pt)), .val (.int (1 : Int32)), .unset, .unset] [(.int (1 : Int32)), (.int (Int32.ofNat pt)), (.ref a)])) tg
            refine XS.iadd X10.here hx rfl (hb hby d_prog_9_method_3_code_76) rfl ?_
            show Steps p.tables e below (T10.setTop (mkF m 77 #[.val (.ref a), .val (.int (Int32.ofNat en)), .val (.int x8), .val (.int dd), .val (.int (Int32.ofNat f)), .val (.int (Int32.ofNat pt)), .val (.int (1 : Int32)), .unset, .unset] [(.int ((Int32.ofNat pt) + (1 : Int32))), (.ref a)])) tg
            exact kg
          refine gs c13 ?_
          rw [own_succ]
          show OwnGo p e below s _ _ _ (T10.setTop (mkF m 77 #[.val (.ref a), .val (.int (Int32.ofNat en)), .val (.int x8), .val (.int dd), .val (.int (Int32.ofNat f)), .val (.int (Int32.ofNat pt)), .val (.int (1 : Int32)), .unset, .unset] [(.int (Int32.ofNat (pt + 1))), (.ref a)]))
          have c14 : ∀ tg, Steps p.tables e below (T10.setTop (mkF m 78 #[.val (.ref a), .val (.int (Int32.ofNat en)), .val (.int x8), .val (.int dd), .val (.int (Int32.ofNat f)), .val (.int (Int32.ofNat pt)), .val (.int (1 : Int32)), .unset, .unset] [(.int (Int32.ofNat en)), (.int (Int32.ofNat (pt + 1))), (.ref a)])) tg → Steps p.tables e below (T10.setTop (mkF m 77 #[.val (.ref a), .val (.int (Int32.ofNat en)), .val (.int x8), .val (.int dd), .val (.int (Int32.ofNat f)), .val (.int (Int32.ofNat pt)), .val (.int (1 : Int32)), .unset, .unset] [(.int (Int32.ofNat (pt + 1))), (.ref a)])) tg := fun tg kg => by
            refine XS.iloadN X10.here hx rfl (hb hby d_prog_9_method_3_code_77) rfl ?_
            show Steps p.tables e below (T10.setTop (mkF m 78 #[.val (.ref a), .val (.int (Int32.ofNat en)), .val (.int x8), .val (.int dd), .val (.int (Int32.ofNat f)), .val (.int (Int32.ofNat pt)), .val (.int (1 : Int32)), .unset, .unset] [(.int (Int32.ofNat en)), (.int (Int32.ofNat (pt + 1))), (.ref a)])) tg
            exact kg
          refine gs c14 ?_
          obtain ⟨_, _, ⟨T15, L15, k15, n15⟩, -, X15, ⟨Lc15, hQ15, l15, y15, z15⟩, st15⟩ := Jvm.LawKit.callS X10 hx (y := (⟨"com/example/tranche/tranche/Decimals", "digitsEnd", "(Ljava/lang/String;II)I"⟩ : MethodName)) hown (mvT hZ (hw _ (List.mem_of_getElem? (i := 71) rfl))) (mvT hZ (hw _ (List.mem_of_getElem? (i := 72) rfl))) (mvT hZ (hw _ (List.mem_of_getElem? (i := 47) rfl))) (mvT hZ (hw _ (List.mem_of_getElem? (i := 73) rfl))) (by decide) (backC (W := 0) (rm_de l Z a0 hw [] a cs z fm (pt + 1) en ql h0 n0 Z0 O0 S0 hz S4 hfm T_a hbd hlen hen (by have := (own_lt (by omega) (by omega)).mp hc8; omega) hql) hZ (hw _ (List.mem_of_getElem? (i := 73) rfl)) (hw _ (List.mem_of_getElem? (i := 47) rfl)) (by decide) (by decide)) (g := (mkF m 78 #[.val (.ref a), .val (.int (Int32.ofNat en)), .val (.int x8), .val (.int dd), .val (.int (Int32.ofNat f)), .val (.int (Int32.ofNat pt)), .val (.int (1 : Int32)), .unset, .unset] [(.int (Int32.ofNat en)), (.int (Int32.ofNat (pt + 1))), (.ref a)])) rfl (by rw [hml]; rfl) (argsL := [(.ref a), (.int (Int32.ofNat (pt + 1))), (.int (Int32.ofNat en))]) (rest := []) (lenOf pd_127 rfl) rfl (by show 2 * 0 + _ ≤ _; exact Nat.le_of_eq rfl) (hb hby d_prog_9_method_3_code_78) (fun _ _ => ⟨rfl, e10q, (by decide : 0 + 0 ≤ _), (by decide : 0 + 0 ≤ _)⟩)
          dsimp only [Pt.U, Pt.locs, Pt.cells, Pt.slots] at X15 l15 y15 z15 st15 hQ15
          subst l15 y15 z15
          obtain ⟨rfl, N15q, e15q⟩ := hQ15
          have N15 := Fr.app N10 N15q
          refine gs st15 ?_
          show OwnGo p e below s _ _ _ (T15.setTop (mkF m 81 #[.val (.ref a), .val (.int (Int32.ofNat en)), .val (.int x8), .val (.int dd), .val (.int (Int32.ofNat f)), .val (.int (Int32.ofNat pt)), .val (.int (1 : Int32)), .unset, .unset] [(.int (Int32.ofNat ql))]))
          have c16 : ∀ tg, Steps p.tables e below (T15.setTop (mkF m 100 #[.val (.ref a), .val (.int (Int32.ofNat en)), .val (.int x8), .val (.int dd), .val (.int (Int32.ofNat f)), .val (.int (Int32.ofNat pt)), .val (.int (1 : Int32)), .val (.int (Int32.ofNat ql)), .val (.int (((Int32.ofNat ql) - (Int32.ofNat pt)) - (1 : Int32)))] [(.int (Int32.ofNat en)), (.int (Int32.ofNat ql))])) tg → Steps p.tables e below (T15.setTop (mkF m 81 #[.val (.ref a), .val (.int (Int32.ofNat en)), .val (.int x8), .val (.int dd), .val (.int (Int32.ofNat f)), .val (.int (Int32.ofNat pt)), .val (.int (1 : Int32)), .unset, .unset] [(.int (Int32.ofNat ql))])) tg := fun tg kg => by
            refine XS.goto X15.here hx rfl (pc0 := 81) (pc' := 86) rfl (hb hby d_prog_9_method_3_code_81) (by decide) (by decide) ?_
            show Steps p.tables e below (T15.setTop (mkF m 86 #[.val (.ref a), .val (.int (Int32.ofNat en)), .val (.int x8), .val (.int dd), .val (.int (Int32.ofNat f)), .val (.int (Int32.ofNat pt)), .val (.int (1 : Int32)), .unset, .unset] [(.int (Int32.ofNat ql))])) tg
            refine XS.istore X15.here hx rfl (hb hby d_prog_9_method_3_code_86) rfl (l' := #[.val (.ref a), .val (.int (Int32.ofNat en)), .val (.int x8), .val (.int dd), .val (.int (Int32.ofNat f)), .val (.int (Int32.ofNat pt)), .val (.int (1 : Int32)), .val (.int (Int32.ofNat ql)), .unset]) rfl ?_
            show Steps p.tables e below (T15.setTop (mkF m 88 #[.val (.ref a), .val (.int (Int32.ofNat en)), .val (.int x8), .val (.int dd), .val (.int (Int32.ofNat f)), .val (.int (Int32.ofNat pt)), .val (.int (1 : Int32)), .val (.int (Int32.ofNat ql)), .unset] [])) tg
            refine XS.iload X15.here hx rfl (hb hby d_prog_9_method_3_code_88) rfl ?_
            show Steps p.tables e below (T15.setTop (mkF m 90 #[.val (.ref a), .val (.int (Int32.ofNat en)), .val (.int x8), .val (.int dd), .val (.int (Int32.ofNat f)), .val (.int (Int32.ofNat pt)), .val (.int (1 : Int32)), .val (.int (Int32.ofNat ql)), .unset] [(.int (Int32.ofNat ql))])) tg
            refine XS.iload X15.here hx rfl (hb hby d_prog_9_method_3_code_90) rfl ?_
            show Steps p.tables e below (T15.setTop (mkF m 92 #[.val (.ref a), .val (.int (Int32.ofNat en)), .val (.int x8), .val (.int dd), .val (.int (Int32.ofNat f)), .val (.int (Int32.ofNat pt)), .val (.int (1 : Int32)), .val (.int (Int32.ofNat ql)), .unset] [(.int (Int32.ofNat pt)), (.int (Int32.ofNat ql))])) tg
            refine XS.isub X15.here hx rfl (hb hby d_prog_9_method_3_code_92) rfl ?_
            show Steps p.tables e below (T15.setTop (mkF m 93 #[.val (.ref a), .val (.int (Int32.ofNat en)), .val (.int x8), .val (.int dd), .val (.int (Int32.ofNat f)), .val (.int (Int32.ofNat pt)), .val (.int (1 : Int32)), .val (.int (Int32.ofNat ql)), .unset] [(.int ((Int32.ofNat ql) - (Int32.ofNat pt)))])) tg
            refine XS.iconst X15.here hx rfl (hb hby d_prog_9_method_3_code_93) ?_
            show Steps p.tables e below (T15.setTop (mkF m 94 #[.val (.ref a), .val (.int (Int32.ofNat en)), .val (.int x8), .val (.int dd), .val (.int (Int32.ofNat f)), .val (.int (Int32.ofNat pt)), .val (.int (1 : Int32)), .val (.int (Int32.ofNat ql)), .unset] [(.int (1 : Int32)), (.int ((Int32.ofNat ql) - (Int32.ofNat pt)))])) tg
            refine XS.isub X15.here hx rfl (hb hby d_prog_9_method_3_code_94) rfl ?_
            show Steps p.tables e below (T15.setTop (mkF m 95 #[.val (.ref a), .val (.int (Int32.ofNat en)), .val (.int x8), .val (.int dd), .val (.int (Int32.ofNat f)), .val (.int (Int32.ofNat pt)), .val (.int (1 : Int32)), .val (.int (Int32.ofNat ql)), .unset] [(.int (((Int32.ofNat ql) - (Int32.ofNat pt)) - (1 : Int32)))])) tg
            refine XS.istore X15.here hx rfl (hb hby d_prog_9_method_3_code_95) rfl (l' := #[.val (.ref a), .val (.int (Int32.ofNat en)), .val (.int x8), .val (.int dd), .val (.int (Int32.ofNat f)), .val (.int (Int32.ofNat pt)), .val (.int (1 : Int32)), .val (.int (Int32.ofNat ql)), .val (.int (((Int32.ofNat ql) - (Int32.ofNat pt)) - (1 : Int32)))]) rfl ?_
            show Steps p.tables e below (T15.setTop (mkF m 97 #[.val (.ref a), .val (.int (Int32.ofNat en)), .val (.int x8), .val (.int dd), .val (.int (Int32.ofNat f)), .val (.int (Int32.ofNat pt)), .val (.int (1 : Int32)), .val (.int (Int32.ofNat ql)), .val (.int (((Int32.ofNat ql) - (Int32.ofNat pt)) - (1 : Int32)))] [])) tg
            refine XS.iload X15.here hx rfl (hb hby d_prog_9_method_3_code_97) rfl ?_
            show Steps p.tables e below (T15.setTop (mkF m 99 #[.val (.ref a), .val (.int (Int32.ofNat en)), .val (.int x8), .val (.int dd), .val (.int (Int32.ofNat f)), .val (.int (Int32.ofNat pt)), .val (.int (1 : Int32)), .val (.int (Int32.ofNat ql)), .val (.int (((Int32.ofNat ql) - (Int32.ofNat pt)) - (1 : Int32)))] [(.int (Int32.ofNat ql))])) tg
            refine XS.iloadN X15.here hx rfl (hb hby d_prog_9_method_3_code_99) rfl ?_
            show Steps p.tables e below (T15.setTop (mkF m 100 #[.val (.ref a), .val (.int (Int32.ofNat en)), .val (.int x8), .val (.int dd), .val (.int (Int32.ofNat f)), .val (.int (Int32.ofNat pt)), .val (.int (1 : Int32)), .val (.int (Int32.ofNat ql)), .val (.int (((Int32.ofNat ql) - (Int32.ofNat pt)) - (1 : Int32)))] [(.int (Int32.ofNat en)), (.int (Int32.ofNat ql))])) tg
            exact kg
          refine gs c16 ?_
          by_cases hc17 : (Int32.ofNat ql) = (Int32.ofNat en)
          · have c18 : ∀ tg, Steps p.tables e below (T15.setTop (mkF m 111 #[.val (.ref a), .val (.int (Int32.ofNat en)), .val (.int x8), .val (.int dd), .val (.int (Int32.ofNat f)), .val (.int (Int32.ofNat pt)), .val (.int (1 : Int32)), .val (.int (Int32.ofNat ql)), .val (.int (((Int32.ofNat ql) - (Int32.ofNat pt)) - (1 : Int32)))] [(.int (1 : Int32)), (.int (((Int32.ofNat ql) - (Int32.ofNat pt)) - (1 : Int32)))])) tg → Steps p.tables e below (T15.setTop (mkF m 100 #[.val (.ref a), .val (.int (Int32.ofNat en)), .val (.int x8), .val (.int dd), .val (.int (Int32.ofNat f)), .val (.int (Int32.ofNat pt)), .val (.int (1 : Int32)), .val (.int (Int32.ofNat ql)), .val (.int (((Int32.ofNat ql) - (Int32.ofNat pt)) - (1 : Int32)))] [(.int (Int32.ofNat en)), (.int (Int32.ofNat ql))])) tg := fun tg kg => by
              refine XS.icmpNo X15.here hx rfl (hb hby d_prog_9_method_3_code_100) rfl (teq hc17).2 ?_
              show Steps p.tables e below (T15.setTop (mkF m 103 #[.val (.ref a), .val (.int (Int32.ofNat en)), .val (.int x8), .val (.int dd), .val (.int (Int32.ofNat f)), .val (.int (Int32.ofNat pt)), .val (.int (1 : Int32)), .val (.int (Int32.ofNat ql)), .val (.int (((Int32.ofNat ql) - (Int32.ofNat pt)) - (1 : Int32)))] [])) tg
              refine XS.iload X15.here hx rfl (hb hby d_prog_9_method_3_code_103) rfl ?_
              show Steps p.tables e below (T15.setTop (mkF m 105 #[.val (.ref a), .val (.int (Int32.ofNat en)), .val (.int x8), .val (.int dd), .val (.int (Int32.ofNat f)), .val (.int (Int32.ofNat pt)), .val (.int (1 : Int32)), .val (.int (Int32.ofNat ql)), .val (.int (((Int32.ofNat ql) - (Int32.ofNat pt)) - (1 : Int32)))] [(.int (1 : Int32))])) tg
              refine XS.ifNo X15.here hx rfl (hb hby d_prog_9_method_3_code_105) rfl ((if0 _ _).trans (feq (by decide : ¬ ((1 : Int32) = (0 : Int32)))).1) ?_
              show Steps p.tables e below (T15.setTop (mkF m 108 #[.val (.ref a), .val (.int (Int32.ofNat en)), .val (.int x8), .val (.int dd), .val (.int (Int32.ofNat f)), .val (.int (Int32.ofNat pt)), .val (.int (1 : Int32)), .val (.int (Int32.ofNat ql)), .val (.int (((Int32.ofNat ql) - (Int32.ofNat pt)) - (1 : Int32)))] [])) tg
              refine XS.iload X15.here hx rfl (hb hby d_prog_9_method_3_code_108) rfl ?_
              show Steps p.tables e below (T15.setTop (mkF m 110 #[.val (.ref a), .val (.int (Int32.ofNat en)), .val (.int x8), .val (.int dd), .val (.int (Int32.ofNat f)), .val (.int (Int32.ofNat pt)), .val (.int (1 : Int32)), .val (.int (Int32.ofNat ql)), .val (.int (((Int32.ofNat ql) - (Int32.ofNat pt)) - (1 : Int32)))] [(.int (((Int32.ofNat ql) - (Int32.ofNat pt)) - (1 : Int32)))])) tg
              refine XS.iconst X15.here hx rfl (hb hby d_prog_9_method_3_code_110) ?_
              show Steps p.tables e below (T15.setTop (mkF m 111 #[.val (.ref a), .val (.int (Int32.ofNat en)), .val (.int x8), .val (.int dd), .val (.int (Int32.ofNat f)), .val (.int (Int32.ofNat pt)), .val (.int (1 : Int32)), .val (.int (Int32.ofNat ql)), .val (.int (((Int32.ofNat ql) - (Int32.ofNat pt)) - (1 : Int32)))] [(.int (1 : Int32)), (.int (((Int32.ofNat ql) - (Int32.ofNat pt)) - (1 : Int32)))])) tg
              exact kg
            refine gs c18 ?_
            by_cases hc19 : (((Int32.ofNat ql) - (Int32.ofNat pt)) - (1 : Int32)) < (1 : Int32)
            · have c20 : ∀ tg, Steps p.tables e below (T15.setTop (mkF m 125 #[.val (.ref a), .val (.int (Int32.ofNat en)), .val (.int x8), .val (.int dd), .val (.int (Int32.ofNat f)), .val (.int (Int32.ofNat pt)), .val (.int (1 : Int32)), .val (.int (Int32.ofNat ql)), .val (.int (((Int32.ofNat ql) - (Int32.ofNat pt)) - (1 : Int32)))] [(.int (0 : Int32))])) tg → Steps p.tables e below (T15.setTop (mkF m 111 #[.val (.ref a), .val (.int (Int32.ofNat en)), .val (.int x8), .val (.int dd), .val (.int (Int32.ofNat f)), .val (.int (Int32.ofNat pt)), .val (.int (1 : Int32)), .val (.int (Int32.ofNat ql)), .val (.int (((Int32.ofNat ql) - (Int32.ofNat pt)) - (1 : Int32)))] [(.int (1 : Int32)), (.int (((Int32.ofNat ql) - (Int32.ofNat pt)) - (1 : Int32)))])) tg := fun tg kg => by
                refine XS.icmpYes X15.here hx rfl (pc0 := 111) (pc' := 124) rfl (hb hby d_prog_9_method_3_code_111) rfl (tlt hc19).1 (by decide) (by decide) ?_
                show Steps p.tables e below (T15.setTop (mkF m 124 #[.val (.ref a), .val (.int (Int32.ofNat en)), .val (.int x8), .val (.int dd), .val (.int (Int32.ofNat f)), .val (.int (Int32.ofNat pt)), .val (.int (1 : Int32)), .val (.int (Int32.ofNat ql)), .val (.int (((Int32.ofNat ql) - (Int32.ofNat pt)) - (1 : Int32)))] [])) tg
                refine XS.iconst X15.here hx rfl (hb hby d_prog_9_method_3_code_124) ?_
                show Steps p.tables e below (T15.setTop (mkF m 125 #[.val (.ref a), .val (.int (Int32.ofNat en)), .val (.int x8), .val (.int dd), .val (.int (Int32.ofNat f)), .val (.int (Int32.ofNat pt)), .val (.int (1 : Int32)), .val (.int (Int32.ofNat ql)), .val (.int (((Int32.ofNat ql) - (Int32.ofNat pt)) - (1 : Int32)))] [(.int (0 : Int32))])) tg
                exact kg
              refine gs c20 ?_
              refine gout (v := some (.int (0 : Int32))) X15 Bd.notSynchronized (fun h => by rw [Bd.returns] at h; cases h) (by decide) (by decide) ?_ (fun fs hr => retN X15 hx (t := .boolean) Bd.returns (by simp) (hb hby d_prog_9_method_3_code_125) hr)
              rw [e15q]
              exact ⟨_, rfl, N15, rfl, Or.inr ⟨rfl, fun q => q.2.elim (fun q => q.2.2.1 hc19) (fun q => q.1 ⟨hc8, hc12⟩)⟩⟩
            · have c21 : ∀ tg, Steps p.tables e below (T15.setTop (mkF m 117 #[.val (.ref a), .val (.int (Int32.ofNat en)), .val (.int x8), .val (.int dd), .val (.int (Int32.ofNat f)), .val (.int (Int32.ofNat pt)), .val (.int (1 : Int32)), .val (.int (Int32.ofNat ql)), .val (.int (((Int32.ofNat ql) - (Int32.ofNat pt)) - (1 : Int32)))] [(.int dd), (.int (((Int32.ofNat ql) - (Int32.ofNat pt)) - (1 : Int32)))])) tg → Steps p.tables e below (T15.setTop (mkF m 111 #[.val (.ref a), .val (.int (Int32.ofNat en)), .val (.int x8), .val (.int dd), .val (.int (Int32.ofNat f)), .val (.int (Int32.ofNat pt)), .val (.int (1 : Int32)), .val (.int (Int32.ofNat ql)), .val (.int (((Int32.ofNat ql) - (Int32.ofNat pt)) - (1 : Int32)))] [(.int (1 : Int32)), (.int (((Int32.ofNat ql) - (Int32.ofNat pt)) - (1 : Int32)))])) tg := fun tg kg => by
                refine XS.icmpNo X15.here hx rfl (hb hby d_prog_9_method_3_code_111) rfl (flt hc19).1 ?_
                show Steps p.tables e below (T15.setTop (mkF m 114 #[.val (.ref a), .val (.int (Int32.ofNat en)), .val (.int x8), .val (.int dd), .val (.int (Int32.ofNat f)), .val (.int (Int32.ofNat pt)), .val (.int (1 : Int32)), .val (.int (Int32.ofNat ql)), .val (.int (((Int32.ofNat ql) - (Int32.ofNat pt)) - (1 : Int32)))] [])) tg
                refine XS.iload X15.here hx rfl (hb hby d_prog_9_method_3_code_114) rfl ?_
                show Steps p.tables e below (T15.setTop (mkF m 116 #[.val (.ref a), .val (.int (Int32.ofNat en)), .val (.int x8), .val (.int dd), .val (.int (Int32.ofNat f)), .val (.int (Int32.ofNat pt)), .val (.int (1 : Int32)), .val (.int (Int32.ofNat ql)), .val (.int (((Int32.ofNat ql) - (Int32.ofNat pt)) - (1 : Int32)))] [(.int (((Int32.ofNat ql) - (Int32.ofNat pt)) - (1 : Int32)))])) tg
                refine XS.iloadN X15.here hx rfl (hb hby d_prog_9_method_3_code_116) rfl ?_
                show Steps p.tables e below (T15.setTop (mkF m 117 #[.val (.ref a), .val (.int (Int32.ofNat en)), .val (.int x8), .val (.int dd), .val (.int (Int32.ofNat f)), .val (.int (Int32.ofNat pt)), .val (.int (1 : Int32)), .val (.int (Int32.ofNat ql)), .val (.int (((Int32.ofNat ql) - (Int32.ofNat pt)) - (1 : Int32)))] [(.int dd), (.int (((Int32.ofNat ql) - (Int32.ofNat pt)) - (1 : Int32)))])) tg
                exact kg
              refine gs c21 ?_
              by_cases hc22 : dd < (((Int32.ofNat ql) - (Int32.ofNat pt)) - (1 : Int32))
              · have c23 : ∀ tg, Steps p.tables e below (T15.setTop (mkF m 125 #[.val (.ref a), .val (.int (Int32.ofNat en)), .val (.int x8), .val (.int dd), .val (.int (Int32.ofNat f)), .val (.int (Int32.ofNat pt)), .val (.int (1 : Int32)), .val (.int (Int32.ofNat ql)), .val (.int (((Int32.ofNat ql) - (Int32.ofNat pt)) - (1 : Int32)))] [(.int (0 : Int32))])) tg → Steps p.tables e below (T15.setTop (mkF m 117 #[.val (.ref a), .val (.int (Int32.ofNat en)), .val (.int x8), .val (.int dd), .val (.int (Int32.ofNat f)), .val (.int (Int32.ofNat pt)), .val (.int (1 : Int32)), .val (.int (Int32.ofNat ql)), .val (.int (((Int32.ofNat ql) - (Int32.ofNat pt)) - (1 : Int32)))] [(.int dd), (.int (((Int32.ofNat ql) - (Int32.ofNat pt)) - (1 : Int32)))])) tg := fun tg kg => by
                  refine XS.icmpYes X15.here hx rfl (pc0 := 117) (pc' := 124) rfl (hb hby d_prog_9_method_3_code_117) rfl (tlt hc22).2.2.1 (by decide) (by decide) ?_
                  show Steps p.tables e below (T15.setTop (mkF m 124 #[.val (.ref a), .val (.int (Int32.ofNat en)), .val (.int x8), .val (.int dd), .val (.int (Int32.ofNat f)), .val (.int (Int32.ofNat pt)), .val (.int (1 : Int32)), .val (.int (Int32.ofNat ql)), .val (.int (((Int32.ofNat ql) - (Int32.ofNat pt)) - (1 : Int32)))] [])) tg
                  refine XS.iconst X15.here hx rfl (hb hby d_prog_9_method_3_code_124) ?_
                  show Steps p.tables e below (T15.setTop (mkF m 125 #[.val (.ref a), .val (.int (Int32.ofNat en)), .val (.int x8), .val (.int dd), .val (.int (Int32.ofNat f)), .val (.int (Int32.ofNat pt)), .val (.int (1 : Int32)), .val (.int (Int32.ofNat ql)), .val (.int (((Int32.ofNat ql) - (Int32.ofNat pt)) - (1 : Int32)))] [(.int (0 : Int32))])) tg
                  exact kg
                refine gs c23 ?_
                refine gout (v := some (.int (0 : Int32))) X15 Bd.notSynchronized (fun h => by rw [Bd.returns] at h; cases h) (by decide) (by decide) ?_ (fun fs hr => retN X15 hx (t := .boolean) Bd.returns (by simp) (hb hby d_prog_9_method_3_code_125) hr)
                rw [e15q]
                exact ⟨_, rfl, N15, rfl, Or.inr ⟨rfl, fun q => q.2.elim (fun q => q.2.2.2 hc22) (fun q => q.1 ⟨hc8, hc12⟩)⟩⟩
              · have c24 : ∀ tg, Steps p.tables e below (T15.setTop (mkF m 125 #[.val (.ref a), .val (.int (Int32.ofNat en)), .val (.int x8), .val (.int dd), .val (.int (Int32.ofNat f)), .val (.int (Int32.ofNat pt)), .val (.int (1 : Int32)), .val (.int (Int32.ofNat ql)), .val (.int (((Int32.ofNat ql) - (Int32.ofNat pt)) - (1 : Int32)))] [(.int (1 : Int32))])) tg → Steps p.tables e below (T15.setTop (mkF m 117 #[.val (.ref a), .val (.int (Int32.ofNat en)), .val (.int x8), .val (.int dd), .val (.int (Int32.ofNat f)), .val (.int (Int32.ofNat pt)), .val (.int (1 : Int32)), .val (.int (Int32.ofNat ql)), .val (.int (((Int32.ofNat ql) - (Int32.ofNat pt)) - (1 : Int32)))] [(.int dd), (.int (((Int32.ofNat ql) - (Int32.ofNat pt)) - (1 : Int32)))])) tg := fun tg kg => by
                  refine XS.icmpNo X15.here hx rfl (hb hby d_prog_9_method_3_code_117) rfl (flt hc22).2.2.1 ?_
                  show Steps p.tables e below (T15.setTop (mkF m 120 #[.val (.ref a), .val (.int (Int32.ofNat en)), .val (.int x8), .val (.int dd), .val (.int (Int32.ofNat f)), .val (.int (Int32.ofNat pt)), .val (.int (1 : Int32)), .val (.int (Int32.ofNat ql)), .val (.int (((Int32.ofNat ql) - (Int32.ofNat pt)) - (1 : Int32)))] [])) tg
                  refine XS.iconst X15.here hx rfl (hb hby d_prog_9_method_3_code_120) ?_
                  show Steps p.tables e below (T15.setTop (mkF m 121 #[.val (.ref a), .val (.int (Int32.ofNat en)), .val (.int x8), .val (.int dd), .val (.int (Int32.ofNat f)), .val (.int (Int32.ofNat pt)), .val (.int (1 : Int32)), .val (.int (Int32.ofNat ql)), .val (.int (((Int32.ofNat ql) - (Int32.ofNat pt)) - (1 : Int32)))] [(.int (1 : Int32))])) tg
                  refine XS.goto X15.here hx rfl (pc0 := 121) (pc' := 125) rfl (hb hby d_prog_9_method_3_code_121) (by decide) (by decide) ?_
                  show Steps p.tables e below (T15.setTop (mkF m 125 #[.val (.ref a), .val (.int (Int32.ofNat en)), .val (.int x8), .val (.int dd), .val (.int (Int32.ofNat f)), .val (.int (Int32.ofNat pt)), .val (.int (1 : Int32)), .val (.int (Int32.ofNat ql)), .val (.int (((Int32.ofNat ql) - (Int32.ofNat pt)) - (1 : Int32)))] [(.int (1 : Int32))])) tg
                  exact kg
                refine gs c24 ?_
                refine gout (v := some (.int (1 : Int32))) X15 Bd.notSynchronized (fun h => by rw [Bd.returns] at h; cases h) (by decide) (by decide) ?_ (fun fs hr => retN X15 hx (t := .boolean) Bd.returns (by simp) (hb hby d_prog_9_method_3_code_125) hr)
                rw [e15q]
                exact ⟨_, rfl, N15, rfl, Or.inl ⟨rfl, hc5, Or.inl ⟨⟨hc8, hc12⟩, hc17, hc19, hc22⟩⟩⟩
          · have c25 : ∀ tg, Steps p.tables e below (T15.setTop (mkF m 125 #[.val (.ref a), .val (.int (Int32.ofNat en)), .val (.int x8), .val (.int dd), .val (.int (Int32.ofNat f)), .val (.int (Int32.ofNat pt)), .val (.int (1 : Int32)), .val (.int (Int32.ofNat ql)), .val (.int (((Int32.ofNat ql) - (Int32.ofNat pt)) - (1 : Int32)))] [(.int (0 : Int32))])) tg → Steps p.tables e below (T15.setTop (mkF m 100 #[.val (.ref a), .val (.int (Int32.ofNat en)), .val (.int x8), .val (.int dd), .val (.int (Int32.ofNat f)), .val (.int (Int32.ofNat pt)), .val (.int (1 : Int32)), .val (.int (Int32.ofNat ql)), .val (.int (((Int32.ofNat ql) - (Int32.ofNat pt)) - (1 : Int32)))] [(.int (Int32.ofNat en)), (.int (Int32.ofNat ql))])) tg := fun tg kg => by
              refine XS.icmpYes X15.here hx rfl (pc0 := 100) (pc' := 124) rfl (hb hby d_prog_9_method_3_code_100) rfl (feq hc17).2 (by decide) (by decide) ?_
              show Steps p.tables e below (T15.setTop (mkF m 124 #[.val (.ref a), .val (.int (Int32.ofNat en)), .val (.int x8), .val (.int dd), .val (.int (Int32.ofNat f)), .val (.int (Int32.ofNat pt)), .val (.int (1 : Int32)), .val (.int (Int32.ofNat ql)), .val (.int (((Int32.ofNat ql) - (Int32.ofNat pt)) - (1 : Int32)))] [])) tg
              refine XS.iconst X15.here hx rfl (hb hby d_prog_9_method_3_code_124) ?_
              show Steps p.tables e below (T15.setTop (mkF m 125 #[.val (.ref a), .val (.int (Int32.ofNat en)), .val (.int x8), .val (.int dd), .val (.int (Int32.ofNat f)), .val (.int (Int32.ofNat pt)), .val (.int (1 : Int32)), .val (.int (Int32.ofNat ql)), .val (.int (((Int32.ofNat ql) - (Int32.ofNat pt)) - (1 : Int32)))] [(.int (0 : Int32))])) tg
              exact kg
            refine gs c25 ?_
            refine gout (v := some (.int (0 : Int32))) X15 Bd.notSynchronized (fun h => by rw [Bd.returns] at h; cases h) (by decide) (by decide) ?_ (fun fs hr => retN X15 hx (t := .boolean) Bd.returns (by simp) (hb hby d_prog_9_method_3_code_125) hr)
            rw [e15q]
            exact ⟨_, rfl, N15, rfl, Or.inr ⟨rfl, fun q => q.2.elim (fun q => hc17 q.2.1) (fun q => q.1 ⟨hc8, hc12⟩)⟩⟩
        · have c26 : ∀ tg, Steps p.tables e below (T10.setTop (mkF m 100 #[.val (.ref a), .val (.int (Int32.ofNat en)), .val (.int x8), .val (.int dd), .val (.int (Int32.ofNat f)), .val (.int (Int32.ofNat pt)), .val (.int (0 : Int32)), .val (.int (Int32.ofNat pt)), .val (.int (((Int32.ofNat pt) - (Int32.ofNat pt)) - (1 : Int32)))] [(.int (Int32.ofNat en)), (.int (Int32.ofNat pt))])) tg → Steps p.tables e below (T10.setTop (mkF m 57 #[.val (.ref a), .val (.int (Int32.ofNat en)), .val (.int x8), .val (.int dd), .val (.int (Int32.ofNat f)), .val (.int (Int32.ofNat pt)), .unset, .unset, .unset] [(.int (46 : Int32)), (.int (cs.getD pt 0))])) tg := fun tg kg => by
            refine XS.icmpYes X10.here hx rfl (pc0 := 57) (pc' := 64) rfl (hb hby d_prog_9_method_3_code_57) rfl (feq hc12).2 (by decide) (by decide) ?_
            show Steps p.tables e below (T10.setTop (mkF m 64 #[.val (.ref a), .val (.int (Int32.ofNat en)), .val (.int x8), .val (.int dd), .val (.int (Int32.ofNat f)), .val (.int (Int32.ofNat pt)), .unset, .unset, .unset] [])) tg
            refine XS.iconst X10.here hx rfl (hb hby d_prog_9_method_3_code_64) ?_
            show Steps p.tables e below (T10.setTop (mkF m 65 #[.val (.ref a), .val (.int (Int32.ofNat en)), .val (.int x8), .val (.int dd), .val (.int (Int32.ofNat f)), .val (.int (Int32.ofNat pt)), .unset, .unset, .unset] [(.int (0 : Int32))])) tg
            refine XS.istore X10.here hx rfl (hb hby d_prog_9_method_3_code_65) rfl (l' := #[.val (.ref a), .val (.int (Int32.ofNat en)), .val (.int x8), .val (.int dd), .val (.int (Int32.ofNat f)), .val (.int (Int32.ofNat pt)), .val (.int (0 : Int32)), .unset, .unset]) rfl ?_
            show Steps p.tables e below (T10.setTop (mkF m 67 #[.val (.ref a), .val (.int (Int32.ofNat en)), .val (.int x8), .val (.int dd), .val (.int (Int32.ofNat f)), .val (.int (Int32.ofNat pt)), .val (.int (0 : Int32)), .unset, .unset] [])) tg
            refine XS.iload X10.here hx rfl (hb hby d_prog_9_method_3_code_67) rfl ?_
            show Steps p.tables e below (T10.setTop (mkF m 69 #[.val (.ref a), .val (.int (Int32.ofNat en)), .val (.int x8), .val (.int dd), .val (.int (Int32.ofNat f)), .val (.int (Int32.ofNat pt)), .val (.int (0 : Int32)), .unset, .unset] [(.int (0 : Int32))])) tg
            refine XS.ifYes X10.here hx rfl (pc0 := 69) (pc' := 84) rfl (hb hby d_prog_9_method_3_code_69) rfl ((if0 _ _).trans (teq (by decide : (0 : Int32) = (0 : Int32))).1) (by decide) (by decide) ?_
            show Steps p.tables e below (T10.setTop (mkF m 84 #[.val (.ref a), .val (.int (Int32.ofNat en)), .val (.int x8), .val (.int dd), .val (.int (Int32.ofNat f)), .val (.int (Int32.ofNat pt)), .val (.int (0 : Int32)), .unset, .unset] [])) tg
            refine XS.iload X10.here hx rfl (hb hby d_prog_9_method_3_code_84) rfl ?_
            show Steps p.tables e below (T10.setTop (mkF m 86 #[.val (.ref a), .val (.int (Int32.ofNat en)), .val (.int x8), .val (.int dd), .val (.int (Int32.ofNat f)), .val (.int (Int32.ofNat pt)), .val (.int (0 : Int32)), .unset, .unset] [(.int (Int32.ofNat pt))])) tg
            refine XS.istore X10.here hx rfl (hb hby d_prog_9_method_3_code_86) rfl (l' := #[.val (.ref a), .val (.int (Int32.ofNat en)), .val (.int x8), .val (.int dd), .val (.int (Int32.ofNat f)), .val (.int (Int32.ofNat pt)), .val (.int (0 : Int32)), .val (.int (Int32.ofNat pt)), .unset]) rfl ?_
            show Steps p.tables e below (T10.setTop (mkF m 88 #[.val (.ref a), .val (.int (Int32.ofNat en)), .val (.int x8), .val (.int dd), .val (.int (Int32.ofNat f)), .val (.int (Int32.ofNat pt)), .val (.int (0 : Int32)), .val (.int (Int32.ofNat pt)), .unset] [])) tg
            refine XS.iload X10.here hx rfl (hb hby d_prog_9_method_3_code_88) rfl ?_
            show Steps p.tables e below (T10.setTop (mkF m 90 #[.val (.ref a), .val (.int (Int32.ofNat en)), .val (.int x8), .val (.int dd), .val (.int (Int32.ofNat f)), .val (.int (Int32.ofNat pt)), .val (.int (0 : Int32)), .val (.int (Int32.ofNat pt)), .unset] [(.int (Int32.ofNat pt))])) tg
            refine XS.iload X10.here hx rfl (hb hby d_prog_9_method_3_code_90) rfl ?_
            show Steps p.tables e below (T10.setTop (mkF m 92 #[.val (.ref a), .val (.int (Int32.ofNat en)), .val (.int x8), .val (.int dd), .val (.int (Int32.ofNat f)), .val (.int (Int32.ofNat pt)), .val (.int (0 : Int32)), .val (.int (Int32.ofNat pt)), .unset] [(.int (Int32.ofNat pt)), (.int (Int32.ofNat pt))])) tg
            refine XS.isub X10.here hx rfl (hb hby d_prog_9_method_3_code_92) rfl ?_
            show Steps p.tables e below (T10.setTop (mkF m 93 #[.val (.ref a), .val (.int (Int32.ofNat en)), .val (.int x8), .val (.int dd), .val (.int (Int32.ofNat f)), .val (.int (Int32.ofNat pt)), .val (.int (0 : Int32)), .val (.int (Int32.ofNat pt)), .unset] [(.int ((Int32.ofNat pt) - (Int32.ofNat pt)))])) tg
            refine XS.iconst X10.here hx rfl (hb hby d_prog_9_method_3_code_93) ?_
            show Steps p.tables e below (T10.setTop (mkF m 94 #[.val (.ref a), .val (.int (Int32.ofNat en)), .val (.int x8), .val (.int dd), .val (.int (Int32.ofNat f)), .val (.int (Int32.ofNat pt)), .val (.int (0 : Int32)), .val (.int (Int32.ofNat pt)), .unset] [(.int (1 : Int32)), (.int ((Int32.ofNat pt) - (Int32.ofNat pt)))])) tg
            refine XS.isub X10.here hx rfl (hb hby d_prog_9_method_3_code_94) rfl ?_
            show Steps p.tables e below (T10.setTop (mkF m 95 #[.val (.ref a), .val (.int (Int32.ofNat en)), .val (.int x8), .val (.int dd), .val (.int (Int32.ofNat f)), .val (.int (Int32.ofNat pt)), .val (.int (0 : Int32)), .val (.int (Int32.ofNat pt)), .unset] [(.int (((Int32.ofNat pt) - (Int32.ofNat pt)) - (1 : Int32)))])) tg
            refine XS.istore X10.here hx rfl (hb hby d_prog_9_method_3_code_95) rfl (l' := #[.val (.ref a), .val (.int (Int32.ofNat en)), .val (.int x8), .val (.int dd), .val (.int (Int32.ofNat f)), .val (.int (Int32.ofNat pt)), .val (.int (0 : Int32)), .val (.int (Int32.ofNat pt)), .val (.int (((Int32.ofNat pt) - (Int32.ofNat pt)) - (1 : Int32)))]) rfl ?_
            show Steps p.tables e below (T10.setTop (mkF m 97 #[.val (.ref a), .val (.int (Int32.ofNat en)), .val (.int x8), .val (.int dd), .val (.int (Int32.ofNat f)), .val (.int (Int32.ofNat pt)), .val (.int (0 : Int32)), .val (.int (Int32.ofNat pt)), .val (.int (((Int32.ofNat pt) - (Int32.ofNat pt)) - (1 : Int32)))] [])) tg
            refine XS.iload X10.here hx rfl (hb hby d_prog_9_method_3_code_97) rfl ?_
            show Steps p.tables e below (T10.setTop (mkF m 99 #[.val (.ref a), .val (.int (Int32.ofNat en)), .val (.int x8), .val (.int dd), .val (.int (Int32.ofNat f)), .val (.int (Int32.ofNat pt)), .val (.int (0 : Int32)), .val (.int (Int32.ofNat pt)), .val (.int (((Int32.ofNat pt) - (Int32.ofNat pt)) - (1 : Int32)))] [(.int (Int32.ofNat pt))])) tg
            refine XS.iloadN X10.here hx rfl (hb hby d_prog_9_method_3_code_99) rfl ?_
            show Steps p.tables e below (T10.setTop (mkF m 100 #[.val (.ref a), .val (.int (Int32.ofNat en)), .val (.int x8), .val (.int dd), .val (.int (Int32.ofNat f)), .val (.int (Int32.ofNat pt)), .val (.int (0 : Int32)), .val (.int (Int32.ofNat pt)), .val (.int (((Int32.ofNat pt) - (Int32.ofNat pt)) - (1 : Int32)))] [(.int (Int32.ofNat en)), (.int (Int32.ofNat pt))])) tg
            exact kg
          refine gs c26 ?_
          by_cases hc27 : (Int32.ofNat pt) = (Int32.ofNat en)
          · have c28 : ∀ tg, Steps p.tables e below (T10.setTop (mkF m 125 #[.val (.ref a), .val (.int (Int32.ofNat en)), .val (.int x8), .val (.int dd), .val (.int (Int32.ofNat f)), .val (.int (Int32.ofNat pt)), .val (.int (0 : Int32)), .val (.int (Int32.ofNat pt)), .val (.int (((Int32.ofNat pt) - (Int32.ofNat pt)) - (1 : Int32)))] [(.int (1 : Int32))])) tg → Steps p.tables e below (T10.setTop (mkF m 100 #[.val (.ref a), .val (.int (Int32.ofNat en)), .val (.int x8), .val (.int dd), .val (.int (Int32.ofNat f)), .val (.int (Int32.ofNat pt)), .val (.int (0 : Int32)), .val (.int (Int32.ofNat pt)), .val (.int (((Int32.ofNat pt) - (Int32.ofNat pt)) - (1 : Int32)))] [(.int (Int32.ofNat en)), (.int (Int32.ofNat pt))])) tg := fun tg kg => by
              refine XS.icmpNo X10.here hx rfl (hb hby d_prog_9_method_3_code_100) rfl (teq hc27).2 ?_
              show Steps p.tables e below (T10.setTop (mkF m 103 #[.val (.ref a), .val (.int (Int32.ofNat en)), .val (.int x8), .val (.int dd), .val (.int (Int32.ofNat f)), .val (.int (Int32.ofNat pt)), .val (.int (0 : Int32)), .val (.int (Int32.ofNat pt)), .val (.int (((Int32.ofNat pt) - (Int32.ofNat pt)) - (1 : Int32)))] [])) tg
              refine XS.iload X10.here hx rfl (hb hby d_prog_9_method_3_code_103) rfl ?_
              show Steps p.tables e below (T10.setTop (mkF m 105 #[.val (.ref a), .val (.int (Int32.ofNat en)), .val (.int x8), .val (.int dd), .val (.int (Int32.ofNat f)), .val (.int (Int32.ofNat pt)), .val (.int (0 : Int32)), .val (.int (Int32.ofNat pt)), .val (.int (((Int32.ofNat pt) - (Int32.ofNat pt)) - (1 : Int32)))] [(.int (0 : Int32))])) tg
              refine XS.ifYes X10.here hx rfl (pc0 := 105) (pc' := 120) rfl (hb hby d_prog_9_method_3_code_105) rfl ((if0 _ _).trans (teq (by decide : (0 : Int32) = (0 : Int32))).1) (by decide) (by decide) ?_
              show Steps p.tables e below (T10.setTop (mkF m 120 #[.val (.ref a), .val (.int (Int32.ofNat en)), .val (.int x8), .val (.int dd), .val (.int (Int32.ofNat f)), .val (.int (Int32.ofNat pt)), .val (.int (0 : Int32)), .val (.int (Int32.ofNat pt)), .val (.int (((Int32.ofNat pt) - (Int32.ofNat pt)) - (1 : Int32)))] [])) tg
              refine XS.iconst X10.here hx rfl (hb hby d_prog_9_method_3_code_120) ?_
              show Steps p.tables e below (T10.setTop (mkF m 121 #[.val (.ref a), .val (.int (Int32.ofNat en)), .val (.int x8), .val (.int dd), .val (.int (Int32.ofNat f)), .val (.int (Int32.ofNat pt)), .val (.int (0 : Int32)), .val (.int (Int32.ofNat pt)), .val (.int (((Int32.ofNat pt) - (Int32.ofNat pt)) - (1 : Int32)))] [(.int (1 : Int32))])) tg
              refine XS.goto X10.here hx rfl (pc0 := 121) (pc' := 125) rfl (hb hby d_prog_9_method_3_code_121) (by decide) (by decide) ?_
              show Steps p.tables e below (T10.setTop (mkF m 125 #[.val (.ref a), .val (.int (Int32.ofNat en)), .val (.int x8), .val (.int dd), .val (.int (Int32.ofNat f)), .val (.int (Int32.ofNat pt)), .val (.int (0 : Int32)), .val (.int (Int32.ofNat pt)), .val (.int (((Int32.ofNat pt) - (Int32.ofNat pt)) - (1 : Int32)))] [(.int (1 : Int32))])) tg
              exact kg
            refine gs c28 ?_
            refine gout (v := some (.int (1 : Int32))) X10 Bd.notSynchronized (fun h => by rw [Bd.returns] at h; cases h) (by decide) (by decide) ?_ (fun fs hr => retN X10 hx (t := .boolean) Bd.returns (by simp) (hb hby d_prog_9_method_3_code_125) hr)
            rw [e10q]
            exact ⟨_, rfl, N10, rfl, Or.inl ⟨rfl, hc5, Or.inr ⟨(fun q => hc12 q.2), hc27⟩⟩⟩
          · have c29 : ∀ tg, Steps p.tables e below (T10.setTop (mkF m 125 #[.val (.ref a), .val (.int (Int32.ofNat en)), .val (.int x8), .val (.int dd), .val (.int (Int32.ofNat f)), .val (.int (Int32.ofNat pt)), .val (.int (0 : Int32)), .val (.int (Int32.ofNat pt)), .val (.int (((Int32.ofNat pt) - (Int32.ofNat pt)) - (1 : Int32)))] [(.int (0 : Int32))])) tg → Steps p.tables e below (T10.setTop (mkF m 100 #[.val (.ref a), .val (.int (Int32.ofNat en)), .val (.int x8), .val (.int dd), .val (.int (Int32.ofNat f)), .val (.int (Int32.ofNat pt)), .val (.int (0 : Int32)), .val (.int (Int32.ofNat pt)), .val (.int (((Int32.ofNat pt) - (Int32.ofNat pt)) - (1 : Int32)))] [(.int (Int32.ofNat en)), (.int (Int32.ofNat pt))])) tg := fun tg kg => by
              refine XS.icmpYes X10.here hx rfl (pc0 := 100) (pc' := 124) rfl (hb hby d_prog_9_method_3_code_100) rfl (feq hc27).2 (by decide) (by decide) ?_
              show Steps p.tables e below (T10.setTop (mkF m 124 #[.val (.ref a), .val (.int (Int32.ofNat en)), .val (.int x8), .val (.int dd), .val (.int (Int32.ofNat f)), .val (.int (Int32.ofNat pt)), .val (.int (0 : Int32)), .val (.int (Int32.ofNat pt)), .val (.int (((Int32.ofNat pt) - (Int32.ofNat pt)) - (1 : Int32)))] [])) tg
              refine XS.iconst X10.here hx rfl (hb hby d_prog_9_method_3_code_124) ?_
              show Steps p.tables e below (T10.setTop (mkF m 125 #[.val (.ref a), .val (.int (Int32.ofNat en)), .val (.int x8), .val (.int dd), .val (.int (Int32.ofNat f)), .val (.int (Int32.ofNat pt)), .val (.int (0 : Int32)), .val (.int (Int32.ofNat pt)), .val (.int (((Int32.ofNat pt) - (Int32.ofNat pt)) - (1 : Int32)))] [(.int (0 : Int32))])) tg
              exact kg
            refine gs c29 ?_
            refine gout (v := some (.int (0 : Int32))) X10 Bd.notSynchronized (fun h => by rw [Bd.returns] at h; cases h) (by decide) (by decide) ?_ (fun fs hr => retN X10 hx (t := .boolean) Bd.returns (by simp) (hb hby d_prog_9_method_3_code_125) hr)
            rw [e10q]
            exact ⟨_, rfl, N10, rfl, Or.inr ⟨rfl, fun q => q.2.elim (fun q => (fun q => hc12 q.2) q.1) (fun q => hc27 q.2)⟩⟩
      · have c30 : ∀ tg, Steps p.tables e below (T3.setTop (mkF m 100 #[.val (.ref a), .val (.int (Int32.ofNat en)), .val (.int x8), .val (.int dd), .val (.int (Int32.ofNat f)), .val (.int (Int32.ofNat pt)), .val (.int (0 : Int32)), .val (.int (Int32.ofNat pt)), .val (.int (((Int32.ofNat pt) - (Int32.ofNat pt)) - (1 : Int32)))] [(.int (Int32.ofNat en)), (.int (Int32.ofNat pt))])) tg → Steps p.tables e below (T3.setTop (mkF m 46 #[.val (.ref a), .val (.int (Int32.ofNat en)), .val (.int x8), .val (.int dd), .val (.int (Int32.ofNat f)), .val (.int (Int32.ofNat pt)), .unset, .unset, .unset] [(.int (Int32.ofNat en)), (.int (Int32.ofNat pt))])) tg := fun tg kg => by
          refine XS.icmpYes X3.here hx rfl (pc0 := 46) (pc' := 64) rfl (hb hby d_prog_9_method_3_code_46) rfl (flt hc8).2.1 (by decide) (by decide) ?_
          show Steps p.tables e below (T3.setTop (mkF m 64 #[.val (.ref a), .val (.int (Int32.ofNat en)), .val (.int x8), .val (.int dd), .val (.int (Int32.ofNat f)), .val (.int (Int32.ofNat pt)), .unset, .unset, .unset] [])) tg
          refine XS.iconst X3.here hx rfl (hb hby d_prog_9_method_3_code_64) ?_
          show Steps p.tables e below (T3.setTop (mkF m 65 #[.val (.ref a), .val (.int (Int32.ofNat en)), .val (.int x8), .val (.int dd), .val (.int (Int32.ofNat f)), .val (.int (Int32.ofNat pt)), .unset, .unset, .unset] [(.int (0 : Int32))])) tg
          refine XS.istore X3.here hx rfl (hb hby d_prog_9_method_3_code_65) rfl (l' := #[.val (.ref a), .val (.int (Int32.ofNat en)), .val (.int x8), .val (.int dd), .val (.int (Int32.ofNat f)), .val (.int (Int32.ofNat pt)), .val (.int (0 : Int32)), .unset, .unset]) rfl ?_
          show Steps p.tables e below (T3.setTop (mkF m 67 #[.val (.ref a), .val (.int (Int32.ofNat en)), .val (.int x8), .val (.int dd), .val (.int (Int32.ofNat f)), .val (.int (Int32.ofNat pt)), .val (.int (0 : Int32)), .unset, .unset] [])) tg
          refine XS.iload X3.here hx rfl (hb hby d_prog_9_method_3_code_67) rfl ?_
          show Steps p.tables e below (T3.setTop (mkF m 69 #[.val (.ref a), .val (.int (Int32.ofNat en)), .val (.int x8), .val (.int dd), .val (.int (Int32.ofNat f)), .val (.int (Int32.ofNat pt)), .val (.int (0 : Int32)), .unset, .unset] [(.int (0 : Int32))])) tg
          refine XS.ifYes X3.here hx rfl (pc0 := 69) (pc' := 84) rfl (hb hby d_prog_9_method_3_code_69) rfl ((if0 _ _).trans (teq (by decide : (0 : Int32) = (0 : Int32))).1) (by decide) (by decide) ?_
          show Steps p.tables e below (T3.setTop (mkF m 84 #[.val (.ref a), .val (.int (Int32.ofNat en)), .val (.int x8), .val (.int dd), .val (.int (Int32.ofNat f)), .val (.int (Int32.ofNat pt)), .val (.int (0 : Int32)), .unset, .unset] [])) tg
          refine XS.iload X3.here hx rfl (hb hby d_prog_9_method_3_code_84) rfl ?_
          show Steps p.tables e below (T3.setTop (mkF m 86 #[.val (.ref a), .val (.int (Int32.ofNat en)), .val (.int x8), .val (.int dd), .val (.int (Int32.ofNat f)), .val (.int (Int32.ofNat pt)), .val (.int (0 : Int32)), .unset, .unset] [(.int (Int32.ofNat pt))])) tg
          refine XS.istore X3.here hx rfl (hb hby d_prog_9_method_3_code_86) rfl (l' := #[.val (.ref a), .val (.int (Int32.ofNat en)), .val (.int x8), .val (.int dd), .val (.int (Int32.ofNat f)), .val (.int (Int32.ofNat pt)), .val (.int (0 : Int32)), .val (.int (Int32.ofNat pt)), .unset]) rfl ?_
          show Steps p.tables e below (T3.setTop (mkF m 88 #[.val (.ref a), .val (.int (Int32.ofNat en)), .val (.int x8), .val (.int dd), .val (.int (Int32.ofNat f)), .val (.int (Int32.ofNat pt)), .val (.int (0 : Int32)), .val (.int (Int32.ofNat pt)), .unset] [])) tg
          refine XS.iload X3.here hx rfl (hb hby d_prog_9_method_3_code_88) rfl ?_
          show Steps p.tables e below (T3.setTop (mkF m 90 #[.val (.ref a), .val (.int (Int32.ofNat en)), .val (.int x8), .val (.int dd), .val (.int (Int32.ofNat f)), .val (.int (Int32.ofNat pt)), .val (.int (0 : Int32)), .val (.int (Int32.ofNat pt)), .unset] [(.int (Int32.ofNat pt))])) tg
          refine XS.iload X3.here hx rfl (hb hby d_prog_9_method_3_code_90) rfl ?_
          show Steps p.tables e below (T3.setTop (mkF m 92 #[.val (.ref a), .val (.int (Int32.ofNat en)), .val (.int x8), .val (.int dd), .val (.int (Int32.ofNat f)), .val (.int (Int32.ofNat pt)), .val (.int (0 : Int32)), .val (.int (Int32.ofNat pt)), .unset] [(.int (Int32.ofNat pt)), (.int (Int32.ofNat pt))])) tg
          refine XS.isub X3.here hx rfl (hb hby d_prog_9_method_3_code_92) rfl ?_
          show Steps p.tables e below (T3.setTop (mkF m 93 #[.val (.ref a), .val (.int (Int32.ofNat en)), .val (.int x8), .val (.int dd), .val (.int (Int32.ofNat f)), .val (.int (Int32.ofNat pt)), .val (.int (0 : Int32)), .val (.int (Int32.ofNat pt)), .unset] [(.int ((Int32.ofNat pt) - (Int32.ofNat pt)))])) tg
          refine XS.iconst X3.here hx rfl (hb hby d_prog_9_method_3_code_93) ?_
          show Steps p.tables e below (T3.setTop (mkF m 94 #[.val (.ref a), .val (.int (Int32.ofNat en)), .val (.int x8), .val (.int dd), .val (.int (Int32.ofNat f)), .val (.int (Int32.ofNat pt)), .val (.int (0 : Int32)), .val (.int (Int32.ofNat pt)), .unset] [(.int (1 : Int32)), (.int ((Int32.ofNat pt) - (Int32.ofNat pt)))])) tg
          refine XS.isub X3.here hx rfl (hb hby d_prog_9_method_3_code_94) rfl ?_
          show Steps p.tables e below (T3.setTop (mkF m 95 #[.val (.ref a), .val (.int (Int32.ofNat en)), .val (.int x8), .val (.int dd), .val (.int (Int32.ofNat f)), .val (.int (Int32.ofNat pt)), .val (.int (0 : Int32)), .val (.int (Int32.ofNat pt)), .unset] [(.int (((Int32.ofNat pt) - (Int32.ofNat pt)) - (1 : Int32)))])) tg
          refine XS.istore X3.here hx rfl (hb hby d_prog_9_method_3_code_95) rfl (l' := #[.val (.ref a), .val (.int (Int32.ofNat en)), .val (.int x8), .val (.int dd), .val (.int (Int32.ofNat f)), .val (.int (Int32.ofNat pt)), .val (.int (0 : Int32)), .val (.int (Int32.ofNat pt)), .val (.int (((Int32.ofNat pt) - (Int32.ofNat pt)) - (1 : Int32)))]) rfl ?_
          show Steps p.tables e below (T3.setTop (mkF m 97 #[.val (.ref a), .val (.int (Int32.ofNat en)), .val (.int x8), .val (.int dd), .val (.int (Int32.ofNat f)), .val (.int (Int32.ofNat pt)), .val (.int (0 : Int32)), .val (.int (Int32.ofNat pt)), .val (.int (((Int32.ofNat pt) - (Int32.ofNat pt)) - (1 : Int32)))] [])) tg
          refine XS.iload X3.here hx rfl (hb hby d_prog_9_method_3_code_97) rfl ?_
          show Steps p.tables e below (T3.setTop (mkF m 99 #[.val (.ref a), .val (.int (Int32.ofNat en)), .val (.int x8), .val (.int dd), .val (.int (Int32.ofNat f)), .val (.int (Int32.ofNat pt)), .val (.int (0 : Int32)), .val (.int (Int32.ofNat pt)), .val (.int (((Int32.ofNat pt) - (Int32.ofNat pt)) - (1 : Int32)))] [(.int (Int32.ofNat pt))])) tg
          refine XS.iloadN X3.here hx rfl (hb hby d_prog_9_method_3_code_99) rfl ?_
          show Steps p.tables e below (T3.setTop (mkF m 100 #[.val (.ref a), .val (.int (Int32.ofNat en)), .val (.int x8), .val (.int dd), .val (.int (Int32.ofNat f)), .val (.int (Int32.ofNat pt)), .val (.int (0 : Int32)), .val (.int (Int32.ofNat pt)), .val (.int (((Int32.ofNat pt) - (Int32.ofNat pt)) - (1 : Int32)))] [(.int (Int32.ofNat en)), (.int (Int32.ofNat pt))])) tg
          exact kg
        refine gs c30 ?_
        by_cases hc31 : (Int32.ofNat pt) = (Int32.ofNat en)
        · have c32 : ∀ tg, Steps p.tables e below (T3.setTop (mkF m 125 #[.val (.ref a), .val (.int (Int32.ofNat en)), .val (.int x8), .val (.int dd), .val (.int (Int32.ofNat f)), .val (.int (Int32.ofNat pt)), .val (.int (0 : Int32)), .val (.int (Int32.ofNat pt)), .val (.int (((Int32.ofNat pt) - (Int32.ofNat pt)) - (1 : Int32)))] [(.int (1 : Int32))])) tg → Steps p.tables e below (T3.setTop (mkF m 100 #[.val (.ref a), .val (.int (Int32.ofNat en)), .val (.int x8), .val (.int dd), .val (.int (Int32.ofNat f)), .val (.int (Int32.ofNat pt)), .val (.int (0 : Int32)), .val (.int (Int32.ofNat pt)), .val (.int (((Int32.ofNat pt) - (Int32.ofNat pt)) - (1 : Int32)))] [(.int (Int32.ofNat en)), (.int (Int32.ofNat pt))])) tg := fun tg kg => by
            refine XS.icmpNo X3.here hx rfl (hb hby d_prog_9_method_3_code_100) rfl (teq hc31).2 ?_
            show Steps p.tables e below (T3.setTop (mkF m 103 #[.val (.ref a), .val (.int (Int32.ofNat en)), .val (.int x8), .val (.int dd), .val (.int (Int32.ofNat f)), .val (.int (Int32.ofNat pt)), .val (.int (0 : Int32)), .val (.int (Int32.ofNat pt)), .val (.int (((Int32.ofNat pt) - (Int32.ofNat pt)) - (1 : Int32)))] [])) tg
            refine XS.iload X3.here hx rfl (hb hby d_prog_9_method_3_code_103) rfl ?_
            show Steps p.tables e below (T3.setTop (mkF m 105 #[.val (.ref a), .val (.int (Int32.ofNat en)), .val (.int x8), .val (.int dd), .val (.int (Int32.ofNat f)), .val (.int (Int32.ofNat pt)), .val (.int (0 : Int32)), .val (.int (Int32.ofNat pt)), .val (.int (((Int32.ofNat pt) - (Int32.ofNat pt)) - (1 : Int32)))] [(.int (0 : Int32))])) tg
            refine XS.ifYes X3.here hx rfl (pc0 := 105) (pc' := 120) rfl (hb hby d_prog_9_method_3_code_105) rfl ((if0 _ _).trans (teq (by decide : (0 : Int32) = (0 : Int32))).1) (by decide) (by decide) ?_
            show Steps p.tables e below (T3.setTop (mkF m 120 #[.val (.ref a), .val (.int (Int32.ofNat en)), .val (.int x8), .val (.int dd), .val (.int (Int32.ofNat f)), .val (.int (Int32.ofNat pt)), .val (.int (0 : Int32)), .val (.int (Int32.ofNat pt)), .val (.int (((Int32.ofNat pt) - (Int32.ofNat pt)) - (1 : Int32)))] [])) tg
            refine XS.iconst X3.here hx rfl (hb hby d_prog_9_method_3_code_120) ?_
            show Steps p.tables e below (T3.setTop (mkF m 121 #[.val (.ref a), .val (.int (Int32.ofNat en)), .val (.int x8), .val (.int dd), .val (.int (Int32.ofNat f)), .val (.int (Int32.ofNat pt)), .val (.int (0 : Int32)), .val (.int (Int32.ofNat pt)), .val (.int (((Int32.ofNat pt) - (Int32.ofNat pt)) - (1 : Int32)))] [(.int (1 : Int32))])) tg
            refine XS.goto X3.here hx rfl (pc0 := 121) (pc' := 125) rfl (hb hby d_prog_9_method_3_code_121) (by decide) (by decide) ?_
            show Steps p.tables e below (T3.setTop (mkF m 125 #[.val (.ref a), .val (.int (Int32.ofNat en)), .val (.int x8), .val (.int dd), .val (.int (Int32.ofNat f)), .val (.int (Int32.ofNat pt)), .val (.int (0 : Int32)), .val (.int (Int32.ofNat pt)), .val (.int (((Int32.ofNat pt) - (Int32.ofNat pt)) - (1 : Int32)))] [(.int (1 : Int32))])) tg
            exact kg
          refine gs c32 ?_
          refine gout (v := some (.int (1 : Int32))) X3 Bd.notSynchronized (fun h => by rw [Bd.returns] at h; cases h) (by decide) (by decide) ?_ (fun fs hr => retN X3 hx (t := .boolean) Bd.returns (by simp) (hb hby d_prog_9_method_3_code_125) hr)
          rw [e3q]
          exact ⟨_, rfl, N3, rfl, Or.inl ⟨rfl, hc5, Or.inr ⟨(fun q => hc8 q.1), hc31⟩⟩⟩
        · have c33 : ∀ tg, Steps p.tables e below (T3.setTop (mkF m 125 #[.val (.ref a), .val (.int (Int32.ofNat en)), .val (.int x8), .val (.int dd), .val (.int (Int32.ofNat f)), .val (.int (Int32.ofNat pt)), .val (.int (0 : Int32)), .val (.int (Int32.ofNat pt)), .val (.int (((Int32.ofNat pt) - (Int32.ofNat pt)) - (1 : Int32)))] [(.int (0 : Int32))])) tg → Steps p.tables e below (T3.setTop (mkF m 100 #[.val (.ref a), .val (.int (Int32.ofNat en)), .val (.int x8), .val (.int dd), .val (.int (Int32.ofNat f)), .val (.int (Int32.ofNat pt)), .val (.int (0 : Int32)), .val (.int (Int32.ofNat pt)), .val (.int (((Int32.ofNat pt) - (Int32.ofNat pt)) - (1 : Int32)))] [(.int (Int32.ofNat en)), (.int (Int32.ofNat pt))])) tg := fun tg kg => by
            refine XS.icmpYes X3.here hx rfl (pc0 := 100) (pc' := 124) rfl (hb hby d_prog_9_method_3_code_100) rfl (feq hc31).2 (by decide) (by decide) ?_
            show Steps p.tables e below (T3.setTop (mkF m 124 #[.val (.ref a), .val (.int (Int32.ofNat en)), .val (.int x8), .val (.int dd), .val (.int (Int32.ofNat f)), .val (.int (Int32.ofNat pt)), .val (.int (0 : Int32)), .val (.int (Int32.ofNat pt)), .val (.int (((Int32.ofNat pt) - (Int32.ofNat pt)) - (1 : Int32)))] [])) tg
            refine XS.iconst X3.here hx rfl (hb hby d_prog_9_method_3_code_124) ?_
            show Steps p.tables e below (T3.setTop (mkF m 125 #[.val (.ref a), .val (.int (Int32.ofNat en)), .val (.int x8), .val (.int dd), .val (.int (Int32.ofNat f)), .val (.int (Int32.ofNat pt)), .val (.int (0 : Int32)), .val (.int (Int32.ofNat pt)), .val (.int (((Int32.ofNat pt) - (Int32.ofNat pt)) - (1 : Int32)))] [(.int (0 : Int32))])) tg
            exact kg
          refine gs c33 ?_
          refine gout (v := some (.int (0 : Int32))) X3 Bd.notSynchronized (fun h => by rw [Bd.returns] at h; cases h) (by decide) (by decide) ?_ (fun fs hr => retN X3 hx (t := .boolean) Bd.returns (by simp) (hb hby d_prog_9_method_3_code_125) hr)
          rw [e3q]
          exact ⟨_, rfl, N3, rfl, Or.inr ⟨rfl, fun q => q.2.elim (fun q => (fun q => hc8 q.1) q.1) (fun q => hc31 q.2)⟩⟩
  have c34 : ∀ tg, Steps p.tables e below (s₁.setTop (mkF m 1 #[.val (.ref a), .val (.int (Int32.ofNat en)), .val (.int x8), .val (.int dd), .unset, .unset, .unset, .unset, .unset] [(.int x8)])) tg → Steps p.tables e below (s₁.setTop (mkF m 0 #[.val (.ref a), .val (.int (Int32.ofNat en)), .val (.int x8), .val (.int dd), .unset, .unset, .unset, .unset, .unset] [])) tg := fun tg kg => by
    refine XS.iloadN X0.here hx rfl (hb hby d_prog_9_method_3_code_0) rfl ?_
    show Steps p.tables e below (s₁.setTop (mkF m 1 #[.val (.ref a), .val (.int (Int32.ofNat en)), .val (.int x8), .val (.int dd), .unset, .unset, .unset, .unset, .unset] [(.int x8)])) tg
    exact kg
  refine gs c34 ?_
  by_cases hc35 : x8 = (0 : Int32)
  · have c36 : ∀ tg, Steps p.tables e below (s₁.setTop (mkF m 23 #[.val (.ref a), .val (.int (Int32.ofNat en)), .val (.int x8), .val (.int dd), .unset, .unset, .unset, .unset, .unset] [(.int (0 : Int32))])) tg → Steps p.tables e below (s₁.setTop (mkF m 1 #[.val (.ref a), .val (.int (Int32.ofNat en)), .val (.int x8), .val (.int dd), .unset, .unset, .unset, .unset, .unset] [(.int x8)])) tg := fun tg kg => by
      refine XS.ifYes X0.here hx rfl (pc0 := 1) (pc' := 22) rfl (hb hby d_prog_9_method_3_code_1) rfl ((if0 _ _).trans (teq hc35).1) (by decide) (by decide) ?_
      show Steps p.tables e below (s₁.setTop (mkF m 22 #[.val (.ref a), .val (.int (Int32.ofNat en)), .val (.int x8), .val (.int dd), .unset, .unset, .unset, .unset, .unset] [])) tg
      refine XS.iconst X0.here hx rfl (hb hby d_prog_9_method_3_code_22) ?_
      show Steps p.tables e below (s₁.setTop (mkF m 23 #[.val (.ref a), .val (.int (Int32.ofNat en)), .val (.int x8), .val (.int dd), .unset, .unset, .unset, .unset, .unset] [(.int (0 : Int32))])) tg
      exact kg
    refine gs c36 ?_
    exact mid1 (0 : Int32) s₁ _ (by rw [hf, own_first, if_neg (fun q => q.1 hc35)]; rfl) X0 e0 N0
  · have c37 : ∀ tg, Steps p.tables e below (s₁.setTop (mkF m 5 #[.val (.ref a), .val (.int (Int32.ofNat en)), .val (.int x8), .val (.int dd), .unset, .unset, .unset, .unset, .unset] [(.int (Int32.ofNat en))])) tg → Steps p.tables e below (s₁.setTop (mkF m 1 #[.val (.ref a), .val (.int (Int32.ofNat en)), .val (.int x8), .val (.int dd), .unset, .unset, .unset, .unset, .unset] [(.int x8)])) tg := fun tg kg => by
      refine XS.ifNo X0.here hx rfl (hb hby d_prog_9_method_3_code_1) rfl ((if0 _ _).trans (feq hc35).1) ?_
      show Steps p.tables e below (s₁.setTop (mkF m 4 #[.val (.ref a), .val (.int (Int32.ofNat en)), .val (.int x8), .val (.int dd), .unset, .unset, .unset, .unset, .unset] [])) tg
      refine XS.iloadN X0.here hx rfl (hb hby d_prog_9_method_3_code_4) rfl ?_
      show Steps p.tables e below (s₁.setTop (mkF m 5 #[.val (.ref a), .val (.int (Int32.ofNat en)), .val (.int x8), .val (.int dd), .unset, .unset, .unset, .unset, .unset] [(.int (Int32.ofNat en))])) tg
      exact kg
    refine gs c37 ?_
    by_cases hc38 : (0 : Int32) < (Int32.ofNat en)
    · have c39 : ∀ tg, Steps p.tables e below (s₁.setTop (mkF m 10 #[.val (.ref a), .val (.int (Int32.ofNat en)), .val (.int x8), .val (.int dd), .unset, .unset, .unset, .unset, .unset] [(.int (0 : Int32)), (.ref a)])) tg → Steps p.tables e below (s₁.setTop (mkF m 5 #[.val (.ref a), .val (.int (Int32.ofNat en)), .val (.int x8), .val (.int dd), .unset, .unset, .unset, .unset, .unset] [(.int (Int32.ofNat en))])) tg := fun tg kg => by
        refine XS.ifNo X0.here hx rfl (hb hby d_prog_9_method_3_code_5) rfl ((if0 _ _).trans (tlt hc38).2.2.2) ?_
        show Steps p.tables e below (s₁.setTop (mkF m 8 #[.val (.ref a), .val (.int (Int32.ofNat en)), .val (.int x8), .val (.int dd), .unset, .unset, .unset, .unset, .unset] [])) tg
        refine XS.aloadN X0.here hx rfl (hb hby d_prog_9_method_3_code_8) rfl rfl ?_
        show Steps p.tables e below (s₁.setTop (mkF m 9 #[.val (.ref a), .val (.int (Int32.ofNat en)), .val (.int x8), .val (.int dd), .unset, .unset, .unset, .unset, .unset] [(.ref a)])) tg
        refine XS.iconst X0.here hx rfl (hb hby d_prog_9_method_3_code_9) ?_
        show Steps p.tables e below (s₁.setTop (mkF m 10 #[.val (.ref a), .val (.int (Int32.ofNat en)), .val (.int x8), .val (.int dd), .unset, .unset, .unset, .unset, .unset] [(.int (0 : Int32)), (.ref a)])) tg
        exact kg
      refine gs c39 ?_
      obtain ⟨cq40, kq40, q40a, q40b, q40c⟩ := isOf hZ e0 T_a.exa
      obtain ⟨_, _, ⟨T40, L40, k40, n40⟩, -, X40, ⟨Lc40, hQ40, l40, y40, z40⟩, st40⟩ := X0.virtualBack hx (y := (⟨"java/lang/String", "charAt", "(I)C"⟩ : MethodName)) (z := (⟨"java/lang/String", "charAt", "(I)C"⟩ : MethodName)) hown (mvT hZ (hw _ (List.mem_of_getElem? (i := 49) rfl))) (mvT hZ (hw _ (List.mem_of_getElem? (i := 50) rfl))) (notFace_of_selects (args := #[]) (mvT hZ (hw _ (List.mem_of_getElem? (i := 52) rfl)))) (mvT hZ (hw _ (List.mem_of_getElem? (i := 52) rfl))) (mvT hZ (hw _ (List.mem_of_getElem? (i := 51) rfl))) (by decide) (own_chB (W := 0) hZ hw T_a hbd (S0.ext O0.2) hz (S4.ext O0.2) hfm (by omega) (i := 0) (by omega) rfl (by decide) (by decide)) q40a q40c (g := (mkF m 10 #[.val (.ref a), .val (.int (Int32.ofNat en)), .val (.int x8), .val (.int dd), .unset, .unset, .unset, .unset, .unset] [(.int (0 : Int32)), (.ref a)])) rfl (by rw [hml]; rfl) (Steps.refl _) (argsL := [(.int (0 : Int32))]) (rest := []) (lenOf pd_110 rfl) rfl (by show 2 * 0 + _ ≤ _; exact Nat.le_of_eq rfl) (hb hby d_prog_9_method_3_code_10) (fun _ _ => ⟨rfl, e0, (by decide : 0 + 0 ≤ _), (by decide : 0 + 0 ≤ _)⟩)
      dsimp only [Pt.U, Pt.locs, Pt.cells, Pt.slots] at X40 l40 y40 z40 st40 hQ40
      subst l40 y40 z40
      obtain ⟨rfl, rfl, e40q⟩ := hQ40
      have N40 := Fr.app N0 (Fr.nil n0)
      refine gs (fun _ k => st40.trans k) ?_
      show OwnGo p e below s _ _ _ (T40.setTop (mkF m 13 #[.val (.ref a), .val (.int (Int32.ofNat en)), .val (.int x8), .val (.int dd), .unset, .unset, .unset, .unset, .unset] [(.int (cs.getD 0 0))]))
      have c41 : ∀ tg, Steps p.tables e below (T40.setTop (mkF m 15 #[.val (.ref a), .val (.int (Int32.ofNat en)), .val (.int x8), .val (.int dd), .unset, .unset, .unset, .unset, .unset] [(.int (45 : Int32)), (.int (cs.getD 0 0))])) tg → Steps p.tables e below (T40.setTop (mkF m 13 #[.val (.ref a), .val (.int (Int32.ofNat en)), .val (.int x8), .val (.int dd), .unset, .unset, .unset, .unset, .unset] [(.int (cs.getD 0 0))])) tg := fun tg kg => by
        refine XS.bipush X40.here hx rfl (hb hby d_prog_9_method_3_code_13) ?_
        show Steps p.tables e below (T40.setTop (mkF m 15 #[.val (.ref a), .val (.int (Int32.ofNat en)), .val (.int x8), .val (.int dd), .unset, .unset, .unset, .unset, .unset] [(.int (45 : Int32)), (.int (cs.getD 0 0))])) tg
        exact kg
      refine gs c41 ?_
      by_cases hc42 : (cs.getD 0 0) = (45 : Int32)
      · have c43 : ∀ tg, Steps p.tables e below (T40.setTop (mkF m 23 #[.val (.ref a), .val (.int (Int32.ofNat en)), .val (.int x8), .val (.int dd), .unset, .unset, .unset, .unset, .unset] [(.int (1 : Int32))])) tg → Steps p.tables e below (T40.setTop (mkF m 15 #[.val (.ref a), .val (.int (Int32.ofNat en)), .val (.int x8), .val (.int dd), .unset, .unset, .unset, .unset, .unset] [(.int (45 : Int32)), (.int (cs.getD 0 0))])) tg := fun tg kg => by
          refine XS.icmpNo X40.here hx rfl (hb hby d_prog_9_method_3_code_15) rfl (teq hc42).2 ?_
          show Steps p.tables e below (T40.setTop (mkF m 18 #[.val (.ref a), .val (.int (Int32.ofNat en)), .val (.int x8), .val (.int dd), .unset, .unset, .unset, .unset, .unset] [])) tg
          refine XS.iconst X40.here hx rfl (hb hby d_prog_9_method_3_code_18) ?_
          show Steps p.tables e below (T40.setTop (mkF m 19 #[.val (.ref a), .val (.int (Int32.ofNat en)), .val (.int x8), .val (.int dd), .unset, .unset, .unset, .unset, .unset] [(.int (1 : Int32))])) tg
          refine XS.goto X40.here hx rfl (pc0 := 19) (pc' := 23) rfl (hb hby d_prog_9_method_3_code_19) (by decide) (by decide) ?_
          show Steps p.tables e below (T40.setTop (mkF m 23 #[.val (.ref a), .val (.int (Int32.ofNat en)), .val (.int x8), .val (.int dd), .unset, .unset, .unset, .unset, .unset] [(.int (1 : Int32))])) tg
          exact kg
        refine gs c43 ?_
        exact mid1 (1 : Int32) T40 _ (by rw [hf, own_first, if_pos ⟨hc35, hc38, hc42⟩]; rfl) X40 e40q N40
      · have c44 : ∀ tg, Steps p.tables e below (T40.setTop (mkF m 23 #[.val (.ref a), .val (.int (Int32.ofNat en)), .val (.int x8), .val (.int dd), .unset, .unset, .unset, .unset, .unset] [(.int (0 : Int32))])) tg → Steps p.tables e below (T40.setTop (mkF m 15 #[.val (.ref a), .val (.int (Int32.ofNat en)), .val (.int x8), .val (.int dd), .unset, .unset, .unset, .unset, .unset] [(.int (45 : Int32)), (.int (cs.getD 0 0))])) tg := fun tg kg => by
          refine XS.icmpYes X40.here hx rfl (pc0 := 15) (pc' := 22) rfl (hb hby d_prog_9_method_3_code_15) rfl (feq hc42).2 (by decide) (by decide) ?_
          show Steps p.tables e below (T40.setTop (mkF m 22 #[.val (.ref a), .val (.int (Int32.ofNat en)), .val (.int x8), .val (.int dd), .unset, .unset, .unset, .unset, .unset] [])) tg
          refine XS.iconst X40.here hx rfl (hb hby d_prog_9_method_3_code_22) ?_
          show Steps p.tables e below (T40.setTop (mkF m 23 #[.val (.ref a), .val (.int (Int32.ofNat en)), .val (.int x8), .val (.int dd), .unset, .unset, .unset, .unset, .unset] [(.int (0 : Int32))])) tg
          exact kg
        refine gs c44 ?_
        exact mid1 (0 : Int32) T40 _ (by rw [hf, own_first, if_neg (fun q => hc42 q.2.2)]; rfl) X40 e40q N40
    · have c45 : ∀ tg, Steps p.tables e below (s₁.setTop (mkF m 23 #[.val (.ref a), .val (.int (Int32.ofNat en)), .val (.int x8), .val (.int dd), .unset, .unset, .unset, .unset, .unset] [(.int (0 : Int32))])) tg → Steps p.tables e below (s₁.setTop (mkF m 5 #[.val (.ref a), .val (.int (Int32.ofNat en)), .val (.int x8), .val (.int dd), .unset, .unset, .unset, .unset, .unset] [(.int (Int32.ofNat en))])) tg := fun tg kg => by
        refine XS.ifYes X0.here hx rfl (pc0 := 5) (pc' := 22) rfl (hb hby d_prog_9_method_3_code_5) rfl ((if0 _ _).trans (flt hc38).2.2.2) (by decide) (by decide) ?_
        show Steps p.tables e below (s₁.setTop (mkF m 22 #[.val (.ref a), .val (.int (Int32.ofNat en)), .val (.int x8), .val (.int dd), .unset, .unset, .unset, .unset, .unset] [])) tg
        refine XS.iconst X0.here hx rfl (hb hby d_prog_9_method_3_code_22) ?_
        show Steps p.tables e below (s₁.setTop (mkF m 23 #[.val (.ref a), .val (.int (Int32.ofNat en)), .val (.int x8), .val (.int dd), .unset, .unset, .unset, .unset, .unset] [(.int (0 : Int32))])) tg
        exact kg
      refine gs c45 ?_
      exact mid1 (0 : Int32) s₁ _ (by rw [hf, own_first, if_neg (fun q => hc38 q.2.1)]; rfl) X0 e0 N0
theorem ef_190 (m : MethodId) (x0 : Int64) (x1 : Int32) (x2 : Int32) (x3 : Int32) : entryFrame m #[(.long x0), (.int x1), (.int x2), (.int x3)] maxLocals = mkF m 0 #[.val (.long x0), .second, .val (.int x1), .val (.int x2), .val (.int x3), .unset, .unset, .unset, .unset, .unset, .unset, .unset, .unset, .unset, .unset, .unset, .unset, .unset, .unset] [] := by first | (simp [entryFrame, mkF, argsToLocals, Value.category, maxLocals]; done) | rfl
theorem pd_191 : parseMethodDescriptor "(J)C" = some ⟨[.long], some .char⟩ := by decide +kernel
theorem pd_192 : parseMethodDescriptor "([C)V" = some ⟨[(.array .char)], none⟩ := by decide +kernel
theorem pd_193 : parseMethodDescriptor "(CIII)I" = some ⟨[.char, .int, .int, .int], some .int⟩ := by decide +kernel
theorem pd_194 : parseMethodDescriptor "(Ljava/lang/String;IZI)Z" = some ⟨[(.object "java/lang/String"), .int, .boolean, .int], some .boolean⟩ := by decide +kernel
theorem pd_195 : parseMethodDescriptor "(CIII)Z" = some ⟨[.char, .int, .int, .int], some .boolean⟩ := by decide +kernel
set_option maxRecDepth 65536 in
set_option maxHeartbeats 40000000 in
theorem rm_law (l : Launch) (Z : State) (a0 : Array Value) (hw : ∀ d ∈ tables_1, d.before a0 Z = true) (ws : List Jvm.Cond) (i0 : Int64) (i1 : Int32) (i2 : Int32) (i3 : Int32) (z : Int32) (fm : Value) (h0 : Heap) (n0 : Nat) (Z0 : n0 ≤ h0.size) (O0 : Old Z n0 h0) (S0 : Sta Z Z.heap "java/lang/String" "COMPACT_STRINGS" "Z" (.int z)) (hz : ¬ z = 0) (S4 : Sta Z Z.heap "jdk/internal/util/Preconditions" "SIOOBE_FORMATTER" "Ljava/util/function/BiFunction;" fm) (hfm : fm.isRef = true) :
    Ctr l Z x code maxLocals ret ws room_1 #[(.long i0), (.int i1), (.int i2), (.int i3)] h0 (fun v h L => v = some (.int 1) ∧ Fr n0 L) := by
  refine Ctr.of (MetFree.of_bodySF (plainFor_of_name pn_55) hisR ?_)
  intro p e s m args below meth c s₁ Bd hml0 hP hK
  obtain ⟨rfl, hZ, hh⟩ := hP
  have hx := Bd.exec
  have hby := Bd.bytes
  have hml : c.maxLocals = 19 := hml0
  have hown : s.vm.findClass "com/example/tranche/tranche/DecimalsIsWrittenPinLaw" = some m.cls := findClass_of_methodNamed Bd.named
  have hnm := (name_of_methodNamed Bd.named Bd.method).1
  have X0 : Stand p l e room_1 s m #[(.long i0), (.int i1), (.int i2), (.int i3)] below meth c s₁ [] 0 0 := Stand.of_body Bd
  have e0 : s₁.heap = h0 := by rw [← hh, Bd.state]; rfl
  have N0 := Fr.nil n0
  have K0 : Keep h0 h0 [] := Keep.refl h0 []
  show OwnGo p e below s (fun v h L => v = some (.int 1) ∧ Fr n0 L) room_1.cells room_1.slots _
  refine gs (S' := s₁.setTop (mkF m 0 #[.val (.long i0), .second, .val (.int i1), .val (.int i2), .val (.int i3), .unset, .unset, .unset, .unset, .unset, .unset, .unset, .unset, .unset, .unset, .unset, .unset, .unset, .unset] [])) (fun tg kg => castTop (ef_190 m i0 i1 i2 i3) kg) ?_
  have hws : ∀ d ∈ StrChars.Road.words, d.before a0 Z = true := fun d hd => hw d ((by decide +kernel : ∀ d ∈ StrChars.Road.words, d ∈ tables_1) d hd)
  have c1 : ∀ tg, Steps p.tables e below (s₁.setTop (mkF m 1 #[.val (.long i0), .second, .val (.int i1), .val (.int i2), .val (.int i3), .unset, .unset, .unset, .unset, .unset, .unset, .unset, .unset, .unset, .unset, .unset, .unset, .unset, .unset] [(.int (5 : Int32))])) tg → Steps p.tables e below (s₁.setTop (mkF m 0 #[.val (.long i0), .second, .val (.int i1), .val (.int i2), .val (.int i3), .unset, .unset, .unset, .unset, .unset, .unset, .unset, .unset, .unset, .unset, .unset, .unset, .unset, .unset] [])) tg := fun tg kg => by
    refine XS.iconst X0.here hx rfl (hb hby at_0) ?_
    show Steps p.tables e below (s₁.setTop (mkF m 1 #[.val (.long i0), .second, .val (.int i1), .val (.int i2), .val (.int i3), .unset, .unset, .unset, .unset, .unset, .unset, .unset, .unset, .unset, .unset, .unset, .unset, .unset, .unset] [(.int (5 : Int32))])) tg
    exact kg
  refine gs c1 ?_
  obtain ⟨T2, h2, k2, X2, e2, E2, A2, st2⟩ := newP X0 hx hZ (hw _ (List.mem_of_getElem? (i := 0) rfl)) e0 (g := (mkF m 1 #[.val (.long i0), .second, .val (.int i1), .val (.int i2), .val (.int i3), .unset, .unset, .unset, .unset, .unset, .unset, .unset, .unset, .unset, .unset, .unset, .unset, .unset, .unset] [(.int (5 : Int32))])) rfl (hb hby at_1) rfl (by decide) (cap := 5) (by decide) (by decide) (by decide) (by decide)
  obtain ⟨b2, q2⟩ : ∃ z, z = h0.size := ⟨_, rfl⟩
  rw [← q2] at A2 st2
  have g_b2 : n0 ≤ b2 := Nat.le_trans Z0 (Nat.le_of_eq q2.symm)
  have sz_b2 : h0.size ≤ b2 := Nat.le_trans K0.1 (Nat.le_of_eq q2.symm)
  have Z3 : n0 ≤ h2.size := Nat.le_trans Z0 E2.1
  have O3 : Old Z n0 h2 := O0.ext E2
  have K3 : Keep h0 h2 [] := K0.ext E2
  have V2 : Arv Z h2 b2 k2 .char (5 : Int32) [(.int (0 : Int32)), (.int (0 : Int32)), (.int (0 : Int32)), (.int (0 : Int32)), (.int (0 : Int32))] (.int (0 : Int32)) := (Arv.new A2 (by decide)).pad (pad_rep [] (.int (0 : Int32)) 5)
  refine gs st2 ?_
  show OwnGo p e below s _ _ _ (T2.setTop (mkF m 3 #[.val (.long i0), .second, .val (.int i1), .val (.int i2), .val (.int i3), .unset, .unset, .unset, .unset, .unset, .unset, .unset, .unset, .unset, .unset, .unset, .unset, .unset, .unset] [(.ref b2)]))
  have c4 : ∀ tg, Steps p.tables e below (T2.setTop (mkF m 9 #[.val (.long i0), .second, .val (.int i1), .val (.int i2), .val (.int i3), .val (.ref b2), .unset, .unset, .unset, .unset, .unset, .unset, .unset, .unset, .unset, .unset, .unset, .unset, .unset] [(.long i0), (.int (0 : Int32)), (.ref b2)])) tg → Steps p.tables e below (T2.setTop (mkF m 3 #[.val (.long i0), .second, .val (.int i1), .val (.int i2), .val (.int i3), .unset, .unset, .unset, .unset, .unset, .unset, .unset, .unset, .unset, .unset, .unset, .unset, .unset, .unset] [(.ref b2)])) tg := fun tg kg => by
    refine XS.astore X2.here hx rfl (hb hby at_3) rfl rfl (l' := #[.val (.long i0), .second, .val (.int i1), .val (.int i2), .val (.int i3), .val (.ref b2), .unset, .unset, .unset, .unset, .unset, .unset, .unset, .unset, .unset, .unset, .unset, .unset, .unset]) rfl ?_
    show Steps p.tables e below (T2.setTop (mkF m 5 #[.val (.long i0), .second, .val (.int i1), .val (.int i2), .val (.int i3), .val (.ref b2), .unset, .unset, .unset, .unset, .unset, .unset, .unset, .unset, .unset, .unset, .unset, .unset, .unset] [])) tg
    refine XS.aload X2.here hx rfl (hb hby at_5) rfl rfl ?_
    show Steps p.tables e below (T2.setTop (mkF m 7 #[.val (.long i0), .second, .val (.int i1), .val (.int i2), .val (.int i3), .val (.ref b2), .unset, .unset, .unset, .unset, .unset, .unset, .unset, .unset, .unset, .unset, .unset, .unset, .unset] [(.ref b2)])) tg
    refine XS.iconst X2.here hx rfl (hb hby at_7) ?_
    show Steps p.tables e below (T2.setTop (mkF m 8 #[.val (.long i0), .second, .val (.int i1), .val (.int i2), .val (.int i3), .val (.ref b2), .unset, .unset, .unset, .unset, .unset, .unset, .unset, .unset, .unset, .unset, .unset, .unset, .unset] [(.int (0 : Int32)), (.ref b2)])) tg
    refine XS.lloadN X2.here hx rfl (hb hby at_8) rfl ?_
    show Steps p.tables e below (T2.setTop (mkF m 9 #[.val (.long i0), .second, .val (.int i1), .val (.int i2), .val (.int i3), .val (.ref b2), .unset, .unset, .unset, .unset, .unset, .unset, .unset, .unset, .unset, .unset, .unset, .unset, .unset] [(.long i0), (.int (0 : Int32)), (.ref b2)])) tg
    exact kg
  refine gs c4 ?_
  obtain ⟨_, _, ⟨T5, L5, k5, n5⟩, -, X5, ⟨Lc5, hQ5, l5, y5, z5⟩, st5⟩ := Jvm.LawKit.callS X2 hx (y := (⟨"com/example/tranche/tranche/DecimalsIsWrittenPinLaw", "draw", "(J)C"⟩ : MethodName)) hown (mvT hZ (hw _ (List.mem_of_getElem? (i := 1) rfl))) (mvT hZ (hw _ (List.mem_of_getElem? (i := 2) rfl))) (mvT hZ (hw _ (List.mem_of_getElem? (i := 3) rfl))) (mvT hZ (hw _ (List.mem_of_getElem? (i := 4) rfl))) (by decide) (backC (W := 2) (rm_dr l Z a0 hw [] i0 h2 n0 Z3 O3 ) hZ (hw _ (List.mem_of_getElem? (i := 4) rfl)) (hw _ (List.mem_of_getElem? (i := 3) rfl)) (by decide) (by decide)) (g := (mkF m 9 #[.val (.long i0), .second, .val (.int i1), .val (.int i2), .val (.int i3), .val (.ref b2), .unset, .unset, .unset, .unset, .unset, .unset, .unset, .unset, .unset, .unset, .unset, .unset, .unset] [(.long i0), (.int (0 : Int32)), (.ref b2)])) rfl (by rw [hml]; rfl) (argsL := [(.long i0)]) (rest := [(.int (0 : Int32)), (.ref b2)]) (lenOf pd_191 rfl) rfl (by show 2 * 0 + _ ≤ _; exact Nat.le_of_eq rfl) (hb hby at_9) (fun _ _ => ⟨rfl, e2, (by decide : 1 + 0 ≤ _), (by decide : 5 + 0 ≤ _)⟩)
  dsimp only [Pt.U, Pt.locs, Pt.cells, Pt.slots] at X5 l5 y5 z5 st5 hQ5
  subst l5 y5 z5
  obtain ⟨c5, rfl, N5q, e5q, b5q⟩ := hQ5
  have N5 := Fr.app N0 N5q
  refine gs st5 ?_
  show OwnGo p e below s _ _ _ (T5.setTop (mkF m 12 #[.val (.long i0), .second, .val (.int i1), .val (.int i2), .val (.int i3), .val (.ref b2), .unset, .unset, .unset, .unset, .unset, .unset, .unset, .unset, .unset, .unset, .unset, .unset, .unset] [(.int c5), (.int (0 : Int32)), (.ref b2)]))
  obtain ⟨cl6, A6, a6q, a6S, a6N, a6H, a6G⟩ := id V2
  obtain ⟨T6, h6, X6, e6, W6, st6⟩ := stC X5 hx hZ e5q A6 (j := (0 : Int32)) (inb_of a6S ⟨by decide, by decide⟩) (g := (mkF m 12 #[.val (.long i0), .second, .val (.int i1), .val (.int i2), .val (.int i3), .val (.ref b2), .unset, .unset, .unset, .unset, .unset, .unset, .unset, .unset, .unset, .unset, .unset, .unset, .unset] [(.int c5), (.int (0 : Int32)), (.ref b2)])) rfl rfl (hb hby at_12)
  have V6 : Arv Z h6 b2 k2 .char (5 : Int32) [(.int (nar .char c5)), (.int (0 : Int32)), (.int (0 : Int32)), (.int (0 : Int32)), (.int (0 : Int32))] (.int (0 : Int32)) := Arv.set A6 a6q a6S a6N a6H a6G (fits_nar_char _) W6 0 rfl (Nat.le_of_ble_eq_true rfl)
  have N6 := Fr.snoc X6 N5 g_b2
  have Z7 : n0 ≤ h6.size := Nat.le_trans Z3 (Keep.of_wr W6).1
  have O7 : Old Z n0 h6 := O3.wr W6 g_b2
  have K7 : Keep h0 h6 [] := K3.wr W6 (Or.inr sz_b2)
  refine gs st6 ?_
  show OwnGo p e below s _ _ _ (T6.setTop (mkF m 13 #[.val (.long i0), .second, .val (.int i1), .val (.int i2), .val (.int i3), .val (.ref b2), .unset, .unset, .unset, .unset, .unset, .unset, .unset, .unset, .unset, .unset, .unset, .unset, .unset] []))
  have c8 : ∀ tg, Steps p.tables e below (T6.setTop (mkF m 20 #[.val (.long i0), .second, .val (.int i1), .val (.int i2), .val (.int i3), .val (.ref b2), .unset, .unset, .unset, .unset, .unset, .unset, .unset, .unset, .unset, .unset, .unset, .unset, .unset] [(.long ((i0.toUInt64 >>> ((9 : Int32) &&& 0x3f).toInt64.toUInt64).toInt64)), (.int (1 : Int32)), (.ref b2)])) tg → Steps p.tables e below (T6.setTop (mkF m 13 #[.val (.long i0), .second, .val (.int i1), .val (.int i2), .val (.int i3), .val (.ref b2), .unset, .unset, .unset, .unset, .unset, .unset, .unset, .unset, .unset, .unset, .unset, .unset, .unset] [])) tg := fun tg kg => by
    refine XS.aload X6.here hx rfl (hb hby at_13) rfl rfl ?_
    show Steps p.tables e below (T6.setTop (mkF m 15 #[.val (.long i0), .second, .val (.int i1), .val (.int i2), .val (.int i3), .val (.ref b2), .unset, .unset, .unset, .unset, .unset, .unset, .unset, .unset, .unset, .unset, .unset, .unset, .unset] [(.ref b2)])) tg
    refine XS.iconst X6.here hx rfl (hb hby at_15) ?_
    show Steps p.tables e below (T6.setTop (mkF m 16 #[.val (.long i0), .second, .val (.int i1), .val (.int i2), .val (.int i3), .val (.ref b2), .unset, .unset, .unset, .unset, .unset, .unset, .unset, .unset, .unset, .unset, .unset, .unset, .unset] [(.int (1 : Int32)), (.ref b2)])) tg
    refine XS.lloadN X6.here hx rfl (hb hby at_16) rfl ?_
    show Steps p.tables e below (T6.setTop (mkF m 17 #[.val (.long i0), .second, .val (.int i1), .val (.int i2), .val (.int i3), .val (.ref b2), .unset, .unset, .unset, .unset, .unset, .unset, .unset, .unset, .unset, .unset, .unset, .unset, .unset] [(.long i0), (.int (1 : Int32)), (.ref b2)])) tg
    refine XS.bipush X6.here hx rfl (hb hby at_17) ?_
    show Steps p.tables e below (T6.setTop (mkF m 19 #[.val (.long i0), .second, .val (.int i1), .val (.int i2), .val (.int i3), .val (.ref b2), .unset, .unset, .unset, .unset, .unset, .unset, .unset, .unset, .unset, .unset, .unset, .unset, .unset] [(.int (9 : Int32)), (.long i0), (.int (1 : Int32)), (.ref b2)])) tg
    refine XS.lushr X6.here hx rfl (hb hby at_19) rfl ?_
    show Steps p.tables e below (T6.setTop (mkF m 20 #[.val (.long i0), .second, .val (.int i1), .val (.int i2), .val (.int i3), .val (.ref b2), .unset, .unset, .unset, .unset, .unset, .unset, .unset, .unset, .unset, .unset, .unset, .unset, .unset] [(.long ((i0.toUInt64 >>> ((9 : Int32) &&& 0x3f).toInt64.toUInt64).toInt64)), (.int (1 : Int32)), (.ref b2)])) tg
    exact kg
  refine gs c8 ?_
  obtain ⟨_, _, ⟨T9, L9, k9, n9⟩, -, X9, ⟨Lc9, hQ9, l9, y9, z9⟩, st9⟩ := Jvm.LawKit.callS X6 hx (y := (⟨"com/example/tranche/tranche/DecimalsIsWrittenPinLaw", "draw", "(J)C"⟩ : MethodName)) hown (mvT hZ (hw _ (List.mem_of_getElem? (i := 1) rfl))) (mvT hZ (hw _ (List.mem_of_getElem? (i := 2) rfl))) (mvT hZ (hw _ (List.mem_of_getElem? (i := 3) rfl))) (mvT hZ (hw _ (List.mem_of_getElem? (i := 4) rfl))) (by decide) (backC (W := 2) (rm_dr l Z a0 hw [] ((i0.toUInt64 >>> ((9 : Int32) &&& 0x3f).toInt64.toUInt64).toInt64) h6 n0 Z7 O7 ) hZ (hw _ (List.mem_of_getElem? (i := 4) rfl)) (hw _ (List.mem_of_getElem? (i := 3) rfl)) (by decide) (by decide)) (g := (mkF m 20 #[.val (.long i0), .second, .val (.int i1), .val (.int i2), .val (.int i3), .val (.ref b2), .unset, .unset, .unset, .unset, .unset, .unset, .unset, .unset, .unset, .unset, .unset, .unset, .unset] [(.long ((i0.toUInt64 >>> ((9 : Int32) &&& 0x3f).toInt64.toUInt64).toInt64)), (.int (1 : Int32)), (.ref b2)])) rfl (by rw [hml]; rfl) (argsL := [(.long ((i0.toUInt64 >>> ((9 : Int32) &&& 0x3f).toInt64.toUInt64).toInt64))]) (rest := [(.int (1 : Int32)), (.ref b2)]) (lenOf pd_191 rfl) rfl (by show 2 * 0 + _ ≤ _; exact Nat.le_of_eq rfl) (hb hby at_20) (fun _ _ => ⟨rfl, e6, (by decide : 1 + 0 ≤ _), (by decide : 5 + 0 ≤ _)⟩)
  dsimp only [Pt.U, Pt.locs, Pt.cells, Pt.slots] at X9 l9 y9 z9 st9 hQ9
  subst l9 y9 z9
  obtain ⟨c9, rfl, N9q, e9q, b9q⟩ := hQ9
  have N9 := Fr.app N6 N9q
  refine gs st9 ?_
  show OwnGo p e below s _ _ _ (T9.setTop (mkF m 23 #[.val (.long i0), .second, .val (.int i1), .val (.int i2), .val (.int i3), .val (.ref b2), .unset, .unset, .unset, .unset, .unset, .unset, .unset, .unset, .unset, .unset, .unset, .unset, .unset] [(.int c9), (.int (1 : Int32)), (.ref b2)]))
  obtain ⟨cl10, A10, a10q, a10S, a10N, a10H, a10G⟩ := id V6
  obtain ⟨T10, h10, X10, e10, W10, st10⟩ := stC X9 hx hZ e9q A10 (j := (1 : Int32)) (inb_of a10S ⟨by decide, by decide⟩) (g := (mkF m 23 #[.val (.long i0), .second, .val (.int i1), .val (.int i2), .val (.int i3), .val (.ref b2), .unset, .unset, .unset, .unset, .unset, .unset, .unset, .unset, .unset, .unset, .unset, .unset, .unset] [(.int c9), (.int (1 : Int32)), (.ref b2)])) rfl rfl (hb hby at_23)
  have V10 : Arv Z h10 b2 k2 .char (5 : Int32) [(.int (nar .char c5)), (.int (nar .char c9)), (.int (0 : Int32)), (.int (0 : Int32)), (.int (0 : Int32))] (.int (0 : Int32)) := Arv.set A10 a10q a10S a10N a10H a10G (fits_nar_char _) W10 1 rfl (Nat.le_of_ble_eq_true rfl)
  have N10 := Fr.snoc X10 N9 g_b2
  have Z11 : n0 ≤ h10.size := Nat.le_trans Z7 (Keep.of_wr W10).1
  have O11 : Old Z n0 h10 := O7.wr W10 g_b2
  have K11 : Keep h0 h10 [] := K7.wr W10 (Or.inr sz_b2)
  refine gs st10 ?_
  show OwnGo p e below s _ _ _ (T10.setTop (mkF m 24 #[.val (.long i0), .second, .val (.int i1), .val (.int i2), .val (.int i3), .val (.ref b2), .unset, .unset, .unset, .unset, .unset, .unset, .unset, .unset, .unset, .unset, .unset, .unset, .unset] []))
  have c12 : ∀ tg, Steps p.tables e below (T10.setTop (mkF m 31 #[.val (.long i0), .second, .val (.int i1), .val (.int i2), .val (.int i3), .val (.ref b2), .unset, .unset, .unset, .unset, .unset, .unset, .unset, .unset, .unset, .unset, .unset, .unset, .unset] [(.long ((i0.toUInt64 >>> ((18 : Int32) &&& 0x3f).toInt64.toUInt64).toInt64)), (.int (2 : Int32)), (.ref b2)])) tg → Steps p.tables e below (T10.setTop (mkF m 24 #[.val (.long i0), .second, .val (.int i1), .val (.int i2), .val (.int i3), .val (.ref b2), .unset, .unset, .unset, .unset, .unset, .unset, .unset, .unset, .unset, .unset, .unset, .unset, .unset] [])) tg := fun tg kg => by
    refine XS.aload X10.here hx rfl (hb hby at_24) rfl rfl ?_
    show Steps p.tables e below (T10.setTop (mkF m 26 #[.val (.long i0), .second, .val (.int i1), .val (.int i2), .val (.int i3), .val (.ref b2), .unset, .unset, .unset, .unset, .unset, .unset, .unset, .unset, .unset, .unset, .unset, .unset, .unset] [(.ref b2)])) tg
    refine XS.iconst X10.here hx rfl (hb hby at_26) ?_
    show Steps p.tables e below (T10.setTop (mkF m 27 #[.val (.long i0), .second, .val (.int i1), .val (.int i2), .val (.int i3), .val (.ref b2), .unset, .unset, .unset, .unset, .unset, .unset, .unset, .unset, .unset, .unset, .unset, .unset, .unset] [(.int (2 : Int32)), (.ref b2)])) tg
    refine XS.lloadN X10.here hx rfl (hb hby at_27) rfl ?_
    show Steps p.tables e below (T10.setTop (mkF m 28 #[.val (.long i0), .second, .val (.int i1), .val (.int i2), .val (.int i3), .val (.ref b2), .unset, .unset, .unset, .unset, .unset, .unset, .unset, .unset, .unset, .unset, .unset, .unset, .unset] [(.long i0), (.int (2 : Int32)), (.ref b2)])) tg
    refine XS.bipush X10.here hx rfl (hb hby at_28) ?_
    show Steps p.tables e below (T10.setTop (mkF m 30 #[.val (.long i0), .second, .val (.int i1), .val (.int i2), .val (.int i3), .val (.ref b2), .unset, .unset, .unset, .unset, .unset, .unset, .unset, .unset, .unset, .unset, .unset, .unset, .unset] [(.int (18 : Int32)), (.long i0), (.int (2 : Int32)), (.ref b2)])) tg
    refine XS.lushr X10.here hx rfl (hb hby at_30) rfl ?_
    show Steps p.tables e below (T10.setTop (mkF m 31 #[.val (.long i0), .second, .val (.int i1), .val (.int i2), .val (.int i3), .val (.ref b2), .unset, .unset, .unset, .unset, .unset, .unset, .unset, .unset, .unset, .unset, .unset, .unset, .unset] [(.long ((i0.toUInt64 >>> ((18 : Int32) &&& 0x3f).toInt64.toUInt64).toInt64)), (.int (2 : Int32)), (.ref b2)])) tg
    exact kg
  refine gs c12 ?_
  obtain ⟨_, _, ⟨T13, L13, k13, n13⟩, -, X13, ⟨Lc13, hQ13, l13, y13, z13⟩, st13⟩ := Jvm.LawKit.callS X10 hx (y := (⟨"com/example/tranche/tranche/DecimalsIsWrittenPinLaw", "draw", "(J)C"⟩ : MethodName)) hown (mvT hZ (hw _ (List.mem_of_getElem? (i := 1) rfl))) (mvT hZ (hw _ (List.mem_of_getElem? (i := 2) rfl))) (mvT hZ (hw _ (List.mem_of_getElem? (i := 3) rfl))) (mvT hZ (hw _ (List.mem_of_getElem? (i := 4) rfl))) (by decide) (backC (W := 2) (rm_dr l Z a0 hw [] ((i0.toUInt64 >>> ((18 : Int32) &&& 0x3f).toInt64.toUInt64).toInt64) h10 n0 Z11 O11 ) hZ (hw _ (List.mem_of_getElem? (i := 4) rfl)) (hw _ (List.mem_of_getElem? (i := 3) rfl)) (by decide) (by decide)) (g := (mkF m 31 #[.val (.long i0), .second, .val (.int i1), .val (.int i2), .val (.int i3), .val (.ref b2), .unset, .unset, .unset, .unset, .unset, .unset, .unset, .unset, .unset, .unset, .unset, .unset, .unset] [(.long ((i0.toUInt64 >>> ((18 : Int32) &&& 0x3f).toInt64.toUInt64).toInt64)), (.int (2 : Int32)), (.ref b2)])) rfl (by rw [hml]; rfl) (argsL := [(.long ((i0.toUInt64 >>> ((18 : Int32) &&& 0x3f).toInt64.toUInt64).toInt64))]) (rest := [(.int (2 : Int32)), (.ref b2)]) (lenOf pd_191 rfl) rfl (by show 2 * 0 + _ ≤ _; exact Nat.le_of_eq rfl) (hb hby at_31) (fun _ _ => ⟨rfl, e10, (by decide : 1 + 0 ≤ _), (by decide : 5 + 0 ≤ _)⟩)
  dsimp only [Pt.U, Pt.locs, Pt.cells, Pt.slots] at X13 l13 y13 z13 st13 hQ13
  subst l13 y13 z13
  obtain ⟨c13, rfl, N13q, e13q, b13q⟩ := hQ13
  have N13 := Fr.app N10 N13q
  refine gs st13 ?_
  show OwnGo p e below s _ _ _ (T13.setTop (mkF m 34 #[.val (.long i0), .second, .val (.int i1), .val (.int i2), .val (.int i3), .val (.ref b2), .unset, .unset, .unset, .unset, .unset, .unset, .unset, .unset, .unset, .unset, .unset, .unset, .unset] [(.int c13), (.int (2 : Int32)), (.ref b2)]))
  obtain ⟨cl14, A14, a14q, a14S, a14N, a14H, a14G⟩ := id V10
  obtain ⟨T14, h14, X14, e14, W14, st14⟩ := stC X13 hx hZ e13q A14 (j := (2 : Int32)) (inb_of a14S ⟨by decide, by decide⟩) (g := (mkF m 34 #[.val (.long i0), .second, .val (.int i1), .val (.int i2), .val (.int i3), .val (.ref b2), .unset, .unset, .unset, .unset, .unset, .unset, .unset, .unset, .unset, .unset, .unset, .unset, .unset] [(.int c13), (.int (2 : Int32)), (.ref b2)])) rfl rfl (hb hby at_34)
  have V14 : Arv Z h14 b2 k2 .char (5 : Int32) [(.int (nar .char c5)), (.int (nar .char c9)), (.int (nar .char c13)), (.int (0 : Int32)), (.int (0 : Int32))] (.int (0 : Int32)) := Arv.set A14 a14q a14S a14N a14H a14G (fits_nar_char _) W14 2 rfl (Nat.le_of_ble_eq_true rfl)
  have N14 := Fr.snoc X14 N13 g_b2
  have Z15 : n0 ≤ h14.size := Nat.le_trans Z11 (Keep.of_wr W14).1
  have O15 : Old Z n0 h14 := O11.wr W14 g_b2
  have K15 : Keep h0 h14 [] := K11.wr W14 (Or.inr sz_b2)
  refine gs st14 ?_
  show OwnGo p e below s _ _ _ (T14.setTop (mkF m 35 #[.val (.long i0), .second, .val (.int i1), .val (.int i2), .val (.int i3), .val (.ref b2), .unset, .unset, .unset, .unset, .unset, .unset, .unset, .unset, .unset, .unset, .unset, .unset, .unset] []))
  have c16 : ∀ tg, Steps p.tables e below (T14.setTop (mkF m 42 #[.val (.long i0), .second, .val (.int i1), .val (.int i2), .val (.int i3), .val (.ref b2), .unset, .unset, .unset, .unset, .unset, .unset, .unset, .unset, .unset, .unset, .unset, .unset, .unset] [(.long ((i0.toUInt64 >>> ((27 : Int32) &&& 0x3f).toInt64.toUInt64).toInt64)), (.int (3 : Int32)), (.ref b2)])) tg → Steps p.tables e below (T14.setTop (mkF m 35 #[.val (.long i0), .second, .val (.int i1), .val (.int i2), .val (.int i3), .val (.ref b2), .unset, .unset, .unset, .unset, .unset, .unset, .unset, .unset, .unset, .unset, .unset, .unset, .unset] [])) tg := fun tg kg => by
    refine XS.aload X14.here hx rfl (hb hby at_35) rfl rfl ?_
    show Steps p.tables e below (T14.setTop (mkF m 37 #[.val (.long i0), .second, .val (.int i1), .val (.int i2), .val (.int i3), .val (.ref b2), .unset, .unset, .unset, .unset, .unset, .unset, .unset, .unset, .unset, .unset, .unset, .unset, .unset] [(.ref b2)])) tg
    refine XS.iconst X14.here hx rfl (hb hby at_37) ?_
    show Steps p.tables e below (T14.setTop (mkF m 38 #[.val (.long i0), .second, .val (.int i1), .val (.int i2), .val (.int i3), .val (.ref b2), .unset, .unset, .unset, .unset, .unset, .unset, .unset, .unset, .unset, .unset, .unset, .unset, .unset] [(.int (3 : Int32)), (.ref b2)])) tg
    refine XS.lloadN X14.here hx rfl (hb hby at_38) rfl ?_
    show Steps p.tables e below (T14.setTop (mkF m 39 #[.val (.long i0), .second, .val (.int i1), .val (.int i2), .val (.int i3), .val (.ref b2), .unset, .unset, .unset, .unset, .unset, .unset, .unset, .unset, .unset, .unset, .unset, .unset, .unset] [(.long i0), (.int (3 : Int32)), (.ref b2)])) tg
    refine XS.bipush X14.here hx rfl (hb hby at_39) ?_
    show Steps p.tables e below (T14.setTop (mkF m 41 #[.val (.long i0), .second, .val (.int i1), .val (.int i2), .val (.int i3), .val (.ref b2), .unset, .unset, .unset, .unset, .unset, .unset, .unset, .unset, .unset, .unset, .unset, .unset, .unset] [(.int (27 : Int32)), (.long i0), (.int (3 : Int32)), (.ref b2)])) tg
    refine XS.lushr X14.here hx rfl (hb hby at_41) rfl ?_
    show Steps p.tables e below (T14.setTop (mkF m 42 #[.val (.long i0), .second, .val (.int i1), .val (.int i2), .val (.int i3), .val (.ref b2), .unset, .unset, .unset, .unset, .unset, .unset, .unset, .unset, .unset, .unset, .unset, .unset, .unset] [(.long ((i0.toUInt64 >>> ((27 : Int32) &&& 0x3f).toInt64.toUInt64).toInt64)), (.int (3 : Int32)), (.ref b2)])) tg
    exact kg
  refine gs c16 ?_
  obtain ⟨_, _, ⟨T17, L17, k17, n17⟩, -, X17, ⟨Lc17, hQ17, l17, y17, z17⟩, st17⟩ := Jvm.LawKit.callS X14 hx (y := (⟨"com/example/tranche/tranche/DecimalsIsWrittenPinLaw", "draw", "(J)C"⟩ : MethodName)) hown (mvT hZ (hw _ (List.mem_of_getElem? (i := 1) rfl))) (mvT hZ (hw _ (List.mem_of_getElem? (i := 2) rfl))) (mvT hZ (hw _ (List.mem_of_getElem? (i := 3) rfl))) (mvT hZ (hw _ (List.mem_of_getElem? (i := 4) rfl))) (by decide) (backC (W := 2) (rm_dr l Z a0 hw [] ((i0.toUInt64 >>> ((27 : Int32) &&& 0x3f).toInt64.toUInt64).toInt64) h14 n0 Z15 O15 ) hZ (hw _ (List.mem_of_getElem? (i := 4) rfl)) (hw _ (List.mem_of_getElem? (i := 3) rfl)) (by decide) (by decide)) (g := (mkF m 42 #[.val (.long i0), .second, .val (.int i1), .val (.int i2), .val (.int i3), .val (.ref b2), .unset, .unset, .unset, .unset, .unset, .unset, .unset, .unset, .unset, .unset, .unset, .unset, .unset] [(.long ((i0.toUInt64 >>> ((27 : Int32) &&& 0x3f).toInt64.toUInt64).toInt64)), (.int (3 : Int32)), (.ref b2)])) rfl (by rw [hml]; rfl) (argsL := [(.long ((i0.toUInt64 >>> ((27 : Int32) &&& 0x3f).toInt64.toUInt64).toInt64))]) (rest := [(.int (3 : Int32)), (.ref b2)]) (lenOf pd_191 rfl) rfl (by show 2 * 0 + _ ≤ _; exact Nat.le_of_eq rfl) (hb hby at_42) (fun _ _ => ⟨rfl, e14, (by decide : 1 + 0 ≤ _), (by decide : 5 + 0 ≤ _)⟩)
  dsimp only [Pt.U, Pt.locs, Pt.cells, Pt.slots] at X17 l17 y17 z17 st17 hQ17
  subst l17 y17 z17
  obtain ⟨c17, rfl, N17q, e17q, b17q⟩ := hQ17
  have N17 := Fr.app N14 N17q
  refine gs st17 ?_
  show OwnGo p e below s _ _ _ (T17.setTop (mkF m 45 #[.val (.long i0), .second, .val (.int i1), .val (.int i2), .val (.int i3), .val (.ref b2), .unset, .unset, .unset, .unset, .unset, .unset, .unset, .unset, .unset, .unset, .unset, .unset, .unset] [(.int c17), (.int (3 : Int32)), (.ref b2)]))
  obtain ⟨cl18, A18, a18q, a18S, a18N, a18H, a18G⟩ := id V14
  obtain ⟨T18, h18, X18, e18, W18, st18⟩ := stC X17 hx hZ e17q A18 (j := (3 : Int32)) (inb_of a18S ⟨by decide, by decide⟩) (g := (mkF m 45 #[.val (.long i0), .second, .val (.int i1), .val (.int i2), .val (.int i3), .val (.ref b2), .unset, .unset, .unset, .unset, .unset, .unset, .unset, .unset, .unset, .unset, .unset, .unset, .unset] [(.int c17), (.int (3 : Int32)), (.ref b2)])) rfl rfl (hb hby at_45)
  have V18 : Arv Z h18 b2 k2 .char (5 : Int32) [(.int (nar .char c5)), (.int (nar .char c9)), (.int (nar .char c13)), (.int (nar .char c17)), (.int (0 : Int32))] (.int (0 : Int32)) := Arv.set A18 a18q a18S a18N a18H a18G (fits_nar_char _) W18 3 rfl (Nat.le_of_ble_eq_true rfl)
  have N18 := Fr.snoc X18 N17 g_b2
  have Z19 : n0 ≤ h18.size := Nat.le_trans Z15 (Keep.of_wr W18).1
  have O19 : Old Z n0 h18 := O15.wr W18 g_b2
  have K19 : Keep h0 h18 [] := K15.wr W18 (Or.inr sz_b2)
  refine gs st18 ?_
  show OwnGo p e below s _ _ _ (T18.setTop (mkF m 46 #[.val (.long i0), .second, .val (.int i1), .val (.int i2), .val (.int i3), .val (.ref b2), .unset, .unset, .unset, .unset, .unset, .unset, .unset, .unset, .unset, .unset, .unset, .unset, .unset] []))
  have c20 : ∀ tg, Steps p.tables e below (T18.setTop (mkF m 53 #[.val (.long i0), .second, .val (.int i1), .val (.int i2), .val (.int i3), .val (.ref b2), .unset, .unset, .unset, .unset, .unset, .unset, .unset, .unset, .unset, .unset, .unset, .unset, .unset] [(.long ((i0.toUInt64 >>> ((36 : Int32) &&& 0x3f).toInt64.toUInt64).toInt64)), (.int (4 : Int32)), (.ref b2)])) tg → Steps p.tables e below (T18.setTop (mkF m 46 #[.val (.long i0), .second, .val (.int i1), .val (.int i2), .val (.int i3), .val (.ref b2), .unset, .unset, .unset, .unset, .unset, .unset, .unset, .unset, .unset, .unset, .unset, .unset, .unset] [])) tg := fun tg kg => by
    refine XS.aload X18.here hx rfl (hb hby at_46) rfl rfl ?_
    show Steps p.tables e below (T18.setTop (mkF m 48 #[.val (.long i0), .second, .val (.int i1), .val (.int i2), .val (.int i3), .val (.ref b2), .unset, .unset, .unset, .unset, .unset, .unset, .unset, .unset, .unset, .unset, .unset, .unset, .unset] [(.ref b2)])) tg
    refine XS.iconst X18.here hx rfl (hb hby at_48) ?_
    show Steps p.tables e below (T18.setTop (mkF m 49 #[.val (.long i0), .second, .val (.int i1), .val (.int i2), .val (.int i3), .val (.ref b2), .unset, .unset, .unset, .unset, .unset, .unset, .unset, .unset, .unset, .unset, .unset, .unset, .unset] [(.int (4 : Int32)), (.ref b2)])) tg
    refine XS.lloadN X18.here hx rfl (hb hby at_49) rfl ?_
    show Steps p.tables e below (T18.setTop (mkF m 50 #[.val (.long i0), .second, .val (.int i1), .val (.int i2), .val (.int i3), .val (.ref b2), .unset, .unset, .unset, .unset, .unset, .unset, .unset, .unset, .unset, .unset, .unset, .unset, .unset] [(.long i0), (.int (4 : Int32)), (.ref b2)])) tg
    refine XS.bipush X18.here hx rfl (hb hby at_50) ?_
    show Steps p.tables e below (T18.setTop (mkF m 52 #[.val (.long i0), .second, .val (.int i1), .val (.int i2), .val (.int i3), .val (.ref b2), .unset, .unset, .unset, .unset, .unset, .unset, .unset, .unset, .unset, .unset, .unset, .unset, .unset] [(.int (36 : Int32)), (.long i0), (.int (4 : Int32)), (.ref b2)])) tg
    refine XS.lushr X18.here hx rfl (hb hby at_52) rfl ?_
    show Steps p.tables e below (T18.setTop (mkF m 53 #[.val (.long i0), .second, .val (.int i1), .val (.int i2), .val (.int i3), .val (.ref b2), .unset, .unset, .unset, .unset, .unset, .unset, .unset, .unset, .unset, .unset, .unset, .unset, .unset] [(.long ((i0.toUInt64 >>> ((36 : Int32) &&& 0x3f).toInt64.toUInt64).toInt64)), (.int (4 : Int32)), (.ref b2)])) tg
    exact kg
  refine gs c20 ?_
  obtain ⟨_, _, ⟨T21, L21, k21, n21⟩, -, X21, ⟨Lc21, hQ21, l21, y21, z21⟩, st21⟩ := Jvm.LawKit.callS X18 hx (y := (⟨"com/example/tranche/tranche/DecimalsIsWrittenPinLaw", "draw", "(J)C"⟩ : MethodName)) hown (mvT hZ (hw _ (List.mem_of_getElem? (i := 1) rfl))) (mvT hZ (hw _ (List.mem_of_getElem? (i := 2) rfl))) (mvT hZ (hw _ (List.mem_of_getElem? (i := 3) rfl))) (mvT hZ (hw _ (List.mem_of_getElem? (i := 4) rfl))) (by decide) (backC (W := 2) (rm_dr l Z a0 hw [] ((i0.toUInt64 >>> ((36 : Int32) &&& 0x3f).toInt64.toUInt64).toInt64) h18 n0 Z19 O19 ) hZ (hw _ (List.mem_of_getElem? (i := 4) rfl)) (hw _ (List.mem_of_getElem? (i := 3) rfl)) (by decide) (by decide)) (g := (mkF m 53 #[.val (.long i0), .second, .val (.int i1), .val (.int i2), .val (.int i3), .val (.ref b2), .unset, .unset, .unset, .unset, .unset, .unset, .unset, .unset, .unset, .unset, .unset, .unset, .unset] [(.long ((i0.toUInt64 >>> ((36 : Int32) &&& 0x3f).toInt64.toUInt64).toInt64)), (.int (4 : Int32)), (.ref b2)])) rfl (by rw [hml]; rfl) (argsL := [(.long ((i0.toUInt64 >>> ((36 : Int32) &&& 0x3f).toInt64.toUInt64).toInt64))]) (rest := [(.int (4 : Int32)), (.ref b2)]) (lenOf pd_191 rfl) rfl (by show 2 * 0 + _ ≤ _; exact Nat.le_of_eq rfl) (hb hby at_53) (fun _ _ => ⟨rfl, e18, (by decide : 1 + 0 ≤ _), (by decide : 5 + 0 ≤ _)⟩)
  dsimp only [Pt.U, Pt.locs, Pt.cells, Pt.slots] at X21 l21 y21 z21 st21 hQ21
  subst l21 y21 z21
  obtain ⟨c21, rfl, N21q, e21q, b21q⟩ := hQ21
  have N21 := Fr.app N18 N21q
  refine gs st21 ?_
  show OwnGo p e below s _ _ _ (T21.setTop (mkF m 56 #[.val (.long i0), .second, .val (.int i1), .val (.int i2), .val (.int i3), .val (.ref b2), .unset, .unset, .unset, .unset, .unset, .unset, .unset, .unset, .unset, .unset, .unset, .unset, .unset] [(.int c21), (.int (4 : Int32)), (.ref b2)]))
  obtain ⟨cl22, A22, a22q, a22S, a22N, a22H, a22G⟩ := id V18
  obtain ⟨T22, h22, X22, e22, W22, st22⟩ := stC X21 hx hZ e21q A22 (j := (4 : Int32)) (inb_of a22S ⟨by decide, by decide⟩) (g := (mkF m 56 #[.val (.long i0), .second, .val (.int i1), .val (.int i2), .val (.int i3), .val (.ref b2), .unset, .unset, .unset, .unset, .unset, .unset, .unset, .unset, .unset, .unset, .unset, .unset, .unset] [(.int c21), (.int (4 : Int32)), (.ref b2)])) rfl rfl (hb hby at_56)
  have V22 : Arv Z h22 b2 k2 .char (5 : Int32) [(.int (nar .char c5)), (.int (nar .char c9)), (.int (nar .char c13)), (.int (nar .char c17)), (.int (nar .char c21))] (.int (0 : Int32)) := Arv.set A22 a22q a22S a22N a22H a22G (fits_nar_char _) W22 4 rfl (Nat.le_of_ble_eq_true rfl)
  have N22 := Fr.snoc X22 N21 g_b2
  have Z23 : n0 ≤ h22.size := Nat.le_trans Z19 (Keep.of_wr W22).1
  have O23 : Old Z n0 h22 := O19.wr W22 g_b2
  have K23 : Keep h0 h22 [] := K19.wr W22 (Or.inr sz_b2)
  refine gs st22 ?_
  show OwnGo p e below s _ _ _ (T22.setTop (mkF m 57 #[.val (.long i0), .second, .val (.int i1), .val (.int i2), .val (.int i3), .val (.ref b2), .unset, .unset, .unset, .unset, .unset, .unset, .unset, .unset, .unset, .unset, .unset, .unset, .unset] []))
  obtain ⟨T24, h24, X24, e24, E24, A24, D24, -, st24⟩ := newO X22 hx hZ hown (hw _ (List.mem_of_getElem? (i := 6) rfl)) (hw _ (List.mem_of_getElem? (i := 7) rfl)) (hw _ (List.mem_of_getElem? (i := 8) rfl)) e22 (g := (mkF m 57 #[.val (.long i0), .second, .val (.int i1), .val (.int i2), .val (.int i3), .val (.ref b2), .unset, .unset, .unset, .unset, .unset, .unset, .unset, .unset, .unset, .unset, .unset, .unset, .unset] [])) rfl (hb hby at_57) (by decide) (by decide)
  obtain ⟨b24, q24⟩ : ∃ z, z = h22.size := ⟨_, rfl⟩
  rw [← q24] at A24 D24 st24
  have g_b24 : n0 ≤ b24 := Nat.le_trans Z23 (Nat.le_of_eq q24.symm)
  have sz_b24 : h0.size ≤ b24 := Nat.le_trans K23.1 (Nat.le_of_eq q24.symm)
  have Z25 : n0 ≤ h24.size := Nat.le_trans Z23 E24.1
  have O25 : Old Z n0 h24 := O23.ext E24
  have K25 : Keep h0 h24 [] := K23.ext E24
  have F_coder_b24 : Fld Z h24 b24 "java/lang/String" "coder" "B" (.int (0 : Int32)) := D24 (Or.inr (hw _ (List.mem_of_getElem? (i := 32) rfl))) (ty := .byte) (by decide)
  have F_value_b24 : Fld Z h24 b24 "java/lang/String" "value" "[B" .null := D24 (Or.inr (hw _ (List.mem_of_getElem? (i := 34) rfl))) (ty := (.array .byte)) (by decide)
  refine gs st24 ?_
  show OwnGo p e below s _ _ _ (T24.setTop (mkF m 60 #[.val (.long i0), .second, .val (.int i1), .val (.int i2), .val (.int i3), .val (.ref b2), .unset, .unset, .unset, .unset, .unset, .unset, .unset, .unset, .unset, .unset, .unset, .unset, .unset] [(.ref b24)]))
  have c26 : ∀ tg, Steps p.tables e below (T24.setTop (mkF m 63 #[.val (.long i0), .second, .val (.int i1), .val (.int i2), .val (.int i3), .val (.ref b2), .unset, .unset, .unset, .unset, .unset, .unset, .unset, .unset, .unset, .unset, .unset, .unset, .unset] [(.ref b2), (.ref b24), (.ref b24)])) tg → Steps p.tables e below (T24.setTop (mkF m 60 #[.val (.long i0), .second, .val (.int i1), .val (.int i2), .val (.int i3), .val (.ref b2), .unset, .unset, .unset, .unset, .unset, .unset, .unset, .unset, .unset, .unset, .unset, .unset, .unset] [(.ref b24)])) tg := fun tg kg => by
    refine XS.dup X24.here hx rfl (hb hby at_60) rfl rfl ?_
    show Steps p.tables e below (T24.setTop (mkF m 61 #[.val (.long i0), .second, .val (.int i1), .val (.int i2), .val (.int i3), .val (.ref b2), .unset, .unset, .unset, .unset, .unset, .unset, .unset, .unset, .unset, .unset, .unset, .unset, .unset] [(.ref b24), (.ref b24)])) tg
    refine XS.aload X24.here hx rfl (hb hby at_61) rfl rfl ?_
    show Steps p.tables e below (T24.setTop (mkF m 63 #[.val (.long i0), .second, .val (.int i1), .val (.int i2), .val (.int i3), .val (.ref b2), .unset, .unset, .unset, .unset, .unset, .unset, .unset, .unset, .unset, .unset, .unset, .unset, .unset] [(.ref b2), (.ref b24), (.ref b24)])) tg
    exact kg
  refine gs c26 ?_
  have hp27 : ∀ c ∈ ([(nar .char c5), (nar .char c9), (nar .char c13), (nar .char c17), (nar .char c21)] : List Int32), ¬ c < 0 ∧ ¬ (255 : Int32) < c := by
    intro c hc
    simp only [List.mem_cons, List.not_mem_nil, or_false] at hc
    rcases hc with rfl | rfl | rfl | rfl | rfl
    all_goals first | exact own_nb b5q | exact own_nb b9q | exact own_nb b13q | exact own_nb b17q | exact own_nb b21q
  have f28 := (V22.ext E24)
  obtain ⟨_, _, ⟨T29, L29, k29, n29⟩, -, X29, ⟨Lc29, hQ29, l29, y29, z29⟩, st29⟩ := X24.specialBack hx (y := (⟨"java/lang/String", "<init>", "([C)V"⟩ : MethodName)) rfl hown (mvT hZ (hw _ (List.mem_of_getElem? (i := 9) rfl))) (mvT hZ (hw _ (List.mem_of_getElem? (i := 10) rfl))) (mvT hZ (hw _ (List.mem_of_getElem? (i := 11) rfl))) (by decide) (StrChars.Road.backV (W := 1) hZ hws (kI := 4) (hw _ (List.mem_of_getElem? (i := 7) rfl)) (cs := ([(nar .char c5), (nar .char c9), (nar .char c13), (nar .char c17), (nar .char c21)] : List Int32)) (bs := ([(nar .char c5), (nar .char c9), (nar .char c13), (nar .char c17), (nar .char c21)] : List Int32).map (fun c => c.toInt8.toInt32)) (n := 5) g_b24 Z25 A24 F_value_b24 F_coder_b24 f28 (S0.ext O25.2) hz rfl rfl (by decide) (by decide) hp27 rfl (by decide) (by decide)) (g := (mkF m 63 #[.val (.long i0), .second, .val (.int i1), .val (.int i2), .val (.int i3), .val (.ref b2), .unset, .unset, .unset, .unset, .unset, .unset, .unset, .unset, .unset, .unset, .unset, .unset, .unset] [(.ref b2), (.ref b24), (.ref b24)])) rfl (by rw [hml]; rfl) (Steps.refl _) (a := b24) (argsL := [(.ref b2)]) (rest := [(.ref b24)]) (lenOf pd_192 rfl) rfl (by show 2 * 0 + _ ≤ _; exact Nat.le_of_eq rfl) (hb hby at_63) (fun _ _ => ⟨rfl, e24, (by decide : 2 + 1 ≤ _), (by decide : 9 + 5 ≤ _)⟩)
  dsimp only [Pt.U, Pt.locs, Pt.cells, Pt.slots] at X29 l29 y29 z29 st29 hQ29
  subst l29 y29 z29
  obtain ⟨rfl, N29q, K29q, g29e, g29c, t29, kb29, -, g29t, -, g29v, g29a⟩ := hQ29
  have N29 := Fr.app N22 N29q
  have g_t29 : n0 ≤ t29 := Nat.le_trans Z25 g29t
  have sz_t29 : h0.size ≤ t29 := Nat.le_trans K25.1 g29t
  have Z30 : n0 ≤ T29.heap.size := Nat.le_trans Z25 K29q.1
  have O30 : Old Z n0 T29.heap := O25.keep K29q (allS g_b24 all0)
  have K30 : Keep h0 T29.heap [] := K25.trans K29q (allS (Or.inr sz_b24) all0)
  refine gs (fun _ k => st29.trans k) ?_
  show OwnGo p e below s _ _ _ (T29.setTop (mkF m 66 #[.val (.long i0), .second, .val (.int i1), .val (.int i2), .val (.int i3), .val (.ref b2), .unset, .unset, .unset, .unset, .unset, .unset, .unset, .unset, .unset, .unset, .unset, .unset, .unset] [(.ref b24)]))
  have T31 : Str Z T29.heap b24 ([(nar .char c5), (nar .char c9), (nar .char c13), (nar .char c17), (nar .char c21)] : List Int32) := ⟨_, _, g29e, g29c, g29v, g29a⟩
  have c32 : ∀ tg, Steps p.tables e below (T29.setTop (mkF m 77 #[.val (.long i0), .second, .val (.int i1), .val (.int i2), .val (.int i3), .val (.ref b2), .val (.ref b24), .val (.int ((i1 &&& (2147483647 : Int32)) % (6 : Int32))), .unset, .unset, .unset, .unset, .unset, .unset, .unset, .unset, .unset, .unset, .unset] [])) tg → Steps p.tables e below (T29.setTop (mkF m 66 #[.val (.long i0), .second, .val (.int i1), .val (.int i2), .val (.int i3), .val (.ref b2), .unset, .unset, .unset, .unset, .unset, .unset, .unset, .unset, .unset, .unset, .unset, .unset, .unset] [(.ref b24)])) tg := fun tg kg => by
    refine XS.astore X29.here hx rfl (hb hby at_66) rfl rfl (l' := #[.val (.long i0), .second, .val (.int i1), .val (.int i2), .val (.int i3), .val (.ref b2), .val (.ref b24), .unset, .unset, .unset, .unset, .unset, .unset, .unset, .unset, .unset, .unset, .unset, .unset]) rfl ?_
    show Steps p.tables e below (T29.setTop (mkF m 68 #[.val (.long i0), .second, .val (.int i1), .val (.int i2), .val (.int i3), .val (.ref b2), .val (.ref b24), .unset, .unset, .unset, .unset, .unset, .unset, .unset, .unset, .unset, .unset, .unset, .unset] [])) tg
    refine XS.iloadN X29.here hx rfl (hb hby at_68) rfl ?_
    show Steps p.tables e below (T29.setTop (mkF m 69 #[.val (.long i0), .second, .val (.int i1), .val (.int i2), .val (.int i3), .val (.ref b2), .val (.ref b24), .unset, .unset, .unset, .unset, .unset, .unset, .unset, .unset, .unset, .unset, .unset, .unset] [(.int i1)])) tg
    refine X29.ldcInt hx hown (mvT hZ (hw _ (List.mem_of_getElem? (i := 35) rfl))) (g := (mkF m 69 #[.val (.long i0), .second, .val (.int i1), .val (.int i2), .val (.int i3), .val (.ref b2), .val (.ref b24), .unset, .unset, .unset, .unset, .unset, .unset, .unset, .unset, .unset, .unset, .unset, .unset] [(.int i1)])) rfl (hb hby at_69) _ ?_
    show Steps p.tables e below (T29.setTop (mkF m 71 #[.val (.long i0), .second, .val (.int i1), .val (.int i2), .val (.int i3), .val (.ref b2), .val (.ref b24), .unset, .unset, .unset, .unset, .unset, .unset, .unset, .unset, .unset, .unset, .unset, .unset] [(.int (2147483647 : Int32)), (.int i1)])) tg
    refine XS.iand X29.here hx rfl (hb hby at_71) rfl ?_
    show Steps p.tables e below (T29.setTop (mkF m 72 #[.val (.long i0), .second, .val (.int i1), .val (.int i2), .val (.int i3), .val (.ref b2), .val (.ref b24), .unset, .unset, .unset, .unset, .unset, .unset, .unset, .unset, .unset, .unset, .unset, .unset] [(.int (i1 &&& (2147483647 : Int32)))])) tg
    refine XS.bipush X29.here hx rfl (hb hby at_72) ?_
    show Steps p.tables e below (T29.setTop (mkF m 74 #[.val (.long i0), .second, .val (.int i1), .val (.int i2), .val (.int i3), .val (.ref b2), .val (.ref b24), .unset, .unset, .unset, .unset, .unset, .unset, .unset, .unset, .unset, .unset, .unset, .unset] [(.int (6 : Int32)), (.int (i1 &&& (2147483647 : Int32)))])) tg
    refine Jvm.RoadKit.iremM X29 hx (g := (mkF m 74 #[.val (.long i0), .second, .val (.int i1), .val (.int i2), .val (.int i3), .val (.ref b2), .val (.ref b24), .unset, .unset, .unset, .unset, .unset, .unset, .unset, .unset, .unset, .unset, .unset, .unset] [(.int (6 : Int32)), (.int (i1 &&& (2147483647 : Int32)))])) rfl (hb hby at_74) rfl (by decide) ?_
    show Steps p.tables e below (T29.setTop (mkF m 75 #[.val (.long i0), .second, .val (.int i1), .val (.int i2), .val (.int i3), .val (.ref b2), .val (.ref b24), .unset, .unset, .unset, .unset, .unset, .unset, .unset, .unset, .unset, .unset, .unset, .unset] [(.int ((i1 &&& (2147483647 : Int32)) % (6 : Int32)))])) tg
    refine XS.istore X29.here hx rfl (hb hby at_75) rfl (l' := #[.val (.long i0), .second, .val (.int i1), .val (.int i2), .val (.int i3), .val (.ref b2), .val (.ref b24), .val (.int ((i1 &&& (2147483647 : Int32)) % (6 : Int32))), .unset, .unset, .unset, .unset, .unset, .unset, .unset, .unset, .unset, .unset, .unset]) rfl ?_
    show Steps p.tables e below (T29.setTop (mkF m 77 #[.val (.long i0), .second, .val (.int i1), .val (.int i2), .val (.int i3), .val (.ref b2), .val (.ref b24), .val (.int ((i1 &&& (2147483647 : Int32)) % (6 : Int32))), .unset, .unset, .unset, .unset, .unset, .unset, .unset, .unset, .unset, .unset, .unset] [])) tg
    exact kg
  refine gs c32 ?_
  obtain ⟨en, hen, een⟩ := own_m6 i1
  rw [een]
  show OwnGo p e below s _ _ _ (T29.setTop (mkF m 77 #[.val (.long i0), .second, .val (.int i1), .val (.int i2), .val (.int i3), .val (.ref b2), .val (.ref b24), .val (.int (Int32.ofNat en)), .unset, .unset, .unset, .unset, .unset, .unset, .unset, .unset, .unset, .unset, .unset] []))
  have mid33 : ∀ x8_33 : Int32, OwnGo p e below s (fun v h L => v = some (.int 1) ∧ Fr n0 L) room_1.cells room_1.slots (T29.setTop (mkF m 88 #[.val (.long i0), .second, .val (.int i1), .val (.int i2), .val (.int i3), .val (.ref b2), .val (.ref b24), .val (.int (Int32.ofNat en)), .unset, .unset, .unset, .unset, .unset, .unset, .unset, .unset, .unset, .unset, .unset] [(.int x8_33)])) := by
    intro x8_33
    have c34 : ∀ tg, Steps p.tables e below (T29.setTop (mkF m 90 #[.val (.long i0), .second, .val (.int i1), .val (.int i2), .val (.int i3), .val (.ref b2), .val (.ref b24), .val (.int (Int32.ofNat en)), .val (.int x8_33), .unset, .unset, .unset, .unset, .unset, .unset, .unset, .unset, .unset, .unset] [])) tg → Steps p.tables e below (T29.setTop (mkF m 88 #[.val (.long i0), .second, .val (.int i1), .val (.int i2), .val (.int i3), .val (.ref b2), .val (.ref b24), .val (.int (Int32.ofNat en)), .unset, .unset, .unset, .unset, .unset, .unset, .unset, .unset, .unset, .unset, .unset] [(.int x8_33)])) tg := fun tg kg => by
      refine XS.istore X29.here hx rfl (hb hby at_88) rfl (l' := #[.val (.long i0), .second, .val (.int i1), .val (.int i2), .val (.int i3), .val (.ref b2), .val (.ref b24), .val (.int (Int32.ofNat en)), .val (.int x8_33), .unset, .unset, .unset, .unset, .unset, .unset, .unset, .unset, .unset, .unset]) rfl ?_
      show Steps p.tables e below (T29.setTop (mkF m 90 #[.val (.long i0), .second, .val (.int i1), .val (.int i2), .val (.int i3), .val (.ref b2), .val (.ref b24), .val (.int (Int32.ofNat en)), .val (.int x8_33), .unset, .unset, .unset, .unset, .unset, .unset, .unset, .unset, .unset, .unset] [])) tg
      exact kg
    refine gs c34 ?_
    obtain ⟨f, hf⟩ : ∃ f, f = own_first (nar .char c5) en x8_33 := ⟨_, rfl⟩
    have hfl : f ≤ 1 ∧ f ≤ en := by rw [hf]; exact own_first_le _ _ _ hen
    have mid35 : ∀ (y : Int32) (Tj35 : State) (lj35 : List Loc), (y = Int32.ofNat f) → Stand p l e room_1 s m #[(.long i0), (.int i1), (.int i2), (.int i3)] below meth c Tj35 lj35 3 14 → Tj35.heap = T29.heap → Fr n0 lj35 → OwnGo p e below s (fun v h L => v = some (.int 1) ∧ Fr n0 L) room_1.cells room_1.slots (Tj35.setTop (mkF m 114 #[.val (.long i0), .second, .val (.int i1), .val (.int i2), .val (.int i3), .val (.ref b2), .val (.ref b24), .val (.int (Int32.ofNat en)), .val (.int x8_33), .unset, .unset, .unset, .unset, .unset, .unset, .unset, .unset, .unset, .unset] [(.int y)])) := by
      intro y Tj35 lj35 hy Xj35 ej35 Nj35
      subst hy
      have c36 : ∀ tg, Steps p.tables e below (Tj35.setTop (mkF m 116 #[.val (.long i0), .second, .val (.int i1), .val (.int i2), .val (.int i3), .val (.ref b2), .val (.ref b24), .val (.int (Int32.ofNat en)), .val (.int x8_33), .val (.int (Int32.ofNat f)), .unset, .unset, .unset, .unset, .unset, .unset, .unset, .unset, .unset] [])) tg → Steps p.tables e below (Tj35.setTop (mkF m 114 #[.val (.long i0), .second, .val (.int i1), .val (.int i2), .val (.int i3), .val (.ref b2), .val (.ref b24), .val (.int (Int32.ofNat en)), .val (.int x8_33), .unset, .unset, .unset, .unset, .unset, .unset, .unset, .unset, .unset, .unset] [(.int (Int32.ofNat f))])) tg := fun tg kg => by
        refine XS.istore Xj35.here hx rfl (hb hby at_114) rfl (l' := #[.val (.long i0), .second, .val (.int i1), .val (.int i2), .val (.int i3), .val (.ref b2), .val (.ref b24), .val (.int (Int32.ofNat en)), .val (.int x8_33), .val (.int (Int32.ofNat f)), .unset, .unset, .unset, .unset, .unset, .unset, .unset, .unset, .unset]) rfl ?_
        show Steps p.tables e below (Tj35.setTop (mkF m 116 #[.val (.long i0), .second, .val (.int i1), .val (.int i2), .val (.int i3), .val (.ref b2), .val (.ref b24), .val (.int (Int32.ofNat en)), .val (.int x8_33), .val (.int (Int32.ofNat f)), .unset, .unset, .unset, .unset, .unset, .unset, .unset, .unset, .unset] [])) tg
        exact kg
      refine gs c36 ?_
      have mid37 : ∀ (x10 : Int32) (Tj37 : State) (lj37 : List Loc), ((x10 = 1 ∧ own_A (nar .char c5) (nar .char c9) (nar .char c13) (nar .char c17) (nar .char c21) (Int32.ofNat f) (Int32.ofNat en)) ∨ (x10 = 0 ∧ ¬ own_A (nar .char c5) (nar .char c9) (nar .char c13) (nar .char c17) (nar .char c21) (Int32.ofNat f) (Int32.ofNat en))) → Stand p l e room_1 s m #[(.long i0), (.int i1), (.int i2), (.int i3)] below meth c Tj37 lj37 3 14 → Tj37.heap = T29.heap → Fr n0 lj37 → OwnGo p e below s (fun v h L => v = some (.int 1) ∧ Fr n0 L) room_1.cells room_1.slots (Tj37.setTop (mkF m 196 #[.val (.long i0), .second, .val (.int i1), .val (.int i2), .val (.int i3), .val (.ref b2), .val (.ref b24), .val (.int (Int32.ofNat en)), .val (.int x8_33), .val (.int (Int32.ofNat f)), .unset, .unset, .unset, .unset, .unset, .unset, .unset, .unset, .unset] [(.int x10)])) := by
        intro x10 Tj37 lj37 hx10 Xj37 ej37 Nj37
        have c38 : ∀ tg, Steps p.tables e below (Tj37.setTop (mkF m 201 #[.val (.long i0), .second, .val (.int i1), .val (.int i2), .val (.int i3), .val (.ref b2), .val (.ref b24), .val (.int (Int32.ofNat en)), .val (.int x8_33), .val (.int (Int32.ofNat f)), .val (.int x10), .unset, .unset, .unset, .unset, .unset, .unset, .unset, .unset] [(.int (0 : Int32)), (.ref b2)])) tg → Steps p.tables e below (Tj37.setTop (mkF m 196 #[.val (.long i0), .second, .val (.int i1), .val (.int i2), .val (.int i3), .val (.ref b2), .val (.ref b24), .val (.int (Int32.ofNat en)), .val (.int x8_33), .val (.int (Int32.ofNat f)), .unset, .unset, .unset, .unset, .unset, .unset, .unset, .unset, .unset] [(.int x10)])) tg := fun tg kg => by
          refine XS.istore Xj37.here hx rfl (hb hby at_196) rfl (l' := #[.val (.long i0), .second, .val (.int i1), .val (.int i2), .val (.int i3), .val (.ref b2), .val (.ref b24), .val (.int (Int32.ofNat en)), .val (.int x8_33), .val (.int (Int32.ofNat f)), .val (.int x10), .unset, .unset, .unset, .unset, .unset, .unset, .unset, .unset]) rfl ?_
          show Steps p.tables e below (Tj37.setTop (mkF m 198 #[.val (.long i0), .second, .val (.int i1), .val (.int i2), .val (.int i3), .val (.ref b2), .val (.ref b24), .val (.int (Int32.ofNat en)), .val (.int x8_33), .val (.int (Int32.ofNat f)), .val (.int x10), .unset, .unset, .unset, .unset, .unset, .unset, .unset, .unset] [])) tg
          refine XS.aload Xj37.here hx rfl (hb hby at_198) rfl rfl ?_
          show Steps p.tables e below (Tj37.setTop (mkF m 200 #[.val (.long i0), .second, .val (.int i1), .val (.int i2), .val (.int i3), .val (.ref b2), .val (.ref b24), .val (.int (Int32.ofNat en)), .val (.int x8_33), .val (.int (Int32.ofNat f)), .val (.int x10), .unset, .unset, .unset, .unset, .unset, .unset, .unset, .unset] [(.ref b2)])) tg
          refine XS.iconst Xj37.here hx rfl (hb hby at_200) ?_
          show Steps p.tables e below (Tj37.setTop (mkF m 201 #[.val (.long i0), .second, .val (.int i1), .val (.int i2), .val (.int i3), .val (.ref b2), .val (.ref b24), .val (.int (Int32.ofNat en)), .val (.int x8_33), .val (.int (Int32.ofNat f)), .val (.int x10), .unset, .unset, .unset, .unset, .unset, .unset, .unset, .unset] [(.int (0 : Int32)), (.ref b2)])) tg
          exact kg
        refine gs c38 ?_
        have f39 := (f28.keep K29q (ninS (Nat.ne_of_lt (Nat.lt_of_lt_of_le (Nat.lt_of_lt_of_le V2.lt (Nat.le_trans (Nat.le_trans (Nat.le_trans (Nat.le_trans (Keep.of_wr W6).1 (Keep.of_wr W10).1) (Keep.of_wr W14).1) (Keep.of_wr W18).1) (Keep.of_wr W22).1)) (Nat.le_of_eq q24.symm))) nin0))
        obtain ⟨cl40, A40, a40q, a40S, a40N, a40H, a40G⟩ := id f39
        have hi40 := inb_of a40S (j := (0 : Int32)) ⟨by decide, by decide⟩
        have c41 : ∀ tg, Steps p.tables e below (Tj37.setTop (mkF m 207 #[.val (.long i0), .second, .val (.int i1), .val (.int i2), .val (.int i3), .val (.ref b2), .val (.ref b24), .val (.int (Int32.ofNat en)), .val (.int x8_33), .val (.int (Int32.ofNat f)), .val (.int x10), .unset, .unset, .unset, .unset, .unset, .unset, .unset, .unset] [(.int (Int32.ofNat en)), (.int (Int32.ofNat f)), (.int (0 : Int32)), (.int (nar .char c5))])) tg → Steps p.tables e below (Tj37.setTop (mkF m 201 #[.val (.long i0), .second, .val (.int i1), .val (.int i2), .val (.int i3), .val (.ref b2), .val (.ref b24), .val (.int (Int32.ofNat en)), .val (.int x8_33), .val (.int (Int32.ofNat f)), .val (.int x10), .unset, .unset, .unset, .unset, .unset, .unset, .unset, .unset] [(.int (0 : Int32)), (.ref b2)])) tg := fun tg kg => by
          refine Xj37.caload hx (j := (0 : Int32)) (v := (.int (nar .char c5))) (by rw [ej37]; exact A40.1) (State.isArrayOf_alike hZ.alike A40.2.1) A40.2.2 hi40 (Has.at a40H hi40 rfl) (g := (mkF m 201 #[.val (.long i0), .second, .val (.int i1), .val (.int i2), .val (.int i3), .val (.ref b2), .val (.ref b24), .val (.int (Int32.ofNat en)), .val (.int x8_33), .val (.int (Int32.ofNat f)), .val (.int x10), .unset, .unset, .unset, .unset, .unset, .unset, .unset, .unset] [(.int (0 : Int32)), (.ref b2)])) rfl rfl (hb hby at_201) _ ?_
          show Steps p.tables e below (Tj37.setTop (mkF m 202 #[.val (.long i0), .second, .val (.int i1), .val (.int i2), .val (.int i3), .val (.ref b2), .val (.ref b24), .val (.int (Int32.ofNat en)), .val (.int x8_33), .val (.int (Int32.ofNat f)), .val (.int x10), .unset, .unset, .unset, .unset, .unset, .unset, .unset, .unset] [(.int (nar .char c5))])) tg
          refine XS.iconst Xj37.here hx rfl (hb hby at_202) ?_
          show Steps p.tables e below (Tj37.setTop (mkF m 203 #[.val (.long i0), .second, .val (.int i1), .val (.int i2), .val (.int i3), .val (.ref b2), .val (.ref b24), .val (.int (Int32.ofNat en)), .val (.int x8_33), .val (.int (Int32.ofNat f)), .val (.int x10), .unset, .unset, .unset, .unset, .unset, .unset, .unset, .unset] [(.int (0 : Int32)), (.int (nar .char c5))])) tg
          refine XS.iload Xj37.here hx rfl (hb hby at_203) rfl ?_
          show Steps p.tables e below (Tj37.setTop (mkF m 205 #[.val (.long i0), .second, .val (.int i1), .val (.int i2), .val (.int i3), .val (.ref b2), .val (.ref b24), .val (.int (Int32.ofNat en)), .val (.int x8_33), .val (.int (Int32.ofNat f)), .val (.int x10), .unset, .unset, .unset, .unset, .unset, .unset, .unset, .unset] [(.int (Int32.ofNat f)), (.int (0 : Int32)), (.int (nar .char c5))])) tg
          refine XS.iload Xj37.here hx rfl (hb hby at_205) rfl ?_
          show Steps p.tables e below (Tj37.setTop (mkF m 207 #[.val (.long i0), .second, .val (.int i1), .val (.int i2), .val (.int i3), .val (.ref b2), .val (.ref b24), .val (.int (Int32.ofNat en)), .val (.int x8_33), .val (.int (Int32.ofNat f)), .val (.int x10), .unset, .unset, .unset, .unset, .unset, .unset, .unset, .unset] [(.int (Int32.ofNat en)), (.int (Int32.ofNat f)), (.int (0 : Int32)), (.int (nar .char c5))])) tg
          exact kg
        refine gs c41 ?_
        obtain ⟨_, _, ⟨T42, L42, k42, n42⟩, -, X42, ⟨Lc42, hQ42, l42, y42, z42⟩, st42⟩ := Jvm.LawKit.callS Xj37 hx (y := (⟨"com/example/tranche/tranche/DecimalsIsWrittenPinLaw", "dot", "(CIII)I"⟩ : MethodName)) hown (mvT hZ (hw _ (List.mem_of_getElem? (i := 42) rfl))) (mvT hZ (hw _ (List.mem_of_getElem? (i := 43) rfl))) (mvT hZ (hw _ (List.mem_of_getElem? (i := 3) rfl))) (mvT hZ (hw _ (List.mem_of_getElem? (i := 44) rfl))) (by decide) (backC (W := 0) (rm_dt l Z a0 hw [] (nar .char c5) (0 : Int32) (Int32.ofNat f) (Int32.ofNat en) T29.heap n0 Z30 O30 ) hZ (hw _ (List.mem_of_getElem? (i := 44) rfl)) (hw _ (List.mem_of_getElem? (i := 3) rfl)) (by decide) (by decide)) (g := (mkF m 207 #[.val (.long i0), .second, .val (.int i1), .val (.int i2), .val (.int i3), .val (.ref b2), .val (.ref b24), .val (.int (Int32.ofNat en)), .val (.int x8_33), .val (.int (Int32.ofNat f)), .val (.int x10), .unset, .unset, .unset, .unset, .unset, .unset, .unset, .unset] [(.int (Int32.ofNat en)), (.int (Int32.ofNat f)), (.int (0 : Int32)), (.int (nar .char c5))])) rfl (by rw [hml]; rfl) (argsL := [(.int (nar .char c5)), (.int (0 : Int32)), (.int (Int32.ofNat f)), (.int (Int32.ofNat en))]) (rest := []) (lenOf pd_193 rfl) rfl (by show 2 * 0 + _ ≤ _; exact Nat.le_of_eq rfl) (hb hby at_207) (fun _ _ => ⟨rfl, ej37, (by decide : 3 + 0 ≤ _), (by decide : 14 + 0 ≤ _)⟩)
        dsimp only [Pt.U, Pt.locs, Pt.cells, Pt.slots] at X42 l42 y42 z42 st42 hQ42
        subst l42 y42 z42
        obtain ⟨rfl, N42q, e42q⟩ := hQ42
        have N42 := Fr.app Nj37 N42q
        refine gs st42 ?_
        show OwnGo p e below s _ _ _ (T42.setTop (mkF m 210 #[.val (.long i0), .second, .val (.int i1), .val (.int i2), .val (.int i3), .val (.ref b2), .val (.ref b24), .val (.int (Int32.ofNat en)), .val (.int x8_33), .val (.int (Int32.ofNat f)), .val (.int x10), .unset, .unset, .unset, .unset, .unset, .unset, .unset, .unset] [(.int (own_dotI (nar .char c5) (0 : Int32) (Int32.ofNat f) (Int32.ofNat en)))]))
        have c43 : ∀ tg, Steps p.tables e below (T42.setTop (mkF m 215 #[.val (.long i0), .second, .val (.int i1), .val (.int i2), .val (.int i3), .val (.ref b2), .val (.ref b24), .val (.int (Int32.ofNat en)), .val (.int x8_33), .val (.int (Int32.ofNat f)), .val (.int x10), .val (.int (own_dotI (nar .char c5) (0 : Int32) (Int32.ofNat f) (Int32.ofNat en))), .unset, .unset, .unset, .unset, .unset, .unset, .unset] [(.int (1 : Int32)), (.ref b2)])) tg → Steps p.tables e below (T42.setTop (mkF m 210 #[.val (.long i0), .second, .val (.int i1), .val (.int i2), .val (.int i3), .val (.ref b2), .val (.ref b24), .val (.int (Int32.ofNat en)), .val (.int x8_33), .val (.int (Int32.ofNat f)), .val (.int x10), .unset, .unset, .unset, .unset, .unset, .unset, .unset, .unset] [(.int (own_dotI (nar .char c5) (0 : Int32) (Int32.ofNat f) (Int32.ofNat en)))])) tg := fun tg kg => by
          refine XS.istore X42.here hx rfl (hb hby at_210) rfl (l' := #[.val (.long i0), .second, .val (.int i1), .val (.int i2), .val (.int i3), .val (.ref b2), .val (.ref b24), .val (.int (Int32.ofNat en)), .val (.int x8_33), .val (.int (Int32.ofNat f)), .val (.int x10), .val (.int (own_dotI (nar .char c5) (0 : Int32) (Int32.ofNat f) (Int32.ofNat en))), .unset, .unset, .unset, .unset, .unset, .unset, .unset]) rfl ?_
          show Steps p.tables e below (T42.setTop (mkF m 212 #[.val (.long i0), .second, .val (.int i1), .val (.int i2), .val (.int i3), .val (.ref b2), .val (.ref b24), .val (.int (Int32.ofNat en)), .val (.int x8_33), .val (.int (Int32.ofNat f)), .val (.int x10), .val (.int (own_dotI (nar .char c5) (0 : Int32) (Int32.ofNat f) (Int32.ofNat en))), .unset, .unset, .unset, .unset, .unset, .unset, .unset] [])) tg
          refine XS.aload X42.here hx rfl (hb hby at_212) rfl rfl ?_
          show Steps p.tables e below (T42.setTop (mkF m 214 #[.val (.long i0), .second, .val (.int i1), .val (.int i2), .val (.int i3), .val (.ref b2), .val (.ref b24), .val (.int (Int32.ofNat en)), .val (.int x8_33), .val (.int (Int32.ofNat f)), .val (.int x10), .val (.int (own_dotI (nar .char c5) (0 : Int32) (Int32.ofNat f) (Int32.ofNat en))), .unset, .unset, .unset, .unset, .unset, .unset, .unset] [(.ref b2)])) tg
          refine XS.iconst X42.here hx rfl (hb hby at_214) ?_
          show Steps p.tables e below (T42.setTop (mkF m 215 #[.val (.long i0), .second, .val (.int i1), .val (.int i2), .val (.int i3), .val (.ref b2), .val (.ref b24), .val (.int (Int32.ofNat en)), .val (.int x8_33), .val (.int (Int32.ofNat f)), .val (.int x10), .val (.int (own_dotI (nar .char c5) (0 : Int32) (Int32.ofNat f) (Int32.ofNat en))), .unset, .unset, .unset, .unset, .unset, .unset, .unset] [(.int (1 : Int32)), (.ref b2)])) tg
          exact kg
        refine gs c43 ?_
        obtain ⟨cl44, A44, a44q, a44S, a44N, a44H, a44G⟩ := id f39
        have hi44 := inb_of a44S (j := (1 : Int32)) ⟨by decide, by decide⟩
        have c45 : ∀ tg, Steps p.tables e below (T42.setTop (mkF m 221 #[.val (.long i0), .second, .val (.int i1), .val (.int i2), .val (.int i3), .val (.ref b2), .val (.ref b24), .val (.int (Int32.ofNat en)), .val (.int x8_33), .val (.int (Int32.ofNat f)), .val (.int x10), .val (.int (own_dotI (nar .char c5) (0 : Int32) (Int32.ofNat f) (Int32.ofNat en))), .unset, .unset, .unset, .unset, .unset, .unset, .unset] [(.int (Int32.ofNat en)), (.int (Int32.ofNat f)), (.int (1 : Int32)), (.int (nar .char c9))])) tg → Steps p.tables e below (T42.setTop (mkF m 215 #[.val (.long i0), .second, .val (.int i1), .val (.int i2), .val (.int i3), .val (.ref b2), .val (.ref b24), .val (.int (Int32.ofNat en)), .val (.int x8_33), .val (.int (Int32.ofNat f)), .val (.int x10), .val (.int (own_dotI (nar .char c5) (0 : Int32) (Int32.ofNat f) (Int32.ofNat en))), .unset, .unset, .unset, .unset, .unset, .unset, .unset] [(.int (1 : Int32)), (.ref b2)])) tg := fun tg kg => by
          refine X42.caload hx (j := (1 : Int32)) (v := (.int (nar .char c9))) (by rw [e42q]; exact A44.1) (State.isArrayOf_alike hZ.alike A44.2.1) A44.2.2 hi44 (Has.at a44H hi44 rfl) (g := (mkF m 215 #[.val (.long i0), .second, .val (.int i1), .val (.int i2), .val (.int i3), .val (.ref b2), .val (.ref b24), .val (.int (Int32.ofNat en)), .val (.int x8_33), .val (.int (Int32.ofNat f)), .val (.int x10), .val (.int (own_dotI (nar .char c5) (0 : Int32) (Int32.ofNat f) (Int32.ofNat en))), .unset, .unset, .unset, .unset, .unset, .unset, .unset] [(.int (1 : Int32)), (.ref b2)])) rfl rfl (hb hby at_215) _ ?_
          show Steps p.tables e below (T42.setTop (mkF m 216 #[.val (.long i0), .second, .val (.int i1), .val (.int i2), .val (.int i3), .val (.ref b2), .val (.ref b24), .val (.int (Int32.ofNat en)), .val (.int x8_33), .val (.int (Int32.ofNat f)), .val (.int x10), .val (.int (own_dotI (nar .char c5) (0 : Int32) (Int32.ofNat f) (Int32.ofNat en))), .unset, .unset, .unset, .unset, .unset, .unset, .unset] [(.int (nar .char c9))])) tg
          refine XS.iconst X42.here hx rfl (hb hby at_216) ?_
          show Steps p.tables e below (T42.setTop (mkF m 217 #[.val (.long i0), .second, .val (.int i1), .val (.int i2), .val (.int i3), .val (.ref b2), .val (.ref b24), .val (.int (Int32.ofNat en)), .val (.int x8_33), .val (.int (Int32.ofNat f)), .val (.int x10), .val (.int (own_dotI (nar .char c5) (0 : Int32) (Int32.ofNat f) (Int32.ofNat en))), .unset, .unset, .unset, .unset, .unset, .unset, .unset] [(.int (1 : Int32)), (.int (nar .char c9))])) tg
          refine XS.iload X42.here hx rfl (hb hby at_217) rfl ?_
          show Steps p.tables e below (T42.setTop (mkF m 219 #[.val (.long i0), .second, .val (.int i1), .val (.int i2), .val (.int i3), .val (.ref b2), .val (.ref b24), .val (.int (Int32.ofNat en)), .val (.int x8_33), .val (.int (Int32.ofNat f)), .val (.int x10), .val (.int (own_dotI (nar .char c5) (0 : Int32) (Int32.ofNat f) (Int32.ofNat en))), .unset, .unset, .unset, .unset, .unset, .unset, .unset] [(.int (Int32.ofNat f)), (.int (1 : Int32)), (.int (nar .char c9))])) tg
          refine XS.iload X42.here hx rfl (hb hby at_219) rfl ?_
          show Steps p.tables e below (T42.setTop (mkF m 221 #[.val (.long i0), .second, .val (.int i1), .val (.int i2), .val (.int i3), .val (.ref b2), .val (.ref b24), .val (.int (Int32.ofNat en)), .val (.int x8_33), .val (.int (Int32.ofNat f)), .val (.int x10), .val (.int (own_dotI (nar .char c5) (0 : Int32) (Int32.ofNat f) (Int32.ofNat en))), .unset, .unset, .unset, .unset, .unset, .unset, .unset] [(.int (Int32.ofNat en)), (.int (Int32.ofNat f)), (.int (1 : Int32)), (.int (nar .char c9))])) tg
          exact kg
        refine gs c45 ?_
        obtain ⟨_, _, ⟨T46, L46, k46, n46⟩, -, X46, ⟨Lc46, hQ46, l46, y46, z46⟩, st46⟩ := Jvm.LawKit.callS X42 hx (y := (⟨"com/example/tranche/tranche/DecimalsIsWrittenPinLaw", "dot", "(CIII)I"⟩ : MethodName)) hown (mvT hZ (hw _ (List.mem_of_getElem? (i := 42) rfl))) (mvT hZ (hw _ (List.mem_of_getElem? (i := 43) rfl))) (mvT hZ (hw _ (List.mem_of_getElem? (i := 3) rfl))) (mvT hZ (hw _ (List.mem_of_getElem? (i := 44) rfl))) (by decide) (backC (W := 0) (rm_dt l Z a0 hw [] (nar .char c9) (1 : Int32) (Int32.ofNat f) (Int32.ofNat en) T29.heap n0 Z30 O30 ) hZ (hw _ (List.mem_of_getElem? (i := 44) rfl)) (hw _ (List.mem_of_getElem? (i := 3) rfl)) (by decide) (by decide)) (g := (mkF m 221 #[.val (.long i0), .second, .val (.int i1), .val (.int i2), .val (.int i3), .val (.ref b2), .val (.ref b24), .val (.int (Int32.ofNat en)), .val (.int x8_33), .val (.int (Int32.ofNat f)), .val (.int x10), .val (.int (own_dotI (nar .char c5) (0 : Int32) (Int32.ofNat f) (Int32.ofNat en))), .unset, .unset, .unset, .unset, .unset, .unset, .unset] [(.int (Int32.ofNat en)), (.int (Int32.ofNat f)), (.int (1 : Int32)), (.int (nar .char c9))])) rfl (by rw [hml]; rfl) (argsL := [(.int (nar .char c9)), (.int (1 : Int32)), (.int (Int32.ofNat f)), (.int (Int32.ofNat en))]) (rest := []) (lenOf pd_193 rfl) rfl (by show 2 * 0 + _ ≤ _; exact Nat.le_of_eq rfl) (hb hby at_221) (fun _ _ => ⟨rfl, e42q, (by decide : 3 + 0 ≤ _), (by decide : 14 + 0 ≤ _)⟩)
        dsimp only [Pt.U, Pt.locs, Pt.cells, Pt.slots] at X46 l46 y46 z46 st46 hQ46
        subst l46 y46 z46
        obtain ⟨rfl, N46q, e46q⟩ := hQ46
        have N46 := Fr.app N42 N46q
        refine gs st46 ?_
        show OwnGo p e below s _ _ _ (T46.setTop (mkF m 224 #[.val (.long i0), .second, .val (.int i1), .val (.int i2), .val (.int i3), .val (.ref b2), .val (.ref b24), .val (.int (Int32.ofNat en)), .val (.int x8_33), .val (.int (Int32.ofNat f)), .val (.int x10), .val (.int (own_dotI (nar .char c5) (0 : Int32) (Int32.ofNat f) (Int32.ofNat en))), .unset, .unset, .unset, .unset, .unset, .unset, .unset] [(.int (own_dotI (nar .char c9) (1 : Int32) (Int32.ofNat f) (Int32.ofNat en)))]))
        have c47 : ∀ tg, Steps p.tables e below (T46.setTop (mkF m 229 #[.val (.long i0), .second, .val (.int i1), .val (.int i2), .val (.int i3), .val (.ref b2), .val (.ref b24), .val (.int (Int32.ofNat en)), .val (.int x8_33), .val (.int (Int32.ofNat f)), .val (.int x10), .val (.int (own_dotI (nar .char c5) (0 : Int32) (Int32.ofNat f) (Int32.ofNat en))), .val (.int (own_dotI (nar .char c9) (1 : Int32) (Int32.ofNat f) (Int32.ofNat en))), .unset, .unset, .unset, .unset, .unset, .unset] [(.int (2 : Int32)), (.ref b2)])) tg → Steps p.tables e below (T46.setTop (mkF m 224 #[.val (.long i0), .second, .val (.int i1), .val (.int i2), .val (.int i3), .val (.ref b2), .val (.ref b24), .val (.int (Int32.ofNat en)), .val (.int x8_33), .val (.int (Int32.ofNat f)), .val (.int x10), .val (.int (own_dotI (nar .char c5) (0 : Int32) (Int32.ofNat f) (Int32.ofNat en))), .unset, .unset, .unset, .unset, .unset, .unset, .unset] [(.int (own_dotI (nar .char c9) (1 : Int32) (Int32.ofNat f) (Int32.ofNat en)))])) tg := fun tg kg => by
          refine XS.istore X46.here hx rfl (hb hby at_224) rfl (l' := #[.val (.long i0), .second, .val (.int i1), .val (.int i2), .val (.int i3), .val (.ref b2), .val (.ref b24), .val (.int (Int32.ofNat en)), .val (.int x8_33), .val (.int (Int32.ofNat f)), .val (.int x10), .val (.int (own_dotI (nar .char c5) (0 : Int32) (Int32.ofNat f) (Int32.ofNat en))), .val (.int (own_dotI (nar .char c9) (1 : Int32) (Int32.ofNat f) (Int32.ofNat en))), .unset, .unset, .unset, .unset, .unset, .unset]) rfl ?_
          show Steps p.tables e below (T46.setTop (mkF m 226 #[.val (.long i0), .second, .val (.int i1), .val (.int i2), .val (.int i3), .val (.ref b2), .val (.ref b24), .val (.int (Int32.ofNat en)), .val (.int x8_33), .val (.int (Int32.ofNat f)), .val (.int x10), .val (.int (own_dotI (nar .char c5) (0 : Int32) (Int32.ofNat f) (Int32.ofNat en))), .val (.int (own_dotI (nar .char c9) (1 : Int32) (Int32.ofNat f) (Int32.ofNat en))), .unset, .unset, .unset, .unset, .unset, .unset] [])) tg
          refine XS.aload X46.here hx rfl (hb hby at_226) rfl rfl ?_
          show Steps p.tables e below (T46.setTop (mkF m 228 #[.val (.long i0), .second, .val (.int i1), .val (.int i2), .val (.int i3), .val (.ref b2), .val (.ref b24), .val (.int (Int32.ofNat en)), .val (.int x8_33), .val (.int (Int32.ofNat f)), .val (.int x10), .val (.int (own_dotI (nar .char c5) (0 : Int32) (Int32.ofNat f) (Int32.ofNat en))), .val (.int (own_dotI (nar .char c9) (1 : Int32) (Int32.ofNat f) (Int32.ofNat en))), .unset, .unset, .unset, .unset, .unset, .unset] [(.ref b2)])) tg
          refine XS.iconst X46.here hx rfl (hb hby at_228) ?_
          show Steps p.tables e below (T46.setTop (mkF m 229 #[.val (.long i0), .second, .val (.int i1), .val (.int i2), .val (.int i3), .val (.ref b2), .val (.ref b24), .val (.int (Int32.ofNat en)), .val (.int x8_33), .val (.int (Int32.ofNat f)), .val (.int x10), .val (.int (own_dotI (nar .char c5) (0 : Int32) (Int32.ofNat f) (Int32.ofNat en))), .val (.int (own_dotI (nar .char c9) (1 : Int32) (Int32.ofNat f) (Int32.ofNat en))), .unset, .unset, .unset, .unset, .unset, .unset] [(.int (2 : Int32)), (.ref b2)])) tg
          exact kg
        refine gs c47 ?_
        obtain ⟨cl48, A48, a48q, a48S, a48N, a48H, a48G⟩ := id f39
        have hi48 := inb_of a48S (j := (2 : Int32)) ⟨by decide, by decide⟩
        have c49 : ∀ tg, Steps p.tables e below (T46.setTop (mkF m 235 #[.val (.long i0), .second, .val (.int i1), .val (.int i2), .val (.int i3), .val (.ref b2), .val (.ref b24), .val (.int (Int32.ofNat en)), .val (.int x8_33), .val (.int (Int32.ofNat f)), .val (.int x10), .val (.int (own_dotI (nar .char c5) (0 : Int32) (Int32.ofNat f) (Int32.ofNat en))), .val (.int (own_dotI (nar .char c9) (1 : Int32) (Int32.ofNat f) (Int32.ofNat en))), .unset, .unset, .unset, .unset, .unset, .unset] [(.int (Int32.ofNat en)), (.int (Int32.ofNat f)), (.int (2 : Int32)), (.int (nar .char c13))])) tg → Steps p.tables e below (T46.setTop (mkF m 229 #[.val (.long i0), .second, .val (.int i1), .val (.int i2), .val (.int i3), .val (.ref b2), .val (.ref b24), .val (.int (Int32.ofNat en)), .val (.int x8_33), .val (.int (Int32.ofNat f)), .val (.int x10), .val (.int (own_dotI (nar .char c5) (0 : Int32) (Int32.ofNat f) (Int32.ofNat en))), .val (.int (own_dotI (nar .char c9) (1 : Int32) (Int32.ofNat f) (Int32.ofNat en))), .unset, .unset, .unset, .unset, .unset, .unset] [(.int (2 : Int32)), (.ref b2)])) tg := fun tg kg => by
          refine X46.caload hx (j := (2 : Int32)) (v := (.int (nar .char c13))) (by rw [e46q]; exact A48.1) (State.isArrayOf_alike hZ.alike A48.2.1) A48.2.2 hi48 (Has.at a48H hi48 rfl) (g := (mkF m 229 #[.val (.long i0), .second, .val (.int i1), .val (.int i2), .val (.int i3), .val (.ref b2), .val (.ref b24), .val (.int (Int32.ofNat en)), .val (.int x8_33), .val (.int (Int32.ofNat f)), .val (.int x10), .val (.int (own_dotI (nar .char c5) (0 : Int32) (Int32.ofNat f) (Int32.ofNat en))), .val (.int (own_dotI (nar .char c9) (1 : Int32) (Int32.ofNat f) (Int32.ofNat en))), .unset, .unset, .unset, .unset, .unset, .unset] [(.int (2 : Int32)), (.ref b2)])) rfl rfl (hb hby at_229) _ ?_
          show Steps p.tables e below (T46.setTop (mkF m 230 #[.val (.long i0), .second, .val (.int i1), .val (.int i2), .val (.int i3), .val (.ref b2), .val (.ref b24), .val (.int (Int32.ofNat en)), .val (.int x8_33), .val (.int (Int32.ofNat f)), .val (.int x10), .val (.int (own_dotI (nar .char c5) (0 : Int32) (Int32.ofNat f) (Int32.ofNat en))), .val (.int (own_dotI (nar .char c9) (1 : Int32) (Int32.ofNat f) (Int32.ofNat en))), .unset, .unset, .unset, .unset, .unset, .unset] [(.int (nar .char c13))])) tg
          refine XS.iconst X46.here hx rfl (hb hby at_230) ?_
          show Steps p.tables e below (T46.setTop (mkF m 231 #[.val (.long i0), .second, .val (.int i1), .val (.int i2), .val (.int i3), .val (.ref b2), .val (.ref b24), .val (.int (Int32.ofNat en)), .val (.int x8_33), .val (.int (Int32.ofNat f)), .val (.int x10), .val (.int (own_dotI (nar .char c5) (0 : Int32) (Int32.ofNat f) (Int32.ofNat en))), .val (.int (own_dotI (nar .char c9) (1 : Int32) (Int32.ofNat f) (Int32.ofNat en))), .unset, .unset, .unset, .unset, .unset, .unset] [(.int (2 : Int32)), (.int (nar .char c13))])) tg
          refine XS.iload X46.here hx rfl (hb hby at_231) rfl ?_
          show Steps p.tables e below (T46.setTop (mkF m 233 #[.val (.long i0), .second, .val (.int i1), .val (.int i2), .val (.int i3), .val (.ref b2), .val (.ref b24), .val (.int (Int32.ofNat en)), .val (.int x8_33), .val (.int (Int32.ofNat f)), .val (.int x10), .val (.int (own_dotI (nar .char c5) (0 : Int32) (Int32.ofNat f) (Int32.ofNat en))), .val (.int (own_dotI (nar .char c9) (1 : Int32) (Int32.ofNat f) (Int32.ofNat en))), .unset, .unset, .unset, .unset, .unset, .unset] [(.int (Int32.ofNat f)), (.int (2 : Int32)), (.int (nar .char c13))])) tg
          refine XS.iload X46.here hx rfl (hb hby at_233) rfl ?_
          show Steps p.tables e below (T46.setTop (mkF m 235 #[.val (.long i0), .second, .val (.int i1), .val (.int i2), .val (.int i3), .val (.ref b2), .val (.ref b24), .val (.int (Int32.ofNat en)), .val (.int x8_33), .val (.int (Int32.ofNat f)), .val (.int x10), .val (.int (own_dotI (nar .char c5) (0 : Int32) (Int32.ofNat f) (Int32.ofNat en))), .val (.int (own_dotI (nar .char c9) (1 : Int32) (Int32.ofNat f) (Int32.ofNat en))), .unset, .unset, .unset, .unset, .unset, .unset] [(.int (Int32.ofNat en)), (.int (Int32.ofNat f)), (.int (2 : Int32)), (.int (nar .char c13))])) tg
          exact kg
        refine gs c49 ?_
        obtain ⟨_, _, ⟨T50, L50, k50, n50⟩, -, X50, ⟨Lc50, hQ50, l50, y50, z50⟩, st50⟩ := Jvm.LawKit.callS X46 hx (y := (⟨"com/example/tranche/tranche/DecimalsIsWrittenPinLaw", "dot", "(CIII)I"⟩ : MethodName)) hown (mvT hZ (hw _ (List.mem_of_getElem? (i := 42) rfl))) (mvT hZ (hw _ (List.mem_of_getElem? (i := 43) rfl))) (mvT hZ (hw _ (List.mem_of_getElem? (i := 3) rfl))) (mvT hZ (hw _ (List.mem_of_getElem? (i := 44) rfl))) (by decide) (backC (W := 0) (rm_dt l Z a0 hw [] (nar .char c13) (2 : Int32) (Int32.ofNat f) (Int32.ofNat en) T29.heap n0 Z30 O30 ) hZ (hw _ (List.mem_of_getElem? (i := 44) rfl)) (hw _ (List.mem_of_getElem? (i := 3) rfl)) (by decide) (by decide)) (g := (mkF m 235 #[.val (.long i0), .second, .val (.int i1), .val (.int i2), .val (.int i3), .val (.ref b2), .val (.ref b24), .val (.int (Int32.ofNat en)), .val (.int x8_33), .val (.int (Int32.ofNat f)), .val (.int x10), .val (.int (own_dotI (nar .char c5) (0 : Int32) (Int32.ofNat f) (Int32.ofNat en))), .val (.int (own_dotI (nar .char c9) (1 : Int32) (Int32.ofNat f) (Int32.ofNat en))), .unset, .unset, .unset, .unset, .unset, .unset] [(.int (Int32.ofNat en)), (.int (Int32.ofNat f)), (.int (2 : Int32)), (.int (nar .char c13))])) rfl (by rw [hml]; rfl) (argsL := [(.int (nar .char c13)), (.int (2 : Int32)), (.int (Int32.ofNat f)), (.int (Int32.ofNat en))]) (rest := []) (lenOf pd_193 rfl) rfl (by show 2 * 0 + _ ≤ _; exact Nat.le_of_eq rfl) (hb hby at_235) (fun _ _ => ⟨rfl, e46q, (by decide : 3 + 0 ≤ _), (by decide : 14 + 0 ≤ _)⟩)
        dsimp only [Pt.U, Pt.locs, Pt.cells, Pt.slots] at X50 l50 y50 z50 st50 hQ50
        subst l50 y50 z50
        obtain ⟨rfl, N50q, e50q⟩ := hQ50
        have N50 := Fr.app N46 N50q
        refine gs st50 ?_
        show OwnGo p e below s _ _ _ (T50.setTop (mkF m 238 #[.val (.long i0), .second, .val (.int i1), .val (.int i2), .val (.int i3), .val (.ref b2), .val (.ref b24), .val (.int (Int32.ofNat en)), .val (.int x8_33), .val (.int (Int32.ofNat f)), .val (.int x10), .val (.int (own_dotI (nar .char c5) (0 : Int32) (Int32.ofNat f) (Int32.ofNat en))), .val (.int (own_dotI (nar .char c9) (1 : Int32) (Int32.ofNat f) (Int32.ofNat en))), .unset, .unset, .unset, .unset, .unset, .unset] [(.int (own_dotI (nar .char c13) (2 : Int32) (Int32.ofNat f) (Int32.ofNat en)))]))
        have c51 : ∀ tg, Steps p.tables e below (T50.setTop (mkF m 243 #[.val (.long i0), .second, .val (.int i1), .val (.int i2), .val (.int i3), .val (.ref b2), .val (.ref b24), .val (.int (Int32.ofNat en)), .val (.int x8_33), .val (.int (Int32.ofNat f)), .val (.int x10), .val (.int (own_dotI (nar .char c5) (0 : Int32) (Int32.ofNat f) (Int32.ofNat en))), .val (.int (own_dotI (nar .char c9) (1 : Int32) (Int32.ofNat f) (Int32.ofNat en))), .val (.int (own_dotI (nar .char c13) (2 : Int32) (Int32.ofNat f) (Int32.ofNat en))), .unset, .unset, .unset, .unset, .unset] [(.int (3 : Int32)), (.ref b2)])) tg → Steps p.tables e below (T50.setTop (mkF m 238 #[.val (.long i0), .second, .val (.int i1), .val (.int i2), .val (.int i3), .val (.ref b2), .val (.ref b24), .val (.int (Int32.ofNat en)), .val (.int x8_33), .val (.int (Int32.ofNat f)), .val (.int x10), .val (.int (own_dotI (nar .char c5) (0 : Int32) (Int32.ofNat f) (Int32.ofNat en))), .val (.int (own_dotI (nar .char c9) (1 : Int32) (Int32.ofNat f) (Int32.ofNat en))), .unset, .unset, .unset, .unset, .unset, .unset] [(.int (own_dotI (nar .char c13) (2 : Int32) (Int32.ofNat f) (Int32.ofNat en)))])) tg := fun tg kg => by
          refine XS.istore X50.here hx rfl (hb hby at_238) rfl (l' := #[.val (.long i0), .second, .val (.int i1), .val (.int i2), .val (.int i3), .val (.ref b2), .val (.ref b24), .val (.int (Int32.ofNat en)), .val (.int x8_33), .val (.int (Int32.ofNat f)), .val (.int x10), .val (.int (own_dotI (nar .char c5) (0 : Int32) (Int32.ofNat f) (Int32.ofNat en))), .val (.int (own_dotI (nar .char c9) (1 : Int32) (Int32.ofNat f) (Int32.ofNat en))), .val (.int (own_dotI (nar .char c13) (2 : Int32) (Int32.ofNat f) (Int32.ofNat en))), .unset, .unset, .unset, .unset, .unset]) rfl ?_
          show Steps p.tables e below (T50.setTop (mkF m 240 #[.val (.long i0), .second, .val (.int i1), .val (.int i2), .val (.int i3), .val (.ref b2), .val (.ref b24), .val (.int (Int32.ofNat en)), .val (.int x8_33), .val (.int (Int32.ofNat f)), .val (.int x10), .val (.int (own_dotI (nar .char c5) (0 : Int32) (Int32.ofNat f) (Int32.ofNat en))), .val (.int (own_dotI (nar .char c9) (1 : Int32) (Int32.ofNat f) (Int32.ofNat en))), .val (.int (own_dotI (nar .char c13) (2 : Int32) (Int32.ofNat f) (Int32.ofNat en))), .unset, .unset, .unset, .unset, .unset] [])) tg
          refine XS.aload X50.here hx rfl (hb hby at_240) rfl rfl ?_
          show Steps p.tables e below (T50.setTop (mkF m 242 #[.val (.long i0), .second, .val (.int i1), .val (.int i2), .val (.int i3), .val (.ref b2), .val (.ref b24), .val (.int (Int32.ofNat en)), .val (.int x8_33), .val (.int (Int32.ofNat f)), .val (.int x10), .val (.int (own_dotI (nar .char c5) (0 : Int32) (Int32.ofNat f) (Int32.ofNat en))), .val (.int (own_dotI (nar .char c9) (1 : Int32) (Int32.ofNat f) (Int32.ofNat en))), .val (.int (own_dotI (nar .char c13) (2 : Int32) (Int32.ofNat f) (Int32.ofNat en))), .unset, .unset, .unset, .unset, .unset] [(.ref b2)])) tg
          refine XS.iconst X50.here hx rfl (hb hby at_242) ?_
          show Steps p.tables e below (T50.setTop (mkF m 243 #[.val (.long i0), .second, .val (.int i1), .val (.int i2), .val (.int i3), .val (.ref b2), .val (.ref b24), .val (.int (Int32.ofNat en)), .val (.int x8_33), .val (.int (Int32.ofNat f)), .val (.int x10), .val (.int (own_dotI (nar .char c5) (0 : Int32) (Int32.ofNat f) (Int32.ofNat en))), .val (.int (own_dotI (nar .char c9) (1 : Int32) (Int32.ofNat f) (Int32.ofNat en))), .val (.int (own_dotI (nar .char c13) (2 : Int32) (Int32.ofNat f) (Int32.ofNat en))), .unset, .unset, .unset, .unset, .unset] [(.int (3 : Int32)), (.ref b2)])) tg
          exact kg
        refine gs c51 ?_
        obtain ⟨cl52, A52, a52q, a52S, a52N, a52H, a52G⟩ := id f39
        have hi52 := inb_of a52S (j := (3 : Int32)) ⟨by decide, by decide⟩
        have c53 : ∀ tg, Steps p.tables e below (T50.setTop (mkF m 249 #[.val (.long i0), .second, .val (.int i1), .val (.int i2), .val (.int i3), .val (.ref b2), .val (.ref b24), .val (.int (Int32.ofNat en)), .val (.int x8_33), .val (.int (Int32.ofNat f)), .val (.int x10), .val (.int (own_dotI (nar .char c5) (0 : Int32) (Int32.ofNat f) (Int32.ofNat en))), .val (.int (own_dotI (nar .char c9) (1 : Int32) (Int32.ofNat f) (Int32.ofNat en))), .val (.int (own_dotI (nar .char c13) (2 : Int32) (Int32.ofNat f) (Int32.ofNat en))), .unset, .unset, .unset, .unset, .unset] [(.int (Int32.ofNat en)), (.int (Int32.ofNat f)), (.int (3 : Int32)), (.int (nar .char c17))])) tg → Steps p.tables e below (T50.setTop (mkF m 243 #[.val (.long i0), .second, .val (.int i1), .val (.int i2), .val (.int i3), .val (.ref b2), .val (.ref b24), .val (.int (Int32.ofNat en)), .val (.int x8_33), .val (.int (Int32.ofNat f)), .val (.int x10), .val (.int (own_dotI (nar .char c5) (0 : Int32) (Int32.ofNat f) (Int32.ofNat en))), .val (.int (own_dotI (nar .char c9) (1 : Int32) (Int32.ofNat f) (Int32.ofNat en))), .val (.int (own_dotI (nar .char c13) (2 : Int32) (Int32.ofNat f) (Int32.ofNat en))), .unset, .unset, .unset, .unset, .unset] [(.int (3 : Int32)), (.ref b2)])) tg := fun tg kg => by
          refine X50.caload hx (j := (3 : Int32)) (v := (.int (nar .char c17))) (by rw [e50q]; exact A52.1) (State.isArrayOf_alike hZ.alike A52.2.1) A52.2.2 hi52 (Has.at a52H hi52 rfl) (g := (mkF m 243 #[.val (.long i0), .second, .val (.int i1), .val (.int i2), .val (.int i3), .val (.ref b2), .val (.ref b24), .val (.int (Int32.ofNat en)), .val (.int x8_33), .val (.int (Int32.ofNat f)), .val (.int x10), .val (.int (own_dotI (nar .char c5) (0 : Int32) (Int32.ofNat f) (Int32.ofNat en))), .val (.int (own_dotI (nar .char c9) (1 : Int32) (Int32.ofNat f) (Int32.ofNat en))), .val (.int (own_dotI (nar .char c13) (2 : Int32) (Int32.ofNat f) (Int32.ofNat en))), .unset, .unset, .unset, .unset, .unset] [(.int (3 : Int32)), (.ref b2)])) rfl rfl (hb hby at_243) _ ?_
          show Steps p.tables e below (T50.setTop (mkF m 244 #[.val (.long i0), .second, .val (.int i1), .val (.int i2), .val (.int i3), .val (.ref b2), .val (.ref b24), .val (.int (Int32.ofNat en)), .val (.int x8_33), .val (.int (Int32.ofNat f)), .val (.int x10), .val (.int (own_dotI (nar .char c5) (0 : Int32) (Int32.ofNat f) (Int32.ofNat en))), .val (.int (own_dotI (nar .char c9) (1 : Int32) (Int32.ofNat f) (Int32.ofNat en))), .val (.int (own_dotI (nar .char c13) (2 : Int32) (Int32.ofNat f) (Int32.ofNat en))), .unset, .unset, .unset, .unset, .unset] [(.int (nar .char c17))])) tg
          refine XS.iconst X50.here hx rfl (hb hby at_244) ?_
          show Steps p.tables e below (T50.setTop (mkF m 245 #[.val (.long i0), .second, .val (.int i1), .val (.int i2), .val (.int i3), .val (.ref b2), .val (.ref b24), .val (.int (Int32.ofNat en)), .val (.int x8_33), .val (.int (Int32.ofNat f)), .val (.int x10), .val (.int (own_dotI (nar .char c5) (0 : Int32) (Int32.ofNat f) (Int32.ofNat en))), .val (.int (own_dotI (nar .char c9) (1 : Int32) (Int32.ofNat f) (Int32.ofNat en))), .val (.int (own_dotI (nar .char c13) (2 : Int32) (Int32.ofNat f) (Int32.ofNat en))), .unset, .unset, .unset, .unset, .unset] [(.int (3 : Int32)), (.int (nar .char c17))])) tg
          refine XS.iload X50.here hx rfl (hb hby at_245) rfl ?_
          show Steps p.tables e below (T50.setTop (mkF m 247 #[.val (.long i0), .second, .val (.int i1), .val (.int i2), .val (.int i3), .val (.ref b2), .val (.ref b24), .val (.int (Int32.ofNat en)), .val (.int x8_33), .val (.int (Int32.ofNat f)), .val (.int x10), .val (.int (own_dotI (nar .char c5) (0 : Int32) (Int32.ofNat f) (Int32.ofNat en))), .val (.int (own_dotI (nar .char c9) (1 : Int32) (Int32.ofNat f) (Int32.ofNat en))), .val (.int (own_dotI (nar .char c13) (2 : Int32) (Int32.ofNat f) (Int32.ofNat en))), .unset, .unset, .unset, .unset, .unset] [(.int (Int32.ofNat f)), (.int (3 : Int32)), (.int (nar .char c17))])) tg
          refine XS.iload X50.here hx rfl (hb hby at_247) rfl ?_
          show Steps p.tables e below (T50.setTop (mkF m 249 #[.val (.long i0), .second, .val (.int i1), .val (.int i2), .val (.int i3), .val (.ref b2), .val (.ref b24), .val (.int (Int32.ofNat en)), .val (.int x8_33), .val (.int (Int32.ofNat f)), .val (.int x10), .val (.int (own_dotI (nar .char c5) (0 : Int32) (Int32.ofNat f) (Int32.ofNat en))), .val (.int (own_dotI (nar .char c9) (1 : Int32) (Int32.ofNat f) (Int32.ofNat en))), .val (.int (own_dotI (nar .char c13) (2 : Int32) (Int32.ofNat f) (Int32.ofNat en))), .unset, .unset, .unset, .unset, .unset] [(.int (Int32.ofNat en)), (.int (Int32.ofNat f)), (.int (3 : Int32)), (.int (nar .char c17))])) tg
          exact kg
        refine gs c53 ?_
        obtain ⟨_, _, ⟨T54, L54, k54, n54⟩, -, X54, ⟨Lc54, hQ54, l54, y54, z54⟩, st54⟩ := Jvm.LawKit.callS X50 hx (y := (⟨"com/example/tranche/tranche/DecimalsIsWrittenPinLaw", "dot", "(CIII)I"⟩ : MethodName)) hown (mvT hZ (hw _ (List.mem_of_getElem? (i := 42) rfl))) (mvT hZ (hw _ (List.mem_of_getElem? (i := 43) rfl))) (mvT hZ (hw _ (List.mem_of_getElem? (i := 3) rfl))) (mvT hZ (hw _ (List.mem_of_getElem? (i := 44) rfl))) (by decide) (backC (W := 0) (rm_dt l Z a0 hw [] (nar .char c17) (3 : Int32) (Int32.ofNat f) (Int32.ofNat en) T29.heap n0 Z30 O30 ) hZ (hw _ (List.mem_of_getElem? (i := 44) rfl)) (hw _ (List.mem_of_getElem? (i := 3) rfl)) (by decide) (by decide)) (g := (mkF m 249 #[.val (.long i0), .second, .val (.int i1), .val (.int i2), .val (.int i3), .val (.ref b2), .val (.ref b24), .val (.int (Int32.ofNat en)), .val (.int x8_33), .val (.int (Int32.ofNat f)), .val (.int x10), .val (.int (own_dotI (nar .char c5) (0 : Int32) (Int32.ofNat f) (Int32.ofNat en))), .val (.int (own_dotI (nar .char c9) (1 : Int32) (Int32.ofNat f) (Int32.ofNat en))), .val (.int (own_dotI (nar .char c13) (2 : Int32) (Int32.ofNat f) (Int32.ofNat en))), .unset, .unset, .unset, .unset, .unset] [(.int (Int32.ofNat en)), (.int (Int32.ofNat f)), (.int (3 : Int32)), (.int (nar .char c17))])) rfl (by rw [hml]; rfl) (argsL := [(.int (nar .char c17)), (.int (3 : Int32)), (.int (Int32.ofNat f)), (.int (Int32.ofNat en))]) (rest := []) (lenOf pd_193 rfl) rfl (by show 2 * 0 + _ ≤ _; exact Nat.le_of_eq rfl) (hb hby at_249) (fun _ _ => ⟨rfl, e50q, (by decide : 3 + 0 ≤ _), (by decide : 14 + 0 ≤ _)⟩)
        dsimp only [Pt.U, Pt.locs, Pt.cells, Pt.slots] at X54 l54 y54 z54 st54 hQ54
        subst l54 y54 z54
        obtain ⟨rfl, N54q, e54q⟩ := hQ54
        have N54 := Fr.app N50 N54q
        refine gs st54 ?_
        show OwnGo p e below s _ _ _ (T54.setTop (mkF m 252 #[.val (.long i0), .second, .val (.int i1), .val (.int i2), .val (.int i3), .val (.ref b2), .val (.ref b24), .val (.int (Int32.ofNat en)), .val (.int x8_33), .val (.int (Int32.ofNat f)), .val (.int x10), .val (.int (own_dotI (nar .char c5) (0 : Int32) (Int32.ofNat f) (Int32.ofNat en))), .val (.int (own_dotI (nar .char c9) (1 : Int32) (Int32.ofNat f) (Int32.ofNat en))), .val (.int (own_dotI (nar .char c13) (2 : Int32) (Int32.ofNat f) (Int32.ofNat en))), .unset, .unset, .unset, .unset, .unset] [(.int (own_dotI (nar .char c17) (3 : Int32) (Int32.ofNat f) (Int32.ofNat en)))]))
        have c55 : ∀ tg, Steps p.tables e below (T54.setTop (mkF m 257 #[.val (.long i0), .second, .val (.int i1), .val (.int i2), .val (.int i3), .val (.ref b2), .val (.ref b24), .val (.int (Int32.ofNat en)), .val (.int x8_33), .val (.int (Int32.ofNat f)), .val (.int x10), .val (.int (own_dotI (nar .char c5) (0 : Int32) (Int32.ofNat f) (Int32.ofNat en))), .val (.int (own_dotI (nar .char c9) (1 : Int32) (Int32.ofNat f) (Int32.ofNat en))), .val (.int (own_dotI (nar .char c13) (2 : Int32) (Int32.ofNat f) (Int32.ofNat en))), .val (.int (own_dotI (nar .char c17) (3 : Int32) (Int32.ofNat f) (Int32.ofNat en))), .unset, .unset, .unset, .unset] [(.int (4 : Int32)), (.ref b2)])) tg → Steps p.tables e below (T54.setTop (mkF m 252 #[.val (.long i0), .second, .val (.int i1), .val (.int i2), .val (.int i3), .val (.ref b2), .val (.ref b24), .val (.int (Int32.ofNat en)), .val (.int x8_33), .val (.int (Int32.ofNat f)), .val (.int x10), .val (.int (own_dotI (nar .char c5) (0 : Int32) (Int32.ofNat f) (Int32.ofNat en))), .val (.int (own_dotI (nar .char c9) (1 : Int32) (Int32.ofNat f) (Int32.ofNat en))), .val (.int (own_dotI (nar .char c13) (2 : Int32) (Int32.ofNat f) (Int32.ofNat en))), .unset, .unset, .unset, .unset, .unset] [(.int (own_dotI (nar .char c17) (3 : Int32) (Int32.ofNat f) (Int32.ofNat en)))])) tg := fun tg kg => by
          refine XS.istore X54.here hx rfl (hb hby at_252) rfl (l' := #[.val (.long i0), .second, .val (.int i1), .val (.int i2), .val (.int i3), .val (.ref b2), .val (.ref b24), .val (.int (Int32.ofNat en)), .val (.int x8_33), .val (.int (Int32.ofNat f)), .val (.int x10), .val (.int (own_dotI (nar .char c5) (0 : Int32) (Int32.ofNat f) (Int32.ofNat en))), .val (.int (own_dotI (nar .char c9) (1 : Int32) (Int32.ofNat f) (Int32.ofNat en))), .val (.int (own_dotI (nar .char c13) (2 : Int32) (Int32.ofNat f) (Int32.ofNat en))), .val (.int (own_dotI (nar .char c17) (3 : Int32) (Int32.ofNat f) (Int32.ofNat en))), .unset, .unset, .unset, .unset]) rfl ?_
          show Steps p.tables e below (T54.setTop (mkF m 254 #[.val (.long i0), .second, .val (.int i1), .val (.int i2), .val (.int i3), .val (.ref b2), .val (.ref b24), .val (.int (Int32.ofNat en)), .val (.int x8_33), .val (.int (Int32.ofNat f)), .val (.int x10), .val (.int (own_dotI (nar .char c5) (0 : Int32) (Int32.ofNat f) (Int32.ofNat en))), .val (.int (own_dotI (nar .char c9) (1 : Int32) (Int32.ofNat f) (Int32.ofNat en))), .val (.int (own_dotI (nar .char c13) (2 : Int32) (Int32.ofNat f) (Int32.ofNat en))), .val (.int (own_dotI (nar .char c17) (3 : Int32) (Int32.ofNat f) (Int32.ofNat en))), .unset, .unset, .unset, .unset] [])) tg
          refine XS.aload X54.here hx rfl (hb hby at_254) rfl rfl ?_
          show Steps p.tables e below (T54.setTop (mkF m 256 #[.val (.long i0), .second, .val (.int i1), .val (.int i2), .val (.int i3), .val (.ref b2), .val (.ref b24), .val (.int (Int32.ofNat en)), .val (.int x8_33), .val (.int (Int32.ofNat f)), .val (.int x10), .val (.int (own_dotI (nar .char c5) (0 : Int32) (Int32.ofNat f) (Int32.ofNat en))), .val (.int (own_dotI (nar .char c9) (1 : Int32) (Int32.ofNat f) (Int32.ofNat en))), .val (.int (own_dotI (nar .char c13) (2 : Int32) (Int32.ofNat f) (Int32.ofNat en))), .val (.int (own_dotI (nar .char c17) (3 : Int32) (Int32.ofNat f) (Int32.ofNat en))), .unset, .unset, .unset, .unset] [(.ref b2)])) tg
          refine XS.iconst X54.here hx rfl (hb hby at_256) ?_
          show Steps p.tables e below (T54.setTop (mkF m 257 #[.val (.long i0), .second, .val (.int i1), .val (.int i2), .val (.int i3), .val (.ref b2), .val (.ref b24), .val (.int (Int32.ofNat en)), .val (.int x8_33), .val (.int (Int32.ofNat f)), .val (.int x10), .val (.int (own_dotI (nar .char c5) (0 : Int32) (Int32.ofNat f) (Int32.ofNat en))), .val (.int (own_dotI (nar .char c9) (1 : Int32) (Int32.ofNat f) (Int32.ofNat en))), .val (.int (own_dotI (nar .char c13) (2 : Int32) (Int32.ofNat f) (Int32.ofNat en))), .val (.int (own_dotI (nar .char c17) (3 : Int32) (Int32.ofNat f) (Int32.ofNat en))), .unset, .unset, .unset, .unset] [(.int (4 : Int32)), (.ref b2)])) tg
          exact kg
        refine gs c55 ?_
        obtain ⟨cl56, A56, a56q, a56S, a56N, a56H, a56G⟩ := id f39
        have hi56 := inb_of a56S (j := (4 : Int32)) ⟨by decide, by decide⟩
        have c57 : ∀ tg, Steps p.tables e below (T54.setTop (mkF m 263 #[.val (.long i0), .second, .val (.int i1), .val (.int i2), .val (.int i3), .val (.ref b2), .val (.ref b24), .val (.int (Int32.ofNat en)), .val (.int x8_33), .val (.int (Int32.ofNat f)), .val (.int x10), .val (.int (own_dotI (nar .char c5) (0 : Int32) (Int32.ofNat f) (Int32.ofNat en))), .val (.int (own_dotI (nar .char c9) (1 : Int32) (Int32.ofNat f) (Int32.ofNat en))), .val (.int (own_dotI (nar .char c13) (2 : Int32) (Int32.ofNat f) (Int32.ofNat en))), .val (.int (own_dotI (nar .char c17) (3 : Int32) (Int32.ofNat f) (Int32.ofNat en))), .unset, .unset, .unset, .unset] [(.int (Int32.ofNat en)), (.int (Int32.ofNat f)), (.int (4 : Int32)), (.int (nar .char c21))])) tg → Steps p.tables e below (T54.setTop (mkF m 257 #[.val (.long i0), .second, .val (.int i1), .val (.int i2), .val (.int i3), .val (.ref b2), .val (.ref b24), .val (.int (Int32.ofNat en)), .val (.int x8_33), .val (.int (Int32.ofNat f)), .val (.int x10), .val (.int (own_dotI (nar .char c5) (0 : Int32) (Int32.ofNat f) (Int32.ofNat en))), .val (.int (own_dotI (nar .char c9) (1 : Int32) (Int32.ofNat f) (Int32.ofNat en))), .val (.int (own_dotI (nar .char c13) (2 : Int32) (Int32.ofNat f) (Int32.ofNat en))), .val (.int (own_dotI (nar .char c17) (3 : Int32) (Int32.ofNat f) (Int32.ofNat en))), .unset, .unset, .unset, .unset] [(.int (4 : Int32)), (.ref b2)])) tg := fun tg kg => by
          refine X54.caload hx (j := (4 : Int32)) (v := (.int (nar .char c21))) (by rw [e54q]; exact A56.1) (State.isArrayOf_alike hZ.alike A56.2.1) A56.2.2 hi56 (Has.at a56H hi56 rfl) (g := (mkF m 257 #[.val (.long i0), .second, .val (.int i1), .val (.int i2), .val (.int i3), .val (.ref b2), .val (.ref b24), .val (.int (Int32.ofNat en)), .val (.int x8_33), .val (.int (Int32.ofNat f)), .val (.int x10), .val (.int (own_dotI (nar .char c5) (0 : Int32) (Int32.ofNat f) (Int32.ofNat en))), .val (.int (own_dotI (nar .char c9) (1 : Int32) (Int32.ofNat f) (Int32.ofNat en))), .val (.int (own_dotI (nar .char c13) (2 : Int32) (Int32.ofNat f) (Int32.ofNat en))), .val (.int (own_dotI (nar .char c17) (3 : Int32) (Int32.ofNat f) (Int32.ofNat en))), .unset, .unset, .unset, .unset] [(.int (4 : Int32)), (.ref b2)])) rfl rfl (hb hby at_257) _ ?_
          show Steps p.tables e below (T54.setTop (mkF m 258 #[.val (.long i0), .second, .val (.int i1), .val (.int i2), .val (.int i3), .val (.ref b2), .val (.ref b24), .val (.int (Int32.ofNat en)), .val (.int x8_33), .val (.int (Int32.ofNat f)), .val (.int x10), .val (.int (own_dotI (nar .char c5) (0 : Int32) (Int32.ofNat f) (Int32.ofNat en))), .val (.int (own_dotI (nar .char c9) (1 : Int32) (Int32.ofNat f) (Int32.ofNat en))), .val (.int (own_dotI (nar .char c13) (2 : Int32) (Int32.ofNat f) (Int32.ofNat en))), .val (.int (own_dotI (nar .char c17) (3 : Int32) (Int32.ofNat f) (Int32.ofNat en))), .unset, .unset, .unset, .unset] [(.int (nar .char c21))])) tg
          refine XS.iconst X54.here hx rfl (hb hby at_258) ?_
          show Steps p.tables e below (T54.setTop (mkF m 259 #[.val (.long i0), .second, .val (.int i1), .val (.int i2), .val (.int i3), .val (.ref b2), .val (.ref b24), .val (.int (Int32.ofNat en)), .val (.int x8_33), .val (.int (Int32.ofNat f)), .val (.int x10), .val (.int (own_dotI (nar .char c5) (0 : Int32) (Int32.ofNat f) (Int32.ofNat en))), .val (.int (own_dotI (nar .char c9) (1 : Int32) (Int32.ofNat f) (Int32.ofNat en))), .val (.int (own_dotI (nar .char c13) (2 : Int32) (Int32.ofNat f) (Int32.ofNat en))), .val (.int (own_dotI (nar .char c17) (3 : Int32) (Int32.ofNat f) (Int32.ofNat en))), .unset, .unset, .unset, .unset] [(.int (4 : Int32)), (.int (nar .char c21))])) tg
          refine XS.iload X54.here hx rfl (hb hby at_259) rfl ?_
          show Steps p.tables e below (T54.setTop (mkF m 261 #[.val (.long i0), .second, .val (.int i1), .val (.int i2), .val (.int i3), .val (.ref b2), .val (.ref b24), .val (.int (Int32.ofNat en)), .val (.int x8_33), .val (.int (Int32.ofNat f)), .val (.int x10), .val (.int (own_dotI (nar .char c5) (0 : Int32) (Int32.ofNat f) (Int32.ofNat en))), .val (.int (own_dotI (nar .char c9) (1 : Int32) (Int32.ofNat f) (Int32.ofNat en))), .val (.int (own_dotI (nar .char c13) (2 : Int32) (Int32.ofNat f) (Int32.ofNat en))), .val (.int (own_dotI (nar .char c17) (3 : Int32) (Int32.ofNat f) (Int32.ofNat en))), .unset, .unset, .unset, .unset] [(.int (Int32.ofNat f)), (.int (4 : Int32)), (.int (nar .char c21))])) tg
          refine XS.iload X54.here hx rfl (hb hby at_261) rfl ?_
          show Steps p.tables e below (T54.setTop (mkF m 263 #[.val (.long i0), .second, .val (.int i1), .val (.int i2), .val (.int i3), .val (.ref b2), .val (.ref b24), .val (.int (Int32.ofNat en)), .val (.int x8_33), .val (.int (Int32.ofNat f)), .val (.int x10), .val (.int (own_dotI (nar .char c5) (0 : Int32) (Int32.ofNat f) (Int32.ofNat en))), .val (.int (own_dotI (nar .char c9) (1 : Int32) (Int32.ofNat f) (Int32.ofNat en))), .val (.int (own_dotI (nar .char c13) (2 : Int32) (Int32.ofNat f) (Int32.ofNat en))), .val (.int (own_dotI (nar .char c17) (3 : Int32) (Int32.ofNat f) (Int32.ofNat en))), .unset, .unset, .unset, .unset] [(.int (Int32.ofNat en)), (.int (Int32.ofNat f)), (.int (4 : Int32)), (.int (nar .char c21))])) tg
          exact kg
        refine gs c57 ?_
        obtain ⟨_, _, ⟨T58, L58, k58, n58⟩, -, X58, ⟨Lc58, hQ58, l58, y58, z58⟩, st58⟩ := Jvm.LawKit.callS X54 hx (y := (⟨"com/example/tranche/tranche/DecimalsIsWrittenPinLaw", "dot", "(CIII)I"⟩ : MethodName)) hown (mvT hZ (hw _ (List.mem_of_getElem? (i := 42) rfl))) (mvT hZ (hw _ (List.mem_of_getElem? (i := 43) rfl))) (mvT hZ (hw _ (List.mem_of_getElem? (i := 3) rfl))) (mvT hZ (hw _ (List.mem_of_getElem? (i := 44) rfl))) (by decide) (backC (W := 0) (rm_dt l Z a0 hw [] (nar .char c21) (4 : Int32) (Int32.ofNat f) (Int32.ofNat en) T29.heap n0 Z30 O30 ) hZ (hw _ (List.mem_of_getElem? (i := 44) rfl)) (hw _ (List.mem_of_getElem? (i := 3) rfl)) (by decide) (by decide)) (g := (mkF m 263 #[.val (.long i0), .second, .val (.int i1), .val (.int i2), .val (.int i3), .val (.ref b2), .val (.ref b24), .val (.int (Int32.ofNat en)), .val (.int x8_33), .val (.int (Int32.ofNat f)), .val (.int x10), .val (.int (own_dotI (nar .char c5) (0 : Int32) (Int32.ofNat f) (Int32.ofNat en))), .val (.int (own_dotI (nar .char c9) (1 : Int32) (Int32.ofNat f) (Int32.ofNat en))), .val (.int (own_dotI (nar .char c13) (2 : Int32) (Int32.ofNat f) (Int32.ofNat en))), .val (.int (own_dotI (nar .char c17) (3 : Int32) (Int32.ofNat f) (Int32.ofNat en))), .unset, .unset, .unset, .unset] [(.int (Int32.ofNat en)), (.int (Int32.ofNat f)), (.int (4 : Int32)), (.int (nar .char c21))])) rfl (by rw [hml]; rfl) (argsL := [(.int (nar .char c21)), (.int (4 : Int32)), (.int (Int32.ofNat f)), (.int (Int32.ofNat en))]) (rest := []) (lenOf pd_193 rfl) rfl (by show 2 * 0 + _ ≤ _; exact Nat.le_of_eq rfl) (hb hby at_263) (fun _ _ => ⟨rfl, e54q, (by decide : 3 + 0 ≤ _), (by decide : 14 + 0 ≤ _)⟩)
        dsimp only [Pt.U, Pt.locs, Pt.cells, Pt.slots] at X58 l58 y58 z58 st58 hQ58
        subst l58 y58 z58
        obtain ⟨rfl, N58q, e58q⟩ := hQ58
        have N58 := Fr.app N54 N58q
        refine gs st58 ?_
        show OwnGo p e below s _ _ _ (T58.setTop (mkF m 266 #[.val (.long i0), .second, .val (.int i1), .val (.int i2), .val (.int i3), .val (.ref b2), .val (.ref b24), .val (.int (Int32.ofNat en)), .val (.int x8_33), .val (.int (Int32.ofNat f)), .val (.int x10), .val (.int (own_dotI (nar .char c5) (0 : Int32) (Int32.ofNat f) (Int32.ofNat en))), .val (.int (own_dotI (nar .char c9) (1 : Int32) (Int32.ofNat f) (Int32.ofNat en))), .val (.int (own_dotI (nar .char c13) (2 : Int32) (Int32.ofNat f) (Int32.ofNat en))), .val (.int (own_dotI (nar .char c17) (3 : Int32) (Int32.ofNat f) (Int32.ofNat en))), .unset, .unset, .unset, .unset] [(.int (own_dotI (nar .char c21) (4 : Int32) (Int32.ofNat f) (Int32.ofNat en)))]))
        have c59 : ∀ tg, Steps p.tables e below (T58.setTop (mkF m 303 #[.val (.long i0), .second, .val (.int i1), .val (.int i2), .val (.int i3), .val (.ref b2), .val (.ref b24), .val (.int (Int32.ofNat en)), .val (.int x8_33), .val (.int (Int32.ofNat f)), .val (.int x10), .val (.int (own_dotI (nar .char c5) (0 : Int32) (Int32.ofNat f) (Int32.ofNat en))), .val (.int (own_dotI (nar .char c9) (1 : Int32) (Int32.ofNat f) (Int32.ofNat en))), .val (.int (own_dotI (nar .char c13) (2 : Int32) (Int32.ofNat f) (Int32.ofNat en))), .val (.int (own_dotI (nar .char c17) (3 : Int32) (Int32.ofNat f) (Int32.ofNat en))), .val (.int (own_dotI (nar .char c21) (4 : Int32) (Int32.ofNat f) (Int32.ofNat en))), .val (.int (((((own_dotI (nar .char c5) (0 : Int32) (Int32.ofNat f) (Int32.ofNat en)) + (own_dotI (nar .char c9) (1 : Int32) (Int32.ofNat f) (Int32.ofNat en))) + (own_dotI (nar .char c13) (2 : Int32) (Int32.ofNat f) (Int32.ofNat en))) + (own_dotI (nar .char c17) (3 : Int32) (Int32.ofNat f) (Int32.ofNat en))) + (own_dotI (nar .char c21) (4 : Int32) (Int32.ofNat f) (Int32.ofNat en)))), .val (.int ((((own_dotI (nar .char c9) (1 : Int32) (Int32.ofNat f) (Int32.ofNat en)) + ((2 : Int32) * (own_dotI (nar .char c13) (2 : Int32) (Int32.ofNat f) (Int32.ofNat en)))) + ((3 : Int32) * (own_dotI (nar .char c17) (3 : Int32) (Int32.ofNat f) (Int32.ofNat en)))) + ((4 : Int32) * (own_dotI (nar .char c21) (4 : Int32) (Int32.ofNat f) (Int32.ofNat en))))), .unset] [])) tg → Steps p.tables e below (T58.setTop (mkF m 266 #[.val (.long i0), .second, .val (.int i1), .val (.int i2), .val (.int i3), .val (.ref b2), .val (.ref b24), .val (.int (Int32.ofNat en)), .val (.int x8_33), .val (.int (Int32.ofNat f)), .val (.int x10), .val (.int (own_dotI (nar .char c5) (0 : Int32) (Int32.ofNat f) (Int32.ofNat en))), .val (.int (own_dotI (nar .char c9) (1 : Int32) (Int32.ofNat f) (Int32.ofNat en))), .val (.int (own_dotI (nar .char c13) (2 : Int32) (Int32.ofNat f) (Int32.ofNat en))), .val (.int (own_dotI (nar .char c17) (3 : Int32) (Int32.ofNat f) (Int32.ofNat en))), .unset, .unset, .unset, .unset] [(.int (own_dotI (nar .char c21) (4 : Int32) (Int32.ofNat f) (Int32.ofNat en)))])) tg := fun tg kg => by
          refine XS.istore X58.here hx rfl (hb hby at_266) rfl (l' := #[.val (.long i0), .second, .val (.int i1), .val (.int i2), .val (.int i3), .val (.ref b2), .val (.ref b24), .val (.int (Int32.ofNat en)), .val (.int x8_33), .val (.int (Int32.ofNat f)), .val (.int x10), .val (.int (own_dotI (nar .char c5) (0 : Int32) (Int32.ofNat f) (Int32.ofNat en))), .val (.int (own_dotI (nar .char c9) (1 : Int32) (Int32.ofNat f) (Int32.ofNat en))), .val (.int (own_dotI (nar .char c13) (2 : Int32) (Int32.ofNat f) (Int32.ofNat en))), .val (.int (own_dotI (nar .char c17) (3 : Int32) (Int32.ofNat f) (Int32.ofNat en))), .val (.int (own_dotI (nar .char c21) (4 : Int32) (Int32.ofNat f) (Int32.ofNat en))), .unset, .unset, .unset]) rfl ?_
          show Steps p.tables e below (T58.setTop (mkF m 268 #[.val (.long i0), .second, .val (.int i1), .val (.int i2), .val (.int i3), .val (.ref b2), .val (.ref b24), .val (.int (Int32.ofNat en)), .val (.int x8_33), .val (.int (Int32.ofNat f)), .val (.int x10), .val (.int (own_dotI (nar .char c5) (0 : Int32) (Int32.ofNat f) (Int32.ofNat en))), .val (.int (own_dotI (nar .char c9) (1 : Int32) (Int32.ofNat f) (Int32.ofNat en))), .val (.int (own_dotI (nar .char c13) (2 : Int32) (Int32.ofNat f) (Int32.ofNat en))), .val (.int (own_dotI (nar .char c17) (3 : Int32) (Int32.ofNat f) (Int32.ofNat en))), .val (.int (own_dotI (nar .char c21) (4 : Int32) (Int32.ofNat f) (Int32.ofNat en))), .unset, .unset, .unset] [])) tg
          refine XS.iload X58.here hx rfl (hb hby at_268) rfl ?_
          show Steps p.tables e below (T58.setTop (mkF m 270 #[.val (.long i0), .second, .val (.int i1), .val (.int i2), .val (.int i3), .val (.ref b2), .val (.ref b24), .val (.int (Int32.ofNat en)), .val (.int x8_33), .val (.int (Int32.ofNat f)), .val (.int x10), .val (.int (own_dotI (nar .char c5) (0 : Int32) (Int32.ofNat f) (Int32.ofNat en))), .val (.int (own_dotI (nar .char c9) (1 : Int32) (Int32.ofNat f) (Int32.ofNat en))), .val (.int (own_dotI (nar .char c13) (2 : Int32) (Int32.ofNat f) (Int32.ofNat en))), .val (.int (own_dotI (nar .char c17) (3 : Int32) (Int32.ofNat f) (Int32.ofNat en))), .val (.int (own_dotI (nar .char c21) (4 : Int32) (Int32.ofNat f) (Int32.ofNat en))), .unset, .unset, .unset] [(.int (own_dotI (nar .char c5) (0 : Int32) (Int32.ofNat f) (Int32.ofNat en)))])) tg
          refine XS.iload X58.here hx rfl (hb hby at_270) rfl ?_
          show Steps p.tables e below (T58.setTop (mkF m 272 #[.val (.long i0), .second, .val (.int i1), .val (.int i2), .val (.int i3), .val (.ref b2), .val (.ref b24), .val (.int (Int32.ofNat en)), .val (.int x8_33), .val (.int (Int32.ofNat f)), .val (.int x10), .val (.int (own_dotI (nar .char c5) (0 : Int32) (Int32.ofNat f) (Int32.ofNat en))), .val (.int (own_dotI (nar .char c9) (1 : Int32) (Int32.ofNat f) (Int32.ofNat en))), .val (.int (own_dotI (nar .char c13) (2 : Int32) (Int32.ofNat f) (Int32.ofNat en))), .val (.int (own_dotI (nar .char c17) (3 : Int32) (Int32.ofNat f) (Int32.ofNat en))), .val (.int (own_dotI (nar .char c21) (4 : Int32) (Int32.ofNat f) (Int32.ofNat en))), .unset, .unset, .unset] [(.int (own_dotI (nar .char c9) (1 : Int32) (Int32.ofNat f) (Int32.ofNat en))), (.int (own_dotI (nar .char c5) (0 : Int32) (Int32.ofNat f) (Int32.ofNat en)))])) tg
          refine XS.iadd X58.here hx rfl (hb hby at_272) rfl ?_
          show Steps p.tables e below (T58.setTop (mkF m 273 #[.val (.long i0), .second, .val (.int i1), .val (.int i2), .val (.int i3), .val (.ref b2), .val (.ref b24), .val (.int (Int32.ofNat en)), .val (.int x8_33), .val (.int (Int32.ofNat f)), .val (.int x10), .val (.int (own_dotI (nar .char c5) (0 : Int32) (Int32.ofNat f) (Int32.ofNat en))), .val (.int (own_dotI (nar .char c9) (1 : Int32) (Int32.ofNat f) (Int32.ofNat en))), .val (.int (own_dotI (nar .char c13) (2 : Int32) (Int32.ofNat f) (Int32.ofNat en))), .val (.int (own_dotI (nar .char c17) (3 : Int32) (Int32.ofNat f) (Int32.ofNat en))), .val (.int (own_dotI (nar .char c21) (4 : Int32) (Int32.ofNat f) (Int32.ofNat en))), .unset, .unset, .unset] [(.int ((own_dotI (nar .char c5) (0 : Int32) (Int32.ofNat f) (Int32.ofNat en)) + (own_dotI (nar .char c9) (1 : Int32) (Int32.ofNat f) (Int32.ofNat en))))])) tg
          refine XS.iload X58.here hx rfl (hb hby at_273) rfl ?_
          show Steps p.tables e below (T58.setTop (mkF m 275 #[.val (.long i0), .second, .val (.int i1), .val (.int i2), .val (.int i3), .val (.ref b2), .val (.ref b24), .val (.int (Int32.ofNat en)), .val (.int x8_33), .val (.int (Int32.ofNat f)), .val (.int x10), .val (.int (own_dotI (nar .char c5) (0 : Int32) (Int32.ofNat f) (Int32.ofNat en))), .val (.int (own_dotI (nar .char c9) (1 : Int32) (Int32.ofNat f) (Int32.ofNat en))), .val (.int (own_dotI (nar .char c13) (2 : Int32) (Int32.ofNat f) (Int32.ofNat en))), .val (.int (own_dotI (nar .char c17) (3 : Int32) (Int32.ofNat f) (Int32.ofNat en))), .val (.int (own_dotI (nar .char c21) (4 : Int32) (Int32.ofNat f) (Int32.ofNat en))), .unset, .unset, .unset] [(.int (own_dotI (nar .char c13) (2 : Int32) (Int32.ofNat f) (Int32.ofNat en))), (.int ((own_dotI (nar .char c5) (0 : Int32) (Int32.ofNat f) (Int32.ofNat en)) + (own_dotI (nar .char c9) (1 : Int32) (Int32.ofNat f) (Int32.ofNat en))))])) tg
          refine XS.iadd X58.here hx rfl (hb hby at_275) rfl ?_
          show Steps p.tables e below (T58.setTop (mkF m 276 #[.val (.long i0), .second, .val (.int i1), .val (.int i2), .val (.int i3), .val (.ref b2), .val (.ref b24), .val (.int (Int32.ofNat en)), .val (.int x8_33), .val (.int (Int32.ofNat f)), .val (.int x10), .val (.int (own_dotI (nar .char c5) (0 : Int32) (Int32.ofNat f) (Int32.ofNat en))), .val (.int (own_dotI (nar .char c9) (1 : Int32) (Int32.ofNat f) (Int32.ofNat en))), .val (.int (own_dotI (nar .char c13) (2 : Int32) (Int32.ofNat f) (Int32.ofNat en))), .val (.int (own_dotI (nar .char c17) (3 : Int32) (Int32.ofNat f) (Int32.ofNat en))), .val (.int (own_dotI (nar .char c21) (4 : Int32) (Int32.ofNat f) (Int32.ofNat en))), .unset, .unset, .unset] [(.int (((own_dotI (nar .char c5) (0 : Int32) (Int32.ofNat f) (Int32.ofNat en)) + (own_dotI (nar .char c9) (1 : Int32) (Int32.ofNat f) (Int32.ofNat en))) + (own_dotI (nar .char c13) (2 : Int32) (Int32.ofNat f) (Int32.ofNat en))))])) tg
          refine XS.iload X58.here hx rfl (hb hby at_276) rfl ?_
          show Steps p.tables e below (T58.setTop (mkF m 278 #[.val (.long i0), .second, .val (.int i1), .val (.int i2), .val (.int i3), .val (.ref b2), .val (.ref b24), .val (.int (Int32.ofNat en)), .val (.int x8_33), .val (.int (Int32.ofNat f)), .val (.int x10), .val (.int (own_dotI (nar .char c5) (0 : Int32) (Int32.ofNat f) (Int32.ofNat en))), .val (.int (own_dotI (nar .char c9) (1 : Int32) (Int32.ofNat f) (Int32.ofNat en))), .val (.int (own_dotI (nar .char c13) (2 : Int32) (Int32.ofNat f) (Int32.ofNat en))), .val (.int (own_dotI (nar .char c17) (3 : Int32) (Int32.ofNat f) (Int32.ofNat en))), .val (.int (own_dotI (nar .char c21) (4 : Int32) (Int32.ofNat f) (Int32.ofNat en))), .unset, .unset, .unset] [(.int (own_dotI (nar .char c17) (3 : Int32) (Int32.ofNat f) (Int32.ofNat en))), (.int (((own_dotI (nar .char c5) (0 : Int32) (Int32.ofNat f) (Int32.ofNat en)) + (own_dotI (nar .char c9) (1 : Int32) (Int32.ofNat f) (Int32.ofNat en))) + (own_dotI (nar .char c13) (2 : Int32) (Int32.ofNat f) (Int32.ofNat en))))])) tg
          refine XS.iadd X58.here hx rfl (hb hby at_278) rfl ?_
          show Steps p.tables e below (T58.setTop (mkF m 279 #[.val (.long i0), .second, .val (.int i1), .val (.int i2), .val (.int i3), .val (.ref b2), .val (.ref b24), .val (.int (Int32.ofNat en)), .val (.int x8_33), .val (.int (Int32.ofNat f)), .val (.int x10), .val (.int (own_dotI (nar .char c5) (0 : Int32) (Int32.ofNat f) (Int32.ofNat en))), .val (.int (own_dotI (nar .char c9) (1 : Int32) (Int32.ofNat f) (Int32.ofNat en))), .val (.int (own_dotI (nar .char c13) (2 : Int32) (Int32.ofNat f) (Int32.ofNat en))), .val (.int (own_dotI (nar .char c17) (3 : Int32) (Int32.ofNat f) (Int32.ofNat en))), .val (.int (own_dotI (nar .char c21) (4 : Int32) (Int32.ofNat f) (Int32.ofNat en))), .unset, .unset, .unset] [(.int ((((own_dotI (nar .char c5) (0 : Int32) (Int32.ofNat f) (Int32.ofNat en)) + (own_dotI (nar .char c9) (1 : Int32) (Int32.ofNat f) (Int32.ofNat en))) + (own_dotI (nar .char c13) (2 : Int32) (Int32.ofNat f) (Int32.ofNat en))) + (own_dotI (nar .char c17) (3 : Int32) (Int32.ofNat f) (Int32.ofNat en))))])) tg
          refine XS.iload X58.here hx rfl (hb hby at_279) rfl ?_
          show Steps p.tables e below (T58.setTop (mkF m 281 #[.val (.long i0), .second, .val (.int i1), .val (.int i2), .val (.int i3), .val (.ref b2), .val (.ref b24), .val (.int (Int32.ofNat en)), .val (.int x8_33), .val (.int (Int32.ofNat f)), .val (.int x10), .val (.int (own_dotI (nar .char c5) (0 : Int32) (Int32.ofNat f) (Int32.ofNat en))), .val (.int (own_dotI (nar .char c9) (1 : Int32) (Int32.ofNat f) (Int32.ofNat en))), .val (.int (own_dotI (nar .char c13) (2 : Int32) (Int32.ofNat f) (Int32.ofNat en))), .val (.int (own_dotI (nar .char c17) (3 : Int32) (Int32.ofNat f) (Int32.ofNat en))), .val (.int (own_dotI (nar .char c21) (4 : Int32) (Int32.ofNat f) (Int32.ofNat en))), .unset, .unset, .unset] [(.int (own_dotI (nar .char c21) (4 : Int32) (Int32.ofNat f) (Int32.ofNat en))), (.int ((((own_dotI (nar .char c5) (0 : Int32) (Int32.ofNat f) (Int32.ofNat en)) + (own_dotI (nar .char c9) (1 : Int32) (Int32.ofNat f) (Int32.ofNat en))) + (own_dotI (nar .char c13) (2 : Int32) (Int32.ofNat f) (Int32.ofNat en))) + (own_dotI (nar .char c17) (3 : Int32) (Int32.ofNat f) (Int32.ofNat en))))])) tg
          refine XS.iadd X58.here hx rfl (hb hby at_281) rfl ?_
          show Steps p.tables e below (T58.setTop (mkF m 282 #[.val (.long i0), .second, .val (.int i1), .val (.int i2), .val (.int i3), .val (.ref b2), .val (.ref b24), .val (.int (Int32.ofNat en)), .val (.int x8_33), .val (.int (Int32.ofNat f)), .val (.int x10), .val (.int (own_dotI (nar .char c5) (0 : Int32) (Int32.ofNat f) (Int32.ofNat en))), .val (.int (own_dotI (nar .char c9) (1 : Int32) (Int32.ofNat f) (Int32.ofNat en))), .val (.int (own_dotI (nar .char c13) (2 : Int32) (Int32.ofNat f) (Int32.ofNat en))), .val (.int (own_dotI (nar .char c17) (3 : Int32) (Int32.ofNat f) (Int32.ofNat en))), .val (.int (own_dotI (nar .char c21) (4 : Int32) (Int32.ofNat f) (Int32.ofNat en))), .unset, .unset, .unset] [(.int (((((own_dotI (nar .char c5) (0 : Int32) (Int32.ofNat f) (Int32.ofNat en)) + (own_dotI (nar .char c9) (1 : Int32) (Int32.ofNat f) (Int32.ofNat en))) + (own_dotI (nar .char c13) (2 : Int32) (Int32.ofNat f) (Int32.ofNat en))) + (own_dotI (nar .char c17) (3 : Int32) (Int32.ofNat f) (Int32.ofNat en))) + (own_dotI (nar .char c21) (4 : Int32) (Int32.ofNat f) (Int32.ofNat en))))])) tg
          refine XS.istore X58.here hx rfl (hb hby at_282) rfl (l' := #[.val (.long i0), .second, .val (.int i1), .val (.int i2), .val (.int i3), .val (.ref b2), .val (.ref b24), .val (.int (Int32.ofNat en)), .val (.int x8_33), .val (.int (Int32.ofNat f)), .val (.int x10), .val (.int (own_dotI (nar .char c5) (0 : Int32) (Int32.ofNat f) (Int32.ofNat en))), .val (.int (own_dotI (nar .char c9) (1 : Int32) (Int32.ofNat f) (Int32.ofNat en))), .val (.int (own_dotI (nar .char c13) (2 : Int32) (Int32.ofNat f) (Int32.ofNat en))), .val (.int (own_dotI (nar .char c17) (3 : Int32) (Int32.ofNat f) (Int32.ofNat en))), .val (.int (own_dotI (nar .char c21) (4 : Int32) (Int32.ofNat f) (Int32.ofNat en))), .val (.int (((((own_dotI (nar .char c5) (0 : Int32) (Int32.ofNat f) (Int32.ofNat en)) + (own_dotI (nar .char c9) (1 : Int32) (Int32.ofNat f) (Int32.ofNat en))) + (own_dotI (nar .char c13) (2 : Int32) (Int32.ofNat f) (Int32.ofNat en))) + (own_dotI (nar .char c17) (3 : Int32) (Int32.ofNat f) (Int32.ofNat en))) + (own_dotI (nar .char c21) (4 : Int32) (Int32.ofNat f) (Int32.ofNat en)))), .unset, .unset]) rfl ?_
          show Steps p.tables e below (T58.setTop (mkF m 284 #[.val (.long i0), .second, .val (.int i1), .val (.int i2), .val (.int i3), .val (.ref b2), .val (.ref b24), .val (.int (Int32.ofNat en)), .val (.int x8_33), .val (.int (Int32.ofNat f)), .val (.int x10), .val (.int (own_dotI (nar .char c5) (0 : Int32) (Int32.ofNat f) (Int32.ofNat en))), .val (.int (own_dotI (nar .char c9) (1 : Int32) (Int32.ofNat f) (Int32.ofNat en))), .val (.int (own_dotI (nar .char c13) (2 : Int32) (Int32.ofNat f) (Int32.ofNat en))), .val (.int (own_dotI (nar .char c17) (3 : Int32) (Int32.ofNat f) (Int32.ofNat en))), .val (.int (own_dotI (nar .char c21) (4 : Int32) (Int32.ofNat f) (Int32.ofNat en))), .val (.int (((((own_dotI (nar .char c5) (0 : Int32) (Int32.ofNat f) (Int32.ofNat en)) + (own_dotI (nar .char c9) (1 : Int32) (Int32.ofNat f) (Int32.ofNat en))) + (own_dotI (nar .char c13) (2 : Int32) (Int32.ofNat f) (Int32.ofNat en))) + (own_dotI (nar .char c17) (3 : Int32) (Int32.ofNat f) (Int32.ofNat en))) + (own_dotI (nar .char c21) (4 : Int32) (Int32.ofNat f) (Int32.ofNat en)))), .unset, .unset] [])) tg
          refine XS.iload X58.here hx rfl (hb hby at_284) rfl ?_
          show Steps p.tables e below (T58.setTop (mkF m 286 #[.val (.long i0), .second, .val (.int i1), .val (.int i2), .val (.int i3), .val (.ref b2), .val (.ref b24), .val (.int (Int32.ofNat en)), .val (.int x8_33), .val (.int (Int32.ofNat f)), .val (.int x10), .val (.int (own_dotI (nar .char c5) (0 : Int32) (Int32.ofNat f) (Int32.ofNat en))), .val (.int (own_dotI (nar .char c9) (1 : Int32) (Int32.ofNat f) (Int32.ofNat en))), .val (.int (own_dotI (nar .char c13) (2 : Int32) (Int32.ofNat f) (Int32.ofNat en))), .val (.int (own_dotI (nar .char c17) (3 : Int32) (Int32.ofNat f) (Int32.ofNat en))), .val (.int (own_dotI (nar .char c21) (4 : Int32) (Int32.ofNat f) (Int32.ofNat en))), .val (.int (((((own_dotI (nar .char c5) (0 : Int32) (Int32.ofNat f) (Int32.ofNat en)) + (own_dotI (nar .char c9) (1 : Int32) (Int32.ofNat f) (Int32.ofNat en))) + (own_dotI (nar .char c13) (2 : Int32) (Int32.ofNat f) (Int32.ofNat en))) + (own_dotI (nar .char c17) (3 : Int32) (Int32.ofNat f) (Int32.ofNat en))) + (own_dotI (nar .char c21) (4 : Int32) (Int32.ofNat f) (Int32.ofNat en)))), .unset, .unset] [(.int (own_dotI (nar .char c9) (1 : Int32) (Int32.ofNat f) (Int32.ofNat en)))])) tg
          refine XS.iconst X58.here hx rfl (hb hby at_286) ?_
          show Steps p.tables e below (T58.setTop (mkF m 287 #[.val (.long i0), .second, .val (.int i1), .val (.int i2), .val (.int i3), .val (.ref b2), .val (.ref b24), .val (.int (Int32.ofNat en)), .val (.int x8_33), .val (.int (Int32.ofNat f)), .val (.int x10), .val (.int (own_dotI (nar .char c5) (0 : Int32) (Int32.ofNat f) (Int32.ofNat en))), .val (.int (own_dotI (nar .char c9) (1 : Int32) (Int32.ofNat f) (Int32.ofNat en))), .val (.int (own_dotI (nar .char c13) (2 : Int32) (Int32.ofNat f) (Int32.ofNat en))), .val (.int (own_dotI (nar .char c17) (3 : Int32) (Int32.ofNat f) (Int32.ofNat en))), .val (.int (own_dotI (nar .char c21) (4 : Int32) (Int32.ofNat f) (Int32.ofNat en))), .val (.int (((((own_dotI (nar .char c5) (0 : Int32) (Int32.ofNat f) (Int32.ofNat en)) + (own_dotI (nar .char c9) (1 : Int32) (Int32.ofNat f) (Int32.ofNat en))) + (own_dotI (nar .char c13) (2 : Int32) (Int32.ofNat f) (Int32.ofNat en))) + (own_dotI (nar .char c17) (3 : Int32) (Int32.ofNat f) (Int32.ofNat en))) + (own_dotI (nar .char c21) (4 : Int32) (Int32.ofNat f) (Int32.ofNat en)))), .unset, .unset] [(.int (2 : Int32)), (.int (own_dotI (nar .char c9) (1 : Int32) (Int32.ofNat f) (Int32.ofNat en)))])) tg
          refine XS.iload X58.here hx rfl (hb hby at_287) rfl ?_
          show Steps p.tables e below (T58.setTop (mkF m 289 #[.val (.long i0), .second, .val (.int i1), .val (.int i2), .val (.int i3), .val (.ref b2), .val (.ref b24), .val (.int (Int32.ofNat en)), .val (.int x8_33), .val (.int (Int32.ofNat f)), .val (.int x10), .val (.int (own_dotI (nar .char c5) (0 : Int32) (Int32.ofNat f) (Int32.ofNat en))), .val (.int (own_dotI (nar .char c9) (1 : Int32) (Int32.ofNat f) (Int32.ofNat en))), .val (.int (own_dotI (nar .char c13) (2 : Int32) (Int32.ofNat f) (Int32.ofNat en))), .val (.int (own_dotI (nar .char c17) (3 : Int32) (Int32.ofNat f) (Int32.ofNat en))), .val (.int (own_dotI (nar .char c21) (4 : Int32) (Int32.ofNat f) (Int32.ofNat en))), .val (.int (((((own_dotI (nar .char c5) (0 : Int32) (Int32.ofNat f) (Int32.ofNat en)) + (own_dotI (nar .char c9) (1 : Int32) (Int32.ofNat f) (Int32.ofNat en))) + (own_dotI (nar .char c13) (2 : Int32) (Int32.ofNat f) (Int32.ofNat en))) + (own_dotI (nar .char c17) (3 : Int32) (Int32.ofNat f) (Int32.ofNat en))) + (own_dotI (nar .char c21) (4 : Int32) (Int32.ofNat f) (Int32.ofNat en)))), .unset, .unset] [(.int (own_dotI (nar .char c13) (2 : Int32) (Int32.ofNat f) (Int32.ofNat en))), (.int (2 : Int32)), (.int (own_dotI (nar .char c9) (1 : Int32) (Int32.ofNat f) (Int32.ofNat en)))])) tg
          refine XS.imul X58.here hx rfl (hb hby at_289) rfl ?_
          show Steps p.tables e below (T58.setTop (mkF m 290 #[.val (.long i0), .second, .val (.int i1), .val (.int i2), .val (.int i3), .val (.ref b2), .val (.ref b24), .val (.int (Int32.ofNat en)), .val (.int x8_33), .val (.int (Int32.ofNat f)), .val (.int x10), .val (.int (own_dotI (nar .char c5) (0 : Int32) (Int32.ofNat f) (Int32.ofNat en))), .val (.int (own_dotI (nar .char c9) (1 : Int32) (Int32.ofNat f) (Int32.ofNat en))), .val (.int (own_dotI (nar .char c13) (2 : Int32) (Int32.ofNat f) (Int32.ofNat en))), .val (.int (own_dotI (nar .char c17) (3 : Int32) (Int32.ofNat f) (Int32.ofNat en))), .val (.int (own_dotI (nar .char c21) (4 : Int32) (Int32.ofNat f) (Int32.ofNat en))), .val (.int (((((own_dotI (nar .char c5) (0 : Int32) (Int32.ofNat f) (Int32.ofNat en)) + (own_dotI (nar .char c9) (1 : Int32) (Int32.ofNat f) (Int32.ofNat en))) + (own_dotI (nar .char c13) (2 : Int32) (Int32.ofNat f) (Int32.ofNat en))) + (own_dotI (nar .char c17) (3 : Int32) (Int32.ofNat f) (Int32.ofNat en))) + (own_dotI (nar .char c21) (4 : Int32) (Int32.ofNat f) (Int32.ofNat en)))), .unset, .unset] [(.int ((2 : Int32) * (own_dotI (nar .char c13) (2 : Int32) (Int32.ofNat f) (Int32.ofNat en)))), (.int (own_dotI (nar .char c9) (1 : Int32) (Int32.ofNat f) (Int32.ofNat en)))])) tg
          refine XS.iadd X58.here hx rfl (hb hby at_290) rfl ?_
          show Steps p.tables e below (T58.setTop (mkF m 291 #[.val (.long i0), .second, .val (.int i1), .val (.int i2), .val (.int i3), .val (.ref b2), .val (.ref b24), .val (.int (Int32.ofNat en)), .val (.int x8_33), .val (.int (Int32.ofNat f)), .val (.int x10), .val (.int (own_dotI (nar .char c5) (0 : Int32) (Int32.ofNat f) (Int32.ofNat en))), .val (.int (own_dotI (nar .char c9) (1 : Int32) (Int32.ofNat f) (Int32.ofNat en))), .val (.int (own_dotI (nar .char c13) (2 : Int32) (Int32.ofNat f) (Int32.ofNat en))), .val (.int (own_dotI (nar .char c17) (3 : Int32) (Int32.ofNat f) (Int32.ofNat en))), .val (.int (own_dotI (nar .char c21) (4 : Int32) (Int32.ofNat f) (Int32.ofNat en))), .val (.int (((((own_dotI (nar .char c5) (0 : Int32) (Int32.ofNat f) (Int32.ofNat en)) + (own_dotI (nar .char c9) (1 : Int32) (Int32.ofNat f) (Int32.ofNat en))) + (own_dotI (nar .char c13) (2 : Int32) (Int32.ofNat f) (Int32.ofNat en))) + (own_dotI (nar .char c17) (3 : Int32) (Int32.ofNat f) (Int32.ofNat en))) + (own_dotI (nar .char c21) (4 : Int32) (Int32.ofNat f) (Int32.ofNat en)))), .unset, .unset] [(.int ((own_dotI (nar .char c9) (1 : Int32) (Int32.ofNat f) (Int32.ofNat en)) + ((2 : Int32) * (own_dotI (nar .char c13) (2 : Int32) (Int32.ofNat f) (Int32.ofNat en)))))])) tg
          refine XS.iconst X58.here hx rfl (hb hby at_291) ?_
          show Steps p.tables e below (T58.setTop (mkF m 292 #[.val (.long i0), .second, .val (.int i1), .val (.int i2), .val (.int i3), .val (.ref b2), .val (.ref b24), .val (.int (Int32.ofNat en)), .val (.int x8_33), .val (.int (Int32.ofNat f)), .val (.int x10), .val (.int (own_dotI (nar .char c5) (0 : Int32) (Int32.ofNat f) (Int32.ofNat en))), .val (.int (own_dotI (nar .char c9) (1 : Int32) (Int32.ofNat f) (Int32.ofNat en))), .val (.int (own_dotI (nar .char c13) (2 : Int32) (Int32.ofNat f) (Int32.ofNat en))), .val (.int (own_dotI (nar .char c17) (3 : Int32) (Int32.ofNat f) (Int32.ofNat en))), .val (.int (own_dotI (nar .char c21) (4 : Int32) (Int32.ofNat f) (Int32.ofNat en))), .val (.int (((((own_dotI (nar .char c5) (0 : Int32) (Int32.ofNat f) (Int32.ofNat en)) + (own_dotI (nar .char c9) (1 : Int32) (Int32.ofNat f) (Int32.ofNat en))) + (own_dotI (nar .char c13) (2 : Int32) (Int32.ofNat f) (Int32.ofNat en))) + (own_dotI (nar .char c17) (3 : Int32) (Int32.ofNat f) (Int32.ofNat en))) + (own_dotI (nar .char c21) (4 : Int32) (Int32.ofNat f) (Int32.ofNat en)))), .unset, .unset] [(.int (3 : Int32)), (.int ((own_dotI (nar .char c9) (1 : Int32) (Int32.ofNat f) (Int32.ofNat en)) + ((2 : Int32) * (own_dotI (nar .char c13) (2 : Int32) (Int32.ofNat f) (Int32.ofNat en)))))])) tg
          refine XS.iload X58.here hx rfl (hb hby at_292) rfl ?_
          show Steps p.tables e below (T58.setTop (mkF m 294 #[.val (.long i0), .second, .val (.int i1), .val (.int i2), .val (.int i3), .val (.ref b2), .val (.ref b24), .val (.int (Int32.ofNat en)), .val (.int x8_33), .val (.int (Int32.ofNat f)), .val (.int x10), .val (.int (own_dotI (nar .char c5) (0 : Int32) (Int32.ofNat f) (Int32.ofNat en))), .val (.int (own_dotI (nar .char c9) (1 : Int32) (Int32.ofNat f) (Int32.ofNat en))), .val (.int (own_dotI (nar .char c13) (2 : Int32) (Int32.ofNat f) (Int32.ofNat en))), .val (.int (own_dotI (nar .char c17) (3 : Int32) (Int32.ofNat f) (Int32.ofNat en))), .val (.int (own_dotI (nar .char c21) (4 : Int32) (Int32.ofNat f) (Int32.ofNat en))), .val (.int (((((own_dotI (nar .char c5) (0 : Int32) (Int32.ofNat f) (Int32.ofNat en)) + (own_dotI (nar .char c9) (1 : Int32) (Int32.ofNat f) (Int32.ofNat en))) + (own_dotI (nar .char c13) (2 : Int32) (Int32.ofNat f) (Int32.ofNat en))) + (own_dotI (nar .char c17) (3 : Int32) (Int32.ofNat f) (Int32.ofNat en))) + (own_dotI (nar .char c21) (4 : Int32) (Int32.ofNat f) (Int32.ofNat en)))), .unset, .unset] [(.int (own_dotI (nar .char c17) (3 : Int32) (Int32.ofNat f) (Int32.ofNat en))), (.int (3 : Int32)), (.int ((own_dotI (nar .char c9) (1 : Int32) (Int32.ofNat f) (Int32.ofNat en)) + ((2 : Int32) * (own_dotI (nar .char c13) (2 : Int32) (Int32.ofNat f) (Int32.ofNat en)))))])) tg
          refine XS.imul X58.here hx rfl (hb hby at_294) rfl ?_
          show Steps p.tables e below (T58.setTop (mkF m 295 #[.val (.long i0), .second, .val (.int i1), .val (.int i2), .val (.int i3), .val (.ref b2), .val (.ref b24), .val (.int (Int32.ofNat en)), .val (.int x8_33), .val (.int (Int32.ofNat f)), .val (.int x10), .val (.int (own_dotI (nar .char c5) (0 : Int32) (Int32.ofNat f) (Int32.ofNat en))), .val (.int (own_dotI (nar .char c9) (1 : Int32) (Int32.ofNat f) (Int32.ofNat en))), .val (.int (own_dotI (nar .char c13) (2 : Int32) (Int32.ofNat f) (Int32.ofNat en))), .val (.int (own_dotI (nar .char c17) (3 : Int32) (Int32.ofNat f) (Int32.ofNat en))), .val (.int (own_dotI (nar .char c21) (4 : Int32) (Int32.ofNat f) (Int32.ofNat en))), .val (.int (((((own_dotI (nar .char c5) (0 : Int32) (Int32.ofNat f) (Int32.ofNat en)) + (own_dotI (nar .char c9) (1 : Int32) (Int32.ofNat f) (Int32.ofNat en))) + (own_dotI (nar .char c13) (2 : Int32) (Int32.ofNat f) (Int32.ofNat en))) + (own_dotI (nar .char c17) (3 : Int32) (Int32.ofNat f) (Int32.ofNat en))) + (own_dotI (nar .char c21) (4 : Int32) (Int32.ofNat f) (Int32.ofNat en)))), .unset, .unset] [(.int ((3 : Int32) * (own_dotI (nar .char c17) (3 : Int32) (Int32.ofNat f) (Int32.ofNat en)))), (.int ((own_dotI (nar .char c9) (1 : Int32) (Int32.ofNat f) (Int32.ofNat en)) + ((2 : Int32) * (own_dotI (nar .char c13) (2 : Int32) (Int32.ofNat f) (Int32.ofNat en)))))])) tg
          refine XS.iadd X58.here hx rfl (hb hby at_295) rfl ?_
          show Steps p.tables e below (T58.setTop (mkF m 296 #[.val (.long i0), .second, .val (.int i1), .val (.int i2), .val (.int i3), .val (.ref b2), .val (.ref b24), .val (.int (Int32.ofNat en)), .val (.int x8_33), .val (.int (Int32.ofNat f)), .val (.int x10), .val (.int (own_dotI (nar .char c5) (0 : Int32) (Int32.ofNat f) (Int32.ofNat en))), .val (.int (own_dotI (nar .char c9) (1 : Int32) (Int32.ofNat f) (Int32.ofNat en))), .val (.int (own_dotI (nar .char c13) (2 : Int32) (Int32.ofNat f) (Int32.ofNat en))), .val (.int (own_dotI (nar .char c17) (3 : Int32) (Int32.ofNat f) (Int32.ofNat en))), .val (.int (own_dotI (nar .char c21) (4 : Int32) (Int32.ofNat f) (Int32.ofNat en))), .val (.int (((((own_dotI (nar .char c5) (0 : Int32) (Int32.ofNat f) (Int32.ofNat en)) + (own_dotI (nar .char c9) (1 : Int32) (Int32.ofNat f) (Int32.ofNat en))) + (own_dotI (nar .char c13) (2 : Int32) (Int32.ofNat f) (Int32.ofNat en))) + (own_dotI (nar .char c17) (3 : Int32) (Int32.ofNat f) (Int32.ofNat en))) + (own_dotI (nar .char c21) (4 : Int32) (Int32.ofNat f) (Int32.ofNat en)))), .unset, .unset] [(.int (((own_dotI (nar .char c9) (1 : Int32) (Int32.ofNat f) (Int32.ofNat en)) + ((2 : Int32) * (own_dotI (nar .char c13) (2 : Int32) (Int32.ofNat f) (Int32.ofNat en)))) + ((3 : Int32) * (own_dotI (nar .char c17) (3 : Int32) (Int32.ofNat f) (Int32.ofNat en)))))])) tg
          refine XS.iconst X58.here hx rfl (hb hby at_296) ?_
          show Steps p.tables e below (T58.setTop (mkF m 297 #[.val (.long i0), .second, .val (.int i1), .val (.int i2), .val (.int i3), .val (.ref b2), .val (.ref b24), .val (.int (Int32.ofNat en)), .val (.int x8_33), .val (.int (Int32.ofNat f)), .val (.int x10), .val (.int (own_dotI (nar .char c5) (0 : Int32) (Int32.ofNat f) (Int32.ofNat en))), .val (.int (own_dotI (nar .char c9) (1 : Int32) (Int32.ofNat f) (Int32.ofNat en))), .val (.int (own_dotI (nar .char c13) (2 : Int32) (Int32.ofNat f) (Int32.ofNat en))), .val (.int (own_dotI (nar .char c17) (3 : Int32) (Int32.ofNat f) (Int32.ofNat en))), .val (.int (own_dotI (nar .char c21) (4 : Int32) (Int32.ofNat f) (Int32.ofNat en))), .val (.int (((((own_dotI (nar .char c5) (0 : Int32) (Int32.ofNat f) (Int32.ofNat en)) + (own_dotI (nar .char c9) (1 : Int32) (Int32.ofNat f) (Int32.ofNat en))) + (own_dotI (nar .char c13) (2 : Int32) (Int32.ofNat f) (Int32.ofNat en))) + (own_dotI (nar .char c17) (3 : Int32) (Int32.ofNat f) (Int32.ofNat en))) + (own_dotI (nar .char c21) (4 : Int32) (Int32.ofNat f) (Int32.ofNat en)))), .unset, .unset] [(.int (4 : Int32)), (.int (((own_dotI (nar .char c9) (1 : Int32) (Int32.ofNat f) (Int32.ofNat en)) + ((2 : Int32) * (own_dotI (nar .char c13) (2 : Int32) (Int32.ofNat f) (Int32.ofNat en)))) + ((3 : Int32) * (own_dotI (nar .char c17) (3 : Int32) (Int32.ofNat f) (Int32.ofNat en)))))])) tg
          refine XS.iload X58.here hx rfl (hb hby at_297) rfl ?_
          show Steps p.tables e below (T58.setTop (mkF m 299 #[.val (.long i0), .second, .val (.int i1), .val (.int i2), .val (.int i3), .val (.ref b2), .val (.ref b24), .val (.int (Int32.ofNat en)), .val (.int x8_33), .val (.int (Int32.ofNat f)), .val (.int x10), .val (.int (own_dotI (nar .char c5) (0 : Int32) (Int32.ofNat f) (Int32.ofNat en))), .val (.int (own_dotI (nar .char c9) (1 : Int32) (Int32.ofNat f) (Int32.ofNat en))), .val (.int (own_dotI (nar .char c13) (2 : Int32) (Int32.ofNat f) (Int32.ofNat en))), .val (.int (own_dotI (nar .char c17) (3 : Int32) (Int32.ofNat f) (Int32.ofNat en))), .val (.int (own_dotI (nar .char c21) (4 : Int32) (Int32.ofNat f) (Int32.ofNat en))), .val (.int (((((own_dotI (nar .char c5) (0 : Int32) (Int32.ofNat f) (Int32.ofNat en)) + (own_dotI (nar .char c9) (1 : Int32) (Int32.ofNat f) (Int32.ofNat en))) + (own_dotI (nar .char c13) (2 : Int32) (Int32.ofNat f) (Int32.ofNat en))) + (own_dotI (nar .char c17) (3 : Int32) (Int32.ofNat f) (Int32.ofNat en))) + (own_dotI (nar .char c21) (4 : Int32) (Int32.ofNat f) (Int32.ofNat en)))), .unset, .unset] [(.int (own_dotI (nar .char c21) (4 : Int32) (Int32.ofNat f) (Int32.ofNat en))), (.int (4 : Int32)), (.int (((own_dotI (nar .char c9) (1 : Int32) (Int32.ofNat f) (Int32.ofNat en)) + ((2 : Int32) * (own_dotI (nar .char c13) (2 : Int32) (Int32.ofNat f) (Int32.ofNat en)))) + ((3 : Int32) * (own_dotI (nar .char c17) (3 : Int32) (Int32.ofNat f) (Int32.ofNat en)))))])) tg
          refine XS.imul X58.here hx rfl (hb hby at_299) rfl ?_
          show Steps p.tables e below (T58.setTop (mkF m 300 #[.val (.long i0), .second, .val (.int i1), .val (.int i2), .val (.int i3), .val (.ref b2), .val (.ref b24), .val (.int (Int32.ofNat en)), .val (.int x8_33), .val (.int (Int32.ofNat f)), .val (.int x10), .val (.int (own_dotI (nar .char c5) (0 : Int32) (Int32.ofNat f) (Int32.ofNat en))), .val (.int (own_dotI (nar .char c9) (1 : Int32) (Int32.ofNat f) (Int32.ofNat en))), .val (.int (own_dotI (nar .char c13) (2 : Int32) (Int32.ofNat f) (Int32.ofNat en))), .val (.int (own_dotI (nar .char c17) (3 : Int32) (Int32.ofNat f) (Int32.ofNat en))), .val (.int (own_dotI (nar .char c21) (4 : Int32) (Int32.ofNat f) (Int32.ofNat en))), .val (.int (((((own_dotI (nar .char c5) (0 : Int32) (Int32.ofNat f) (Int32.ofNat en)) + (own_dotI (nar .char c9) (1 : Int32) (Int32.ofNat f) (Int32.ofNat en))) + (own_dotI (nar .char c13) (2 : Int32) (Int32.ofNat f) (Int32.ofNat en))) + (own_dotI (nar .char c17) (3 : Int32) (Int32.ofNat f) (Int32.ofNat en))) + (own_dotI (nar .char c21) (4 : Int32) (Int32.ofNat f) (Int32.ofNat en)))), .unset, .unset] [(.int ((4 : Int32) * (own_dotI (nar .char c21) (4 : Int32) (Int32.ofNat f) (Int32.ofNat en)))), (.int (((own_dotI (nar .char c9) (1 : Int32) (Int32.ofNat f) (Int32.ofNat en)) + ((2 : Int32) * (own_dotI (nar .char c13) (2 : Int32) (Int32.ofNat f) (Int32.ofNat en)))) + ((3 : Int32) * (own_dotI (nar .char c17) (3 : Int32) (Int32.ofNat f) (Int32.ofNat en)))))])) tg
          refine XS.iadd X58.here hx rfl (hb hby at_300) rfl ?_
          show Steps p.tables e below (T58.setTop (mkF m 301 #[.val (.long i0), .second, .val (.int i1), .val (.int i2), .val (.int i3), .val (.ref b2), .val (.ref b24), .val (.int (Int32.ofNat en)), .val (.int x8_33), .val (.int (Int32.ofNat f)), .val (.int x10), .val (.int (own_dotI (nar .char c5) (0 : Int32) (Int32.ofNat f) (Int32.ofNat en))), .val (.int (own_dotI (nar .char c9) (1 : Int32) (Int32.ofNat f) (Int32.ofNat en))), .val (.int (own_dotI (nar .char c13) (2 : Int32) (Int32.ofNat f) (Int32.ofNat en))), .val (.int (own_dotI (nar .char c17) (3 : Int32) (Int32.ofNat f) (Int32.ofNat en))), .val (.int (own_dotI (nar .char c21) (4 : Int32) (Int32.ofNat f) (Int32.ofNat en))), .val (.int (((((own_dotI (nar .char c5) (0 : Int32) (Int32.ofNat f) (Int32.ofNat en)) + (own_dotI (nar .char c9) (1 : Int32) (Int32.ofNat f) (Int32.ofNat en))) + (own_dotI (nar .char c13) (2 : Int32) (Int32.ofNat f) (Int32.ofNat en))) + (own_dotI (nar .char c17) (3 : Int32) (Int32.ofNat f) (Int32.ofNat en))) + (own_dotI (nar .char c21) (4 : Int32) (Int32.ofNat f) (Int32.ofNat en)))), .unset, .unset] [(.int ((((own_dotI (nar .char c9) (1 : Int32) (Int32.ofNat f) (Int32.ofNat en)) + ((2 : Int32) * (own_dotI (nar .char c13) (2 : Int32) (Int32.ofNat f) (Int32.ofNat en)))) + ((3 : Int32) * (own_dotI (nar .char c17) (3 : Int32) (Int32.ofNat f) (Int32.ofNat en)))) + ((4 : Int32) * (own_dotI (nar .char c21) (4 : Int32) (Int32.ofNat f) (Int32.ofNat en)))))])) tg
          refine XS.istore X58.here hx rfl (hb hby at_301) rfl (l' := #[.val (.long i0), .second, .val (.int i1), .val (.int i2), .val (.int i3), .val (.ref b2), .val (.ref b24), .val (.int (Int32.ofNat en)), .val (.int x8_33), .val (.int (Int32.ofNat f)), .val (.int x10), .val (.int (own_dotI (nar .char c5) (0 : Int32) (Int32.ofNat f) (Int32.ofNat en))), .val (.int (own_dotI (nar .char c9) (1 : Int32) (Int32.ofNat f) (Int32.ofNat en))), .val (.int (own_dotI (nar .char c13) (2 : Int32) (Int32.ofNat f) (Int32.ofNat en))), .val (.int (own_dotI (nar .char c17) (3 : Int32) (Int32.ofNat f) (Int32.ofNat en))), .val (.int (own_dotI (nar .char c21) (4 : Int32) (Int32.ofNat f) (Int32.ofNat en))), .val (.int (((((own_dotI (nar .char c5) (0 : Int32) (Int32.ofNat f) (Int32.ofNat en)) + (own_dotI (nar .char c9) (1 : Int32) (Int32.ofNat f) (Int32.ofNat en))) + (own_dotI (nar .char c13) (2 : Int32) (Int32.ofNat f) (Int32.ofNat en))) + (own_dotI (nar .char c17) (3 : Int32) (Int32.ofNat f) (Int32.ofNat en))) + (own_dotI (nar .char c21) (4 : Int32) (Int32.ofNat f) (Int32.ofNat en)))), .val (.int ((((own_dotI (nar .char c9) (1 : Int32) (Int32.ofNat f) (Int32.ofNat en)) + ((2 : Int32) * (own_dotI (nar .char c13) (2 : Int32) (Int32.ofNat f) (Int32.ofNat en)))) + ((3 : Int32) * (own_dotI (nar .char c17) (3 : Int32) (Int32.ofNat f) (Int32.ofNat en)))) + ((4 : Int32) * (own_dotI (nar .char c21) (4 : Int32) (Int32.ofNat f) (Int32.ofNat en))))), .unset]) rfl ?_
          show Steps p.tables e below (T58.setTop (mkF m 303 #[.val (.long i0), .second, .val (.int i1), .val (.int i2), .val (.int i3), .val (.ref b2), .val (.ref b24), .val (.int (Int32.ofNat en)), .val (.int x8_33), .val (.int (Int32.ofNat f)), .val (.int x10), .val (.int (own_dotI (nar .char c5) (0 : Int32) (Int32.ofNat f) (Int32.ofNat en))), .val (.int (own_dotI (nar .char c9) (1 : Int32) (Int32.ofNat f) (Int32.ofNat en))), .val (.int (own_dotI (nar .char c13) (2 : Int32) (Int32.ofNat f) (Int32.ofNat en))), .val (.int (own_dotI (nar .char c17) (3 : Int32) (Int32.ofNat f) (Int32.ofNat en))), .val (.int (own_dotI (nar .char c21) (4 : Int32) (Int32.ofNat f) (Int32.ofNat en))), .val (.int (((((own_dotI (nar .char c5) (0 : Int32) (Int32.ofNat f) (Int32.ofNat en)) + (own_dotI (nar .char c9) (1 : Int32) (Int32.ofNat f) (Int32.ofNat en))) + (own_dotI (nar .char c13) (2 : Int32) (Int32.ofNat f) (Int32.ofNat en))) + (own_dotI (nar .char c17) (3 : Int32) (Int32.ofNat f) (Int32.ofNat en))) + (own_dotI (nar .char c21) (4 : Int32) (Int32.ofNat f) (Int32.ofNat en)))), .val (.int ((((own_dotI (nar .char c9) (1 : Int32) (Int32.ofNat f) (Int32.ofNat en)) + ((2 : Int32) * (own_dotI (nar .char c13) (2 : Int32) (Int32.ofNat f) (Int32.ofNat en)))) + ((3 : Int32) * (own_dotI (nar .char c17) (3 : Int32) (Int32.ofNat f) (Int32.ofNat en)))) + ((4 : Int32) * (own_dotI (nar .char c21) (4 : Int32) (Int32.ofNat f) (Int32.ofNat en))))), .unset] [])) tg
          exact kg
        refine gs c59 ?_
        have mid60 : ∀ (x18 : Int32) (Tj60 : State) (lj60 : List Loc), ((x18 = 1 ∧ own_E x10 i3 (Int32.ofNat en) (Int32.ofNat f) (((((own_dotI (nar .char c5) (0 : Int32) (Int32.ofNat f) (Int32.ofNat en)) + (own_dotI (nar .char c9) (1 : Int32) (Int32.ofNat f) (Int32.ofNat en))) + (own_dotI (nar .char c13) (2 : Int32) (Int32.ofNat f) (Int32.ofNat en))) + (own_dotI (nar .char c17) (3 : Int32) (Int32.ofNat f) (Int32.ofNat en))) + (own_dotI (nar .char c21) (4 : Int32) (Int32.ofNat f) (Int32.ofNat en))) ((((own_dotI (nar .char c9) (1 : Int32) (Int32.ofNat f) (Int32.ofNat en)) + ((2 : Int32) * (own_dotI (nar .char c13) (2 : Int32) (Int32.ofNat f) (Int32.ofNat en)))) + ((3 : Int32) * (own_dotI (nar .char c17) (3 : Int32) (Int32.ofNat f) (Int32.ofNat en)))) + ((4 : Int32) * (own_dotI (nar .char c21) (4 : Int32) (Int32.ofNat f) (Int32.ofNat en))))) ∨ (x18 = 0 ∧ ¬ own_E x10 i3 (Int32.ofNat en) (Int32.ofNat f) (((((own_dotI (nar .char c5) (0 : Int32) (Int32.ofNat f) (Int32.ofNat en)) + (own_dotI (nar .char c9) (1 : Int32) (Int32.ofNat f) (Int32.ofNat en))) + (own_dotI (nar .char c13) (2 : Int32) (Int32.ofNat f) (Int32.ofNat en))) + (own_dotI (nar .char c17) (3 : Int32) (Int32.ofNat f) (Int32.ofNat en))) + (own_dotI (nar .char c21) (4 : Int32) (Int32.ofNat f) (Int32.ofNat en))) ((((own_dotI (nar .char c9) (1 : Int32) (Int32.ofNat f) (Int32.ofNat en)) + ((2 : Int32) * (own_dotI (nar .char c13) (2 : Int32) (Int32.ofNat f) (Int32.ofNat en)))) + ((3 : Int32) * (own_dotI (nar .char c17) (3 : Int32) (Int32.ofNat f) (Int32.ofNat en)))) + ((4 : Int32) * (own_dotI (nar .char c21) (4 : Int32) (Int32.ofNat f) (Int32.ofNat en)))))) → Stand p l e room_1 s m #[(.long i0), (.int i1), (.int i2), (.int i3)] below meth c Tj60 lj60 3 14 → Tj60.heap = T29.heap → Fr n0 lj60 → OwnGo p e below s (fun v h L => v = some (.int 1) ∧ Fr n0 L) room_1.cells room_1.slots (Tj60.setTop (mkF m 361 #[.val (.long i0), .second, .val (.int i1), .val (.int i2), .val (.int i3), .val (.ref b2), .val (.ref b24), .val (.int (Int32.ofNat en)), .val (.int x8_33), .val (.int (Int32.ofNat f)), .val (.int x10), .val (.int (own_dotI (nar .char c5) (0 : Int32) (Int32.ofNat f) (Int32.ofNat en))), .val (.int (own_dotI (nar .char c9) (1 : Int32) (Int32.ofNat f) (Int32.ofNat en))), .val (.int (own_dotI (nar .char c13) (2 : Int32) (Int32.ofNat f) (Int32.ofNat en))), .val (.int (own_dotI (nar .char c17) (3 : Int32) (Int32.ofNat f) (Int32.ofNat en))), .val (.int (own_dotI (nar .char c21) (4 : Int32) (Int32.ofNat f) (Int32.ofNat en))), .val (.int (((((own_dotI (nar .char c5) (0 : Int32) (Int32.ofNat f) (Int32.ofNat en)) + (own_dotI (nar .char c9) (1 : Int32) (Int32.ofNat f) (Int32.ofNat en))) + (own_dotI (nar .char c13) (2 : Int32) (Int32.ofNat f) (Int32.ofNat en))) + (own_dotI (nar .char c17) (3 : Int32) (Int32.ofNat f) (Int32.ofNat en))) + (own_dotI (nar .char c21) (4 : Int32) (Int32.ofNat f) (Int32.ofNat en)))), .val (.int ((((own_dotI (nar .char c9) (1 : Int32) (Int32.ofNat f) (Int32.ofNat en)) + ((2 : Int32) * (own_dotI (nar .char c13) (2 : Int32) (Int32.ofNat f) (Int32.ofNat en)))) + ((3 : Int32) * (own_dotI (nar .char c17) (3 : Int32) (Int32.ofNat f) (Int32.ofNat en)))) + ((4 : Int32) * (own_dotI (nar .char c21) (4 : Int32) (Int32.ofNat f) (Int32.ofNat en))))), .unset] [(.int x18)])) := by
          intro x18 Tj60 lj60 hx18 Xj60 ej60 Nj60
          have c61 : ∀ tg, Steps p.tables e below (Tj60.setTop (mkF m 371 #[.val (.long i0), .second, .val (.int i1), .val (.int i2), .val (.int i3), .val (.ref b2), .val (.ref b24), .val (.int (Int32.ofNat en)), .val (.int x8_33), .val (.int (Int32.ofNat f)), .val (.int x10), .val (.int (own_dotI (nar .char c5) (0 : Int32) (Int32.ofNat f) (Int32.ofNat en))), .val (.int (own_dotI (nar .char c9) (1 : Int32) (Int32.ofNat f) (Int32.ofNat en))), .val (.int (own_dotI (nar .char c13) (2 : Int32) (Int32.ofNat f) (Int32.ofNat en))), .val (.int (own_dotI (nar .char c17) (3 : Int32) (Int32.ofNat f) (Int32.ofNat en))), .val (.int (own_dotI (nar .char c21) (4 : Int32) (Int32.ofNat f) (Int32.ofNat en))), .val (.int (((((own_dotI (nar .char c5) (0 : Int32) (Int32.ofNat f) (Int32.ofNat en)) + (own_dotI (nar .char c9) (1 : Int32) (Int32.ofNat f) (Int32.ofNat en))) + (own_dotI (nar .char c13) (2 : Int32) (Int32.ofNat f) (Int32.ofNat en))) + (own_dotI (nar .char c17) (3 : Int32) (Int32.ofNat f) (Int32.ofNat en))) + (own_dotI (nar .char c21) (4 : Int32) (Int32.ofNat f) (Int32.ofNat en)))), .val (.int ((((own_dotI (nar .char c9) (1 : Int32) (Int32.ofNat f) (Int32.ofNat en)) + ((2 : Int32) * (own_dotI (nar .char c13) (2 : Int32) (Int32.ofNat f) (Int32.ofNat en)))) + ((3 : Int32) * (own_dotI (nar .char c17) (3 : Int32) (Int32.ofNat f) (Int32.ofNat en)))) + ((4 : Int32) * (own_dotI (nar .char c21) (4 : Int32) (Int32.ofNat f) (Int32.ofNat en))))), .val (.int x18)] [(.int i3), (.int x8_33), (.int (Int32.ofNat en)), (.ref b24)])) tg → Steps p.tables e below (Tj60.setTop (mkF m 361 #[.val (.long i0), .second, .val (.int i1), .val (.int i2), .val (.int i3), .val (.ref b2), .val (.ref b24), .val (.int (Int32.ofNat en)), .val (.int x8_33), .val (.int (Int32.ofNat f)), .val (.int x10), .val (.int (own_dotI (nar .char c5) (0 : Int32) (Int32.ofNat f) (Int32.ofNat en))), .val (.int (own_dotI (nar .char c9) (1 : Int32) (Int32.ofNat f) (Int32.ofNat en))), .val (.int (own_dotI (nar .char c13) (2 : Int32) (Int32.ofNat f) (Int32.ofNat en))), .val (.int (own_dotI (nar .char c17) (3 : Int32) (Int32.ofNat f) (Int32.ofNat en))), .val (.int (own_dotI (nar .char c21) (4 : Int32) (Int32.ofNat f) (Int32.ofNat en))), .val (.int (((((own_dotI (nar .char c5) (0 : Int32) (Int32.ofNat f) (Int32.ofNat en)) + (own_dotI (nar .char c9) (1 : Int32) (Int32.ofNat f) (Int32.ofNat en))) + (own_dotI (nar .char c13) (2 : Int32) (Int32.ofNat f) (Int32.ofNat en))) + (own_dotI (nar .char c17) (3 : Int32) (Int32.ofNat f) (Int32.ofNat en))) + (own_dotI (nar .char c21) (4 : Int32) (Int32.ofNat f) (Int32.ofNat en)))), .val (.int ((((own_dotI (nar .char c9) (1 : Int32) (Int32.ofNat f) (Int32.ofNat en)) + ((2 : Int32) * (own_dotI (nar .char c13) (2 : Int32) (Int32.ofNat f) (Int32.ofNat en)))) + ((3 : Int32) * (own_dotI (nar .char c17) (3 : Int32) (Int32.ofNat f) (Int32.ofNat en)))) + ((4 : Int32) * (own_dotI (nar .char c21) (4 : Int32) (Int32.ofNat f) (Int32.ofNat en))))), .unset] [(.int x18)])) tg := fun tg kg => by
            refine XS.istore Xj60.here hx rfl (hb hby at_361) rfl (l' := #[.val (.long i0), .second, .val (.int i1), .val (.int i2), .val (.int i3), .val (.ref b2), .val (.ref b24), .val (.int (Int32.ofNat en)), .val (.int x8_33), .val (.int (Int32.ofNat f)), .val (.int x10), .val (.int (own_dotI (nar .char c5) (0 : Int32) (Int32.ofNat f) (Int32.ofNat en))), .val (.int (own_dotI (nar .char c9) (1 : Int32) (Int32.ofNat f) (Int32.ofNat en))), .val (.int (own_dotI (nar .char c13) (2 : Int32) (Int32.ofNat f) (Int32.ofNat en))), .val (.int (own_dotI (nar .char c17) (3 : Int32) (Int32.ofNat f) (Int32.ofNat en))), .val (.int (own_dotI (nar .char c21) (4 : Int32) (Int32.ofNat f) (Int32.ofNat en))), .val (.int (((((own_dotI (nar .char c5) (0 : Int32) (Int32.ofNat f) (Int32.ofNat en)) + (own_dotI (nar .char c9) (1 : Int32) (Int32.ofNat f) (Int32.ofNat en))) + (own_dotI (nar .char c13) (2 : Int32) (Int32.ofNat f) (Int32.ofNat en))) + (own_dotI (nar .char c17) (3 : Int32) (Int32.ofNat f) (Int32.ofNat en))) + (own_dotI (nar .char c21) (4 : Int32) (Int32.ofNat f) (Int32.ofNat en)))), .val (.int ((((own_dotI (nar .char c9) (1 : Int32) (Int32.ofNat f) (Int32.ofNat en)) + ((2 : Int32) * (own_dotI (nar .char c13) (2 : Int32) (Int32.ofNat f) (Int32.ofNat en)))) + ((3 : Int32) * (own_dotI (nar .char c17) (3 : Int32) (Int32.ofNat f) (Int32.ofNat en)))) + ((4 : Int32) * (own_dotI (nar .char c21) (4 : Int32) (Int32.ofNat f) (Int32.ofNat en))))), .val (.int x18)]) rfl ?_
            show Steps p.tables e below (Tj60.setTop (mkF m 363 #[.val (.long i0), .second, .val (.int i1), .val (.int i2), .val (.int i3), .val (.ref b2), .val (.ref b24), .val (.int (Int32.ofNat en)), .val (.int x8_33), .val (.int (Int32.ofNat f)), .val (.int x10), .val (.int (own_dotI (nar .char c5) (0 : Int32) (Int32.ofNat f) (Int32.ofNat en))), .val (.int (own_dotI (nar .char c9) (1 : Int32) (Int32.ofNat f) (Int32.ofNat en))), .val (.int (own_dotI (nar .char c13) (2 : Int32) (Int32.ofNat f) (Int32.ofNat en))), .val (.int (own_dotI (nar .char c17) (3 : Int32) (Int32.ofNat f) (Int32.ofNat en))), .val (.int (own_dotI (nar .char c21) (4 : Int32) (Int32.ofNat f) (Int32.ofNat en))), .val (.int (((((own_dotI (nar .char c5) (0 : Int32) (Int32.ofNat f) (Int32.ofNat en)) + (own_dotI (nar .char c9) (1 : Int32) (Int32.ofNat f) (Int32.ofNat en))) + (own_dotI (nar .char c13) (2 : Int32) (Int32.ofNat f) (Int32.ofNat en))) + (own_dotI (nar .char c17) (3 : Int32) (Int32.ofNat f) (Int32.ofNat en))) + (own_dotI (nar .char c21) (4 : Int32) (Int32.ofNat f) (Int32.ofNat en)))), .val (.int ((((own_dotI (nar .char c9) (1 : Int32) (Int32.ofNat f) (Int32.ofNat en)) + ((2 : Int32) * (own_dotI (nar .char c13) (2 : Int32) (Int32.ofNat f) (Int32.ofNat en)))) + ((3 : Int32) * (own_dotI (nar .char c17) (3 : Int32) (Int32.ofNat f) (Int32.ofNat en)))) + ((4 : Int32) * (own_dotI (nar .char c21) (4 : Int32) (Int32.ofNat f) (Int32.ofNat en))))), .val (.int x18)] [])) tg
            refine XS.aload Xj60.here hx rfl (hb hby at_363) rfl rfl ?_
            show Steps p.tables e below (Tj60.setTop (mkF m 365 #[.val (.long i0), .second, .val (.int i1), .val (.int i2), .val (.int i3), .val (.ref b2), .val (.ref b24), .val (.int (Int32.ofNat en)), .val (.int x8_33), .val (.int (Int32.ofNat f)), .val (.int x10), .val (.int (own_dotI (nar .char c5) (0 : Int32) (Int32.ofNat f) (Int32.ofNat en))), .val (.int (own_dotI (nar .char c9) (1 : Int32) (Int32.ofNat f) (Int32.ofNat en))), .val (.int (own_dotI (nar .char c13) (2 : Int32) (Int32.ofNat f) (Int32.ofNat en))), .val (.int (own_dotI (nar .char c17) (3 : Int32) (Int32.ofNat f) (Int32.ofNat en))), .val (.int (own_dotI (nar .char c21) (4 : Int32) (Int32.ofNat f) (Int32.ofNat en))), .val (.int (((((own_dotI (nar .char c5) (0 : Int32) (Int32.ofNat f) (Int32.ofNat en)) + (own_dotI (nar .char c9) (1 : Int32) (Int32.ofNat f) (Int32.ofNat en))) + (own_dotI (nar .char c13) (2 : Int32) (Int32.ofNat f) (Int32.ofNat en))) + (own_dotI (nar .char c17) (3 : Int32) (Int32.ofNat f) (Int32.ofNat en))) + (own_dotI (nar .char c21) (4 : Int32) (Int32.ofNat f) (Int32.ofNat en)))), .val (.int ((((own_dotI (nar .char c9) (1 : Int32) (Int32.ofNat f) (Int32.ofNat en)) + ((2 : Int32) * (own_dotI (nar .char c13) (2 : Int32) (Int32.ofNat f) (Int32.ofNat en)))) + ((3 : Int32) * (own_dotI (nar .char c17) (3 : Int32) (Int32.ofNat f) (Int32.ofNat en)))) + ((4 : Int32) * (own_dotI (nar .char c21) (4 : Int32) (Int32.ofNat f) (Int32.ofNat en))))), .val (.int x18)] [(.ref b24)])) tg
            refine XS.iload Xj60.here hx rfl (hb hby at_365) rfl ?_
            show Steps p.tables e below (Tj60.setTop (mkF m 367 #[.val (.long i0), .second, .val (.int i1), .val (.int i2), .val (.int i3), .val (.ref b2), .val (.ref b24), .val (.int (Int32.ofNat en)), .val (.int x8_33), .val (.int (Int32.ofNat f)), .val (.int x10), .val (.int (own_dotI (nar .char c5) (0 : Int32) (Int32.ofNat f) (Int32.ofNat en))), .val (.int (own_dotI (nar .char c9) (1 : Int32) (Int32.ofNat f) (Int32.ofNat en))), .val (.int (own_dotI (nar .char c13) (2 : Int32) (Int32.ofNat f) (Int32.ofNat en))), .val (.int (own_dotI (nar .char c17) (3 : Int32) (Int32.ofNat f) (Int32.ofNat en))), .val (.int (own_dotI (nar .char c21) (4 : Int32) (Int32.ofNat f) (Int32.ofNat en))), .val (.int (((((own_dotI (nar .char c5) (0 : Int32) (Int32.ofNat f) (Int32.ofNat en)) + (own_dotI (nar .char c9) (1 : Int32) (Int32.ofNat f) (Int32.ofNat en))) + (own_dotI (nar .char c13) (2 : Int32) (Int32.ofNat f) (Int32.ofNat en))) + (own_dotI (nar .char c17) (3 : Int32) (Int32.ofNat f) (Int32.ofNat en))) + (own_dotI (nar .char c21) (4 : Int32) (Int32.ofNat f) (Int32.ofNat en)))), .val (.int ((((own_dotI (nar .char c9) (1 : Int32) (Int32.ofNat f) (Int32.ofNat en)) + ((2 : Int32) * (own_dotI (nar .char c13) (2 : Int32) (Int32.ofNat f) (Int32.ofNat en)))) + ((3 : Int32) * (own_dotI (nar .char c17) (3 : Int32) (Int32.ofNat f) (Int32.ofNat en)))) + ((4 : Int32) * (own_dotI (nar .char c21) (4 : Int32) (Int32.ofNat f) (Int32.ofNat en))))), .val (.int x18)] [(.int (Int32.ofNat en)), (.ref b24)])) tg
            refine XS.iload Xj60.here hx rfl (hb hby at_367) rfl ?_
            show Steps p.tables e below (Tj60.setTop (mkF m 369 #[.val (.long i0), .second, .val (.int i1), .val (.int i2), .val (.int i3), .val (.ref b2), .val (.ref b24), .val (.int (Int32.ofNat en)), .val (.int x8_33), .val (.int (Int32.ofNat f)), .val (.int x10), .val (.int (own_dotI (nar .char c5) (0 : Int32) (Int32.ofNat f) (Int32.ofNat en))), .val (.int (own_dotI (nar .char c9) (1 : Int32) (Int32.ofNat f) (Int32.ofNat en))), .val (.int (own_dotI (nar .char c13) (2 : Int32) (Int32.ofNat f) (Int32.ofNat en))), .val (.int (own_dotI (nar .char c17) (3 : Int32) (Int32.ofNat f) (Int32.ofNat en))), .val (.int (own_dotI (nar .char c21) (4 : Int32) (Int32.ofNat f) (Int32.ofNat en))), .val (.int (((((own_dotI (nar .char c5) (0 : Int32) (Int32.ofNat f) (Int32.ofNat en)) + (own_dotI (nar .char c9) (1 : Int32) (Int32.ofNat f) (Int32.ofNat en))) + (own_dotI (nar .char c13) (2 : Int32) (Int32.ofNat f) (Int32.ofNat en))) + (own_dotI (nar .char c17) (3 : Int32) (Int32.ofNat f) (Int32.ofNat en))) + (own_dotI (nar .char c21) (4 : Int32) (Int32.ofNat f) (Int32.ofNat en)))), .val (.int ((((own_dotI (nar .char c9) (1 : Int32) (Int32.ofNat f) (Int32.ofNat en)) + ((2 : Int32) * (own_dotI (nar .char c13) (2 : Int32) (Int32.ofNat f) (Int32.ofNat en)))) + ((3 : Int32) * (own_dotI (nar .char c17) (3 : Int32) (Int32.ofNat f) (Int32.ofNat en)))) + ((4 : Int32) * (own_dotI (nar .char c21) (4 : Int32) (Int32.ofNat f) (Int32.ofNat en))))), .val (.int x18)] [(.int x8_33), (.int (Int32.ofNat en)), (.ref b24)])) tg
            refine XS.iload Xj60.here hx rfl (hb hby at_369) rfl ?_
            show Steps p.tables e below (Tj60.setTop (mkF m 371 #[.val (.long i0), .second, .val (.int i1), .val (.int i2), .val (.int i3), .val (.ref b2), .val (.ref b24), .val (.int (Int32.ofNat en)), .val (.int x8_33), .val (.int (Int32.ofNat f)), .val (.int x10), .val (.int (own_dotI (nar .char c5) (0 : Int32) (Int32.ofNat f) (Int32.ofNat en))), .val (.int (own_dotI (nar .char c9) (1 : Int32) (Int32.ofNat f) (Int32.ofNat en))), .val (.int (own_dotI (nar .char c13) (2 : Int32) (Int32.ofNat f) (Int32.ofNat en))), .val (.int (own_dotI (nar .char c17) (3 : Int32) (Int32.ofNat f) (Int32.ofNat en))), .val (.int (own_dotI (nar .char c21) (4 : Int32) (Int32.ofNat f) (Int32.ofNat en))), .val (.int (((((own_dotI (nar .char c5) (0 : Int32) (Int32.ofNat f) (Int32.ofNat en)) + (own_dotI (nar .char c9) (1 : Int32) (Int32.ofNat f) (Int32.ofNat en))) + (own_dotI (nar .char c13) (2 : Int32) (Int32.ofNat f) (Int32.ofNat en))) + (own_dotI (nar .char c17) (3 : Int32) (Int32.ofNat f) (Int32.ofNat en))) + (own_dotI (nar .char c21) (4 : Int32) (Int32.ofNat f) (Int32.ofNat en)))), .val (.int ((((own_dotI (nar .char c9) (1 : Int32) (Int32.ofNat f) (Int32.ofNat en)) + ((2 : Int32) * (own_dotI (nar .char c13) (2 : Int32) (Int32.ofNat f) (Int32.ofNat en)))) + ((3 : Int32) * (own_dotI (nar .char c17) (3 : Int32) (Int32.ofNat f) (Int32.ofNat en)))) + ((4 : Int32) * (own_dotI (nar .char c21) (4 : Int32) (Int32.ofNat f) (Int32.ofNat en))))), .val (.int x18)] [(.int i3), (.int x8_33), (.int (Int32.ofNat en)), (.ref b24)])) tg
            exact kg
          refine gs c61 ?_
          obtain ⟨pt, hpt⟩ : ∃ r, r = own_de ([(nar .char c5), (nar .char c9), (nar .char c13), (nar .char c17), (nar .char c21)] : List Int32) (en - f) f := ⟨_, rfl⟩
          obtain ⟨ql, hql⟩ : ∃ r, r = own_de ([(nar .char c5), (nar .char c9), (nar .char c13), (nar .char c17), (nar .char c21)] : List Int32) (en - (pt + 1)) (pt + 1) := ⟨_, rfl⟩
          obtain ⟨_, _, ⟨T62, L62, k62, n62⟩, -, X62, ⟨Lc62, hQ62, l62, y62, z62⟩, st62⟩ := Jvm.LawKit.callS Xj60 hx (y := (⟨"com/example/tranche/tranche/Decimals", "isWritten", "(Ljava/lang/String;IZI)Z"⟩ : MethodName)) hown (mvT hZ (hw _ (List.mem_of_getElem? (i := 45) rfl))) (mvT hZ (hw _ (List.mem_of_getElem? (i := 46) rfl))) (mvT hZ (hw _ (List.mem_of_getElem? (i := 47) rfl))) (mvT hZ (hw _ (List.mem_of_getElem? (i := 48) rfl))) (by decide) (backC (W := 0) (rm_iw l Z a0 hw [] b24 ([(nar .char c5), (nar .char c9), (nar .char c13), (nar .char c17), (nar .char c21)] : List Int32) z fm en x8_33 i3 f pt ql T29.heap n0 Z30 O30 S0 hz S4 hfm T31 hp27 rfl hen hf hpt hql) hZ (hw _ (List.mem_of_getElem? (i := 48) rfl)) (hw _ (List.mem_of_getElem? (i := 47) rfl)) (by decide) (by decide)) (g := (mkF m 371 #[.val (.long i0), .second, .val (.int i1), .val (.int i2), .val (.int i3), .val (.ref b2), .val (.ref b24), .val (.int (Int32.ofNat en)), .val (.int x8_33), .val (.int (Int32.ofNat f)), .val (.int x10), .val (.int (own_dotI (nar .char c5) (0 : Int32) (Int32.ofNat f) (Int32.ofNat en))), .val (.int (own_dotI (nar .char c9) (1 : Int32) (Int32.ofNat f) (Int32.ofNat en))), .val (.int (own_dotI (nar .char c13) (2 : Int32) (Int32.ofNat f) (Int32.ofNat en))), .val (.int (own_dotI (nar .char c17) (3 : Int32) (Int32.ofNat f) (Int32.ofNat en))), .val (.int (own_dotI (nar .char c21) (4 : Int32) (Int32.ofNat f) (Int32.ofNat en))), .val (.int (((((own_dotI (nar .char c5) (0 : Int32) (Int32.ofNat f) (Int32.ofNat en)) + (own_dotI (nar .char c9) (1 : Int32) (Int32.ofNat f) (Int32.ofNat en))) + (own_dotI (nar .char c13) (2 : Int32) (Int32.ofNat f) (Int32.ofNat en))) + (own_dotI (nar .char c17) (3 : Int32) (Int32.ofNat f) (Int32.ofNat en))) + (own_dotI (nar .char c21) (4 : Int32) (Int32.ofNat f) (Int32.ofNat en)))), .val (.int ((((own_dotI (nar .char c9) (1 : Int32) (Int32.ofNat f) (Int32.ofNat en)) + ((2 : Int32) * (own_dotI (nar .char c13) (2 : Int32) (Int32.ofNat f) (Int32.ofNat en)))) + ((3 : Int32) * (own_dotI (nar .char c17) (3 : Int32) (Int32.ofNat f) (Int32.ofNat en)))) + ((4 : Int32) * (own_dotI (nar .char c21) (4 : Int32) (Int32.ofNat f) (Int32.ofNat en))))), .val (.int x18)] [(.int i3), (.int x8_33), (.int (Int32.ofNat en)), (.ref b24)])) rfl (by rw [hml]; rfl) (argsL := [(.ref b24), (.int (Int32.ofNat en)), (.int x8_33), (.int i3)]) (rest := []) (lenOf pd_194 rfl) rfl (by show 2 * 0 + _ ≤ _; exact Nat.le_of_eq rfl) (hb hby at_371) (fun _ _ => ⟨rfl, ej60, (by decide : 3 + 0 ≤ _), (by decide : 14 + 0 ≤ _)⟩)
          dsimp only [Pt.U, Pt.locs, Pt.cells, Pt.slots] at X62 l62 y62 z62 st62 hQ62
          subst l62 y62 z62
          obtain ⟨r62, rfl, N62q, e62q, w62q⟩ := hQ62
          have N62 := Fr.app Nj60 N62q
          refine gs st62 ?_
          show OwnGo p e below s _ _ _ (T62.setTop (mkF m 374 #[.val (.long i0), .second, .val (.int i1), .val (.int i2), .val (.int i3), .val (.ref b2), .val (.ref b24), .val (.int (Int32.ofNat en)), .val (.int x8_33), .val (.int (Int32.ofNat f)), .val (.int x10), .val (.int (own_dotI (nar .char c5) (0 : Int32) (Int32.ofNat f) (Int32.ofNat en))), .val (.int (own_dotI (nar .char c9) (1 : Int32) (Int32.ofNat f) (Int32.ofNat en))), .val (.int (own_dotI (nar .char c13) (2 : Int32) (Int32.ofNat f) (Int32.ofNat en))), .val (.int (own_dotI (nar .char c17) (3 : Int32) (Int32.ofNat f) (Int32.ofNat en))), .val (.int (own_dotI (nar .char c21) (4 : Int32) (Int32.ofNat f) (Int32.ofNat en))), .val (.int (((((own_dotI (nar .char c5) (0 : Int32) (Int32.ofNat f) (Int32.ofNat en)) + (own_dotI (nar .char c9) (1 : Int32) (Int32.ofNat f) (Int32.ofNat en))) + (own_dotI (nar .char c13) (2 : Int32) (Int32.ofNat f) (Int32.ofNat en))) + (own_dotI (nar .char c17) (3 : Int32) (Int32.ofNat f) (Int32.ofNat en))) + (own_dotI (nar .char c21) (4 : Int32) (Int32.ofNat f) (Int32.ofNat en)))), .val (.int ((((own_dotI (nar .char c9) (1 : Int32) (Int32.ofNat f) (Int32.ofNat en)) + ((2 : Int32) * (own_dotI (nar .char c13) (2 : Int32) (Int32.ofNat f) (Int32.ofNat en)))) + ((3 : Int32) * (own_dotI (nar .char c17) (3 : Int32) (Int32.ofNat f) (Int32.ofNat en)))) + ((4 : Int32) * (own_dotI (nar .char c21) (4 : Int32) (Int32.ofNat f) (Int32.ofNat en))))), .val (.int x18)] [(.int r62)]))
          have c63 : ∀ tg, Steps p.tables e below (T62.setTop (mkF m 384 #[.val (.long i0), .second, .val (.int i1), .val (.int i2), .val (.int i3), .val (.ref b2), .val (.ref b24), .val (.int (Int32.ofNat en)), .val (.int x8_33), .val (.int (Int32.ofNat f)), .val (.int x10), .val (.int (own_dotI (nar .char c5) (0 : Int32) (Int32.ofNat f) (Int32.ofNat en))), .val (.int (own_dotI (nar .char c9) (1 : Int32) (Int32.ofNat f) (Int32.ofNat en))), .val (.int (own_dotI (nar .char c13) (2 : Int32) (Int32.ofNat f) (Int32.ofNat en))), .val (.int (own_dotI (nar .char c17) (3 : Int32) (Int32.ofNat f) (Int32.ofNat en))), .val (.int (own_dotI (nar .char c21) (4 : Int32) (Int32.ofNat f) (Int32.ofNat en))), .val (.int (((((own_dotI (nar .char c5) (0 : Int32) (Int32.ofNat f) (Int32.ofNat en)) + (own_dotI (nar .char c9) (1 : Int32) (Int32.ofNat f) (Int32.ofNat en))) + (own_dotI (nar .char c13) (2 : Int32) (Int32.ofNat f) (Int32.ofNat en))) + (own_dotI (nar .char c17) (3 : Int32) (Int32.ofNat f) (Int32.ofNat en))) + (own_dotI (nar .char c21) (4 : Int32) (Int32.ofNat f) (Int32.ofNat en)))), .val (.int ((((own_dotI (nar .char c9) (1 : Int32) (Int32.ofNat f) (Int32.ofNat en)) + ((2 : Int32) * (own_dotI (nar .char c13) (2 : Int32) (Int32.ofNat f) (Int32.ofNat en)))) + ((3 : Int32) * (own_dotI (nar .char c17) (3 : Int32) (Int32.ofNat f) (Int32.ofNat en)))) + ((4 : Int32) * (own_dotI (nar .char c21) (4 : Int32) (Int32.ofNat f) (Int32.ofNat en))))), .val (.int x18)] [(.int (1 : Int32))])) tg → Steps p.tables e below (T62.setTop (mkF m 374 #[.val (.long i0), .second, .val (.int i1), .val (.int i2), .val (.int i3), .val (.ref b2), .val (.ref b24), .val (.int (Int32.ofNat en)), .val (.int x8_33), .val (.int (Int32.ofNat f)), .val (.int x10), .val (.int (own_dotI (nar .char c5) (0 : Int32) (Int32.ofNat f) (Int32.ofNat en))), .val (.int (own_dotI (nar .char c9) (1 : Int32) (Int32.ofNat f) (Int32.ofNat en))), .val (.int (own_dotI (nar .char c13) (2 : Int32) (Int32.ofNat f) (Int32.ofNat en))), .val (.int (own_dotI (nar .char c17) (3 : Int32) (Int32.ofNat f) (Int32.ofNat en))), .val (.int (own_dotI (nar .char c21) (4 : Int32) (Int32.ofNat f) (Int32.ofNat en))), .val (.int (((((own_dotI (nar .char c5) (0 : Int32) (Int32.ofNat f) (Int32.ofNat en)) + (own_dotI (nar .char c9) (1 : Int32) (Int32.ofNat f) (Int32.ofNat en))) + (own_dotI (nar .char c13) (2 : Int32) (Int32.ofNat f) (Int32.ofNat en))) + (own_dotI (nar .char c17) (3 : Int32) (Int32.ofNat f) (Int32.ofNat en))) + (own_dotI (nar .char c21) (4 : Int32) (Int32.ofNat f) (Int32.ofNat en)))), .val (.int ((((own_dotI (nar .char c9) (1 : Int32) (Int32.ofNat f) (Int32.ofNat en)) + ((2 : Int32) * (own_dotI (nar .char c13) (2 : Int32) (Int32.ofNat f) (Int32.ofNat en)))) + ((3 : Int32) * (own_dotI (nar .char c17) (3 : Int32) (Int32.ofNat f) (Int32.ofNat en)))) + ((4 : Int32) * (own_dotI (nar .char c21) (4 : Int32) (Int32.ofNat f) (Int32.ofNat en))))), .val (.int x18)] [(.int r62)])) tg := fun tg kg => by
            refine XS.iload X62.here hx rfl (hb hby at_374) rfl ?_
            show Steps p.tables e below (T62.setTop (mkF m 376 #[.val (.long i0), .second, .val (.int i1), .val (.int i2), .val (.int i3), .val (.ref b2), .val (.ref b24), .val (.int (Int32.ofNat en)), .val (.int x8_33), .val (.int (Int32.ofNat f)), .val (.int x10), .val (.int (own_dotI (nar .char c5) (0 : Int32) (Int32.ofNat f) (Int32.ofNat en))), .val (.int (own_dotI (nar .char c9) (1 : Int32) (Int32.ofNat f) (Int32.ofNat en))), .val (.int (own_dotI (nar .char c13) (2 : Int32) (Int32.ofNat f) (Int32.ofNat en))), .val (.int (own_dotI (nar .char c17) (3 : Int32) (Int32.ofNat f) (Int32.ofNat en))), .val (.int (own_dotI (nar .char c21) (4 : Int32) (Int32.ofNat f) (Int32.ofNat en))), .val (.int (((((own_dotI (nar .char c5) (0 : Int32) (Int32.ofNat f) (Int32.ofNat en)) + (own_dotI (nar .char c9) (1 : Int32) (Int32.ofNat f) (Int32.ofNat en))) + (own_dotI (nar .char c13) (2 : Int32) (Int32.ofNat f) (Int32.ofNat en))) + (own_dotI (nar .char c17) (3 : Int32) (Int32.ofNat f) (Int32.ofNat en))) + (own_dotI (nar .char c21) (4 : Int32) (Int32.ofNat f) (Int32.ofNat en)))), .val (.int ((((own_dotI (nar .char c9) (1 : Int32) (Int32.ofNat f) (Int32.ofNat en)) + ((2 : Int32) * (own_dotI (nar .char c13) (2 : Int32) (Int32.ofNat f) (Int32.ofNat en)))) + ((3 : Int32) * (own_dotI (nar .char c17) (3 : Int32) (Int32.ofNat f) (Int32.ofNat en)))) + ((4 : Int32) * (own_dotI (nar .char c21) (4 : Int32) (Int32.ofNat f) (Int32.ofNat en))))), .val (.int x18)] [(.int x18), (.int r62)])) tg
            refine XS.icmpNo X62.here hx rfl (hb hby at_376) rfl (teq (own_fin w62q hx18 (own_main (nar .char c5) (nar .char c9) (nar .char c13) (nar .char c17) (nar .char c21) i3 x10 en f pt ql hen hfl.1 hfl.2 hpt hql hx10))).2 ?_
            show Steps p.tables e below (T62.setTop (mkF m 379 #[.val (.long i0), .second, .val (.int i1), .val (.int i2), .val (.int i3), .val (.ref b2), .val (.ref b24), .val (.int (Int32.ofNat en)), .val (.int x8_33), .val (.int (Int32.ofNat f)), .val (.int x10), .val (.int (own_dotI (nar .char c5) (0 : Int32) (Int32.ofNat f) (Int32.ofNat en))), .val (.int (own_dotI (nar .char c9) (1 : Int32) (Int32.ofNat f) (Int32.ofNat en))), .val (.int (own_dotI (nar .char c13) (2 : Int32) (Int32.ofNat f) (Int32.ofNat en))), .val (.int (own_dotI (nar .char c17) (3 : Int32) (Int32.ofNat f) (Int32.ofNat en))), .val (.int (own_dotI (nar .char c21) (4 : Int32) (Int32.ofNat f) (Int32.ofNat en))), .val (.int (((((own_dotI (nar .char c5) (0 : Int32) (Int32.ofNat f) (Int32.ofNat en)) + (own_dotI (nar .char c9) (1 : Int32) (Int32.ofNat f) (Int32.ofNat en))) + (own_dotI (nar .char c13) (2 : Int32) (Int32.ofNat f) (Int32.ofNat en))) + (own_dotI (nar .char c17) (3 : Int32) (Int32.ofNat f) (Int32.ofNat en))) + (own_dotI (nar .char c21) (4 : Int32) (Int32.ofNat f) (Int32.ofNat en)))), .val (.int ((((own_dotI (nar .char c9) (1 : Int32) (Int32.ofNat f) (Int32.ofNat en)) + ((2 : Int32) * (own_dotI (nar .char c13) (2 : Int32) (Int32.ofNat f) (Int32.ofNat en)))) + ((3 : Int32) * (own_dotI (nar .char c17) (3 : Int32) (Int32.ofNat f) (Int32.ofNat en)))) + ((4 : Int32) * (own_dotI (nar .char c21) (4 : Int32) (Int32.ofNat f) (Int32.ofNat en))))), .val (.int x18)] [])) tg
            refine XS.iconst X62.here hx rfl (hb hby at_379) ?_
            show Steps p.tables e below (T62.setTop (mkF m 380 #[.val (.long i0), .second, .val (.int i1), .val (.int i2), .val (.int i3), .val (.ref b2), .val (.ref b24), .val (.int (Int32.ofNat en)), .val (.int x8_33), .val (.int (Int32.ofNat f)), .val (.int x10), .val (.int (own_dotI (nar .char c5) (0 : Int32) (Int32.ofNat f) (Int32.ofNat en))), .val (.int (own_dotI (nar .char c9) (1 : Int32) (Int32.ofNat f) (Int32.ofNat en))), .val (.int (own_dotI (nar .char c13) (2 : Int32) (Int32.ofNat f) (Int32.ofNat en))), .val (.int (own_dotI (nar .char c17) (3 : Int32) (Int32.ofNat f) (Int32.ofNat en))), .val (.int (own_dotI (nar .char c21) (4 : Int32) (Int32.ofNat f) (Int32.ofNat en))), .val (.int (((((own_dotI (nar .char c5) (0 : Int32) (Int32.ofNat f) (Int32.ofNat en)) + (own_dotI (nar .char c9) (1 : Int32) (Int32.ofNat f) (Int32.ofNat en))) + (own_dotI (nar .char c13) (2 : Int32) (Int32.ofNat f) (Int32.ofNat en))) + (own_dotI (nar .char c17) (3 : Int32) (Int32.ofNat f) (Int32.ofNat en))) + (own_dotI (nar .char c21) (4 : Int32) (Int32.ofNat f) (Int32.ofNat en)))), .val (.int ((((own_dotI (nar .char c9) (1 : Int32) (Int32.ofNat f) (Int32.ofNat en)) + ((2 : Int32) * (own_dotI (nar .char c13) (2 : Int32) (Int32.ofNat f) (Int32.ofNat en)))) + ((3 : Int32) * (own_dotI (nar .char c17) (3 : Int32) (Int32.ofNat f) (Int32.ofNat en)))) + ((4 : Int32) * (own_dotI (nar .char c21) (4 : Int32) (Int32.ofNat f) (Int32.ofNat en))))), .val (.int x18)] [(.int (1 : Int32))])) tg
            refine XS.goto X62.here hx rfl (pc0 := 380) (pc' := 384) rfl (hb hby at_380) (by decide) (by decide) ?_
            show Steps p.tables e below (T62.setTop (mkF m 384 #[.val (.long i0), .second, .val (.int i1), .val (.int i2), .val (.int i3), .val (.ref b2), .val (.ref b24), .val (.int (Int32.ofNat en)), .val (.int x8_33), .val (.int (Int32.ofNat f)), .val (.int x10), .val (.int (own_dotI (nar .char c5) (0 : Int32) (Int32.ofNat f) (Int32.ofNat en))), .val (.int (own_dotI (nar .char c9) (1 : Int32) (Int32.ofNat f) (Int32.ofNat en))), .val (.int (own_dotI (nar .char c13) (2 : Int32) (Int32.ofNat f) (Int32.ofNat en))), .val (.int (own_dotI (nar .char c17) (3 : Int32) (Int32.ofNat f) (Int32.ofNat en))), .val (.int (own_dotI (nar .char c21) (4 : Int32) (Int32.ofNat f) (Int32.ofNat en))), .val (.int (((((own_dotI (nar .char c5) (0 : Int32) (Int32.ofNat f) (Int32.ofNat en)) + (own_dotI (nar .char c9) (1 : Int32) (Int32.ofNat f) (Int32.ofNat en))) + (own_dotI (nar .char c13) (2 : Int32) (Int32.ofNat f) (Int32.ofNat en))) + (own_dotI (nar .char c17) (3 : Int32) (Int32.ofNat f) (Int32.ofNat en))) + (own_dotI (nar .char c21) (4 : Int32) (Int32.ofNat f) (Int32.ofNat en)))), .val (.int ((((own_dotI (nar .char c9) (1 : Int32) (Int32.ofNat f) (Int32.ofNat en)) + ((2 : Int32) * (own_dotI (nar .char c13) (2 : Int32) (Int32.ofNat f) (Int32.ofNat en)))) + ((3 : Int32) * (own_dotI (nar .char c17) (3 : Int32) (Int32.ofNat f) (Int32.ofNat en)))) + ((4 : Int32) * (own_dotI (nar .char c21) (4 : Int32) (Int32.ofNat f) (Int32.ofNat en))))), .val (.int x18)] [(.int (1 : Int32))])) tg
            exact kg
          refine gs c63 ?_
          refine gout (v := some (.int (1 : Int32))) X62 Bd.notSynchronized (fun h => by rw [Bd.returns] at h; cases h) (by decide) (by decide) ?_ (fun fs hr => retN X62 hx (t := .boolean) Bd.returns (by simp) (hb hby at_384) hr)
          exact ⟨rfl, N62⟩
        have c64 : ∀ tg, Steps p.tables e below (T58.setTop (mkF m 305 #[.val (.long i0), .second, .val (.int i1), .val (.int i2), .val (.int i3), .val (.ref b2), .val (.ref b24), .val (.int (Int32.ofNat en)), .val (.int x8_33), .val (.int (Int32.ofNat f)), .val (.int x10), .val (.int (own_dotI (nar .char c5) (0 : Int32) (Int32.ofNat f) (Int32.ofNat en))), .val (.int (own_dotI (nar .char c9) (1 : Int32) (Int32.ofNat f) (Int32.ofNat en))), .val (.int (own_dotI (nar .char c13) (2 : Int32) (Int32.ofNat f) (Int32.ofNat en))), .val (.int (own_dotI (nar .char c17) (3 : Int32) (Int32.ofNat f) (Int32.ofNat en))), .val (.int (own_dotI (nar .char c21) (4 : Int32) (Int32.ofNat f) (Int32.ofNat en))), .val (.int (((((own_dotI (nar .char c5) (0 : Int32) (Int32.ofNat f) (Int32.ofNat en)) + (own_dotI (nar .char c9) (1 : Int32) (Int32.ofNat f) (Int32.ofNat en))) + (own_dotI (nar .char c13) (2 : Int32) (Int32.ofNat f) (Int32.ofNat en))) + (own_dotI (nar .char c17) (3 : Int32) (Int32.ofNat f) (Int32.ofNat en))) + (own_dotI (nar .char c21) (4 : Int32) (Int32.ofNat f) (Int32.ofNat en)))), .val (.int ((((own_dotI (nar .char c9) (1 : Int32) (Int32.ofNat f) (Int32.ofNat en)) + ((2 : Int32) * (own_dotI (nar .char c13) (2 : Int32) (Int32.ofNat f) (Int32.ofNat en)))) + ((3 : Int32) * (own_dotI (nar .char c17) (3 : Int32) (Int32.ofNat f) (Int32.ofNat en)))) + ((4 : Int32) * (own_dotI (nar .char c21) (4 : Int32) (Int32.ofNat f) (Int32.ofNat en))))), .unset] [(.int x10)])) tg → Steps p.tables e below (T58.setTop (mkF m 303 #[.val (.long i0), .second, .val (.int i1), .val (.int i2), .val (.int i3), .val (.ref b2), .val (.ref b24), .val (.int (Int32.ofNat en)), .val (.int x8_33), .val (.int (Int32.ofNat f)), .val (.int x10), .val (.int (own_dotI (nar .char c5) (0 : Int32) (Int32.ofNat f) (Int32.ofNat en))), .val (.int (own_dotI (nar .char c9) (1 : Int32) (Int32.ofNat f) (Int32.ofNat en))), .val (.int (own_dotI (nar .char c13) (2 : Int32) (Int32.ofNat f) (Int32.ofNat en))), .val (.int (own_dotI (nar .char c17) (3 : Int32) (Int32.ofNat f) (Int32.ofNat en))), .val (.int (own_dotI (nar .char c21) (4 : Int32) (Int32.ofNat f) (Int32.ofNat en))), .val (.int (((((own_dotI (nar .char c5) (0 : Int32) (Int32.ofNat f) (Int32.ofNat en)) + (own_dotI (nar .char c9) (1 : Int32) (Int32.ofNat f) (Int32.ofNat en))) + (own_dotI (nar .char c13) (2 : Int32) (Int32.ofNat f) (Int32.ofNat en))) + (own_dotI (nar .char c17) (3 : Int32) (Int32.ofNat f) (Int32.ofNat en))) + (own_dotI (nar .char c21) (4 : Int32) (Int32.ofNat f) (Int32.ofNat en)))), .val (.int ((((own_dotI (nar .char c9) (1 : Int32) (Int32.ofNat f) (Int32.ofNat en)) + ((2 : Int32) * (own_dotI (nar .char c13) (2 : Int32) (Int32.ofNat f) (Int32.ofNat en)))) + ((3 : Int32) * (own_dotI (nar .char c17) (3 : Int32) (Int32.ofNat f) (Int32.ofNat en)))) + ((4 : Int32) * (own_dotI (nar .char c21) (4 : Int32) (Int32.ofNat f) (Int32.ofNat en))))), .unset] [])) tg := fun tg kg => by
          refine XS.iload X58.here hx rfl (hb hby at_303) rfl ?_
          show Steps p.tables e below (T58.setTop (mkF m 305 #[.val (.long i0), .second, .val (.int i1), .val (.int i2), .val (.int i3), .val (.ref b2), .val (.ref b24), .val (.int (Int32.ofNat en)), .val (.int x8_33), .val (.int (Int32.ofNat f)), .val (.int x10), .val (.int (own_dotI (nar .char c5) (0 : Int32) (Int32.ofNat f) (Int32.ofNat en))), .val (.int (own_dotI (nar .char c9) (1 : Int32) (Int32.ofNat f) (Int32.ofNat en))), .val (.int (own_dotI (nar .char c13) (2 : Int32) (Int32.ofNat f) (Int32.ofNat en))), .val (.int (own_dotI (nar .char c17) (3 : Int32) (Int32.ofNat f) (Int32.ofNat en))), .val (.int (own_dotI (nar .char c21) (4 : Int32) (Int32.ofNat f) (Int32.ofNat en))), .val (.int (((((own_dotI (nar .char c5) (0 : Int32) (Int32.ofNat f) (Int32.ofNat en)) + (own_dotI (nar .char c9) (1 : Int32) (Int32.ofNat f) (Int32.ofNat en))) + (own_dotI (nar .char c13) (2 : Int32) (Int32.ofNat f) (Int32.ofNat en))) + (own_dotI (nar .char c17) (3 : Int32) (Int32.ofNat f) (Int32.ofNat en))) + (own_dotI (nar .char c21) (4 : Int32) (Int32.ofNat f) (Int32.ofNat en)))), .val (.int ((((own_dotI (nar .char c9) (1 : Int32) (Int32.ofNat f) (Int32.ofNat en)) + ((2 : Int32) * (own_dotI (nar .char c13) (2 : Int32) (Int32.ofNat f) (Int32.ofNat en)))) + ((3 : Int32) * (own_dotI (nar .char c17) (3 : Int32) (Int32.ofNat f) (Int32.ofNat en)))) + ((4 : Int32) * (own_dotI (nar .char c21) (4 : Int32) (Int32.ofNat f) (Int32.ofNat en))))), .unset] [(.int x10)])) tg
          exact kg
        refine gs c64 ?_
        by_cases hc65 : x10 = (0 : Int32)
        · have c66 : ∀ tg, Steps p.tables e below (T58.setTop (mkF m 361 #[.val (.long i0), .second, .val (.int i1), .val (.int i2), .val (.int i3), .val (.ref b2), .val (.ref b24), .val (.int (Int32.ofNat en)), .val (.int x8_33), .val (.int (Int32.ofNat f)), .val (.int x10), .val (.int (own_dotI (nar .char c5) (0 : Int32) (Int32.ofNat f) (Int32.ofNat en))), .val (.int (own_dotI (nar .char c9) (1 : Int32) (Int32.ofNat f) (Int32.ofNat en))), .val (.int (own_dotI (nar .char c13) (2 : Int32) (Int32.ofNat f) (Int32.ofNat en))), .val (.int (own_dotI (nar .char c17) (3 : Int32) (Int32.ofNat f) (Int32.ofNat en))), .val (.int (own_dotI (nar .char c21) (4 : Int32) (Int32.ofNat f) (Int32.ofNat en))), .val (.int (((((own_dotI (nar .char c5) (0 : Int32) (Int32.ofNat f) (Int32.ofNat en)) + (own_dotI (nar .char c9) (1 : Int32) (Int32.ofNat f) (Int32.ofNat en))) + (own_dotI (nar .char c13) (2 : Int32) (Int32.ofNat f) (Int32.ofNat en))) + (own_dotI (nar .char c17) (3 : Int32) (Int32.ofNat f) (Int32.ofNat en))) + (own_dotI (nar .char c21) (4 : Int32) (Int32.ofNat f) (Int32.ofNat en)))), .val (.int ((((own_dotI (nar .char c9) (1 : Int32) (Int32.ofNat f) (Int32.ofNat en)) + ((2 : Int32) * (own_dotI (nar .char c13) (2 : Int32) (Int32.ofNat f) (Int32.ofNat en)))) + ((3 : Int32) * (own_dotI (nar .char c17) (3 : Int32) (Int32.ofNat f) (Int32.ofNat en)))) + ((4 : Int32) * (own_dotI (nar .char c21) (4 : Int32) (Int32.ofNat f) (Int32.ofNat en))))), .unset] [(.int (0 : Int32))])) tg → Steps p.tables e below (T58.setTop (mkF m 305 #[.val (.long i0), .second, .val (.int i1), .val (.int i2), .val (.int i3), .val (.ref b2), .val (.ref b24), .val (.int (Int32.ofNat en)), .val (.int x8_33), .val (.int (Int32.ofNat f)), .val (.int x10), .val (.int (own_dotI (nar .char c5) (0 : Int32) (Int32.ofNat f) (Int32.ofNat en))), .val (.int (own_dotI (nar .char c9) (1 : Int32) (Int32.ofNat f) (Int32.ofNat en))), .val (.int (own_dotI (nar .char c13) (2 : Int32) (Int32.ofNat f) (Int32.ofNat en))), .val (.int (own_dotI (nar .char c17) (3 : Int32) (Int32.ofNat f) (Int32.ofNat en))), .val (.int (own_dotI (nar .char c21) (4 : Int32) (Int32.ofNat f) (Int32.ofNat en))), .val (.int (((((own_dotI (nar .char c5) (0 : Int32) (Int32.ofNat f) (Int32.ofNat en)) + (own_dotI (nar .char c9) (1 : Int32) (Int32.ofNat f) (Int32.ofNat en))) + (own_dotI (nar .char c13) (2 : Int32) (Int32.ofNat f) (Int32.ofNat en))) + (own_dotI (nar .char c17) (3 : Int32) (Int32.ofNat f) (Int32.ofNat en))) + (own_dotI (nar .char c21) (4 : Int32) (Int32.ofNat f) (Int32.ofNat en)))), .val (.int ((((own_dotI (nar .char c9) (1 : Int32) (Int32.ofNat f) (Int32.ofNat en)) + ((2 : Int32) * (own_dotI (nar .char c13) (2 : Int32) (Int32.ofNat f) (Int32.ofNat en)))) + ((3 : Int32) * (own_dotI (nar .char c17) (3 : Int32) (Int32.ofNat f) (Int32.ofNat en)))) + ((4 : Int32) * (own_dotI (nar .char c21) (4 : Int32) (Int32.ofNat f) (Int32.ofNat en))))), .unset] [(.int x10)])) tg := fun tg kg => by
            refine XS.ifYes X58.here hx rfl (pc0 := 305) (pc' := 360) rfl (hb hby at_305) rfl ((if0 _ _).trans (teq hc65).1) (by decide) (by decide) ?_
            show Steps p.tables e below (T58.setTop (mkF m 360 #[.val (.long i0), .second, .val (.int i1), .val (.int i2), .val (.int i3), .val (.ref b2), .val (.ref b24), .val (.int (Int32.ofNat en)), .val (.int x8_33), .val (.int (Int32.ofNat f)), .val (.int x10), .val (.int (own_dotI (nar .char c5) (0 : Int32) (Int32.ofNat f) (Int32.ofNat en))), .val (.int (own_dotI (nar .char c9) (1 : Int32) (Int32.ofNat f) (Int32.ofNat en))), .val (.int (own_dotI (nar .char c13) (2 : Int32) (Int32.ofNat f) (Int32.ofNat en))), .val (.int (own_dotI (nar .char c17) (3 : Int32) (Int32.ofNat f) (Int32.ofNat en))), .val (.int (own_dotI (nar .char c21) (4 : Int32) (Int32.ofNat f) (Int32.ofNat en))), .val (.int (((((own_dotI (nar .char c5) (0 : Int32) (Int32.ofNat f) (Int32.ofNat en)) + (own_dotI (nar .char c9) (1 : Int32) (Int32.ofNat f) (Int32.ofNat en))) + (own_dotI (nar .char c13) (2 : Int32) (Int32.ofNat f) (Int32.ofNat en))) + (own_dotI (nar .char c17) (3 : Int32) (Int32.ofNat f) (Int32.ofNat en))) + (own_dotI (nar .char c21) (4 : Int32) (Int32.ofNat f) (Int32.ofNat en)))), .val (.int ((((own_dotI (nar .char c9) (1 : Int32) (Int32.ofNat f) (Int32.ofNat en)) + ((2 : Int32) * (own_dotI (nar .char c13) (2 : Int32) (Int32.ofNat f) (Int32.ofNat en)))) + ((3 : Int32) * (own_dotI (nar .char c17) (3 : Int32) (Int32.ofNat f) (Int32.ofNat en)))) + ((4 : Int32) * (own_dotI (nar .char c21) (4 : Int32) (Int32.ofNat f) (Int32.ofNat en))))), .unset] [])) tg
            refine XS.iconst X58.here hx rfl (hb hby at_360) ?_
            show Steps p.tables e below (T58.setTop (mkF m 361 #[.val (.long i0), .second, .val (.int i1), .val (.int i2), .val (.int i3), .val (.ref b2), .val (.ref b24), .val (.int (Int32.ofNat en)), .val (.int x8_33), .val (.int (Int32.ofNat f)), .val (.int x10), .val (.int (own_dotI (nar .char c5) (0 : Int32) (Int32.ofNat f) (Int32.ofNat en))), .val (.int (own_dotI (nar .char c9) (1 : Int32) (Int32.ofNat f) (Int32.ofNat en))), .val (.int (own_dotI (nar .char c13) (2 : Int32) (Int32.ofNat f) (Int32.ofNat en))), .val (.int (own_dotI (nar .char c17) (3 : Int32) (Int32.ofNat f) (Int32.ofNat en))), .val (.int (own_dotI (nar .char c21) (4 : Int32) (Int32.ofNat f) (Int32.ofNat en))), .val (.int (((((own_dotI (nar .char c5) (0 : Int32) (Int32.ofNat f) (Int32.ofNat en)) + (own_dotI (nar .char c9) (1 : Int32) (Int32.ofNat f) (Int32.ofNat en))) + (own_dotI (nar .char c13) (2 : Int32) (Int32.ofNat f) (Int32.ofNat en))) + (own_dotI (nar .char c17) (3 : Int32) (Int32.ofNat f) (Int32.ofNat en))) + (own_dotI (nar .char c21) (4 : Int32) (Int32.ofNat f) (Int32.ofNat en)))), .val (.int ((((own_dotI (nar .char c9) (1 : Int32) (Int32.ofNat f) (Int32.ofNat en)) + ((2 : Int32) * (own_dotI (nar .char c13) (2 : Int32) (Int32.ofNat f) (Int32.ofNat en)))) + ((3 : Int32) * (own_dotI (nar .char c17) (3 : Int32) (Int32.ofNat f) (Int32.ofNat en)))) + ((4 : Int32) * (own_dotI (nar .char c21) (4 : Int32) (Int32.ofNat f) (Int32.ofNat en))))), .unset] [(.int (0 : Int32))])) tg
            exact kg
          refine gs c66 ?_
          exact mid60 (0 : Int32) T58 _ (Or.inr ⟨rfl, fun q => q.1 hc65⟩) X58 e58q N58
        · have c67 : ∀ tg, Steps p.tables e below (T58.setTop (mkF m 314 #[.val (.long i0), .second, .val (.int i1), .val (.int i2), .val (.int i3), .val (.ref b2), .val (.ref b24), .val (.int (Int32.ofNat en)), .val (.int x8_33), .val (.int (Int32.ofNat f)), .val (.int x10), .val (.int (own_dotI (nar .char c5) (0 : Int32) (Int32.ofNat f) (Int32.ofNat en))), .val (.int (own_dotI (nar .char c9) (1 : Int32) (Int32.ofNat f) (Int32.ofNat en))), .val (.int (own_dotI (nar .char c13) (2 : Int32) (Int32.ofNat f) (Int32.ofNat en))), .val (.int (own_dotI (nar .char c17) (3 : Int32) (Int32.ofNat f) (Int32.ofNat en))), .val (.int (own_dotI (nar .char c21) (4 : Int32) (Int32.ofNat f) (Int32.ofNat en))), .val (.int (((((own_dotI (nar .char c5) (0 : Int32) (Int32.ofNat f) (Int32.ofNat en)) + (own_dotI (nar .char c9) (1 : Int32) (Int32.ofNat f) (Int32.ofNat en))) + (own_dotI (nar .char c13) (2 : Int32) (Int32.ofNat f) (Int32.ofNat en))) + (own_dotI (nar .char c17) (3 : Int32) (Int32.ofNat f) (Int32.ofNat en))) + (own_dotI (nar .char c21) (4 : Int32) (Int32.ofNat f) (Int32.ofNat en)))), .val (.int ((((own_dotI (nar .char c9) (1 : Int32) (Int32.ofNat f) (Int32.ofNat en)) + ((2 : Int32) * (own_dotI (nar .char c13) (2 : Int32) (Int32.ofNat f) (Int32.ofNat en)))) + ((3 : Int32) * (own_dotI (nar .char c17) (3 : Int32) (Int32.ofNat f) (Int32.ofNat en)))) + ((4 : Int32) * (own_dotI (nar .char c21) (4 : Int32) (Int32.ofNat f) (Int32.ofNat en))))), .unset] [(.int (1 : Int32)), (.int ((Int32.ofNat en) - (Int32.ofNat f)))])) tg → Steps p.tables e below (T58.setTop (mkF m 305 #[.val (.long i0), .second, .val (.int i1), .val (.int i2), .val (.int i3), .val (.ref b2), .val (.ref b24), .val (.int (Int32.ofNat en)), .val (.int x8_33), .val (.int (Int32.ofNat f)), .val (.int x10), .val (.int (own_dotI (nar .char c5) (0 : Int32) (Int32.ofNat f) (Int32.ofNat en))), .val (.int (own_dotI (nar .char c9) (1 : Int32) (Int32.ofNat f) (Int32.ofNat en))), .val (.int (own_dotI (nar .char c13) (2 : Int32) (Int32.ofNat f) (Int32.ofNat en))), .val (.int (own_dotI (nar .char c17) (3 : Int32) (Int32.ofNat f) (Int32.ofNat en))), .val (.int (own_dotI (nar .char c21) (4 : Int32) (Int32.ofNat f) (Int32.ofNat en))), .val (.int (((((own_dotI (nar .char c5) (0 : Int32) (Int32.ofNat f) (Int32.ofNat en)) + (own_dotI (nar .char c9) (1 : Int32) (Int32.ofNat f) (Int32.ofNat en))) + (own_dotI (nar .char c13) (2 : Int32) (Int32.ofNat f) (Int32.ofNat en))) + (own_dotI (nar .char c17) (3 : Int32) (Int32.ofNat f) (Int32.ofNat en))) + (own_dotI (nar .char c21) (4 : Int32) (Int32.ofNat f) (Int32.ofNat en)))), .val (.int ((((own_dotI (nar .char c9) (1 : Int32) (Int32.ofNat f) (Int32.ofNat en)) + ((2 : Int32) * (own_dotI (nar .char c13) (2 : Int32) (Int32.ofNat f) (Int32.ofNat en)))) + ((3 : Int32) * (own_dotI (nar .char c17) (3 : Int32) (Int32.ofNat f) (Int32.ofNat en)))) + ((4 : Int32) * (own_dotI (nar .char c21) (4 : Int32) (Int32.ofNat f) (Int32.ofNat en))))), .unset] [(.int x10)])) tg := fun tg kg => by
            refine XS.ifNo X58.here hx rfl (hb hby at_305) rfl ((if0 _ _).trans (feq hc65).1) ?_
            show Steps p.tables e below (T58.setTop (mkF m 308 #[.val (.long i0), .second, .val (.int i1), .val (.int i2), .val (.int i3), .val (.ref b2), .val (.ref b24), .val (.int (Int32.ofNat en)), .val (.int x8_33), .val (.int (Int32.ofNat f)), .val (.int x10), .val (.int (own_dotI (nar .char c5) (0 : Int32) (Int32.ofNat f) (Int32.ofNat en))), .val (.int (own_dotI (nar .char c9) (1 : Int32) (Int32.ofNat f) (Int32.ofNat en))), .val (.int (own_dotI (nar .char c13) (2 : Int32) (Int32.ofNat f) (Int32.ofNat en))), .val (.int (own_dotI (nar .char c17) (3 : Int32) (Int32.ofNat f) (Int32.ofNat en))), .val (.int (own_dotI (nar .char c21) (4 : Int32) (Int32.ofNat f) (Int32.ofNat en))), .val (.int (((((own_dotI (nar .char c5) (0 : Int32) (Int32.ofNat f) (Int32.ofNat en)) + (own_dotI (nar .char c9) (1 : Int32) (Int32.ofNat f) (Int32.ofNat en))) + (own_dotI (nar .char c13) (2 : Int32) (Int32.ofNat f) (Int32.ofNat en))) + (own_dotI (nar .char c17) (3 : Int32) (Int32.ofNat f) (Int32.ofNat en))) + (own_dotI (nar .char c21) (4 : Int32) (Int32.ofNat f) (Int32.ofNat en)))), .val (.int ((((own_dotI (nar .char c9) (1 : Int32) (Int32.ofNat f) (Int32.ofNat en)) + ((2 : Int32) * (own_dotI (nar .char c13) (2 : Int32) (Int32.ofNat f) (Int32.ofNat en)))) + ((3 : Int32) * (own_dotI (nar .char c17) (3 : Int32) (Int32.ofNat f) (Int32.ofNat en)))) + ((4 : Int32) * (own_dotI (nar .char c21) (4 : Int32) (Int32.ofNat f) (Int32.ofNat en))))), .unset] [])) tg
            refine XS.iload X58.here hx rfl (hb hby at_308) rfl ?_
            show Steps p.tables e below (T58.setTop (mkF m 310 #[.val (.long i0), .second, .val (.int i1), .val (.int i2), .val (.int i3), .val (.ref b2), .val (.ref b24), .val (.int (Int32.ofNat en)), .val (.int x8_33), .val (.int (Int32.ofNat f)), .val (.int x10), .val (.int (own_dotI (nar .char c5) (0 : Int32) (Int32.ofNat f) (Int32.ofNat en))), .val (.int (own_dotI (nar .char c9) (1 : Int32) (Int32.ofNat f) (Int32.ofNat en))), .val (.int (own_dotI (nar .char c13) (2 : Int32) (Int32.ofNat f) (Int32.ofNat en))), .val (.int (own_dotI (nar .char c17) (3 : Int32) (Int32.ofNat f) (Int32.ofNat en))), .val (.int (own_dotI (nar .char c21) (4 : Int32) (Int32.ofNat f) (Int32.ofNat en))), .val (.int (((((own_dotI (nar .char c5) (0 : Int32) (Int32.ofNat f) (Int32.ofNat en)) + (own_dotI (nar .char c9) (1 : Int32) (Int32.ofNat f) (Int32.ofNat en))) + (own_dotI (nar .char c13) (2 : Int32) (Int32.ofNat f) (Int32.ofNat en))) + (own_dotI (nar .char c17) (3 : Int32) (Int32.ofNat f) (Int32.ofNat en))) + (own_dotI (nar .char c21) (4 : Int32) (Int32.ofNat f) (Int32.ofNat en)))), .val (.int ((((own_dotI (nar .char c9) (1 : Int32) (Int32.ofNat f) (Int32.ofNat en)) + ((2 : Int32) * (own_dotI (nar .char c13) (2 : Int32) (Int32.ofNat f) (Int32.ofNat en)))) + ((3 : Int32) * (own_dotI (nar .char c17) (3 : Int32) (Int32.ofNat f) (Int32.ofNat en)))) + ((4 : Int32) * (own_dotI (nar .char c21) (4 : Int32) (Int32.ofNat f) (Int32.ofNat en))))), .unset] [(.int (Int32.ofNat en))])) tg
            refine XS.iload X58.here hx rfl (hb hby at_310) rfl ?_
            show Steps p.tables e below (T58.setTop (mkF m 312 #[.val (.long i0), .second, .val (.int i1), .val (.int i2), .val (.int i3), .val (.ref b2), .val (.ref b24), .val (.int (Int32.ofNat en)), .val (.int x8_33), .val (.int (Int32.ofNat f)), .val (.int x10), .val (.int (own_dotI (nar .char c5) (0 : Int32) (Int32.ofNat f) (Int32.ofNat en))), .val (.int (own_dotI (nar .char c9) (1 : Int32) (Int32.ofNat f) (Int32.ofNat en))), .val (.int (own_dotI (nar .char c13) (2 : Int32) (Int32.ofNat f) (Int32.ofNat en))), .val (.int (own_dotI (nar .char c17) (3 : Int32) (Int32.ofNat f) (Int32.ofNat en))), .val (.int (own_dotI (nar .char c21) (4 : Int32) (Int32.ofNat f) (Int32.ofNat en))), .val (.int (((((own_dotI (nar .char c5) (0 : Int32) (Int32.ofNat f) (Int32.ofNat en)) + (own_dotI (nar .char c9) (1 : Int32) (Int32.ofNat f) (Int32.ofNat en))) + (own_dotI (nar .char c13) (2 : Int32) (Int32.ofNat f) (Int32.ofNat en))) + (own_dotI (nar .char c17) (3 : Int32) (Int32.ofNat f) (Int32.ofNat en))) + (own_dotI (nar .char c21) (4 : Int32) (Int32.ofNat f) (Int32.ofNat en)))), .val (.int ((((own_dotI (nar .char c9) (1 : Int32) (Int32.ofNat f) (Int32.ofNat en)) + ((2 : Int32) * (own_dotI (nar .char c13) (2 : Int32) (Int32.ofNat f) (Int32.ofNat en)))) + ((3 : Int32) * (own_dotI (nar .char c17) (3 : Int32) (Int32.ofNat f) (Int32.ofNat en)))) + ((4 : Int32) * (own_dotI (nar .char c21) (4 : Int32) (Int32.ofNat f) (Int32.ofNat en))))), .unset] [(.int (Int32.ofNat f)), (.int (Int32.ofNat en))])) tg
            refine XS.isub X58.here hx rfl (hb hby at_312) rfl ?_
            show Steps p.tables e below (T58.setTop (mkF m 313 #[.val (.long i0), .second, .val (.int i1), .val (.int i2), .val (.int i3), .val (.ref b2), .val (.ref b24), .val (.int (Int32.ofNat en)), .val (.int x8_33), .val (.int (Int32.ofNat f)), .val (.int x10), .val (.int (own_dotI (nar .char c5) (0 : Int32) (Int32.ofNat f) (Int32.ofNat en))), .val (.int (own_dotI (nar .char c9) (1 : Int32) (Int32.ofNat f) (Int32.ofNat en))), .val (.int (own_dotI (nar .char c13) (2 : Int32) (Int32.ofNat f) (Int32.ofNat en))), .val (.int (own_dotI (nar .char c17) (3 : Int32) (Int32.ofNat f) (Int32.ofNat en))), .val (.int (own_dotI (nar .char c21) (4 : Int32) (Int32.ofNat f) (Int32.ofNat en))), .val (.int (((((own_dotI (nar .char c5) (0 : Int32) (Int32.ofNat f) (Int32.ofNat en)) + (own_dotI (nar .char c9) (1 : Int32) (Int32.ofNat f) (Int32.ofNat en))) + (own_dotI (nar .char c13) (2 : Int32) (Int32.ofNat f) (Int32.ofNat en))) + (own_dotI (nar .char c17) (3 : Int32) (Int32.ofNat f) (Int32.ofNat en))) + (own_dotI (nar .char c21) (4 : Int32) (Int32.ofNat f) (Int32.ofNat en)))), .val (.int ((((own_dotI (nar .char c9) (1 : Int32) (Int32.ofNat f) (Int32.ofNat en)) + ((2 : Int32) * (own_dotI (nar .char c13) (2 : Int32) (Int32.ofNat f) (Int32.ofNat en)))) + ((3 : Int32) * (own_dotI (nar .char c17) (3 : Int32) (Int32.ofNat f) (Int32.ofNat en)))) + ((4 : Int32) * (own_dotI (nar .char c21) (4 : Int32) (Int32.ofNat f) (Int32.ofNat en))))), .unset] [(.int ((Int32.ofNat en) - (Int32.ofNat f)))])) tg
            refine XS.iconst X58.here hx rfl (hb hby at_313) ?_
            show Steps p.tables e below (T58.setTop (mkF m 314 #[.val (.long i0), .second, .val (.int i1), .val (.int i2), .val (.int i3), .val (.ref b2), .val (.ref b24), .val (.int (Int32.ofNat en)), .val (.int x8_33), .val (.int (Int32.ofNat f)), .val (.int x10), .val (.int (own_dotI (nar .char c5) (0 : Int32) (Int32.ofNat f) (Int32.ofNat en))), .val (.int (own_dotI (nar .char c9) (1 : Int32) (Int32.ofNat f) (Int32.ofNat en))), .val (.int (own_dotI (nar .char c13) (2 : Int32) (Int32.ofNat f) (Int32.ofNat en))), .val (.int (own_dotI (nar .char c17) (3 : Int32) (Int32.ofNat f) (Int32.ofNat en))), .val (.int (own_dotI (nar .char c21) (4 : Int32) (Int32.ofNat f) (Int32.ofNat en))), .val (.int (((((own_dotI (nar .char c5) (0 : Int32) (Int32.ofNat f) (Int32.ofNat en)) + (own_dotI (nar .char c9) (1 : Int32) (Int32.ofNat f) (Int32.ofNat en))) + (own_dotI (nar .char c13) (2 : Int32) (Int32.ofNat f) (Int32.ofNat en))) + (own_dotI (nar .char c17) (3 : Int32) (Int32.ofNat f) (Int32.ofNat en))) + (own_dotI (nar .char c21) (4 : Int32) (Int32.ofNat f) (Int32.ofNat en)))), .val (.int ((((own_dotI (nar .char c9) (1 : Int32) (Int32.ofNat f) (Int32.ofNat en)) + ((2 : Int32) * (own_dotI (nar .char c13) (2 : Int32) (Int32.ofNat f) (Int32.ofNat en)))) + ((3 : Int32) * (own_dotI (nar .char c17) (3 : Int32) (Int32.ofNat f) (Int32.ofNat en)))) + ((4 : Int32) * (own_dotI (nar .char c21) (4 : Int32) (Int32.ofNat f) (Int32.ofNat en))))), .unset] [(.int (1 : Int32)), (.int ((Int32.ofNat en) - (Int32.ofNat f)))])) tg
            exact kg
          refine gs c67 ?_
          by_cases hc68 : ((Int32.ofNat en) - (Int32.ofNat f)) < (1 : Int32)
          · have c69 : ∀ tg, Steps p.tables e below (T58.setTop (mkF m 361 #[.val (.long i0), .second, .val (.int i1), .val (.int i2), .val (.int i3), .val (.ref b2), .val (.ref b24), .val (.int (Int32.ofNat en)), .val (.int x8_33), .val (.int (Int32.ofNat f)), .val (.int x10), .val (.int (own_dotI (nar .char c5) (0 : Int32) (Int32.ofNat f) (Int32.ofNat en))), .val (.int (own_dotI (nar .char c9) (1 : Int32) (Int32.ofNat f) (Int32.ofNat en))), .val (.int (own_dotI (nar .char c13) (2 : Int32) (Int32.ofNat f) (Int32.ofNat en))), .val (.int (own_dotI (nar .char c17) (3 : Int32) (Int32.ofNat f) (Int32.ofNat en))), .val (.int (own_dotI (nar .char c21) (4 : Int32) (Int32.ofNat f) (Int32.ofNat en))), .val (.int (((((own_dotI (nar .char c5) (0 : Int32) (Int32.ofNat f) (Int32.ofNat en)) + (own_dotI (nar .char c9) (1 : Int32) (Int32.ofNat f) (Int32.ofNat en))) + (own_dotI (nar .char c13) (2 : Int32) (Int32.ofNat f) (Int32.ofNat en))) + (own_dotI (nar .char c17) (3 : Int32) (Int32.ofNat f) (Int32.ofNat en))) + (own_dotI (nar .char c21) (4 : Int32) (Int32.ofNat f) (Int32.ofNat en)))), .val (.int ((((own_dotI (nar .char c9) (1 : Int32) (Int32.ofNat f) (Int32.ofNat en)) + ((2 : Int32) * (own_dotI (nar .char c13) (2 : Int32) (Int32.ofNat f) (Int32.ofNat en)))) + ((3 : Int32) * (own_dotI (nar .char c17) (3 : Int32) (Int32.ofNat f) (Int32.ofNat en)))) + ((4 : Int32) * (own_dotI (nar .char c21) (4 : Int32) (Int32.ofNat f) (Int32.ofNat en))))), .unset] [(.int (0 : Int32))])) tg → Steps p.tables e below (T58.setTop (mkF m 314 #[.val (.long i0), .second, .val (.int i1), .val (.int i2), .val (.int i3), .val (.ref b2), .val (.ref b24), .val (.int (Int32.ofNat en)), .val (.int x8_33), .val (.int (Int32.ofNat f)), .val (.int x10), .val (.int (own_dotI (nar .char c5) (0 : Int32) (Int32.ofNat f) (Int32.ofNat en))), .val (.int (own_dotI (nar .char c9) (1 : Int32) (Int32.ofNat f) (Int32.ofNat en))), .val (.int (own_dotI (nar .char c13) (2 : Int32) (Int32.ofNat f) (Int32.ofNat en))), .val (.int (own_dotI (nar .char c17) (3 : Int32) (Int32.ofNat f) (Int32.ofNat en))), .val (.int (own_dotI (nar .char c21) (4 : Int32) (Int32.ofNat f) (Int32.ofNat en))), .val (.int (((((own_dotI (nar .char c5) (0 : Int32) (Int32.ofNat f) (Int32.ofNat en)) + (own_dotI (nar .char c9) (1 : Int32) (Int32.ofNat f) (Int32.ofNat en))) + (own_dotI (nar .char c13) (2 : Int32) (Int32.ofNat f) (Int32.ofNat en))) + (own_dotI (nar .char c17) (3 : Int32) (Int32.ofNat f) (Int32.ofNat en))) + (own_dotI (nar .char c21) (4 : Int32) (Int32.ofNat f) (Int32.ofNat en)))), .val (.int ((((own_dotI (nar .char c9) (1 : Int32) (Int32.ofNat f) (Int32.ofNat en)) + ((2 : Int32) * (own_dotI (nar .char c13) (2 : Int32) (Int32.ofNat f) (Int32.ofNat en)))) + ((3 : Int32) * (own_dotI (nar .char c17) (3 : Int32) (Int32.ofNat f) (Int32.ofNat en)))) + ((4 : Int32) * (own_dotI (nar .char c21) (4 : Int32) (Int32.ofNat f) (Int32.ofNat en))))), .unset] [(.int (1 : Int32)), (.int ((Int32.ofNat en) - (Int32.ofNat f)))])) tg := fun tg kg => by
              refine XS.icmpYes X58.here hx rfl (pc0 := 314) (pc' := 360) rfl (hb hby at_314) rfl (tlt hc68).1 (by decide) (by decide) ?_
              show Steps p.tables e below (T58.setTop (mkF m 360 #[.val (.long i0), .second, .val (.int i1), .val (.int i2), .val (.int i3), .val (.ref b2), .val (.ref b24), .val (.int (Int32.ofNat en)), .val (.int x8_33), .val (.int (Int32.ofNat f)), .val (.int x10), .val (.int (own_dotI (nar .char c5) (0 : Int32) (Int32.ofNat f) (Int32.ofNat en))), .val (.int (own_dotI (nar .char c9) (1 : Int32) (Int32.ofNat f) (Int32.ofNat en))), .val (.int (own_dotI (nar .char c13) (2 : Int32) (Int32.ofNat f) (Int32.ofNat en))), .val (.int (own_dotI (nar .char c17) (3 : Int32) (Int32.ofNat f) (Int32.ofNat en))), .val (.int (own_dotI (nar .char c21) (4 : Int32) (Int32.ofNat f) (Int32.ofNat en))), .val (.int (((((own_dotI (nar .char c5) (0 : Int32) (Int32.ofNat f) (Int32.ofNat en)) + (own_dotI (nar .char c9) (1 : Int32) (Int32.ofNat f) (Int32.ofNat en))) + (own_dotI (nar .char c13) (2 : Int32) (Int32.ofNat f) (Int32.ofNat en))) + (own_dotI (nar .char c17) (3 : Int32) (Int32.ofNat f) (Int32.ofNat en))) + (own_dotI (nar .char c21) (4 : Int32) (Int32.ofNat f) (Int32.ofNat en)))), .val (.int ((((own_dotI (nar .char c9) (1 : Int32) (Int32.ofNat f) (Int32.ofNat en)) + ((2 : Int32) * (own_dotI (nar .char c13) (2 : Int32) (Int32.ofNat f) (Int32.ofNat en)))) + ((3 : Int32) * (own_dotI (nar .char c17) (3 : Int32) (Int32.ofNat f) (Int32.ofNat en)))) + ((4 : Int32) * (own_dotI (nar .char c21) (4 : Int32) (Int32.ofNat f) (Int32.ofNat en))))), .unset] [])) tg
              refine XS.iconst X58.here hx rfl (hb hby at_360) ?_
              show Steps p.tables e below (T58.setTop (mkF m 361 #[.val (.long i0), .second, .val (.int i1), .val (.int i2), .val (.int i3), .val (.ref b2), .val (.ref b24), .val (.int (Int32.ofNat en)), .val (.int x8_33), .val (.int (Int32.ofNat f)), .val (.int x10), .val (.int (own_dotI (nar .char c5) (0 : Int32) (Int32.ofNat f) (Int32.ofNat en))), .val (.int (own_dotI (nar .char c9) (1 : Int32) (Int32.ofNat f) (Int32.ofNat en))), .val (.int (own_dotI (nar .char c13) (2 : Int32) (Int32.ofNat f) (Int32.ofNat en))), .val (.int (own_dotI (nar .char c17) (3 : Int32) (Int32.ofNat f) (Int32.ofNat en))), .val (.int (own_dotI (nar .char c21) (4 : Int32) (Int32.ofNat f) (Int32.ofNat en))), .val (.int (((((own_dotI (nar .char c5) (0 : Int32) (Int32.ofNat f) (Int32.ofNat en)) + (own_dotI (nar .char c9) (1 : Int32) (Int32.ofNat f) (Int32.ofNat en))) + (own_dotI (nar .char c13) (2 : Int32) (Int32.ofNat f) (Int32.ofNat en))) + (own_dotI (nar .char c17) (3 : Int32) (Int32.ofNat f) (Int32.ofNat en))) + (own_dotI (nar .char c21) (4 : Int32) (Int32.ofNat f) (Int32.ofNat en)))), .val (.int ((((own_dotI (nar .char c9) (1 : Int32) (Int32.ofNat f) (Int32.ofNat en)) + ((2 : Int32) * (own_dotI (nar .char c13) (2 : Int32) (Int32.ofNat f) (Int32.ofNat en)))) + ((3 : Int32) * (own_dotI (nar .char c17) (3 : Int32) (Int32.ofNat f) (Int32.ofNat en)))) + ((4 : Int32) * (own_dotI (nar .char c21) (4 : Int32) (Int32.ofNat f) (Int32.ofNat en))))), .unset] [(.int (0 : Int32))])) tg
              exact kg
            refine gs c69 ?_
            exact mid60 (0 : Int32) T58 _ (Or.inr ⟨rfl, fun q => q.2.1 hc68⟩) X58 e58q N58
          · have c70 : ∀ tg, Steps p.tables e below (T58.setTop (mkF m 319 #[.val (.long i0), .second, .val (.int i1), .val (.int i2), .val (.int i3), .val (.ref b2), .val (.ref b24), .val (.int (Int32.ofNat en)), .val (.int x8_33), .val (.int (Int32.ofNat f)), .val (.int x10), .val (.int (own_dotI (nar .char c5) (0 : Int32) (Int32.ofNat f) (Int32.ofNat en))), .val (.int (own_dotI (nar .char c9) (1 : Int32) (Int32.ofNat f) (Int32.ofNat en))), .val (.int (own_dotI (nar .char c13) (2 : Int32) (Int32.ofNat f) (Int32.ofNat en))), .val (.int (own_dotI (nar .char c17) (3 : Int32) (Int32.ofNat f) (Int32.ofNat en))), .val (.int (own_dotI (nar .char c21) (4 : Int32) (Int32.ofNat f) (Int32.ofNat en))), .val (.int (((((own_dotI (nar .char c5) (0 : Int32) (Int32.ofNat f) (Int32.ofNat en)) + (own_dotI (nar .char c9) (1 : Int32) (Int32.ofNat f) (Int32.ofNat en))) + (own_dotI (nar .char c13) (2 : Int32) (Int32.ofNat f) (Int32.ofNat en))) + (own_dotI (nar .char c17) (3 : Int32) (Int32.ofNat f) (Int32.ofNat en))) + (own_dotI (nar .char c21) (4 : Int32) (Int32.ofNat f) (Int32.ofNat en)))), .val (.int ((((own_dotI (nar .char c9) (1 : Int32) (Int32.ofNat f) (Int32.ofNat en)) + ((2 : Int32) * (own_dotI (nar .char c13) (2 : Int32) (Int32.ofNat f) (Int32.ofNat en)))) + ((3 : Int32) * (own_dotI (nar .char c17) (3 : Int32) (Int32.ofNat f) (Int32.ofNat en)))) + ((4 : Int32) * (own_dotI (nar .char c21) (4 : Int32) (Int32.ofNat f) (Int32.ofNat en))))), .unset] [(.int (((((own_dotI (nar .char c5) (0 : Int32) (Int32.ofNat f) (Int32.ofNat en)) + (own_dotI (nar .char c9) (1 : Int32) (Int32.ofNat f) (Int32.ofNat en))) + (own_dotI (nar .char c13) (2 : Int32) (Int32.ofNat f) (Int32.ofNat en))) + (own_dotI (nar .char c17) (3 : Int32) (Int32.ofNat f) (Int32.ofNat en))) + (own_dotI (nar .char c21) (4 : Int32) (Int32.ofNat f) (Int32.ofNat en))))])) tg → Steps p.tables e below (T58.setTop (mkF m 314 #[.val (.long i0), .second, .val (.int i1), .val (.int i2), .val (.int i3), .val (.ref b2), .val (.ref b24), .val (.int (Int32.ofNat en)), .val (.int x8_33), .val (.int (Int32.ofNat f)), .val (.int x10), .val (.int (own_dotI (nar .char c5) (0 : Int32) (Int32.ofNat f) (Int32.ofNat en))), .val (.int (own_dotI (nar .char c9) (1 : Int32) (Int32.ofNat f) (Int32.ofNat en))), .val (.int (own_dotI (nar .char c13) (2 : Int32) (Int32.ofNat f) (Int32.ofNat en))), .val (.int (own_dotI (nar .char c17) (3 : Int32) (Int32.ofNat f) (Int32.ofNat en))), .val (.int (own_dotI (nar .char c21) (4 : Int32) (Int32.ofNat f) (Int32.ofNat en))), .val (.int (((((own_dotI (nar .char c5) (0 : Int32) (Int32.ofNat f) (Int32.ofNat en)) + (own_dotI (nar .char c9) (1 : Int32) (Int32.ofNat f) (Int32.ofNat en))) + (own_dotI (nar .char c13) (2 : Int32) (Int32.ofNat f) (Int32.ofNat en))) + (own_dotI (nar .char c17) (3 : Int32) (Int32.ofNat f) (Int32.ofNat en))) + (own_dotI (nar .char c21) (4 : Int32) (Int32.ofNat f) (Int32.ofNat en)))), .val (.int ((((own_dotI (nar .char c9) (1 : Int32) (Int32.ofNat f) (Int32.ofNat en)) + ((2 : Int32) * (own_dotI (nar .char c13) (2 : Int32) (Int32.ofNat f) (Int32.ofNat en)))) + ((3 : Int32) * (own_dotI (nar .char c17) (3 : Int32) (Int32.ofNat f) (Int32.ofNat en)))) + ((4 : Int32) * (own_dotI (nar .char c21) (4 : Int32) (Int32.ofNat f) (Int32.ofNat en))))), .unset] [(.int (1 : Int32)), (.int ((Int32.ofNat en) - (Int32.ofNat f)))])) tg := fun tg kg => by
              refine XS.icmpNo X58.here hx rfl (hb hby at_314) rfl (flt hc68).1 ?_
              show Steps p.tables e below (T58.setTop (mkF m 317 #[.val (.long i0), .second, .val (.int i1), .val (.int i2), .val (.int i3), .val (.ref b2), .val (.ref b24), .val (.int (Int32.ofNat en)), .val (.int x8_33), .val (.int (Int32.ofNat f)), .val (.int x10), .val (.int (own_dotI (nar .char c5) (0 : Int32) (Int32.ofNat f) (Int32.ofNat en))), .val (.int (own_dotI (nar .char c9) (1 : Int32) (Int32.ofNat f) (Int32.ofNat en))), .val (.int (own_dotI (nar .char c13) (2 : Int32) (Int32.ofNat f) (Int32.ofNat en))), .val (.int (own_dotI (nar .char c17) (3 : Int32) (Int32.ofNat f) (Int32.ofNat en))), .val (.int (own_dotI (nar .char c21) (4 : Int32) (Int32.ofNat f) (Int32.ofNat en))), .val (.int (((((own_dotI (nar .char c5) (0 : Int32) (Int32.ofNat f) (Int32.ofNat en)) + (own_dotI (nar .char c9) (1 : Int32) (Int32.ofNat f) (Int32.ofNat en))) + (own_dotI (nar .char c13) (2 : Int32) (Int32.ofNat f) (Int32.ofNat en))) + (own_dotI (nar .char c17) (3 : Int32) (Int32.ofNat f) (Int32.ofNat en))) + (own_dotI (nar .char c21) (4 : Int32) (Int32.ofNat f) (Int32.ofNat en)))), .val (.int ((((own_dotI (nar .char c9) (1 : Int32) (Int32.ofNat f) (Int32.ofNat en)) + ((2 : Int32) * (own_dotI (nar .char c13) (2 : Int32) (Int32.ofNat f) (Int32.ofNat en)))) + ((3 : Int32) * (own_dotI (nar .char c17) (3 : Int32) (Int32.ofNat f) (Int32.ofNat en)))) + ((4 : Int32) * (own_dotI (nar .char c21) (4 : Int32) (Int32.ofNat f) (Int32.ofNat en))))), .unset] [])) tg
              refine XS.iload X58.here hx rfl (hb hby at_317) rfl ?_
              show Steps p.tables e below (T58.setTop (mkF m 319 #[.val (.long i0), .second, .val (.int i1), .val (.int i2), .val (.int i3), .val (.ref b2), .val (.ref b24), .val (.int (Int32.ofNat en)), .val (.int x8_33), .val (.int (Int32.ofNat f)), .val (.int x10), .val (.int (own_dotI (nar .char c5) (0 : Int32) (Int32.ofNat f) (Int32.ofNat en))), .val (.int (own_dotI (nar .char c9) (1 : Int32) (Int32.ofNat f) (Int32.ofNat en))), .val (.int (own_dotI (nar .char c13) (2 : Int32) (Int32.ofNat f) (Int32.ofNat en))), .val (.int (own_dotI (nar .char c17) (3 : Int32) (Int32.ofNat f) (Int32.ofNat en))), .val (.int (own_dotI (nar .char c21) (4 : Int32) (Int32.ofNat f) (Int32.ofNat en))), .val (.int (((((own_dotI (nar .char c5) (0 : Int32) (Int32.ofNat f) (Int32.ofNat en)) + (own_dotI (nar .char c9) (1 : Int32) (Int32.ofNat f) (Int32.ofNat en))) + (own_dotI (nar .char c13) (2 : Int32) (Int32.ofNat f) (Int32.ofNat en))) + (own_dotI (nar .char c17) (3 : Int32) (Int32.ofNat f) (Int32.ofNat en))) + (own_dotI (nar .char c21) (4 : Int32) (Int32.ofNat f) (Int32.ofNat en)))), .val (.int ((((own_dotI (nar .char c9) (1 : Int32) (Int32.ofNat f) (Int32.ofNat en)) + ((2 : Int32) * (own_dotI (nar .char c13) (2 : Int32) (Int32.ofNat f) (Int32.ofNat en)))) + ((3 : Int32) * (own_dotI (nar .char c17) (3 : Int32) (Int32.ofNat f) (Int32.ofNat en)))) + ((4 : Int32) * (own_dotI (nar .char c21) (4 : Int32) (Int32.ofNat f) (Int32.ofNat en))))), .unset] [(.int (((((own_dotI (nar .char c5) (0 : Int32) (Int32.ofNat f) (Int32.ofNat en)) + (own_dotI (nar .char c9) (1 : Int32) (Int32.ofNat f) (Int32.ofNat en))) + (own_dotI (nar .char c13) (2 : Int32) (Int32.ofNat f) (Int32.ofNat en))) + (own_dotI (nar .char c17) (3 : Int32) (Int32.ofNat f) (Int32.ofNat en))) + (own_dotI (nar .char c21) (4 : Int32) (Int32.ofNat f) (Int32.ofNat en))))])) tg
              exact kg
            refine gs c70 ?_
            by_cases hc71 : (((((own_dotI (nar .char c5) (0 : Int32) (Int32.ofNat f) (Int32.ofNat en)) + (own_dotI (nar .char c9) (1 : Int32) (Int32.ofNat f) (Int32.ofNat en))) + (own_dotI (nar .char c13) (2 : Int32) (Int32.ofNat f) (Int32.ofNat en))) + (own_dotI (nar .char c17) (3 : Int32) (Int32.ofNat f) (Int32.ofNat en))) + (own_dotI (nar .char c21) (4 : Int32) (Int32.ofNat f) (Int32.ofNat en))) = (0 : Int32)
            · have c72 : ∀ tg, Steps p.tables e below (T58.setTop (mkF m 361 #[.val (.long i0), .second, .val (.int i1), .val (.int i2), .val (.int i3), .val (.ref b2), .val (.ref b24), .val (.int (Int32.ofNat en)), .val (.int x8_33), .val (.int (Int32.ofNat f)), .val (.int x10), .val (.int (own_dotI (nar .char c5) (0 : Int32) (Int32.ofNat f) (Int32.ofNat en))), .val (.int (own_dotI (nar .char c9) (1 : Int32) (Int32.ofNat f) (Int32.ofNat en))), .val (.int (own_dotI (nar .char c13) (2 : Int32) (Int32.ofNat f) (Int32.ofNat en))), .val (.int (own_dotI (nar .char c17) (3 : Int32) (Int32.ofNat f) (Int32.ofNat en))), .val (.int (own_dotI (nar .char c21) (4 : Int32) (Int32.ofNat f) (Int32.ofNat en))), .val (.int (((((own_dotI (nar .char c5) (0 : Int32) (Int32.ofNat f) (Int32.ofNat en)) + (own_dotI (nar .char c9) (1 : Int32) (Int32.ofNat f) (Int32.ofNat en))) + (own_dotI (nar .char c13) (2 : Int32) (Int32.ofNat f) (Int32.ofNat en))) + (own_dotI (nar .char c17) (3 : Int32) (Int32.ofNat f) (Int32.ofNat en))) + (own_dotI (nar .char c21) (4 : Int32) (Int32.ofNat f) (Int32.ofNat en)))), .val (.int ((((own_dotI (nar .char c9) (1 : Int32) (Int32.ofNat f) (Int32.ofNat en)) + ((2 : Int32) * (own_dotI (nar .char c13) (2 : Int32) (Int32.ofNat f) (Int32.ofNat en)))) + ((3 : Int32) * (own_dotI (nar .char c17) (3 : Int32) (Int32.ofNat f) (Int32.ofNat en)))) + ((4 : Int32) * (own_dotI (nar .char c21) (4 : Int32) (Int32.ofNat f) (Int32.ofNat en))))), .unset] [(.int (1 : Int32))])) tg → Steps p.tables e below (T58.setTop (mkF m 319 #[.val (.long i0), .second, .val (.int i1), .val (.int i2), .val (.int i3), .val (.ref b2), .val (.ref b24), .val (.int (Int32.ofNat en)), .val (.int x8_33), .val (.int (Int32.ofNat f)), .val (.int x10), .val (.int (own_dotI (nar .char c5) (0 : Int32) (Int32.ofNat f) (Int32.ofNat en))), .val (.int (own_dotI (nar .char c9) (1 : Int32) (Int32.ofNat f) (Int32.ofNat en))), .val (.int (own_dotI (nar .char c13) (2 : Int32) (Int32.ofNat f) (Int32.ofNat en))), .val (.int (own_dotI (nar .char c17) (3 : Int32) (Int32.ofNat f) (Int32.ofNat en))), .val (.int (own_dotI (nar .char c21) (4 : Int32) (Int32.ofNat f) (Int32.ofNat en))), .val (.int (((((own_dotI (nar .char c5) (0 : Int32) (Int32.ofNat f) (Int32.ofNat en)) + (own_dotI (nar .char c9) (1 : Int32) (Int32.ofNat f) (Int32.ofNat en))) + (own_dotI (nar .char c13) (2 : Int32) (Int32.ofNat f) (Int32.ofNat en))) + (own_dotI (nar .char c17) (3 : Int32) (Int32.ofNat f) (Int32.ofNat en))) + (own_dotI (nar .char c21) (4 : Int32) (Int32.ofNat f) (Int32.ofNat en)))), .val (.int ((((own_dotI (nar .char c9) (1 : Int32) (Int32.ofNat f) (Int32.ofNat en)) + ((2 : Int32) * (own_dotI (nar .char c13) (2 : Int32) (Int32.ofNat f) (Int32.ofNat en)))) + ((3 : Int32) * (own_dotI (nar .char c17) (3 : Int32) (Int32.ofNat f) (Int32.ofNat en)))) + ((4 : Int32) * (own_dotI (nar .char c21) (4 : Int32) (Int32.ofNat f) (Int32.ofNat en))))), .unset] [(.int (((((own_dotI (nar .char c5) (0 : Int32) (Int32.ofNat f) (Int32.ofNat en)) + (own_dotI (nar .char c9) (1 : Int32) (Int32.ofNat f) (Int32.ofNat en))) + (own_dotI (nar .char c13) (2 : Int32) (Int32.ofNat f) (Int32.ofNat en))) + (own_dotI (nar .char c17) (3 : Int32) (Int32.ofNat f) (Int32.ofNat en))) + (own_dotI (nar .char c21) (4 : Int32) (Int32.ofNat f) (Int32.ofNat en))))])) tg := fun tg kg => by
                refine XS.ifYes X58.here hx rfl (pc0 := 319) (pc' := 356) rfl (hb hby at_319) rfl ((if0 _ _).trans (teq hc71).1) (by decide) (by decide) ?_
                show Steps p.tables e below (T58.setTop (mkF m 356 #[.val (.long i0), .second, .val (.int i1), .val (.int i2), .val (.int i3), .val (.ref b2), .val (.ref b24), .val (.int (Int32.ofNat en)), .val (.int x8_33), .val (.int (Int32.ofNat f)), .val (.int x10), .val (.int (own_dotI (nar .char c5) (0 : Int32) (Int32.ofNat f) (Int32.ofNat en))), .val (.int (own_dotI (nar .char c9) (1 : Int32) (Int32.ofNat f) (Int32.ofNat en))), .val (.int (own_dotI (nar .char c13) (2 : Int32) (Int32.ofNat f) (Int32.ofNat en))), .val (.int (own_dotI (nar .char c17) (3 : Int32) (Int32.ofNat f) (Int32.ofNat en))), .val (.int (own_dotI (nar .char c21) (4 : Int32) (Int32.ofNat f) (Int32.ofNat en))), .val (.int (((((own_dotI (nar .char c5) (0 : Int32) (Int32.ofNat f) (Int32.ofNat en)) + (own_dotI (nar .char c9) (1 : Int32) (Int32.ofNat f) (Int32.ofNat en))) + (own_dotI (nar .char c13) (2 : Int32) (Int32.ofNat f) (Int32.ofNat en))) + (own_dotI (nar .char c17) (3 : Int32) (Int32.ofNat f) (Int32.ofNat en))) + (own_dotI (nar .char c21) (4 : Int32) (Int32.ofNat f) (Int32.ofNat en)))), .val (.int ((((own_dotI (nar .char c9) (1 : Int32) (Int32.ofNat f) (Int32.ofNat en)) + ((2 : Int32) * (own_dotI (nar .char c13) (2 : Int32) (Int32.ofNat f) (Int32.ofNat en)))) + ((3 : Int32) * (own_dotI (nar .char c17) (3 : Int32) (Int32.ofNat f) (Int32.ofNat en)))) + ((4 : Int32) * (own_dotI (nar .char c21) (4 : Int32) (Int32.ofNat f) (Int32.ofNat en))))), .unset] [])) tg
                refine XS.iconst X58.here hx rfl (hb hby at_356) ?_
                show Steps p.tables e below (T58.setTop (mkF m 357 #[.val (.long i0), .second, .val (.int i1), .val (.int i2), .val (.int i3), .val (.ref b2), .val (.ref b24), .val (.int (Int32.ofNat en)), .val (.int x8_33), .val (.int (Int32.ofNat f)), .val (.int x10), .val (.int (own_dotI (nar .char c5) (0 : Int32) (Int32.ofNat f) (Int32.ofNat en))), .val (.int (own_dotI (nar .char c9) (1 : Int32) (Int32.ofNat f) (Int32.ofNat en))), .val (.int (own_dotI (nar .char c13) (2 : Int32) (Int32.ofNat f) (Int32.ofNat en))), .val (.int (own_dotI (nar .char c17) (3 : Int32) (Int32.ofNat f) (Int32.ofNat en))), .val (.int (own_dotI (nar .char c21) (4 : Int32) (Int32.ofNat f) (Int32.ofNat en))), .val (.int (((((own_dotI (nar .char c5) (0 : Int32) (Int32.ofNat f) (Int32.ofNat en)) + (own_dotI (nar .char c9) (1 : Int32) (Int32.ofNat f) (Int32.ofNat en))) + (own_dotI (nar .char c13) (2 : Int32) (Int32.ofNat f) (Int32.ofNat en))) + (own_dotI (nar .char c17) (3 : Int32) (Int32.ofNat f) (Int32.ofNat en))) + (own_dotI (nar .char c21) (4 : Int32) (Int32.ofNat f) (Int32.ofNat en)))), .val (.int ((((own_dotI (nar .char c9) (1 : Int32) (Int32.ofNat f) (Int32.ofNat en)) + ((2 : Int32) * (own_dotI (nar .char c13) (2 : Int32) (Int32.ofNat f) (Int32.ofNat en)))) + ((3 : Int32) * (own_dotI (nar .char c17) (3 : Int32) (Int32.ofNat f) (Int32.ofNat en)))) + ((4 : Int32) * (own_dotI (nar .char c21) (4 : Int32) (Int32.ofNat f) (Int32.ofNat en))))), .unset] [(.int (1 : Int32))])) tg
                refine XS.goto X58.here hx rfl (pc0 := 357) (pc' := 361) rfl (hb hby at_357) (by decide) (by decide) ?_
                show Steps p.tables e below (T58.setTop (mkF m 361 #[.val (.long i0), .second, .val (.int i1), .val (.int i2), .val (.int i3), .val (.ref b2), .val (.ref b24), .val (.int (Int32.ofNat en)), .val (.int x8_33), .val (.int (Int32.ofNat f)), .val (.int x10), .val (.int (own_dotI (nar .char c5) (0 : Int32) (Int32.ofNat f) (Int32.ofNat en))), .val (.int (own_dotI (nar .char c9) (1 : Int32) (Int32.ofNat f) (Int32.ofNat en))), .val (.int (own_dotI (nar .char c13) (2 : Int32) (Int32.ofNat f) (Int32.ofNat en))), .val (.int (own_dotI (nar .char c17) (3 : Int32) (Int32.ofNat f) (Int32.ofNat en))), .val (.int (own_dotI (nar .char c21) (4 : Int32) (Int32.ofNat f) (Int32.ofNat en))), .val (.int (((((own_dotI (nar .char c5) (0 : Int32) (Int32.ofNat f) (Int32.ofNat en)) + (own_dotI (nar .char c9) (1 : Int32) (Int32.ofNat f) (Int32.ofNat en))) + (own_dotI (nar .char c13) (2 : Int32) (Int32.ofNat f) (Int32.ofNat en))) + (own_dotI (nar .char c17) (3 : Int32) (Int32.ofNat f) (Int32.ofNat en))) + (own_dotI (nar .char c21) (4 : Int32) (Int32.ofNat f) (Int32.ofNat en)))), .val (.int ((((own_dotI (nar .char c9) (1 : Int32) (Int32.ofNat f) (Int32.ofNat en)) + ((2 : Int32) * (own_dotI (nar .char c13) (2 : Int32) (Int32.ofNat f) (Int32.ofNat en)))) + ((3 : Int32) * (own_dotI (nar .char c17) (3 : Int32) (Int32.ofNat f) (Int32.ofNat en)))) + ((4 : Int32) * (own_dotI (nar .char c21) (4 : Int32) (Int32.ofNat f) (Int32.ofNat en))))), .unset] [(.int (1 : Int32))])) tg
                exact kg
              refine gs c72 ?_
              exact mid60 (1 : Int32) T58 _ (Or.inl ⟨rfl, hc65, hc68, Or.inl hc71⟩) X58 e58q N58
            · have c73 : ∀ tg, Steps p.tables e below (T58.setTop (mkF m 325 #[.val (.long i0), .second, .val (.int i1), .val (.int i2), .val (.int i3), .val (.ref b2), .val (.ref b24), .val (.int (Int32.ofNat en)), .val (.int x8_33), .val (.int (Int32.ofNat f)), .val (.int x10), .val (.int (own_dotI (nar .char c5) (0 : Int32) (Int32.ofNat f) (Int32.ofNat en))), .val (.int (own_dotI (nar .char c9) (1 : Int32) (Int32.ofNat f) (Int32.ofNat en))), .val (.int (own_dotI (nar .char c13) (2 : Int32) (Int32.ofNat f) (Int32.ofNat en))), .val (.int (own_dotI (nar .char c17) (3 : Int32) (Int32.ofNat f) (Int32.ofNat en))), .val (.int (own_dotI (nar .char c21) (4 : Int32) (Int32.ofNat f) (Int32.ofNat en))), .val (.int (((((own_dotI (nar .char c5) (0 : Int32) (Int32.ofNat f) (Int32.ofNat en)) + (own_dotI (nar .char c9) (1 : Int32) (Int32.ofNat f) (Int32.ofNat en))) + (own_dotI (nar .char c13) (2 : Int32) (Int32.ofNat f) (Int32.ofNat en))) + (own_dotI (nar .char c17) (3 : Int32) (Int32.ofNat f) (Int32.ofNat en))) + (own_dotI (nar .char c21) (4 : Int32) (Int32.ofNat f) (Int32.ofNat en)))), .val (.int ((((own_dotI (nar .char c9) (1 : Int32) (Int32.ofNat f) (Int32.ofNat en)) + ((2 : Int32) * (own_dotI (nar .char c13) (2 : Int32) (Int32.ofNat f) (Int32.ofNat en)))) + ((3 : Int32) * (own_dotI (nar .char c17) (3 : Int32) (Int32.ofNat f) (Int32.ofNat en)))) + ((4 : Int32) * (own_dotI (nar .char c21) (4 : Int32) (Int32.ofNat f) (Int32.ofNat en))))), .unset] [(.int (1 : Int32)), (.int (((((own_dotI (nar .char c5) (0 : Int32) (Int32.ofNat f) (Int32.ofNat en)) + (own_dotI (nar .char c9) (1 : Int32) (Int32.ofNat f) (Int32.ofNat en))) + (own_dotI (nar .char c13) (2 : Int32) (Int32.ofNat f) (Int32.ofNat en))) + (own_dotI (nar .char c17) (3 : Int32) (Int32.ofNat f) (Int32.ofNat en))) + (own_dotI (nar .char c21) (4 : Int32) (Int32.ofNat f) (Int32.ofNat en))))])) tg → Steps p.tables e below (T58.setTop (mkF m 319 #[.val (.long i0), .second, .val (.int i1), .val (.int i2), .val (.int i3), .val (.ref b2), .val (.ref b24), .val (.int (Int32.ofNat en)), .val (.int x8_33), .val (.int (Int32.ofNat f)), .val (.int x10), .val (.int (own_dotI (nar .char c5) (0 : Int32) (Int32.ofNat f) (Int32.ofNat en))), .val (.int (own_dotI (nar .char c9) (1 : Int32) (Int32.ofNat f) (Int32.ofNat en))), .val (.int (own_dotI (nar .char c13) (2 : Int32) (Int32.ofNat f) (Int32.ofNat en))), .val (.int (own_dotI (nar .char c17) (3 : Int32) (Int32.ofNat f) (Int32.ofNat en))), .val (.int (own_dotI (nar .char c21) (4 : Int32) (Int32.ofNat f) (Int32.ofNat en))), .val (.int (((((own_dotI (nar .char c5) (0 : Int32) (Int32.ofNat f) (Int32.ofNat en)) + (own_dotI (nar .char c9) (1 : Int32) (Int32.ofNat f) (Int32.ofNat en))) + (own_dotI (nar .char c13) (2 : Int32) (Int32.ofNat f) (Int32.ofNat en))) + (own_dotI (nar .char c17) (3 : Int32) (Int32.ofNat f) (Int32.ofNat en))) + (own_dotI (nar .char c21) (4 : Int32) (Int32.ofNat f) (Int32.ofNat en)))), .val (.int ((((own_dotI (nar .char c9) (1 : Int32) (Int32.ofNat f) (Int32.ofNat en)) + ((2 : Int32) * (own_dotI (nar .char c13) (2 : Int32) (Int32.ofNat f) (Int32.ofNat en)))) + ((3 : Int32) * (own_dotI (nar .char c17) (3 : Int32) (Int32.ofNat f) (Int32.ofNat en)))) + ((4 : Int32) * (own_dotI (nar .char c21) (4 : Int32) (Int32.ofNat f) (Int32.ofNat en))))), .unset] [(.int (((((own_dotI (nar .char c5) (0 : Int32) (Int32.ofNat f) (Int32.ofNat en)) + (own_dotI (nar .char c9) (1 : Int32) (Int32.ofNat f) (Int32.ofNat en))) + (own_dotI (nar .char c13) (2 : Int32) (Int32.ofNat f) (Int32.ofNat en))) + (own_dotI (nar .char c17) (3 : Int32) (Int32.ofNat f) (Int32.ofNat en))) + (own_dotI (nar .char c21) (4 : Int32) (Int32.ofNat f) (Int32.ofNat en))))])) tg := fun tg kg => by
                refine XS.ifNo X58.here hx rfl (hb hby at_319) rfl ((if0 _ _).trans (feq hc71).1) ?_
                show Steps p.tables e below (T58.setTop (mkF m 322 #[.val (.long i0), .second, .val (.int i1), .val (.int i2), .val (.int i3), .val (.ref b2), .val (.ref b24), .val (.int (Int32.ofNat en)), .val (.int x8_33), .val (.int (Int32.ofNat f)), .val (.int x10), .val (.int (own_dotI (nar .char c5) (0 : Int32) (Int32.ofNat f) (Int32.ofNat en))), .val (.int (own_dotI (nar .char c9) (1 : Int32) (Int32.ofNat f) (Int32.ofNat en))), .val (.int (own_dotI (nar .char c13) (2 : Int32) (Int32.ofNat f) (Int32.ofNat en))), .val (.int (own_dotI (nar .char c17) (3 : Int32) (Int32.ofNat f) (Int32.ofNat en))), .val (.int (own_dotI (nar .char c21) (4 : Int32) (Int32.ofNat f) (Int32.ofNat en))), .val (.int (((((own_dotI (nar .char c5) (0 : Int32) (Int32.ofNat f) (Int32.ofNat en)) + (own_dotI (nar .char c9) (1 : Int32) (Int32.ofNat f) (Int32.ofNat en))) + (own_dotI (nar .char c13) (2 : Int32) (Int32.ofNat f) (Int32.ofNat en))) + (own_dotI (nar .char c17) (3 : Int32) (Int32.ofNat f) (Int32.ofNat en))) + (own_dotI (nar .char c21) (4 : Int32) (Int32.ofNat f) (Int32.ofNat en)))), .val (.int ((((own_dotI (nar .char c9) (1 : Int32) (Int32.ofNat f) (Int32.ofNat en)) + ((2 : Int32) * (own_dotI (nar .char c13) (2 : Int32) (Int32.ofNat f) (Int32.ofNat en)))) + ((3 : Int32) * (own_dotI (nar .char c17) (3 : Int32) (Int32.ofNat f) (Int32.ofNat en)))) + ((4 : Int32) * (own_dotI (nar .char c21) (4 : Int32) (Int32.ofNat f) (Int32.ofNat en))))), .unset] [])) tg
                refine XS.iload X58.here hx rfl (hb hby at_322) rfl ?_
                show Steps p.tables e below (T58.setTop (mkF m 324 #[.val (.long i0), .second, .val (.int i1), .val (.int i2), .val (.int i3), .val (.ref b2), .val (.ref b24), .val (.int (Int32.ofNat en)), .val (.int x8_33), .val (.int (Int32.ofNat f)), .val (.int x10), .val (.int (own_dotI (nar .char c5) (0 : Int32) (Int32.ofNat f) (Int32.ofNat en))), .val (.int (own_dotI (nar .char c9) (1 : Int32) (Int32.ofNat f) (Int32.ofNat en))), .val (.int (own_dotI (nar .char c13) (2 : Int32) (Int32.ofNat f) (Int32.ofNat en))), .val (.int (own_dotI (nar .char c17) (3 : Int32) (Int32.ofNat f) (Int32.ofNat en))), .val (.int (own_dotI (nar .char c21) (4 : Int32) (Int32.ofNat f) (Int32.ofNat en))), .val (.int (((((own_dotI (nar .char c5) (0 : Int32) (Int32.ofNat f) (Int32.ofNat en)) + (own_dotI (nar .char c9) (1 : Int32) (Int32.ofNat f) (Int32.ofNat en))) + (own_dotI (nar .char c13) (2 : Int32) (Int32.ofNat f) (Int32.ofNat en))) + (own_dotI (nar .char c17) (3 : Int32) (Int32.ofNat f) (Int32.ofNat en))) + (own_dotI (nar .char c21) (4 : Int32) (Int32.ofNat f) (Int32.ofNat en)))), .val (.int ((((own_dotI (nar .char c9) (1 : Int32) (Int32.ofNat f) (Int32.ofNat en)) + ((2 : Int32) * (own_dotI (nar .char c13) (2 : Int32) (Int32.ofNat f) (Int32.ofNat en)))) + ((3 : Int32) * (own_dotI (nar .char c17) (3 : Int32) (Int32.ofNat f) (Int32.ofNat en)))) + ((4 : Int32) * (own_dotI (nar .char c21) (4 : Int32) (Int32.ofNat f) (Int32.ofNat en))))), .unset] [(.int (((((own_dotI (nar .char c5) (0 : Int32) (Int32.ofNat f) (Int32.ofNat en)) + (own_dotI (nar .char c9) (1 : Int32) (Int32.ofNat f) (Int32.ofNat en))) + (own_dotI (nar .char c13) (2 : Int32) (Int32.ofNat f) (Int32.ofNat en))) + (own_dotI (nar .char c17) (3 : Int32) (Int32.ofNat f) (Int32.ofNat en))) + (own_dotI (nar .char c21) (4 : Int32) (Int32.ofNat f) (Int32.ofNat en))))])) tg
                refine XS.iconst X58.here hx rfl (hb hby at_324) ?_
                show Steps p.tables e below (T58.setTop (mkF m 325 #[.val (.long i0), .second, .val (.int i1), .val (.int i2), .val (.int i3), .val (.ref b2), .val (.ref b24), .val (.int (Int32.ofNat en)), .val (.int x8_33), .val (.int (Int32.ofNat f)), .val (.int x10), .val (.int (own_dotI (nar .char c5) (0 : Int32) (Int32.ofNat f) (Int32.ofNat en))), .val (.int (own_dotI (nar .char c9) (1 : Int32) (Int32.ofNat f) (Int32.ofNat en))), .val (.int (own_dotI (nar .char c13) (2 : Int32) (Int32.ofNat f) (Int32.ofNat en))), .val (.int (own_dotI (nar .char c17) (3 : Int32) (Int32.ofNat f) (Int32.ofNat en))), .val (.int (own_dotI (nar .char c21) (4 : Int32) (Int32.ofNat f) (Int32.ofNat en))), .val (.int (((((own_dotI (nar .char c5) (0 : Int32) (Int32.ofNat f) (Int32.ofNat en)) + (own_dotI (nar .char c9) (1 : Int32) (Int32.ofNat f) (Int32.ofNat en))) + (own_dotI (nar .char c13) (2 : Int32) (Int32.ofNat f) (Int32.ofNat en))) + (own_dotI (nar .char c17) (3 : Int32) (Int32.ofNat f) (Int32.ofNat en))) + (own_dotI (nar .char c21) (4 : Int32) (Int32.ofNat f) (Int32.ofNat en)))), .val (.int ((((own_dotI (nar .char c9) (1 : Int32) (Int32.ofNat f) (Int32.ofNat en)) + ((2 : Int32) * (own_dotI (nar .char c13) (2 : Int32) (Int32.ofNat f) (Int32.ofNat en)))) + ((3 : Int32) * (own_dotI (nar .char c17) (3 : Int32) (Int32.ofNat f) (Int32.ofNat en)))) + ((4 : Int32) * (own_dotI (nar .char c21) (4 : Int32) (Int32.ofNat f) (Int32.ofNat en))))), .unset] [(.int (1 : Int32)), (.int (((((own_dotI (nar .char c5) (0 : Int32) (Int32.ofNat f) (Int32.ofNat en)) + (own_dotI (nar .char c9) (1 : Int32) (Int32.ofNat f) (Int32.ofNat en))) + (own_dotI (nar .char c13) (2 : Int32) (Int32.ofNat f) (Int32.ofNat en))) + (own_dotI (nar .char c17) (3 : Int32) (Int32.ofNat f) (Int32.ofNat en))) + (own_dotI (nar .char c21) (4 : Int32) (Int32.ofNat f) (Int32.ofNat en))))])) tg
                exact kg
              refine gs c73 ?_
              by_cases hc74 : (((((own_dotI (nar .char c5) (0 : Int32) (Int32.ofNat f) (Int32.ofNat en)) + (own_dotI (nar .char c9) (1 : Int32) (Int32.ofNat f) (Int32.ofNat en))) + (own_dotI (nar .char c13) (2 : Int32) (Int32.ofNat f) (Int32.ofNat en))) + (own_dotI (nar .char c17) (3 : Int32) (Int32.ofNat f) (Int32.ofNat en))) + (own_dotI (nar .char c21) (4 : Int32) (Int32.ofNat f) (Int32.ofNat en))) = (1 : Int32)
              · have c75 : ∀ tg, Steps p.tables e below (T58.setTop (mkF m 332 #[.val (.long i0), .second, .val (.int i1), .val (.int i2), .val (.int i3), .val (.ref b2), .val (.ref b24), .val (.int (Int32.ofNat en)), .val (.int x8_33), .val (.int (Int32.ofNat f)), .val (.int x10), .val (.int (own_dotI (nar .char c5) (0 : Int32) (Int32.ofNat f) (Int32.ofNat en))), .val (.int (own_dotI (nar .char c9) (1 : Int32) (Int32.ofNat f) (Int32.ofNat en))), .val (.int (own_dotI (nar .char c13) (2 : Int32) (Int32.ofNat f) (Int32.ofNat en))), .val (.int (own_dotI (nar .char c17) (3 : Int32) (Int32.ofNat f) (Int32.ofNat en))), .val (.int (own_dotI (nar .char c21) (4 : Int32) (Int32.ofNat f) (Int32.ofNat en))), .val (.int (((((own_dotI (nar .char c5) (0 : Int32) (Int32.ofNat f) (Int32.ofNat en)) + (own_dotI (nar .char c9) (1 : Int32) (Int32.ofNat f) (Int32.ofNat en))) + (own_dotI (nar .char c13) (2 : Int32) (Int32.ofNat f) (Int32.ofNat en))) + (own_dotI (nar .char c17) (3 : Int32) (Int32.ofNat f) (Int32.ofNat en))) + (own_dotI (nar .char c21) (4 : Int32) (Int32.ofNat f) (Int32.ofNat en)))), .val (.int ((((own_dotI (nar .char c9) (1 : Int32) (Int32.ofNat f) (Int32.ofNat en)) + ((2 : Int32) * (own_dotI (nar .char c13) (2 : Int32) (Int32.ofNat f) (Int32.ofNat en)))) + ((3 : Int32) * (own_dotI (nar .char c17) (3 : Int32) (Int32.ofNat f) (Int32.ofNat en)))) + ((4 : Int32) * (own_dotI (nar .char c21) (4 : Int32) (Int32.ofNat f) (Int32.ofNat en))))), .unset] [(.int (Int32.ofNat f)), (.int ((((own_dotI (nar .char c9) (1 : Int32) (Int32.ofNat f) (Int32.ofNat en)) + ((2 : Int32) * (own_dotI (nar .char c13) (2 : Int32) (Int32.ofNat f) (Int32.ofNat en)))) + ((3 : Int32) * (own_dotI (nar .char c17) (3 : Int32) (Int32.ofNat f) (Int32.ofNat en)))) + ((4 : Int32) * (own_dotI (nar .char c21) (4 : Int32) (Int32.ofNat f) (Int32.ofNat en)))))])) tg → Steps p.tables e below (T58.setTop (mkF m 325 #[.val (.long i0), .second, .val (.int i1), .val (.int i2), .val (.int i3), .val (.ref b2), .val (.ref b24), .val (.int (Int32.ofNat en)), .val (.int x8_33), .val (.int (Int32.ofNat f)), .val (.int x10), .val (.int (own_dotI (nar .char c5) (0 : Int32) (Int32.ofNat f) (Int32.ofNat en))), .val (.int (own_dotI (nar .char c9) (1 : Int32) (Int32.ofNat f) (Int32.ofNat en))), .val (.int (own_dotI (nar .char c13) (2 : Int32) (Int32.ofNat f) (Int32.ofNat en))), .val (.int (own_dotI (nar .char c17) (3 : Int32) (Int32.ofNat f) (Int32.ofNat en))), .val (.int (own_dotI (nar .char c21) (4 : Int32) (Int32.ofNat f) (Int32.ofNat en))), .val (.int (((((own_dotI (nar .char c5) (0 : Int32) (Int32.ofNat f) (Int32.ofNat en)) + (own_dotI (nar .char c9) (1 : Int32) (Int32.ofNat f) (Int32.ofNat en))) + (own_dotI (nar .char c13) (2 : Int32) (Int32.ofNat f) (Int32.ofNat en))) + (own_dotI (nar .char c17) (3 : Int32) (Int32.ofNat f) (Int32.ofNat en))) + (own_dotI (nar .char c21) (4 : Int32) (Int32.ofNat f) (Int32.ofNat en)))), .val (.int ((((own_dotI (nar .char c9) (1 : Int32) (Int32.ofNat f) (Int32.ofNat en)) + ((2 : Int32) * (own_dotI (nar .char c13) (2 : Int32) (Int32.ofNat f) (Int32.ofNat en)))) + ((3 : Int32) * (own_dotI (nar .char c17) (3 : Int32) (Int32.ofNat f) (Int32.ofNat en)))) + ((4 : Int32) * (own_dotI (nar .char c21) (4 : Int32) (Int32.ofNat f) (Int32.ofNat en))))), .unset] [(.int (1 : Int32)), (.int (((((own_dotI (nar .char c5) (0 : Int32) (Int32.ofNat f) (Int32.ofNat en)) + (own_dotI (nar .char c9) (1 : Int32) (Int32.ofNat f) (Int32.ofNat en))) + (own_dotI (nar .char c13) (2 : Int32) (Int32.ofNat f) (Int32.ofNat en))) + (own_dotI (nar .char c17) (3 : Int32) (Int32.ofNat f) (Int32.ofNat en))) + (own_dotI (nar .char c21) (4 : Int32) (Int32.ofNat f) (Int32.ofNat en))))])) tg := fun tg kg => by
                  refine XS.icmpNo X58.here hx rfl (hb hby at_325) rfl (teq hc74).2 ?_
                  show Steps p.tables e below (T58.setTop (mkF m 328 #[.val (.long i0), .second, .val (.int i1), .val (.int i2), .val (.int i3), .val (.ref b2), .val (.ref b24), .val (.int (Int32.ofNat en)), .val (.int x8_33), .val (.int (Int32.ofNat f)), .val (.int x10), .val (.int (own_dotI (nar .char c5) (0 : Int32) (Int32.ofNat f) (Int32.ofNat en))), .val (.int (own_dotI (nar .char c9) (1 : Int32) (Int32.ofNat f) (Int32.ofNat en))), .val (.int (own_dotI (nar .char c13) (2 : Int32) (Int32.ofNat f) (Int32.ofNat en))), .val (.int (own_dotI (nar .char c17) (3 : Int32) (Int32.ofNat f) (Int32.ofNat en))), .val (.int (own_dotI (nar .char c21) (4 : Int32) (Int32.ofNat f) (Int32.ofNat en))), .val (.int (((((own_dotI (nar .char c5) (0 : Int32) (Int32.ofNat f) (Int32.ofNat en)) + (own_dotI (nar .char c9) (1 : Int32) (Int32.ofNat f) (Int32.ofNat en))) + (own_dotI (nar .char c13) (2 : Int32) (Int32.ofNat f) (Int32.ofNat en))) + (own_dotI (nar .char c17) (3 : Int32) (Int32.ofNat f) (Int32.ofNat en))) + (own_dotI (nar .char c21) (4 : Int32) (Int32.ofNat f) (Int32.ofNat en)))), .val (.int ((((own_dotI (nar .char c9) (1 : Int32) (Int32.ofNat f) (Int32.ofNat en)) + ((2 : Int32) * (own_dotI (nar .char c13) (2 : Int32) (Int32.ofNat f) (Int32.ofNat en)))) + ((3 : Int32) * (own_dotI (nar .char c17) (3 : Int32) (Int32.ofNat f) (Int32.ofNat en)))) + ((4 : Int32) * (own_dotI (nar .char c21) (4 : Int32) (Int32.ofNat f) (Int32.ofNat en))))), .unset] [])) tg
                  refine XS.iload X58.here hx rfl (hb hby at_328) rfl ?_
                  show Steps p.tables e below (T58.setTop (mkF m 330 #[.val (.long i0), .second, .val (.int i1), .val (.int i2), .val (.int i3), .val (.ref b2), .val (.ref b24), .val (.int (Int32.ofNat en)), .val (.int x8_33), .val (.int (Int32.ofNat f)), .val (.int x10), .val (.int (own_dotI (nar .char c5) (0 : Int32) (Int32.ofNat f) (Int32.ofNat en))), .val (.int (own_dotI (nar .char c9) (1 : Int32) (Int32.ofNat f) (Int32.ofNat en))), .val (.int (own_dotI (nar .char c13) (2 : Int32) (Int32.ofNat f) (Int32.ofNat en))), .val (.int (own_dotI (nar .char c17) (3 : Int32) (Int32.ofNat f) (Int32.ofNat en))), .val (.int (own_dotI (nar .char c21) (4 : Int32) (Int32.ofNat f) (Int32.ofNat en))), .val (.int (((((own_dotI (nar .char c5) (0 : Int32) (Int32.ofNat f) (Int32.ofNat en)) + (own_dotI (nar .char c9) (1 : Int32) (Int32.ofNat f) (Int32.ofNat en))) + (own_dotI (nar .char c13) (2 : Int32) (Int32.ofNat f) (Int32.ofNat en))) + (own_dotI (nar .char c17) (3 : Int32) (Int32.ofNat f) (Int32.ofNat en))) + (own_dotI (nar .char c21) (4 : Int32) (Int32.ofNat f) (Int32.ofNat en)))), .val (.int ((((own_dotI (nar .char c9) (1 : Int32) (Int32.ofNat f) (Int32.ofNat en)) + ((2 : Int32) * (own_dotI (nar .char c13) (2 : Int32) (Int32.ofNat f) (Int32.ofNat en)))) + ((3 : Int32) * (own_dotI (nar .char c17) (3 : Int32) (Int32.ofNat f) (Int32.ofNat en)))) + ((4 : Int32) * (own_dotI (nar .char c21) (4 : Int32) (Int32.ofNat f) (Int32.ofNat en))))), .unset] [(.int ((((own_dotI (nar .char c9) (1 : Int32) (Int32.ofNat f) (Int32.ofNat en)) + ((2 : Int32) * (own_dotI (nar .char c13) (2 : Int32) (Int32.ofNat f) (Int32.ofNat en)))) + ((3 : Int32) * (own_dotI (nar .char c17) (3 : Int32) (Int32.ofNat f) (Int32.ofNat en)))) + ((4 : Int32) * (own_dotI (nar .char c21) (4 : Int32) (Int32.ofNat f) (Int32.ofNat en)))))])) tg
                  refine XS.iload X58.here hx rfl (hb hby at_330) rfl ?_
                  show Steps p.tables e below (T58.setTop (mkF m 332 #[.val (.long i0), .second, .val (.int i1), .val (.int i2), .val (.int i3), .val (.ref b2), .val (.ref b24), .val (.int (Int32.ofNat en)), .val (.int x8_33), .val (.int (Int32.ofNat f)), .val (.int x10), .val (.int (own_dotI (nar .char c5) (0 : Int32) (Int32.ofNat f) (Int32.ofNat en))), .val (.int (own_dotI (nar .char c9) (1 : Int32) (Int32.ofNat f) (Int32.ofNat en))), .val (.int (own_dotI (nar .char c13) (2 : Int32) (Int32.ofNat f) (Int32.ofNat en))), .val (.int (own_dotI (nar .char c17) (3 : Int32) (Int32.ofNat f) (Int32.ofNat en))), .val (.int (own_dotI (nar .char c21) (4 : Int32) (Int32.ofNat f) (Int32.ofNat en))), .val (.int (((((own_dotI (nar .char c5) (0 : Int32) (Int32.ofNat f) (Int32.ofNat en)) + (own_dotI (nar .char c9) (1 : Int32) (Int32.ofNat f) (Int32.ofNat en))) + (own_dotI (nar .char c13) (2 : Int32) (Int32.ofNat f) (Int32.ofNat en))) + (own_dotI (nar .char c17) (3 : Int32) (Int32.ofNat f) (Int32.ofNat en))) + (own_dotI (nar .char c21) (4 : Int32) (Int32.ofNat f) (Int32.ofNat en)))), .val (.int ((((own_dotI (nar .char c9) (1 : Int32) (Int32.ofNat f) (Int32.ofNat en)) + ((2 : Int32) * (own_dotI (nar .char c13) (2 : Int32) (Int32.ofNat f) (Int32.ofNat en)))) + ((3 : Int32) * (own_dotI (nar .char c17) (3 : Int32) (Int32.ofNat f) (Int32.ofNat en)))) + ((4 : Int32) * (own_dotI (nar .char c21) (4 : Int32) (Int32.ofNat f) (Int32.ofNat en))))), .unset] [(.int (Int32.ofNat f)), (.int ((((own_dotI (nar .char c9) (1 : Int32) (Int32.ofNat f) (Int32.ofNat en)) + ((2 : Int32) * (own_dotI (nar .char c13) (2 : Int32) (Int32.ofNat f) (Int32.ofNat en)))) + ((3 : Int32) * (own_dotI (nar .char c17) (3 : Int32) (Int32.ofNat f) (Int32.ofNat en)))) + ((4 : Int32) * (own_dotI (nar .char c21) (4 : Int32) (Int32.ofNat f) (Int32.ofNat en)))))])) tg
                  exact kg
                refine gs c75 ?_
                by_cases hc76 : (Int32.ofNat f) < ((((own_dotI (nar .char c9) (1 : Int32) (Int32.ofNat f) (Int32.ofNat en)) + ((2 : Int32) * (own_dotI (nar .char c13) (2 : Int32) (Int32.ofNat f) (Int32.ofNat en)))) + ((3 : Int32) * (own_dotI (nar .char c17) (3 : Int32) (Int32.ofNat f) (Int32.ofNat en)))) + ((4 : Int32) * (own_dotI (nar .char c21) (4 : Int32) (Int32.ofNat f) (Int32.ofNat en))))
                · have c77 : ∀ tg, Steps p.tables e below (T58.setTop (mkF m 341 #[.val (.long i0), .second, .val (.int i1), .val (.int i2), .val (.int i3), .val (.ref b2), .val (.ref b24), .val (.int (Int32.ofNat en)), .val (.int x8_33), .val (.int (Int32.ofNat f)), .val (.int x10), .val (.int (own_dotI (nar .char c5) (0 : Int32) (Int32.ofNat f) (Int32.ofNat en))), .val (.int (own_dotI (nar .char c9) (1 : Int32) (Int32.ofNat f) (Int32.ofNat en))), .val (.int (own_dotI (nar .char c13) (2 : Int32) (Int32.ofNat f) (Int32.ofNat en))), .val (.int (own_dotI (nar .char c17) (3 : Int32) (Int32.ofNat f) (Int32.ofNat en))), .val (.int (own_dotI (nar .char c21) (4 : Int32) (Int32.ofNat f) (Int32.ofNat en))), .val (.int (((((own_dotI (nar .char c5) (0 : Int32) (Int32.ofNat f) (Int32.ofNat en)) + (own_dotI (nar .char c9) (1 : Int32) (Int32.ofNat f) (Int32.ofNat en))) + (own_dotI (nar .char c13) (2 : Int32) (Int32.ofNat f) (Int32.ofNat en))) + (own_dotI (nar .char c17) (3 : Int32) (Int32.ofNat f) (Int32.ofNat en))) + (own_dotI (nar .char c21) (4 : Int32) (Int32.ofNat f) (Int32.ofNat en)))), .val (.int ((((own_dotI (nar .char c9) (1 : Int32) (Int32.ofNat f) (Int32.ofNat en)) + ((2 : Int32) * (own_dotI (nar .char c13) (2 : Int32) (Int32.ofNat f) (Int32.ofNat en)))) + ((3 : Int32) * (own_dotI (nar .char c17) (3 : Int32) (Int32.ofNat f) (Int32.ofNat en)))) + ((4 : Int32) * (own_dotI (nar .char c21) (4 : Int32) (Int32.ofNat f) (Int32.ofNat en))))), .unset] [(.int ((Int32.ofNat en) - (1 : Int32))), (.int ((((own_dotI (nar .char c9) (1 : Int32) (Int32.ofNat f) (Int32.ofNat en)) + ((2 : Int32) * (own_dotI (nar .char c13) (2 : Int32) (Int32.ofNat f) (Int32.ofNat en)))) + ((3 : Int32) * (own_dotI (nar .char c17) (3 : Int32) (Int32.ofNat f) (Int32.ofNat en)))) + ((4 : Int32) * (own_dotI (nar .char c21) (4 : Int32) (Int32.ofNat f) (Int32.ofNat en)))))])) tg → Steps p.tables e below (T58.setTop (mkF m 332 #[.val (.long i0), .second, .val (.int i1), .val (.int i2), .val (.int i3), .val (.ref b2), .val (.ref b24), .val (.int (Int32.ofNat en)), .val (.int x8_33), .val (.int (Int32.ofNat f)), .val (.int x10), .val (.int (own_dotI (nar .char c5) (0 : Int32) (Int32.ofNat f) (Int32.ofNat en))), .val (.int (own_dotI (nar .char c9) (1 : Int32) (Int32.ofNat f) (Int32.ofNat en))), .val (.int (own_dotI (nar .char c13) (2 : Int32) (Int32.ofNat f) (Int32.ofNat en))), .val (.int (own_dotI (nar .char c17) (3 : Int32) (Int32.ofNat f) (Int32.ofNat en))), .val (.int (own_dotI (nar .char c21) (4 : Int32) (Int32.ofNat f) (Int32.ofNat en))), .val (.int (((((own_dotI (nar .char c5) (0 : Int32) (Int32.ofNat f) (Int32.ofNat en)) + (own_dotI (nar .char c9) (1 : Int32) (Int32.ofNat f) (Int32.ofNat en))) + (own_dotI (nar .char c13) (2 : Int32) (Int32.ofNat f) (Int32.ofNat en))) + (own_dotI (nar .char c17) (3 : Int32) (Int32.ofNat f) (Int32.ofNat en))) + (own_dotI (nar .char c21) (4 : Int32) (Int32.ofNat f) (Int32.ofNat en)))), .val (.int ((((own_dotI (nar .char c9) (1 : Int32) (Int32.ofNat f) (Int32.ofNat en)) + ((2 : Int32) * (own_dotI (nar .char c13) (2 : Int32) (Int32.ofNat f) (Int32.ofNat en)))) + ((3 : Int32) * (own_dotI (nar .char c17) (3 : Int32) (Int32.ofNat f) (Int32.ofNat en)))) + ((4 : Int32) * (own_dotI (nar .char c21) (4 : Int32) (Int32.ofNat f) (Int32.ofNat en))))), .unset] [(.int (Int32.ofNat f)), (.int ((((own_dotI (nar .char c9) (1 : Int32) (Int32.ofNat f) (Int32.ofNat en)) + ((2 : Int32) * (own_dotI (nar .char c13) (2 : Int32) (Int32.ofNat f) (Int32.ofNat en)))) + ((3 : Int32) * (own_dotI (nar .char c17) (3 : Int32) (Int32.ofNat f) (Int32.ofNat en)))) + ((4 : Int32) * (own_dotI (nar .char c21) (4 : Int32) (Int32.ofNat f) (Int32.ofNat en)))))])) tg := fun tg kg => by
                    refine XS.icmpNo X58.here hx rfl (hb hby at_332) rfl (tlt hc76).2.2.2 ?_
                    show Steps p.tables e below (T58.setTop (mkF m 335 #[.val (.long i0), .second, .val (.int i1), .val (.int i2), .val (.int i3), .val (.ref b2), .val (.ref b24), .val (.int (Int32.ofNat en)), .val (.int x8_33), .val (.int (Int32.ofNat f)), .val (.int x10), .val (.int (own_dotI (nar .char c5) (0 : Int32) (Int32.ofNat f) (Int32.ofNat en))), .val (.int (own_dotI (nar .char c9) (1 : Int32) (Int32.ofNat f) (Int32.ofNat en))), .val (.int (own_dotI (nar .char c13) (2 : Int32) (Int32.ofNat f) (Int32.ofNat en))), .val (.int (own_dotI (nar .char c17) (3 : Int32) (Int32.ofNat f) (Int32.ofNat en))), .val (.int (own_dotI (nar .char c21) (4 : Int32) (Int32.ofNat f) (Int32.ofNat en))), .val (.int (((((own_dotI (nar .char c5) (0 : Int32) (Int32.ofNat f) (Int32.ofNat en)) + (own_dotI (nar .char c9) (1 : Int32) (Int32.ofNat f) (Int32.ofNat en))) + (own_dotI (nar .char c13) (2 : Int32) (Int32.ofNat f) (Int32.ofNat en))) + (own_dotI (nar .char c17) (3 : Int32) (Int32.ofNat f) (Int32.ofNat en))) + (own_dotI (nar .char c21) (4 : Int32) (Int32.ofNat f) (Int32.ofNat en)))), .val (.int ((((own_dotI (nar .char c9) (1 : Int32) (Int32.ofNat f) (Int32.ofNat en)) + ((2 : Int32) * (own_dotI (nar .char c13) (2 : Int32) (Int32.ofNat f) (Int32.ofNat en)))) + ((3 : Int32) * (own_dotI (nar .char c17) (3 : Int32) (Int32.ofNat f) (Int32.ofNat en)))) + ((4 : Int32) * (own_dotI (nar .char c21) (4 : Int32) (Int32.ofNat f) (Int32.ofNat en))))), .unset] [])) tg
                    refine XS.iload X58.here hx rfl (hb hby at_335) rfl ?_
                    show Steps p.tables e below (T58.setTop (mkF m 337 #[.val (.long i0), .second, .val (.int i1), .val (.int i2), .val (.int i3), .val (.ref b2), .val (.ref b24), .val (.int (Int32.ofNat en)), .val (.int x8_33), .val (.int (Int32.ofNat f)), .val (.int x10), .val (.int (own_dotI (nar .char c5) (0 : Int32) (Int32.ofNat f) (Int32.ofNat en))), .val (.int (own_dotI (nar .char c9) (1 : Int32) (Int32.ofNat f) (Int32.ofNat en))), .val (.int (own_dotI (nar .char c13) (2 : Int32) (Int32.ofNat f) (Int32.ofNat en))), .val (.int (own_dotI (nar .char c17) (3 : Int32) (Int32.ofNat f) (Int32.ofNat en))), .val (.int (own_dotI (nar .char c21) (4 : Int32) (Int32.ofNat f) (Int32.ofNat en))), .val (.int (((((own_dotI (nar .char c5) (0 : Int32) (Int32.ofNat f) (Int32.ofNat en)) + (own_dotI (nar .char c9) (1 : Int32) (Int32.ofNat f) (Int32.ofNat en))) + (own_dotI (nar .char c13) (2 : Int32) (Int32.ofNat f) (Int32.ofNat en))) + (own_dotI (nar .char c17) (3 : Int32) (Int32.ofNat f) (Int32.ofNat en))) + (own_dotI (nar .char c21) (4 : Int32) (Int32.ofNat f) (Int32.ofNat en)))), .val (.int ((((own_dotI (nar .char c9) (1 : Int32) (Int32.ofNat f) (Int32.ofNat en)) + ((2 : Int32) * (own_dotI (nar .char c13) (2 : Int32) (Int32.ofNat f) (Int32.ofNat en)))) + ((3 : Int32) * (own_dotI (nar .char c17) (3 : Int32) (Int32.ofNat f) (Int32.ofNat en)))) + ((4 : Int32) * (own_dotI (nar .char c21) (4 : Int32) (Int32.ofNat f) (Int32.ofNat en))))), .unset] [(.int ((((own_dotI (nar .char c9) (1 : Int32) (Int32.ofNat f) (Int32.ofNat en)) + ((2 : Int32) * (own_dotI (nar .char c13) (2 : Int32) (Int32.ofNat f) (Int32.ofNat en)))) + ((3 : Int32) * (own_dotI (nar .char c17) (3 : Int32) (Int32.ofNat f) (Int32.ofNat en)))) + ((4 : Int32) * (own_dotI (nar .char c21) (4 : Int32) (Int32.ofNat f) (Int32.ofNat en)))))])) tg
                    refine XS.iload X58.here hx rfl (hb hby at_337) rfl ?_
                    show Steps p.tables e below (T58.setTop (mkF m 339 #[.val (.long i0), .second, .val (.int i1), .val (.int i2), .val (.int i3), .val (.ref b2), .val (.ref b24), .val (.int (Int32.ofNat en)), .val (.int x8_33), .val (.int (Int32.ofNat f)), .val (.int x10), .val (.int (own_dotI (nar .char c5) (0 : Int32) (Int32.ofNat f) (Int32.ofNat en))), .val (.int (own_dotI (nar .char c9) (1 : Int32) (Int32.ofNat f) (Int32.ofNat en))), .val (.int (own_dotI (nar .char c13) (2 : Int32) (Int32.ofNat f) (Int32.ofNat en))), .val (.int (own_dotI (nar .char c17) (3 : Int32) (Int32.ofNat f) (Int32.ofNat en))), .val (.int (own_dotI (nar .char c21) (4 : Int32) (Int32.ofNat f) (Int32.ofNat en))), .val (.int (((((own_dotI (nar .char c5) (0 : Int32) (Int32.ofNat f) (Int32.ofNat en)) + (own_dotI (nar .char c9) (1 : Int32) (Int32.ofNat f) (Int32.ofNat en))) + (own_dotI (nar .char c13) (2 : Int32) (Int32.ofNat f) (Int32.ofNat en))) + (own_dotI (nar .char c17) (3 : Int32) (Int32.ofNat f) (Int32.ofNat en))) + (own_dotI (nar .char c21) (4 : Int32) (Int32.ofNat f) (Int32.ofNat en)))), .val (.int ((((own_dotI (nar .char c9) (1 : Int32) (Int32.ofNat f) (Int32.ofNat en)) + ((2 : Int32) * (own_dotI (nar .char c13) (2 : Int32) (Int32.ofNat f) (Int32.ofNat en)))) + ((3 : Int32) * (own_dotI (nar .char c17) (3 : Int32) (Int32.ofNat f) (Int32.ofNat en)))) + ((4 : Int32) * (own_dotI (nar .char c21) (4 : Int32) (Int32.ofNat f) (Int32.ofNat en))))), .unset] [(.int (Int32.ofNat en)), (.int ((((own_dotI (nar .char c9) (1 : Int32) (Int32.ofNat f) (Int32.ofNat en)) + ((2 : Int32) * (own_dotI (nar .char c13) (2 : Int32) (Int32.ofNat f) (Int32.ofNat en)))) + ((3 : Int32) * (own_dotI (nar .char c17) (3 : Int32) (Int32.ofNat f) (Int32.ofNat en)))) + ((4 : Int32) * (own_dotI (nar .char c21) (4 : Int32) (Int32.ofNat f) (Int32.ofNat en)))))])) tg
                    refine XS.iconst X58.here hx rfl (hb hby at_339) ?_
                    show Steps p.tables e below (T58.setTop (mkF m 340 #[.val (.long i0), .second, .val (.int i1), .val (.int i2), .val (.int i3), .val (.ref b2), .val (.ref b24), .val (.int (Int32.ofNat en)), .val (.int x8_33), .val (.int (Int32.ofNat f)), .val (.int x10), .val (.int (own_dotI (nar .char c5) (0 : Int32) (Int32.ofNat f) (Int32.ofNat en))), .val (.int (own_dotI (nar .char c9) (1 : Int32) (Int32.ofNat f) (Int32.ofNat en))), .val (.int (own_dotI (nar .char c13) (2 : Int32) (Int32.ofNat f) (Int32.ofNat en))), .val (.int (own_dotI (nar .char c17) (3 : Int32) (Int32.ofNat f) (Int32.ofNat en))), .val (.int (own_dotI (nar .char c21) (4 : Int32) (Int32.ofNat f) (Int32.ofNat en))), .val (.int (((((own_dotI (nar .char c5) (0 : Int32) (Int32.ofNat f) (Int32.ofNat en)) + (own_dotI (nar .char c9) (1 : Int32) (Int32.ofNat f) (Int32.ofNat en))) + (own_dotI (nar .char c13) (2 : Int32) (Int32.ofNat f) (Int32.ofNat en))) + (own_dotI (nar .char c17) (3 : Int32) (Int32.ofNat f) (Int32.ofNat en))) + (own_dotI (nar .char c21) (4 : Int32) (Int32.ofNat f) (Int32.ofNat en)))), .val (.int ((((own_dotI (nar .char c9) (1 : Int32) (Int32.ofNat f) (Int32.ofNat en)) + ((2 : Int32) * (own_dotI (nar .char c13) (2 : Int32) (Int32.ofNat f) (Int32.ofNat en)))) + ((3 : Int32) * (own_dotI (nar .char c17) (3 : Int32) (Int32.ofNat f) (Int32.ofNat en)))) + ((4 : Int32) * (own_dotI (nar .char c21) (4 : Int32) (Int32.ofNat f) (Int32.ofNat en))))), .unset] [(.int (1 : Int32)), (.int (Int32.ofNat en)), (.int ((((own_dotI (nar .char c9) (1 : Int32) (Int32.ofNat f) (Int32.ofNat en)) + ((2 : Int32) * (own_dotI (nar .char c13) (2 : Int32) (Int32.ofNat f) (Int32.ofNat en)))) + ((3 : Int32) * (own_dotI (nar .char c17) (3 : Int32) (Int32.ofNat f) (Int32.ofNat en)))) + ((4 : Int32) * (own_dotI (nar .char c21) (4 : Int32) (Int32.ofNat f) (Int32.ofNat en)))))])) tg
                    refine XS.isub X58.here hx rfl (hb hby at_340) rfl ?_
                    show Steps p.tables e below (T58.setTop (mkF m 341 #[.val (.long i0), .second, .val (.int i1), .val (.int i2), .val (.int i3), .val (.ref b2), .val (.ref b24), .val (.int (Int32.ofNat en)), .val (.int x8_33), .val (.int (Int32.ofNat f)), .val (.int x10), .val (.int (own_dotI (nar .char c5) (0 : Int32) (Int32.ofNat f) (Int32.ofNat en))), .val (.int (own_dotI (nar .char c9) (1 : Int32) (Int32.ofNat f) (Int32.ofNat en))), .val (.int (own_dotI (nar .char c13) (2 : Int32) (Int32.ofNat f) (Int32.ofNat en))), .val (.int (own_dotI (nar .char c17) (3 : Int32) (Int32.ofNat f) (Int32.ofNat en))), .val (.int (own_dotI (nar .char c21) (4 : Int32) (Int32.ofNat f) (Int32.ofNat en))), .val (.int (((((own_dotI (nar .char c5) (0 : Int32) (Int32.ofNat f) (Int32.ofNat en)) + (own_dotI (nar .char c9) (1 : Int32) (Int32.ofNat f) (Int32.ofNat en))) + (own_dotI (nar .char c13) (2 : Int32) (Int32.ofNat f) (Int32.ofNat en))) + (own_dotI (nar .char c17) (3 : Int32) (Int32.ofNat f) (Int32.ofNat en))) + (own_dotI (nar .char c21) (4 : Int32) (Int32.ofNat f) (Int32.ofNat en)))), .val (.int ((((own_dotI (nar .char c9) (1 : Int32) (Int32.ofNat f) (Int32.ofNat en)) + ((2 : Int32) * (own_dotI (nar .char c13) (2 : Int32) (Int32.ofNat f) (Int32.ofNat en)))) + ((3 : Int32) * (own_dotI (nar .char c17) (3 : Int32) (Int32.ofNat f) (Int32.ofNat en)))) + ((4 : Int32) * (own_dotI (nar .char c21) (4 : Int32) (Int32.ofNat f) (Int32.ofNat en))))), .unset] [(.int ((Int32.ofNat en) - (1 : Int32))), (.int ((((own_dotI (nar .char c9) (1 : Int32) (Int32.ofNat f) (Int32.ofNat en)) + ((2 : Int32) * (own_dotI (nar .char c13) (2 : Int32) (Int32.ofNat f) (Int32.ofNat en)))) + ((3 : Int32) * (own_dotI (nar .char c17) (3 : Int32) (Int32.ofNat f) (Int32.ofNat en)))) + ((4 : Int32) * (own_dotI (nar .char c21) (4 : Int32) (Int32.ofNat f) (Int32.ofNat en)))))])) tg
                    exact kg
                  refine gs c77 ?_
                  by_cases hc78 : ((((own_dotI (nar .char c9) (1 : Int32) (Int32.ofNat f) (Int32.ofNat en)) + ((2 : Int32) * (own_dotI (nar .char c13) (2 : Int32) (Int32.ofNat f) (Int32.ofNat en)))) + ((3 : Int32) * (own_dotI (nar .char c17) (3 : Int32) (Int32.ofNat f) (Int32.ofNat en)))) + ((4 : Int32) * (own_dotI (nar .char c21) (4 : Int32) (Int32.ofNat f) (Int32.ofNat en)))) < ((Int32.ofNat en) - (1 : Int32))
                  · have c79 : ∀ tg, Steps p.tables e below (T58.setTop (mkF m 353 #[.val (.long i0), .second, .val (.int i1), .val (.int i2), .val (.int i3), .val (.ref b2), .val (.ref b24), .val (.int (Int32.ofNat en)), .val (.int x8_33), .val (.int (Int32.ofNat f)), .val (.int x10), .val (.int (own_dotI (nar .char c5) (0 : Int32) (Int32.ofNat f) (Int32.ofNat en))), .val (.int (own_dotI (nar .char c9) (1 : Int32) (Int32.ofNat f) (Int32.ofNat en))), .val (.int (own_dotI (nar .char c13) (2 : Int32) (Int32.ofNat f) (Int32.ofNat en))), .val (.int (own_dotI (nar .char c17) (3 : Int32) (Int32.ofNat f) (Int32.ofNat en))), .val (.int (own_dotI (nar .char c21) (4 : Int32) (Int32.ofNat f) (Int32.ofNat en))), .val (.int (((((own_dotI (nar .char c5) (0 : Int32) (Int32.ofNat f) (Int32.ofNat en)) + (own_dotI (nar .char c9) (1 : Int32) (Int32.ofNat f) (Int32.ofNat en))) + (own_dotI (nar .char c13) (2 : Int32) (Int32.ofNat f) (Int32.ofNat en))) + (own_dotI (nar .char c17) (3 : Int32) (Int32.ofNat f) (Int32.ofNat en))) + (own_dotI (nar .char c21) (4 : Int32) (Int32.ofNat f) (Int32.ofNat en)))), .val (.int ((((own_dotI (nar .char c9) (1 : Int32) (Int32.ofNat f) (Int32.ofNat en)) + ((2 : Int32) * (own_dotI (nar .char c13) (2 : Int32) (Int32.ofNat f) (Int32.ofNat en)))) + ((3 : Int32) * (own_dotI (nar .char c17) (3 : Int32) (Int32.ofNat f) (Int32.ofNat en)))) + ((4 : Int32) * (own_dotI (nar .char c21) (4 : Int32) (Int32.ofNat f) (Int32.ofNat en))))), .unset] [(.int i3), (.int (((Int32.ofNat en) - (1 : Int32)) - ((((own_dotI (nar .char c9) (1 : Int32) (Int32.ofNat f) (Int32.ofNat en)) + ((2 : Int32) * (own_dotI (nar .char c13) (2 : Int32) (Int32.ofNat f) (Int32.ofNat en)))) + ((3 : Int32) * (own_dotI (nar .char c17) (3 : Int32) (Int32.ofNat f) (Int32.ofNat en)))) + ((4 : Int32) * (own_dotI (nar .char c21) (4 : Int32) (Int32.ofNat f) (Int32.ofNat en))))))])) tg → Steps p.tables e below (T58.setTop (mkF m 341 #[.val (.long i0), .second, .val (.int i1), .val (.int i2), .val (.int i3), .val (.ref b2), .val (.ref b24), .val (.int (Int32.ofNat en)), .val (.int x8_33), .val (.int (Int32.ofNat f)), .val (.int x10), .val (.int (own_dotI (nar .char c5) (0 : Int32) (Int32.ofNat f) (Int32.ofNat en))), .val (.int (own_dotI (nar .char c9) (1 : Int32) (Int32.ofNat f) (Int32.ofNat en))), .val (.int (own_dotI (nar .char c13) (2 : Int32) (Int32.ofNat f) (Int32.ofNat en))), .val (.int (own_dotI (nar .char c17) (3 : Int32) (Int32.ofNat f) (Int32.ofNat en))), .val (.int (own_dotI (nar .char c21) (4 : Int32) (Int32.ofNat f) (Int32.ofNat en))), .val (.int (((((own_dotI (nar .char c5) (0 : Int32) (Int32.ofNat f) (Int32.ofNat en)) + (own_dotI (nar .char c9) (1 : Int32) (Int32.ofNat f) (Int32.ofNat en))) + (own_dotI (nar .char c13) (2 : Int32) (Int32.ofNat f) (Int32.ofNat en))) + (own_dotI (nar .char c17) (3 : Int32) (Int32.ofNat f) (Int32.ofNat en))) + (own_dotI (nar .char c21) (4 : Int32) (Int32.ofNat f) (Int32.ofNat en)))), .val (.int ((((own_dotI (nar .char c9) (1 : Int32) (Int32.ofNat f) (Int32.ofNat en)) + ((2 : Int32) * (own_dotI (nar .char c13) (2 : Int32) (Int32.ofNat f) (Int32.ofNat en)))) + ((3 : Int32) * (own_dotI (nar .char c17) (3 : Int32) (Int32.ofNat f) (Int32.ofNat en)))) + ((4 : Int32) * (own_dotI (nar .char c21) (4 : Int32) (Int32.ofNat f) (Int32.ofNat en))))), .unset] [(.int ((Int32.ofNat en) - (1 : Int32))), (.int ((((own_dotI (nar .char c9) (1 : Int32) (Int32.ofNat f) (Int32.ofNat en)) + ((2 : Int32) * (own_dotI (nar .char c13) (2 : Int32) (Int32.ofNat f) (Int32.ofNat en)))) + ((3 : Int32) * (own_dotI (nar .char c17) (3 : Int32) (Int32.ofNat f) (Int32.ofNat en)))) + ((4 : Int32) * (own_dotI (nar .char c21) (4 : Int32) (Int32.ofNat f) (Int32.ofNat en)))))])) tg := fun tg kg => by
                      refine XS.icmpNo X58.here hx rfl (hb hby at_341) rfl (tlt hc78).2.1 ?_
                      show Steps p.tables e below (T58.setTop (mkF m 344 #[.val (.long i0), .second, .val (.int i1), .val (.int i2), .val (.int i3), .val (.ref b2), .val (.ref b24), .val (.int (Int32.ofNat en)), .val (.int x8_33), .val (.int (Int32.ofNat f)), .val (.int x10), .val (.int (own_dotI (nar .char c5) (0 : Int32) (Int32.ofNat f) (Int32.ofNat en))), .val (.int (own_dotI (nar .char c9) (1 : Int32) (Int32.ofNat f) (Int32.ofNat en))), .val (.int (own_dotI (nar .char c13) (2 : Int32) (Int32.ofNat f) (Int32.ofNat en))), .val (.int (own_dotI (nar .char c17) (3 : Int32) (Int32.ofNat f) (Int32.ofNat en))), .val (.int (own_dotI (nar .char c21) (4 : Int32) (Int32.ofNat f) (Int32.ofNat en))), .val (.int (((((own_dotI (nar .char c5) (0 : Int32) (Int32.ofNat f) (Int32.ofNat en)) + (own_dotI (nar .char c9) (1 : Int32) (Int32.ofNat f) (Int32.ofNat en))) + (own_dotI (nar .char c13) (2 : Int32) (Int32.ofNat f) (Int32.ofNat en))) + (own_dotI (nar .char c17) (3 : Int32) (Int32.ofNat f) (Int32.ofNat en))) + (own_dotI (nar .char c21) (4 : Int32) (Int32.ofNat f) (Int32.ofNat en)))), .val (.int ((((own_dotI (nar .char c9) (1 : Int32) (Int32.ofNat f) (Int32.ofNat en)) + ((2 : Int32) * (own_dotI (nar .char c13) (2 : Int32) (Int32.ofNat f) (Int32.ofNat en)))) + ((3 : Int32) * (own_dotI (nar .char c17) (3 : Int32) (Int32.ofNat f) (Int32.ofNat en)))) + ((4 : Int32) * (own_dotI (nar .char c21) (4 : Int32) (Int32.ofNat f) (Int32.ofNat en))))), .unset] [])) tg
                      refine XS.iload X58.here hx rfl (hb hby at_344) rfl ?_
                      show Steps p.tables e below (T58.setTop (mkF m 346 #[.val (.long i0), .second, .val (.int i1), .val (.int i2), .val (.int i3), .val (.ref b2), .val (.ref b24), .val (.int (Int32.ofNat en)), .val (.int x8_33), .val (.int (Int32.ofNat f)), .val (.int x10), .val (.int (own_dotI (nar .char c5) (0 : Int32) (Int32.ofNat f) (Int32.ofNat en))), .val (.int (own_dotI (nar .char c9) (1 : Int32) (Int32.ofNat f) (Int32.ofNat en))), .val (.int (own_dotI (nar .char c13) (2 : Int32) (Int32.ofNat f) (Int32.ofNat en))), .val (.int (own_dotI (nar .char c17) (3 : Int32) (Int32.ofNat f) (Int32.ofNat en))), .val (.int (own_dotI (nar .char c21) (4 : Int32) (Int32.ofNat f) (Int32.ofNat en))), .val (.int (((((own_dotI (nar .char c5) (0 : Int32) (Int32.ofNat f) (Int32.ofNat en)) + (own_dotI (nar .char c9) (1 : Int32) (Int32.ofNat f) (Int32.ofNat en))) + (own_dotI (nar .char c13) (2 : Int32) (Int32.ofNat f) (Int32.ofNat en))) + (own_dotI (nar .char c17) (3 : Int32) (Int32.ofNat f) (Int32.ofNat en))) + (own_dotI (nar .char c21) (4 : Int32) (Int32.ofNat f) (Int32.ofNat en)))), .val (.int ((((own_dotI (nar .char c9) (1 : Int32) (Int32.ofNat f) (Int32.ofNat en)) + ((2 : Int32) * (own_dotI (nar .char c13) (2 : Int32) (Int32.ofNat f) (Int32.ofNat en)))) + ((3 : Int32) * (own_dotI (nar .char c17) (3 : Int32) (Int32.ofNat f) (Int32.ofNat en)))) + ((4 : Int32) * (own_dotI (nar .char c21) (4 : Int32) (Int32.ofNat f) (Int32.ofNat en))))), .unset] [(.int (Int32.ofNat en))])) tg
                      refine XS.iconst X58.here hx rfl (hb hby at_346) ?_
                      show Steps p.tables e below (T58.setTop (mkF m 347 #[.val (.long i0), .second, .val (.int i1), .val (.int i2), .val (.int i3), .val (.ref b2), .val (.ref b24), .val (.int (Int32.ofNat en)), .val (.int x8_33), .val (.int (Int32.ofNat f)), .val (.int x10), .val (.int (own_dotI (nar .char c5) (0 : Int32) (Int32.ofNat f) (Int32.ofNat en))), .val (.int (own_dotI (nar .char c9) (1 : Int32) (Int32.ofNat f) (Int32.ofNat en))), .val (.int (own_dotI (nar .char c13) (2 : Int32) (Int32.ofNat f) (Int32.ofNat en))), .val (.int (own_dotI (nar .char c17) (3 : Int32) (Int32.ofNat f) (Int32.ofNat en))), .val (.int (own_dotI (nar .char c21) (4 : Int32) (Int32.ofNat f) (Int32.ofNat en))), .val (.int (((((own_dotI (nar .char c5) (0 : Int32) (Int32.ofNat f) (Int32.ofNat en)) + (own_dotI (nar .char c9) (1 : Int32) (Int32.ofNat f) (Int32.ofNat en))) + (own_dotI (nar .char c13) (2 : Int32) (Int32.ofNat f) (Int32.ofNat en))) + (own_dotI (nar .char c17) (3 : Int32) (Int32.ofNat f) (Int32.ofNat en))) + (own_dotI (nar .char c21) (4 : Int32) (Int32.ofNat f) (Int32.ofNat en)))), .val (.int ((((own_dotI (nar .char c9) (1 : Int32) (Int32.ofNat f) (Int32.ofNat en)) + ((2 : Int32) * (own_dotI (nar .char c13) (2 : Int32) (Int32.ofNat f) (Int32.ofNat en)))) + ((3 : Int32) * (own_dotI (nar .char c17) (3 : Int32) (Int32.ofNat f) (Int32.ofNat en)))) + ((4 : Int32) * (own_dotI (nar .char c21) (4 : Int32) (Int32.ofNat f) (Int32.ofNat en))))), .unset] [(.int (1 : Int32)), (.int (Int32.ofNat en))])) tg
                      refine XS.isub X58.here hx rfl (hb hby at_347) rfl ?_
                      show Steps p.tables e below (T58.setTop (mkF m 348 #[.val (.long i0), .second, .val (.int i1), .val (.int i2), .val (.int i3), .val (.ref b2), .val (.ref b24), .val (.int (Int32.ofNat en)), .val (.int x8_33), .val (.int (Int32.ofNat f)), .val (.int x10), .val (.int (own_dotI (nar .char c5) (0 : Int32) (Int32.ofNat f) (Int32.ofNat en))), .val (.int (own_dotI (nar .char c9) (1 : Int32) (Int32.ofNat f) (Int32.ofNat en))), .val (.int (own_dotI (nar .char c13) (2 : Int32) (Int32.ofNat f) (Int32.ofNat en))), .val (.int (own_dotI (nar .char c17) (3 : Int32) (Int32.ofNat f) (Int32.ofNat en))), .val (.int (own_dotI (nar .char c21) (4 : Int32) (Int32.ofNat f) (Int32.ofNat en))), .val (.int (((((own_dotI (nar .char c5) (0 : Int32) (Int32.ofNat f) (Int32.ofNat en)) + (own_dotI (nar .char c9) (1 : Int32) (Int32.ofNat f) (Int32.ofNat en))) + (own_dotI (nar .char c13) (2 : Int32) (Int32.ofNat f) (Int32.ofNat en))) + (own_dotI (nar .char c17) (3 : Int32) (Int32.ofNat f) (Int32.ofNat en))) + (own_dotI (nar .char c21) (4 : Int32) (Int32.ofNat f) (Int32.ofNat en)))), .val (.int ((((own_dotI (nar .char c9) (1 : Int32) (Int32.ofNat f) (Int32.ofNat en)) + ((2 : Int32) * (own_dotI (nar .char c13) (2 : Int32) (Int32.ofNat f) (Int32.ofNat en)))) + ((3 : Int32) * (own_dotI (nar .char c17) (3 : Int32) (Int32.ofNat f) (Int32.ofNat en)))) + ((4 : Int32) * (own_dotI (nar .char c21) (4 : Int32) (Int32.ofNat f) (Int32.ofNat en))))), .unset] [(.int ((Int32.ofNat en) - (1 : Int32)))])) tg
                      refine XS.iload X58.here hx rfl (hb hby at_348) rfl ?_
                      show Steps p.tables e below (T58.setTop (mkF m 350 #[.val (.long i0), .second, .val (.int i1), .val (.int i2), .val (.int i3), .val (.ref b2), .val (.ref b24), .val (.int (Int32.ofNat en)), .val (.int x8_33), .val (.int (Int32.ofNat f)), .val (.int x10), .val (.int (own_dotI (nar .char c5) (0 : Int32) (Int32.ofNat f) (Int32.ofNat en))), .val (.int (own_dotI (nar .char c9) (1 : Int32) (Int32.ofNat f) (Int32.ofNat en))), .val (.int (own_dotI (nar .char c13) (2 : Int32) (Int32.ofNat f) (Int32.ofNat en))), .val (.int (own_dotI (nar .char c17) (3 : Int32) (Int32.ofNat f) (Int32.ofNat en))), .val (.int (own_dotI (nar .char c21) (4 : Int32) (Int32.ofNat f) (Int32.ofNat en))), .val (.int (((((own_dotI (nar .char c5) (0 : Int32) (Int32.ofNat f) (Int32.ofNat en)) + (own_dotI (nar .char c9) (1 : Int32) (Int32.ofNat f) (Int32.ofNat en))) + (own_dotI (nar .char c13) (2 : Int32) (Int32.ofNat f) (Int32.ofNat en))) + (own_dotI (nar .char c17) (3 : Int32) (Int32.ofNat f) (Int32.ofNat en))) + (own_dotI (nar .char c21) (4 : Int32) (Int32.ofNat f) (Int32.ofNat en)))), .val (.int ((((own_dotI (nar .char c9) (1 : Int32) (Int32.ofNat f) (Int32.ofNat en)) + ((2 : Int32) * (own_dotI (nar .char c13) (2 : Int32) (Int32.ofNat f) (Int32.ofNat en)))) + ((3 : Int32) * (own_dotI (nar .char c17) (3 : Int32) (Int32.ofNat f) (Int32.ofNat en)))) + ((4 : Int32) * (own_dotI (nar .char c21) (4 : Int32) (Int32.ofNat f) (Int32.ofNat en))))), .unset] [(.int ((((own_dotI (nar .char c9) (1 : Int32) (Int32.ofNat f) (Int32.ofNat en)) + ((2 : Int32) * (own_dotI (nar .char c13) (2 : Int32) (Int32.ofNat f) (Int32.ofNat en)))) + ((3 : Int32) * (own_dotI (nar .char c17) (3 : Int32) (Int32.ofNat f) (Int32.ofNat en)))) + ((4 : Int32) * (own_dotI (nar .char c21) (4 : Int32) (Int32.ofNat f) (Int32.ofNat en))))), (.int ((Int32.ofNat en) - (1 : Int32)))])) tg
                      refine XS.isub X58.here hx rfl (hb hby at_350) rfl ?_
                      show Steps p.tables e below (T58.setTop (mkF m 351 #[.val (.long i0), .second, .val (.int i1), .val (.int i2), .val (.int i3), .val (.ref b2), .val (.ref b24), .val (.int (Int32.ofNat en)), .val (.int x8_33), .val (.int (Int32.ofNat f)), .val (.int x10), .val (.int (own_dotI (nar .char c5) (0 : Int32) (Int32.ofNat f) (Int32.ofNat en))), .val (.int (own_dotI (nar .char c9) (1 : Int32) (Int32.ofNat f) (Int32.ofNat en))), .val (.int (own_dotI (nar .char c13) (2 : Int32) (Int32.ofNat f) (Int32.ofNat en))), .val (.int (own_dotI (nar .char c17) (3 : Int32) (Int32.ofNat f) (Int32.ofNat en))), .val (.int (own_dotI (nar .char c21) (4 : Int32) (Int32.ofNat f) (Int32.ofNat en))), .val (.int (((((own_dotI (nar .char c5) (0 : Int32) (Int32.ofNat f) (Int32.ofNat en)) + (own_dotI (nar .char c9) (1 : Int32) (Int32.ofNat f) (Int32.ofNat en))) + (own_dotI (nar .char c13) (2 : Int32) (Int32.ofNat f) (Int32.ofNat en))) + (own_dotI (nar .char c17) (3 : Int32) (Int32.ofNat f) (Int32.ofNat en))) + (own_dotI (nar .char c21) (4 : Int32) (Int32.ofNat f) (Int32.ofNat en)))), .val (.int ((((own_dotI (nar .char c9) (1 : Int32) (Int32.ofNat f) (Int32.ofNat en)) + ((2 : Int32) * (own_dotI (nar .char c13) (2 : Int32) (Int32.ofNat f) (Int32.ofNat en)))) + ((3 : Int32) * (own_dotI (nar .char c17) (3 : Int32) (Int32.ofNat f) (Int32.ofNat en)))) + ((4 : Int32) * (own_dotI (nar .char c21) (4 : Int32) (Int32.ofNat f) (Int32.ofNat en))))), .unset] [(.int (((Int32.ofNat en) - (1 : Int32)) - ((((own_dotI (nar .char c9) (1 : Int32) (Int32.ofNat f) (Int32.ofNat en)) + ((2 : Int32) * (own_dotI (nar .char c13) (2 : Int32) (Int32.ofNat f) (Int32.ofNat en)))) + ((3 : Int32) * (own_dotI (nar .char c17) (3 : Int32) (Int32.ofNat f) (Int32.ofNat en)))) + ((4 : Int32) * (own_dotI (nar .char c21) (4 : Int32) (Int32.ofNat f) (Int32.ofNat en))))))])) tg
                      refine XS.iload X58.here hx rfl (hb hby at_351) rfl ?_
                      show Steps p.tables e below (T58.setTop (mkF m 353 #[.val (.long i0), .second, .val (.int i1), .val (.int i2), .val (.int i3), .val (.ref b2), .val (.ref b24), .val (.int (Int32.ofNat en)), .val (.int x8_33), .val (.int (Int32.ofNat f)), .val (.int x10), .val (.int (own_dotI (nar .char c5) (0 : Int32) (Int32.ofNat f) (Int32.ofNat en))), .val (.int (own_dotI (nar .char c9) (1 : Int32) (Int32.ofNat f) (Int32.ofNat en))), .val (.int (own_dotI (nar .char c13) (2 : Int32) (Int32.ofNat f) (Int32.ofNat en))), .val (.int (own_dotI (nar .char c17) (3 : Int32) (Int32.ofNat f) (Int32.ofNat en))), .val (.int (own_dotI (nar .char c21) (4 : Int32) (Int32.ofNat f) (Int32.ofNat en))), .val (.int (((((own_dotI (nar .char c5) (0 : Int32) (Int32.ofNat f) (Int32.ofNat en)) + (own_dotI (nar .char c9) (1 : Int32) (Int32.ofNat f) (Int32.ofNat en))) + (own_dotI (nar .char c13) (2 : Int32) (Int32.ofNat f) (Int32.ofNat en))) + (own_dotI (nar .char c17) (3 : Int32) (Int32.ofNat f) (Int32.ofNat en))) + (own_dotI (nar .char c21) (4 : Int32) (Int32.ofNat f) (Int32.ofNat en)))), .val (.int ((((own_dotI (nar .char c9) (1 : Int32) (Int32.ofNat f) (Int32.ofNat en)) + ((2 : Int32) * (own_dotI (nar .char c13) (2 : Int32) (Int32.ofNat f) (Int32.ofNat en)))) + ((3 : Int32) * (own_dotI (nar .char c17) (3 : Int32) (Int32.ofNat f) (Int32.ofNat en)))) + ((4 : Int32) * (own_dotI (nar .char c21) (4 : Int32) (Int32.ofNat f) (Int32.ofNat en))))), .unset] [(.int i3), (.int (((Int32.ofNat en) - (1 : Int32)) - ((((own_dotI (nar .char c9) (1 : Int32) (Int32.ofNat f) (Int32.ofNat en)) + ((2 : Int32) * (own_dotI (nar .char c13) (2 : Int32) (Int32.ofNat f) (Int32.ofNat en)))) + ((3 : Int32) * (own_dotI (nar .char c17) (3 : Int32) (Int32.ofNat f) (Int32.ofNat en)))) + ((4 : Int32) * (own_dotI (nar .char c21) (4 : Int32) (Int32.ofNat f) (Int32.ofNat en))))))])) tg
                      exact kg
                    refine gs c79 ?_
                    by_cases hc80 : i3 < (((Int32.ofNat en) - (1 : Int32)) - ((((own_dotI (nar .char c9) (1 : Int32) (Int32.ofNat f) (Int32.ofNat en)) + ((2 : Int32) * (own_dotI (nar .char c13) (2 : Int32) (Int32.ofNat f) (Int32.ofNat en)))) + ((3 : Int32) * (own_dotI (nar .char c17) (3 : Int32) (Int32.ofNat f) (Int32.ofNat en)))) + ((4 : Int32) * (own_dotI (nar .char c21) (4 : Int32) (Int32.ofNat f) (Int32.ofNat en)))))
                    · have c81 : ∀ tg, Steps p.tables e below (T58.setTop (mkF m 361 #[.val (.long i0), .second, .val (.int i1), .val (.int i2), .val (.int i3), .val (.ref b2), .val (.ref b24), .val (.int (Int32.ofNat en)), .val (.int x8_33), .val (.int (Int32.ofNat f)), .val (.int x10), .val (.int (own_dotI (nar .char c5) (0 : Int32) (Int32.ofNat f) (Int32.ofNat en))), .val (.int (own_dotI (nar .char c9) (1 : Int32) (Int32.ofNat f) (Int32.ofNat en))), .val (.int (own_dotI (nar .char c13) (2 : Int32) (Int32.ofNat f) (Int32.ofNat en))), .val (.int (own_dotI (nar .char c17) (3 : Int32) (Int32.ofNat f) (Int32.ofNat en))), .val (.int (own_dotI (nar .char c21) (4 : Int32) (Int32.ofNat f) (Int32.ofNat en))), .val (.int (((((own_dotI (nar .char c5) (0 : Int32) (Int32.ofNat f) (Int32.ofNat en)) + (own_dotI (nar .char c9) (1 : Int32) (Int32.ofNat f) (Int32.ofNat en))) + (own_dotI (nar .char c13) (2 : Int32) (Int32.ofNat f) (Int32.ofNat en))) + (own_dotI (nar .char c17) (3 : Int32) (Int32.ofNat f) (Int32.ofNat en))) + (own_dotI (nar .char c21) (4 : Int32) (Int32.ofNat f) (Int32.ofNat en)))), .val (.int ((((own_dotI (nar .char c9) (1 : Int32) (Int32.ofNat f) (Int32.ofNat en)) + ((2 : Int32) * (own_dotI (nar .char c13) (2 : Int32) (Int32.ofNat f) (Int32.ofNat en)))) + ((3 : Int32) * (own_dotI (nar .char c17) (3 : Int32) (Int32.ofNat f) (Int32.ofNat en)))) + ((4 : Int32) * (own_dotI (nar .char c21) (4 : Int32) (Int32.ofNat f) (Int32.ofNat en))))), .unset] [(.int (0 : Int32))])) tg → Steps p.tables e below (T58.setTop (mkF m 353 #[.val (.long i0), .second, .val (.int i1), .val (.int i2), .val (.int i3), .val (.ref b2), .val (.ref b24), .val (.int (Int32.ofNat en)), .val (.int x8_33), .val (.int (Int32.ofNat f)), .val (.int x10), .val (.int (own_dotI (nar .char c5) (0 : Int32) (Int32.ofNat f) (Int32.ofNat en))), .val (.int (own_dotI (nar .char c9) (1 : Int32) (Int32.ofNat f) (Int32.ofNat en))), .val (.int (own_dotI (nar .char c13) (2 : Int32) (Int32.ofNat f) (Int32.ofNat en))), .val (.int (own_dotI (nar .char c17) (3 : Int32) (Int32.ofNat f) (Int32.ofNat en))), .val (.int (own_dotI (nar .char c21) (4 : Int32) (Int32.ofNat f) (Int32.ofNat en))), .val (.int (((((own_dotI (nar .char c5) (0 : Int32) (Int32.ofNat f) (Int32.ofNat en)) + (own_dotI (nar .char c9) (1 : Int32) (Int32.ofNat f) (Int32.ofNat en))) + (own_dotI (nar .char c13) (2 : Int32) (Int32.ofNat f) (Int32.ofNat en))) + (own_dotI (nar .char c17) (3 : Int32) (Int32.ofNat f) (Int32.ofNat en))) + (own_dotI (nar .char c21) (4 : Int32) (Int32.ofNat f) (Int32.ofNat en)))), .val (.int ((((own_dotI (nar .char c9) (1 : Int32) (Int32.ofNat f) (Int32.ofNat en)) + ((2 : Int32) * (own_dotI (nar .char c13) (2 : Int32) (Int32.ofNat f) (Int32.ofNat en)))) + ((3 : Int32) * (own_dotI (nar .char c17) (3 : Int32) (Int32.ofNat f) (Int32.ofNat en)))) + ((4 : Int32) * (own_dotI (nar .char c21) (4 : Int32) (Int32.ofNat f) (Int32.ofNat en))))), .unset] [(.int i3), (.int (((Int32.ofNat en) - (1 : Int32)) - ((((own_dotI (nar .char c9) (1 : Int32) (Int32.ofNat f) (Int32.ofNat en)) + ((2 : Int32) * (own_dotI (nar .char c13) (2 : Int32) (Int32.ofNat f) (Int32.ofNat en)))) + ((3 : Int32) * (own_dotI (nar .char c17) (3 : Int32) (Int32.ofNat f) (Int32.ofNat en)))) + ((4 : Int32) * (own_dotI (nar .char c21) (4 : Int32) (Int32.ofNat f) (Int32.ofNat en))))))])) tg := fun tg kg => by
                        refine XS.icmpYes X58.here hx rfl (pc0 := 353) (pc' := 360) rfl (hb hby at_353) rfl (tlt hc80).2.2.1 (by decide) (by decide) ?_
                        show Steps p.tables e below (T58.setTop (mkF m 360 #[.val (.long i0), .second, .val (.int i1), .val (.int i2), .val (.int i3), .val (.ref b2), .val (.ref b24), .val (.int (Int32.ofNat en)), .val (.int x8_33), .val (.int (Int32.ofNat f)), .val (.int x10), .val (.int (own_dotI (nar .char c5) (0 : Int32) (Int32.ofNat f) (Int32.ofNat en))), .val (.int (own_dotI (nar .char c9) (1 : Int32) (Int32.ofNat f) (Int32.ofNat en))), .val (.int (own_dotI (nar .char c13) (2 : Int32) (Int32.ofNat f) (Int32.ofNat en))), .val (.int (own_dotI (nar .char c17) (3 : Int32) (Int32.ofNat f) (Int32.ofNat en))), .val (.int (own_dotI (nar .char c21) (4 : Int32) (Int32.ofNat f) (Int32.ofNat en))), .val (.int (((((own_dotI (nar .char c5) (0 : Int32) (Int32.ofNat f) (Int32.ofNat en)) + (own_dotI (nar .char c9) (1 : Int32) (Int32.ofNat f) (Int32.ofNat en))) + (own_dotI (nar .char c13) (2 : Int32) (Int32.ofNat f) (Int32.ofNat en))) + (own_dotI (nar .char c17) (3 : Int32) (Int32.ofNat f) (Int32.ofNat en))) + (own_dotI (nar .char c21) (4 : Int32) (Int32.ofNat f) (Int32.ofNat en)))), .val (.int ((((own_dotI (nar .char c9) (1 : Int32) (Int32.ofNat f) (Int32.ofNat en)) + ((2 : Int32) * (own_dotI (nar .char c13) (2 : Int32) (Int32.ofNat f) (Int32.ofNat en)))) + ((3 : Int32) * (own_dotI (nar .char c17) (3 : Int32) (Int32.ofNat f) (Int32.ofNat en)))) + ((4 : Int32) * (own_dotI (nar .char c21) (4 : Int32) (Int32.ofNat f) (Int32.ofNat en))))), .unset] [])) tg
                        refine XS.iconst X58.here hx rfl (hb hby at_360) ?_
                        show Steps p.tables e below (T58.setTop (mkF m 361 #[.val (.long i0), .second, .val (.int i1), .val (.int i2), .val (.int i3), .val (.ref b2), .val (.ref b24), .val (.int (Int32.ofNat en)), .val (.int x8_33), .val (.int (Int32.ofNat f)), .val (.int x10), .val (.int (own_dotI (nar .char c5) (0 : Int32) (Int32.ofNat f) (Int32.ofNat en))), .val (.int (own_dotI (nar .char c9) (1 : Int32) (Int32.ofNat f) (Int32.ofNat en))), .val (.int (own_dotI (nar .char c13) (2 : Int32) (Int32.ofNat f) (Int32.ofNat en))), .val (.int (own_dotI (nar .char c17) (3 : Int32) (Int32.ofNat f) (Int32.ofNat en))), .val (.int (own_dotI (nar .char c21) (4 : Int32) (Int32.ofNat f) (Int32.ofNat en))), .val (.int (((((own_dotI (nar .char c5) (0 : Int32) (Int32.ofNat f) (Int32.ofNat en)) + (own_dotI (nar .char c9) (1 : Int32) (Int32.ofNat f) (Int32.ofNat en))) + (own_dotI (nar .char c13) (2 : Int32) (Int32.ofNat f) (Int32.ofNat en))) + (own_dotI (nar .char c17) (3 : Int32) (Int32.ofNat f) (Int32.ofNat en))) + (own_dotI (nar .char c21) (4 : Int32) (Int32.ofNat f) (Int32.ofNat en)))), .val (.int ((((own_dotI (nar .char c9) (1 : Int32) (Int32.ofNat f) (Int32.ofNat en)) + ((2 : Int32) * (own_dotI (nar .char c13) (2 : Int32) (Int32.ofNat f) (Int32.ofNat en)))) + ((3 : Int32) * (own_dotI (nar .char c17) (3 : Int32) (Int32.ofNat f) (Int32.ofNat en)))) + ((4 : Int32) * (own_dotI (nar .char c21) (4 : Int32) (Int32.ofNat f) (Int32.ofNat en))))), .unset] [(.int (0 : Int32))])) tg
                        exact kg
                      refine gs c81 ?_
                      exact mid60 (0 : Int32) T58 _ (Or.inr ⟨rfl, fun q => q.2.2.elim hc71 (fun r => r.2.2.2 hc80)⟩) X58 e58q N58
                    · have c82 : ∀ tg, Steps p.tables e below (T58.setTop (mkF m 361 #[.val (.long i0), .second, .val (.int i1), .val (.int i2), .val (.int i3), .val (.ref b2), .val (.ref b24), .val (.int (Int32.ofNat en)), .val (.int x8_33), .val (.int (Int32.ofNat f)), .val (.int x10), .val (.int (own_dotI (nar .char c5) (0 : Int32) (Int32.ofNat f) (Int32.ofNat en))), .val (.int (own_dotI (nar .char c9) (1 : Int32) (Int32.ofNat f) (Int32.ofNat en))), .val (.int (own_dotI (nar .char c13) (2 : Int32) (Int32.ofNat f) (Int32.ofNat en))), .val (.int (own_dotI (nar .char c17) (3 : Int32) (Int32.ofNat f) (Int32.ofNat en))), .val (.int (own_dotI (nar .char c21) (4 : Int32) (Int32.ofNat f) (Int32.ofNat en))), .val (.int (((((own_dotI (nar .char c5) (0 : Int32) (Int32.ofNat f) (Int32.ofNat en)) + (own_dotI (nar .char c9) (1 : Int32) (Int32.ofNat f) (Int32.ofNat en))) + (own_dotI (nar .char c13) (2 : Int32) (Int32.ofNat f) (Int32.ofNat en))) + (own_dotI (nar .char c17) (3 : Int32) (Int32.ofNat f) (Int32.ofNat en))) + (own_dotI (nar .char c21) (4 : Int32) (Int32.ofNat f) (Int32.ofNat en)))), .val (.int ((((own_dotI (nar .char c9) (1 : Int32) (Int32.ofNat f) (Int32.ofNat en)) + ((2 : Int32) * (own_dotI (nar .char c13) (2 : Int32) (Int32.ofNat f) (Int32.ofNat en)))) + ((3 : Int32) * (own_dotI (nar .char c17) (3 : Int32) (Int32.ofNat f) (Int32.ofNat en)))) + ((4 : Int32) * (own_dotI (nar .char c21) (4 : Int32) (Int32.ofNat f) (Int32.ofNat en))))), .unset] [(.int (1 : Int32))])) tg → Steps p.tables e below (T58.setTop (mkF m 353 #[.val (.long i0), .second, .val (.int i1), .val (.int i2), .val (.int i3), .val (.ref b2), .val (.ref b24), .val (.int (Int32.ofNat en)), .val (.int x8_33), .val (.int (Int32.ofNat f)), .val (.int x10), .val (.int (own_dotI (nar .char c5) (0 : Int32) (Int32.ofNat f) (Int32.ofNat en))), .val (.int (own_dotI (nar .char c9) (1 : Int32) (Int32.ofNat f) (Int32.ofNat en))), .val (.int (own_dotI (nar .char c13) (2 : Int32) (Int32.ofNat f) (Int32.ofNat en))), .val (.int (own_dotI (nar .char c17) (3 : Int32) (Int32.ofNat f) (Int32.ofNat en))), .val (.int (own_dotI (nar .char c21) (4 : Int32) (Int32.ofNat f) (Int32.ofNat en))), .val (.int (((((own_dotI (nar .char c5) (0 : Int32) (Int32.ofNat f) (Int32.ofNat en)) + (own_dotI (nar .char c9) (1 : Int32) (Int32.ofNat f) (Int32.ofNat en))) + (own_dotI (nar .char c13) (2 : Int32) (Int32.ofNat f) (Int32.ofNat en))) + (own_dotI (nar .char c17) (3 : Int32) (Int32.ofNat f) (Int32.ofNat en))) + (own_dotI (nar .char c21) (4 : Int32) (Int32.ofNat f) (Int32.ofNat en)))), .val (.int ((((own_dotI (nar .char c9) (1 : Int32) (Int32.ofNat f) (Int32.ofNat en)) + ((2 : Int32) * (own_dotI (nar .char c13) (2 : Int32) (Int32.ofNat f) (Int32.ofNat en)))) + ((3 : Int32) * (own_dotI (nar .char c17) (3 : Int32) (Int32.ofNat f) (Int32.ofNat en)))) + ((4 : Int32) * (own_dotI (nar .char c21) (4 : Int32) (Int32.ofNat f) (Int32.ofNat en))))), .unset] [(.int i3), (.int (((Int32.ofNat en) - (1 : Int32)) - ((((own_dotI (nar .char c9) (1 : Int32) (Int32.ofNat f) (Int32.ofNat en)) + ((2 : Int32) * (own_dotI (nar .char c13) (2 : Int32) (Int32.ofNat f) (Int32.ofNat en)))) + ((3 : Int32) * (own_dotI (nar .char c17) (3 : Int32) (Int32.ofNat f) (Int32.ofNat en)))) + ((4 : Int32) * (own_dotI (nar .char c21) (4 : Int32) (Int32.ofNat f) (Int32.ofNat en))))))])) tg := fun tg kg => by
                        refine XS.icmpNo X58.here hx rfl (hb hby at_353) rfl (flt hc80).2.2.1 ?_
                        show Steps p.tables e below (T58.setTop (mkF m 356 #[.val (.long i0), .second, .val (.int i1), .val (.int i2), .val (.int i3), .val (.ref b2), .val (.ref b24), .val (.int (Int32.ofNat en)), .val (.int x8_33), .val (.int (Int32.ofNat f)), .val (.int x10), .val (.int (own_dotI (nar .char c5) (0 : Int32) (Int32.ofNat f) (Int32.ofNat en))), .val (.int (own_dotI (nar .char c9) (1 : Int32) (Int32.ofNat f) (Int32.ofNat en))), .val (.int (own_dotI (nar .char c13) (2 : Int32) (Int32.ofNat f) (Int32.ofNat en))), .val (.int (own_dotI (nar .char c17) (3 : Int32) (Int32.ofNat f) (Int32.ofNat en))), .val (.int (own_dotI (nar .char c21) (4 : Int32) (Int32.ofNat f) (Int32.ofNat en))), .val (.int (((((own_dotI (nar .char c5) (0 : Int32) (Int32.ofNat f) (Int32.ofNat en)) + (own_dotI (nar .char c9) (1 : Int32) (Int32.ofNat f) (Int32.ofNat en))) + (own_dotI (nar .char c13) (2 : Int32) (Int32.ofNat f) (Int32.ofNat en))) + (own_dotI (nar .char c17) (3 : Int32) (Int32.ofNat f) (Int32.ofNat en))) + (own_dotI (nar .char c21) (4 : Int32) (Int32.ofNat f) (Int32.ofNat en)))), .val (.int ((((own_dotI (nar .char c9) (1 : Int32) (Int32.ofNat f) (Int32.ofNat en)) + ((2 : Int32) * (own_dotI (nar .char c13) (2 : Int32) (Int32.ofNat f) (Int32.ofNat en)))) + ((3 : Int32) * (own_dotI (nar .char c17) (3 : Int32) (Int32.ofNat f) (Int32.ofNat en)))) + ((4 : Int32) * (own_dotI (nar .char c21) (4 : Int32) (Int32.ofNat f) (Int32.ofNat en))))), .unset] [])) tg
                        refine XS.iconst X58.here hx rfl (hb hby at_356) ?_
                        show Steps p.tables e below (T58.setTop (mkF m 357 #[.val (.long i0), .second, .val (.int i1), .val (.int i2), .val (.int i3), .val (.ref b2), .val (.ref b24), .val (.int (Int32.ofNat en)), .val (.int x8_33), .val (.int (Int32.ofNat f)), .val (.int x10), .val (.int (own_dotI (nar .char c5) (0 : Int32) (Int32.ofNat f) (Int32.ofNat en))), .val (.int (own_dotI (nar .char c9) (1 : Int32) (Int32.ofNat f) (Int32.ofNat en))), .val (.int (own_dotI (nar .char c13) (2 : Int32) (Int32.ofNat f) (Int32.ofNat en))), .val (.int (own_dotI (nar .char c17) (3 : Int32) (Int32.ofNat f) (Int32.ofNat en))), .val (.int (own_dotI (nar .char c21) (4 : Int32) (Int32.ofNat f) (Int32.ofNat en))), .val (.int (((((own_dotI (nar .char c5) (0 : Int32) (Int32.ofNat f) (Int32.ofNat en)) + (own_dotI (nar .char c9) (1 : Int32) (Int32.ofNat f) (Int32.ofNat en))) + (own_dotI (nar .char c13) (2 : Int32) (Int32.ofNat f) (Int32.ofNat en))) + (own_dotI (nar .char c17) (3 : Int32) (Int32.ofNat f) (Int32.ofNat en))) + (own_dotI (nar .char c21) (4 : Int32) (Int32.ofNat f) (Int32.ofNat en)))), .val (.int ((((own_dotI (nar .char c9) (1 : Int32) (Int32.ofNat f) (Int32.ofNat en)) + ((2 : Int32) * (own_dotI (nar .char c13) (2 : Int32) (Int32.ofNat f) (Int32.ofNat en)))) + ((3 : Int32) * (own_dotI (nar .char c17) (3 : Int32) (Int32.ofNat f) (Int32.ofNat en)))) + ((4 : Int32) * (own_dotI (nar .char c21) (4 : Int32) (Int32.ofNat f) (Int32.ofNat en))))), .unset] [(.int (1 : Int32))])) tg
                        refine XS.goto X58.here hx rfl (pc0 := 357) (pc' := 361) rfl (hb hby at_357) (by decide) (by decide) ?_
                        show Steps p.tables e below (T58.setTop (mkF m 361 #[.val (.long i0), .second, .val (.int i1), .val (.int i2), .val (.int i3), .val (.ref b2), .val (.ref b24), .val (.int (Int32.ofNat en)), .val (.int x8_33), .val (.int (Int32.ofNat f)), .val (.int x10), .val (.int (own_dotI (nar .char c5) (0 : Int32) (Int32.ofNat f) (Int32.ofNat en))), .val (.int (own_dotI (nar .char c9) (1 : Int32) (Int32.ofNat f) (Int32.ofNat en))), .val (.int (own_dotI (nar .char c13) (2 : Int32) (Int32.ofNat f) (Int32.ofNat en))), .val (.int (own_dotI (nar .char c17) (3 : Int32) (Int32.ofNat f) (Int32.ofNat en))), .val (.int (own_dotI (nar .char c21) (4 : Int32) (Int32.ofNat f) (Int32.ofNat en))), .val (.int (((((own_dotI (nar .char c5) (0 : Int32) (Int32.ofNat f) (Int32.ofNat en)) + (own_dotI (nar .char c9) (1 : Int32) (Int32.ofNat f) (Int32.ofNat en))) + (own_dotI (nar .char c13) (2 : Int32) (Int32.ofNat f) (Int32.ofNat en))) + (own_dotI (nar .char c17) (3 : Int32) (Int32.ofNat f) (Int32.ofNat en))) + (own_dotI (nar .char c21) (4 : Int32) (Int32.ofNat f) (Int32.ofNat en)))), .val (.int ((((own_dotI (nar .char c9) (1 : Int32) (Int32.ofNat f) (Int32.ofNat en)) + ((2 : Int32) * (own_dotI (nar .char c13) (2 : Int32) (Int32.ofNat f) (Int32.ofNat en)))) + ((3 : Int32) * (own_dotI (nar .char c17) (3 : Int32) (Int32.ofNat f) (Int32.ofNat en)))) + ((4 : Int32) * (own_dotI (nar .char c21) (4 : Int32) (Int32.ofNat f) (Int32.ofNat en))))), .unset] [(.int (1 : Int32))])) tg
                        exact kg
                      refine gs c82 ?_
                      exact mid60 (1 : Int32) T58 _ (Or.inl ⟨rfl, hc65, hc68, Or.inr ⟨hc74, hc76, hc78, hc80⟩⟩) X58 e58q N58
                  · have c83 : ∀ tg, Steps p.tables e below (T58.setTop (mkF m 361 #[.val (.long i0), .second, .val (.int i1), .val (.int i2), .val (.int i3), .val (.ref b2), .val (.ref b24), .val (.int (Int32.ofNat en)), .val (.int x8_33), .val (.int (Int32.ofNat f)), .val (.int x10), .val (.int (own_dotI (nar .char c5) (0 : Int32) (Int32.ofNat f) (Int32.ofNat en))), .val (.int (own_dotI (nar .char c9) (1 : Int32) (Int32.ofNat f) (Int32.ofNat en))), .val (.int (own_dotI (nar .char c13) (2 : Int32) (Int32.ofNat f) (Int32.ofNat en))), .val (.int (own_dotI (nar .char c17) (3 : Int32) (Int32.ofNat f) (Int32.ofNat en))), .val (.int (own_dotI (nar .char c21) (4 : Int32) (Int32.ofNat f) (Int32.ofNat en))), .val (.int (((((own_dotI (nar .char c5) (0 : Int32) (Int32.ofNat f) (Int32.ofNat en)) + (own_dotI (nar .char c9) (1 : Int32) (Int32.ofNat f) (Int32.ofNat en))) + (own_dotI (nar .char c13) (2 : Int32) (Int32.ofNat f) (Int32.ofNat en))) + (own_dotI (nar .char c17) (3 : Int32) (Int32.ofNat f) (Int32.ofNat en))) + (own_dotI (nar .char c21) (4 : Int32) (Int32.ofNat f) (Int32.ofNat en)))), .val (.int ((((own_dotI (nar .char c9) (1 : Int32) (Int32.ofNat f) (Int32.ofNat en)) + ((2 : Int32) * (own_dotI (nar .char c13) (2 : Int32) (Int32.ofNat f) (Int32.ofNat en)))) + ((3 : Int32) * (own_dotI (nar .char c17) (3 : Int32) (Int32.ofNat f) (Int32.ofNat en)))) + ((4 : Int32) * (own_dotI (nar .char c21) (4 : Int32) (Int32.ofNat f) (Int32.ofNat en))))), .unset] [(.int (0 : Int32))])) tg → Steps p.tables e below (T58.setTop (mkF m 341 #[.val (.long i0), .second, .val (.int i1), .val (.int i2), .val (.int i3), .val (.ref b2), .val (.ref b24), .val (.int (Int32.ofNat en)), .val (.int x8_33), .val (.int (Int32.ofNat f)), .val (.int x10), .val (.int (own_dotI (nar .char c5) (0 : Int32) (Int32.ofNat f) (Int32.ofNat en))), .val (.int (own_dotI (nar .char c9) (1 : Int32) (Int32.ofNat f) (Int32.ofNat en))), .val (.int (own_dotI (nar .char c13) (2 : Int32) (Int32.ofNat f) (Int32.ofNat en))), .val (.int (own_dotI (nar .char c17) (3 : Int32) (Int32.ofNat f) (Int32.ofNat en))), .val (.int (own_dotI (nar .char c21) (4 : Int32) (Int32.ofNat f) (Int32.ofNat en))), .val (.int (((((own_dotI (nar .char c5) (0 : Int32) (Int32.ofNat f) (Int32.ofNat en)) + (own_dotI (nar .char c9) (1 : Int32) (Int32.ofNat f) (Int32.ofNat en))) + (own_dotI (nar .char c13) (2 : Int32) (Int32.ofNat f) (Int32.ofNat en))) + (own_dotI (nar .char c17) (3 : Int32) (Int32.ofNat f) (Int32.ofNat en))) + (own_dotI (nar .char c21) (4 : Int32) (Int32.ofNat f) (Int32.ofNat en)))), .val (.int ((((own_dotI (nar .char c9) (1 : Int32) (Int32.ofNat f) (Int32.ofNat en)) + ((2 : Int32) * (own_dotI (nar .char c13) (2 : Int32) (Int32.ofNat f) (Int32.ofNat en)))) + ((3 : Int32) * (own_dotI (nar .char c17) (3 : Int32) (Int32.ofNat f) (Int32.ofNat en)))) + ((4 : Int32) * (own_dotI (nar .char c21) (4 : Int32) (Int32.ofNat f) (Int32.ofNat en))))), .unset] [(.int ((Int32.ofNat en) - (1 : Int32))), (.int ((((own_dotI (nar .char c9) (1 : Int32) (Int32.ofNat f) (Int32.ofNat en)) + ((2 : Int32) * (own_dotI (nar .char c13) (2 : Int32) (Int32.ofNat f) (Int32.ofNat en)))) + ((3 : Int32) * (own_dotI (nar .char c17) (3 : Int32) (Int32.ofNat f) (Int32.ofNat en)))) + ((4 : Int32) * (own_dotI (nar .char c21) (4 : Int32) (Int32.ofNat f) (Int32.ofNat en)))))])) tg := fun tg kg => by
                      refine XS.icmpYes X58.here hx rfl (pc0 := 341) (pc' := 360) rfl (hb hby at_341) rfl (flt hc78).2.1 (by decide) (by decide) ?_
                      show Steps p.tables e below (T58.setTop (mkF m 360 #[.val (.long i0), .second, .val (.int i1), .val (.int i2), .val (.int i3), .val (.ref b2), .val (.ref b24), .val (.int (Int32.ofNat en)), .val (.int x8_33), .val (.int (Int32.ofNat f)), .val (.int x10), .val (.int (own_dotI (nar .char c5) (0 : Int32) (Int32.ofNat f) (Int32.ofNat en))), .val (.int (own_dotI (nar .char c9) (1 : Int32) (Int32.ofNat f) (Int32.ofNat en))), .val (.int (own_dotI (nar .char c13) (2 : Int32) (Int32.ofNat f) (Int32.ofNat en))), .val (.int (own_dotI (nar .char c17) (3 : Int32) (Int32.ofNat f) (Int32.ofNat en))), .val (.int (own_dotI (nar .char c21) (4 : Int32) (Int32.ofNat f) (Int32.ofNat en))), .val (.int (((((own_dotI (nar .char c5) (0 : Int32) (Int32.ofNat f) (Int32.ofNat en)) + (own_dotI (nar .char c9) (1 : Int32) (Int32.ofNat f) (Int32.ofNat en))) + (own_dotI (nar .char c13) (2 : Int32) (Int32.ofNat f) (Int32.ofNat en))) + (own_dotI (nar .char c17) (3 : Int32) (Int32.ofNat f) (Int32.ofNat en))) + (own_dotI (nar .char c21) (4 : Int32) (Int32.ofNat f) (Int32.ofNat en)))), .val (.int ((((own_dotI (nar .char c9) (1 : Int32) (Int32.ofNat f) (Int32.ofNat en)) + ((2 : Int32) * (own_dotI (nar .char c13) (2 : Int32) (Int32.ofNat f) (Int32.ofNat en)))) + ((3 : Int32) * (own_dotI (nar .char c17) (3 : Int32) (Int32.ofNat f) (Int32.ofNat en)))) + ((4 : Int32) * (own_dotI (nar .char c21) (4 : Int32) (Int32.ofNat f) (Int32.ofNat en))))), .unset] [])) tg
                      refine XS.iconst X58.here hx rfl (hb hby at_360) ?_
                      show Steps p.tables e below (T58.setTop (mkF m 361 #[.val (.long i0), .second, .val (.int i1), .val (.int i2), .val (.int i3), .val (.ref b2), .val (.ref b24), .val (.int (Int32.ofNat en)), .val (.int x8_33), .val (.int (Int32.ofNat f)), .val (.int x10), .val (.int (own_dotI (nar .char c5) (0 : Int32) (Int32.ofNat f) (Int32.ofNat en))), .val (.int (own_dotI (nar .char c9) (1 : Int32) (Int32.ofNat f) (Int32.ofNat en))), .val (.int (own_dotI (nar .char c13) (2 : Int32) (Int32.ofNat f) (Int32.ofNat en))), .val (.int (own_dotI (nar .char c17) (3 : Int32) (Int32.ofNat f) (Int32.ofNat en))), .val (.int (own_dotI (nar .char c21) (4 : Int32) (Int32.ofNat f) (Int32.ofNat en))), .val (.int (((((own_dotI (nar .char c5) (0 : Int32) (Int32.ofNat f) (Int32.ofNat en)) + (own_dotI (nar .char c9) (1 : Int32) (Int32.ofNat f) (Int32.ofNat en))) + (own_dotI (nar .char c13) (2 : Int32) (Int32.ofNat f) (Int32.ofNat en))) + (own_dotI (nar .char c17) (3 : Int32) (Int32.ofNat f) (Int32.ofNat en))) + (own_dotI (nar .char c21) (4 : Int32) (Int32.ofNat f) (Int32.ofNat en)))), .val (.int ((((own_dotI (nar .char c9) (1 : Int32) (Int32.ofNat f) (Int32.ofNat en)) + ((2 : Int32) * (own_dotI (nar .char c13) (2 : Int32) (Int32.ofNat f) (Int32.ofNat en)))) + ((3 : Int32) * (own_dotI (nar .char c17) (3 : Int32) (Int32.ofNat f) (Int32.ofNat en)))) + ((4 : Int32) * (own_dotI (nar .char c21) (4 : Int32) (Int32.ofNat f) (Int32.ofNat en))))), .unset] [(.int (0 : Int32))])) tg
                      exact kg
                    refine gs c83 ?_
                    exact mid60 (0 : Int32) T58 _ (Or.inr ⟨rfl, fun q => q.2.2.elim hc71 (fun r => hc78 r.2.2.1)⟩) X58 e58q N58
                · have c84 : ∀ tg, Steps p.tables e below (T58.setTop (mkF m 361 #[.val (.long i0), .second, .val (.int i1), .val (.int i2), .val (.int i3), .val (.ref b2), .val (.ref b24), .val (.int (Int32.ofNat en)), .val (.int x8_33), .val (.int (Int32.ofNat f)), .val (.int x10), .val (.int (own_dotI (nar .char c5) (0 : Int32) (Int32.ofNat f) (Int32.ofNat en))), .val (.int (own_dotI (nar .char c9) (1 : Int32) (Int32.ofNat f) (Int32.ofNat en))), .val (.int (own_dotI (nar .char c13) (2 : Int32) (Int32.ofNat f) (Int32.ofNat en))), .val (.int (own_dotI (nar .char c17) (3 : Int32) (Int32.ofNat f) (Int32.ofNat en))), .val (.int (own_dotI (nar .char c21) (4 : Int32) (Int32.ofNat f) (Int32.ofNat en))), .val (.int (((((own_dotI (nar .char c5) (0 : Int32) (Int32.ofNat f) (Int32.ofNat en)) + (own_dotI (nar .char c9) (1 : Int32) (Int32.ofNat f) (Int32.ofNat en))) + (own_dotI (nar .char c13) (2 : Int32) (Int32.ofNat f) (Int32.ofNat en))) + (own_dotI (nar .char c17) (3 : Int32) (Int32.ofNat f) (Int32.ofNat en))) + (own_dotI (nar .char c21) (4 : Int32) (Int32.ofNat f) (Int32.ofNat en)))), .val (.int ((((own_dotI (nar .char c9) (1 : Int32) (Int32.ofNat f) (Int32.ofNat en)) + ((2 : Int32) * (own_dotI (nar .char c13) (2 : Int32) (Int32.ofNat f) (Int32.ofNat en)))) + ((3 : Int32) * (own_dotI (nar .char c17) (3 : Int32) (Int32.ofNat f) (Int32.ofNat en)))) + ((4 : Int32) * (own_dotI (nar .char c21) (4 : Int32) (Int32.ofNat f) (Int32.ofNat en))))), .unset] [(.int (0 : Int32))])) tg → Steps p.tables e below (T58.setTop (mkF m 332 #[.val (.long i0), .second, .val (.int i1), .val (.int i2), .val (.int i3), .val (.ref b2), .val (.ref b24), .val (.int (Int32.ofNat en)), .val (.int x8_33), .val (.int (Int32.ofNat f)), .val (.int x10), .val (.int (own_dotI (nar .char c5) (0 : Int32) (Int32.ofNat f) (Int32.ofNat en))), .val (.int (own_dotI (nar .char c9) (1 : Int32) (Int32.ofNat f) (Int32.ofNat en))), .val (.int (own_dotI (nar .char c13) (2 : Int32) (Int32.ofNat f) (Int32.ofNat en))), .val (.int (own_dotI (nar .char c17) (3 : Int32) (Int32.ofNat f) (Int32.ofNat en))), .val (.int (own_dotI (nar .char c21) (4 : Int32) (Int32.ofNat f) (Int32.ofNat en))), .val (.int (((((own_dotI (nar .char c5) (0 : Int32) (Int32.ofNat f) (Int32.ofNat en)) + (own_dotI (nar .char c9) (1 : Int32) (Int32.ofNat f) (Int32.ofNat en))) + (own_dotI (nar .char c13) (2 : Int32) (Int32.ofNat f) (Int32.ofNat en))) + (own_dotI (nar .char c17) (3 : Int32) (Int32.ofNat f) (Int32.ofNat en))) + (own_dotI (nar .char c21) (4 : Int32) (Int32.ofNat f) (Int32.ofNat en)))), .val (.int ((((own_dotI (nar .char c9) (1 : Int32) (Int32.ofNat f) (Int32.ofNat en)) + ((2 : Int32) * (own_dotI (nar .char c13) (2 : Int32) (Int32.ofNat f) (Int32.ofNat en)))) + ((3 : Int32) * (own_dotI (nar .char c17) (3 : Int32) (Int32.ofNat f) (Int32.ofNat en)))) + ((4 : Int32) * (own_dotI (nar .char c21) (4 : Int32) (Int32.ofNat f) (Int32.ofNat en))))), .unset] [(.int (Int32.ofNat f)), (.int ((((own_dotI (nar .char c9) (1 : Int32) (Int32.ofNat f) (Int32.ofNat en)) + ((2 : Int32) * (own_dotI (nar .char c13) (2 : Int32) (Int32.ofNat f) (Int32.ofNat en)))) + ((3 : Int32) * (own_dotI (nar .char c17) (3 : Int32) (Int32.ofNat f) (Int32.ofNat en)))) + ((4 : Int32) * (own_dotI (nar .char c21) (4 : Int32) (Int32.ofNat f) (Int32.ofNat en)))))])) tg := fun tg kg => by
                    refine XS.icmpYes X58.here hx rfl (pc0 := 332) (pc' := 360) rfl (hb hby at_332) rfl (flt hc76).2.2.2 (by decide) (by decide) ?_
                    show Steps p.tables e below (T58.setTop (mkF m 360 #[.val (.long i0), .second, .val (.int i1), .val (.int i2), .val (.int i3), .val (.ref b2), .val (.ref b24), .val (.int (Int32.ofNat en)), .val (.int x8_33), .val (.int (Int32.ofNat f)), .val (.int x10), .val (.int (own_dotI (nar .char c5) (0 : Int32) (Int32.ofNat f) (Int32.ofNat en))), .val (.int (own_dotI (nar .char c9) (1 : Int32) (Int32.ofNat f) (Int32.ofNat en))), .val (.int (own_dotI (nar .char c13) (2 : Int32) (Int32.ofNat f) (Int32.ofNat en))), .val (.int (own_dotI (nar .char c17) (3 : Int32) (Int32.ofNat f) (Int32.ofNat en))), .val (.int (own_dotI (nar .char c21) (4 : Int32) (Int32.ofNat f) (Int32.ofNat en))), .val (.int (((((own_dotI (nar .char c5) (0 : Int32) (Int32.ofNat f) (Int32.ofNat en)) + (own_dotI (nar .char c9) (1 : Int32) (Int32.ofNat f) (Int32.ofNat en))) + (own_dotI (nar .char c13) (2 : Int32) (Int32.ofNat f) (Int32.ofNat en))) + (own_dotI (nar .char c17) (3 : Int32) (Int32.ofNat f) (Int32.ofNat en))) + (own_dotI (nar .char c21) (4 : Int32) (Int32.ofNat f) (Int32.ofNat en)))), .val (.int ((((own_dotI (nar .char c9) (1 : Int32) (Int32.ofNat f) (Int32.ofNat en)) + ((2 : Int32) * (own_dotI (nar .char c13) (2 : Int32) (Int32.ofNat f) (Int32.ofNat en)))) + ((3 : Int32) * (own_dotI (nar .char c17) (3 : Int32) (Int32.ofNat f) (Int32.ofNat en)))) + ((4 : Int32) * (own_dotI (nar .char c21) (4 : Int32) (Int32.ofNat f) (Int32.ofNat en))))), .unset] [])) tg
                    refine XS.iconst X58.here hx rfl (hb hby at_360) ?_
                    show Steps p.tables e below (T58.setTop (mkF m 361 #[.val (.long i0), .second, .val (.int i1), .val (.int i2), .val (.int i3), .val (.ref b2), .val (.ref b24), .val (.int (Int32.ofNat en)), .val (.int x8_33), .val (.int (Int32.ofNat f)), .val (.int x10), .val (.int (own_dotI (nar .char c5) (0 : Int32) (Int32.ofNat f) (Int32.ofNat en))), .val (.int (own_dotI (nar .char c9) (1 : Int32) (Int32.ofNat f) (Int32.ofNat en))), .val (.int (own_dotI (nar .char c13) (2 : Int32) (Int32.ofNat f) (Int32.ofNat en))), .val (.int (own_dotI (nar .char c17) (3 : Int32) (Int32.ofNat f) (Int32.ofNat en))), .val (.int (own_dotI (nar .char c21) (4 : Int32) (Int32.ofNat f) (Int32.ofNat en))), .val (.int (((((own_dotI (nar .char c5) (0 : Int32) (Int32.ofNat f) (Int32.ofNat en)) + (own_dotI (nar .char c9) (1 : Int32) (Int32.ofNat f) (Int32.ofNat en))) + (own_dotI (nar .char c13) (2 : Int32) (Int32.ofNat f) (Int32.ofNat en))) + (own_dotI (nar .char c17) (3 : Int32) (Int32.ofNat f) (Int32.ofNat en))) + (own_dotI (nar .char c21) (4 : Int32) (Int32.ofNat f) (Int32.ofNat en)))), .val (.int ((((own_dotI (nar .char c9) (1 : Int32) (Int32.ofNat f) (Int32.ofNat en)) + ((2 : Int32) * (own_dotI (nar .char c13) (2 : Int32) (Int32.ofNat f) (Int32.ofNat en)))) + ((3 : Int32) * (own_dotI (nar .char c17) (3 : Int32) (Int32.ofNat f) (Int32.ofNat en)))) + ((4 : Int32) * (own_dotI (nar .char c21) (4 : Int32) (Int32.ofNat f) (Int32.ofNat en))))), .unset] [(.int (0 : Int32))])) tg
                    exact kg
                  refine gs c84 ?_
                  exact mid60 (0 : Int32) T58 _ (Or.inr ⟨rfl, fun q => q.2.2.elim hc71 (fun r => hc76 r.2.1)⟩) X58 e58q N58
              · have c85 : ∀ tg, Steps p.tables e below (T58.setTop (mkF m 361 #[.val (.long i0), .second, .val (.int i1), .val (.int i2), .val (.int i3), .val (.ref b2), .val (.ref b24), .val (.int (Int32.ofNat en)), .val (.int x8_33), .val (.int (Int32.ofNat f)), .val (.int x10), .val (.int (own_dotI (nar .char c5) (0 : Int32) (Int32.ofNat f) (Int32.ofNat en))), .val (.int (own_dotI (nar .char c9) (1 : Int32) (Int32.ofNat f) (Int32.ofNat en))), .val (.int (own_dotI (nar .char c13) (2 : Int32) (Int32.ofNat f) (Int32.ofNat en))), .val (.int (own_dotI (nar .char c17) (3 : Int32) (Int32.ofNat f) (Int32.ofNat en))), .val (.int (own_dotI (nar .char c21) (4 : Int32) (Int32.ofNat f) (Int32.ofNat en))), .val (.int (((((own_dotI (nar .char c5) (0 : Int32) (Int32.ofNat f) (Int32.ofNat en)) + (own_dotI (nar .char c9) (1 : Int32) (Int32.ofNat f) (Int32.ofNat en))) + (own_dotI (nar .char c13) (2 : Int32) (Int32.ofNat f) (Int32.ofNat en))) + (own_dotI (nar .char c17) (3 : Int32) (Int32.ofNat f) (Int32.ofNat en))) + (own_dotI (nar .char c21) (4 : Int32) (Int32.ofNat f) (Int32.ofNat en)))), .val (.int ((((own_dotI (nar .char c9) (1 : Int32) (Int32.ofNat f) (Int32.ofNat en)) + ((2 : Int32) * (own_dotI (nar .char c13) (2 : Int32) (Int32.ofNat f) (Int32.ofNat en)))) + ((3 : Int32) * (own_dotI (nar .char c17) (3 : Int32) (Int32.ofNat f) (Int32.ofNat en)))) + ((4 : Int32) * (own_dotI (nar .char c21) (4 : Int32) (Int32.ofNat f) (Int32.ofNat en))))), .unset] [(.int (0 : Int32))])) tg → Steps p.tables e below (T58.setTop (mkF m 325 #[.val (.long i0), .second, .val (.int i1), .val (.int i2), .val (.int i3), .val (.ref b2), .val (.ref b24), .val (.int (Int32.ofNat en)), .val (.int x8_33), .val (.int (Int32.ofNat f)), .val (.int x10), .val (.int (own_dotI (nar .char c5) (0 : Int32) (Int32.ofNat f) (Int32.ofNat en))), .val (.int (own_dotI (nar .char c9) (1 : Int32) (Int32.ofNat f) (Int32.ofNat en))), .val (.int (own_dotI (nar .char c13) (2 : Int32) (Int32.ofNat f) (Int32.ofNat en))), .val (.int (own_dotI (nar .char c17) (3 : Int32) (Int32.ofNat f) (Int32.ofNat en))), .val (.int (own_dotI (nar .char c21) (4 : Int32) (Int32.ofNat f) (Int32.ofNat en))), .val (.int (((((own_dotI (nar .char c5) (0 : Int32) (Int32.ofNat f) (Int32.ofNat en)) + (own_dotI (nar .char c9) (1 : Int32) (Int32.ofNat f) (Int32.ofNat en))) + (own_dotI (nar .char c13) (2 : Int32) (Int32.ofNat f) (Int32.ofNat en))) + (own_dotI (nar .char c17) (3 : Int32) (Int32.ofNat f) (Int32.ofNat en))) + (own_dotI (nar .char c21) (4 : Int32) (Int32.ofNat f) (Int32.ofNat en)))), .val (.int ((((own_dotI (nar .char c9) (1 : Int32) (Int32.ofNat f) (Int32.ofNat en)) + ((2 : Int32) * (own_dotI (nar .char c13) (2 : Int32) (Int32.ofNat f) (Int32.ofNat en)))) + ((3 : Int32) * (own_dotI (nar .char c17) (3 : Int32) (Int32.ofNat f) (Int32.ofNat en)))) + ((4 : Int32) * (own_dotI (nar .char c21) (4 : Int32) (Int32.ofNat f) (Int32.ofNat en))))), .unset] [(.int (1 : Int32)), (.int (((((own_dotI (nar .char c5) (0 : Int32) (Int32.ofNat f) (Int32.ofNat en)) + (own_dotI (nar .char c9) (1 : Int32) (Int32.ofNat f) (Int32.ofNat en))) + (own_dotI (nar .char c13) (2 : Int32) (Int32.ofNat f) (Int32.ofNat en))) + (own_dotI (nar .char c17) (3 : Int32) (Int32.ofNat f) (Int32.ofNat en))) + (own_dotI (nar .char c21) (4 : Int32) (Int32.ofNat f) (Int32.ofNat en))))])) tg := fun tg kg => by
                  refine XS.icmpYes X58.here hx rfl (pc0 := 325) (pc' := 360) rfl (hb hby at_325) rfl (feq hc74).2 (by decide) (by decide) ?_
                  show Steps p.tables e below (T58.setTop (mkF m 360 #[.val (.long i0), .second, .val (.int i1), .val (.int i2), .val (.int i3), .val (.ref b2), .val (.ref b24), .val (.int (Int32.ofNat en)), .val (.int x8_33), .val (.int (Int32.ofNat f)), .val (.int x10), .val (.int (own_dotI (nar .char c5) (0 : Int32) (Int32.ofNat f) (Int32.ofNat en))), .val (.int (own_dotI (nar .char c9) (1 : Int32) (Int32.ofNat f) (Int32.ofNat en))), .val (.int (own_dotI (nar .char c13) (2 : Int32) (Int32.ofNat f) (Int32.ofNat en))), .val (.int (own_dotI (nar .char c17) (3 : Int32) (Int32.ofNat f) (Int32.ofNat en))), .val (.int (own_dotI (nar .char c21) (4 : Int32) (Int32.ofNat f) (Int32.ofNat en))), .val (.int (((((own_dotI (nar .char c5) (0 : Int32) (Int32.ofNat f) (Int32.ofNat en)) + (own_dotI (nar .char c9) (1 : Int32) (Int32.ofNat f) (Int32.ofNat en))) + (own_dotI (nar .char c13) (2 : Int32) (Int32.ofNat f) (Int32.ofNat en))) + (own_dotI (nar .char c17) (3 : Int32) (Int32.ofNat f) (Int32.ofNat en))) + (own_dotI (nar .char c21) (4 : Int32) (Int32.ofNat f) (Int32.ofNat en)))), .val (.int ((((own_dotI (nar .char c9) (1 : Int32) (Int32.ofNat f) (Int32.ofNat en)) + ((2 : Int32) * (own_dotI (nar .char c13) (2 : Int32) (Int32.ofNat f) (Int32.ofNat en)))) + ((3 : Int32) * (own_dotI (nar .char c17) (3 : Int32) (Int32.ofNat f) (Int32.ofNat en)))) + ((4 : Int32) * (own_dotI (nar .char c21) (4 : Int32) (Int32.ofNat f) (Int32.ofNat en))))), .unset] [])) tg
                  refine XS.iconst X58.here hx rfl (hb hby at_360) ?_
                  show Steps p.tables e below (T58.setTop (mkF m 361 #[.val (.long i0), .second, .val (.int i1), .val (.int i2), .val (.int i3), .val (.ref b2), .val (.ref b24), .val (.int (Int32.ofNat en)), .val (.int x8_33), .val (.int (Int32.ofNat f)), .val (.int x10), .val (.int (own_dotI (nar .char c5) (0 : Int32) (Int32.ofNat f) (Int32.ofNat en))), .val (.int (own_dotI (nar .char c9) (1 : Int32) (Int32.ofNat f) (Int32.ofNat en))), .val (.int (own_dotI (nar .char c13) (2 : Int32) (Int32.ofNat f) (Int32.ofNat en))), .val (.int (own_dotI (nar .char c17) (3 : Int32) (Int32.ofNat f) (Int32.ofNat en))), .val (.int (own_dotI (nar .char c21) (4 : Int32) (Int32.ofNat f) (Int32.ofNat en))), .val (.int (((((own_dotI (nar .char c5) (0 : Int32) (Int32.ofNat f) (Int32.ofNat en)) + (own_dotI (nar .char c9) (1 : Int32) (Int32.ofNat f) (Int32.ofNat en))) + (own_dotI (nar .char c13) (2 : Int32) (Int32.ofNat f) (Int32.ofNat en))) + (own_dotI (nar .char c17) (3 : Int32) (Int32.ofNat f) (Int32.ofNat en))) + (own_dotI (nar .char c21) (4 : Int32) (Int32.ofNat f) (Int32.ofNat en)))), .val (.int ((((own_dotI (nar .char c9) (1 : Int32) (Int32.ofNat f) (Int32.ofNat en)) + ((2 : Int32) * (own_dotI (nar .char c13) (2 : Int32) (Int32.ofNat f) (Int32.ofNat en)))) + ((3 : Int32) * (own_dotI (nar .char c17) (3 : Int32) (Int32.ofNat f) (Int32.ofNat en)))) + ((4 : Int32) * (own_dotI (nar .char c21) (4 : Int32) (Int32.ofNat f) (Int32.ofNat en))))), .unset] [(.int (0 : Int32))])) tg
                  exact kg
                refine gs c85 ?_
                exact mid60 (0 : Int32) T58 _ (Or.inr ⟨rfl, fun q => q.2.2.elim hc71 (fun r => hc74 r.1)⟩) X58 e58q N58
      have c86 : ∀ tg, Steps p.tables e below (Tj35.setTop (mkF m 119 #[.val (.long i0), .second, .val (.int i1), .val (.int i2), .val (.int i3), .val (.ref b2), .val (.ref b24), .val (.int (Int32.ofNat en)), .val (.int x8_33), .val (.int (Int32.ofNat f)), .unset, .unset, .unset, .unset, .unset, .unset, .unset, .unset, .unset] [(.int (0 : Int32)), (.ref b2)])) tg → Steps p.tables e below (Tj35.setTop (mkF m 116 #[.val (.long i0), .second, .val (.int i1), .val (.int i2), .val (.int i3), .val (.ref b2), .val (.ref b24), .val (.int (Int32.ofNat en)), .val (.int x8_33), .val (.int (Int32.ofNat f)), .unset, .unset, .unset, .unset, .unset, .unset, .unset, .unset, .unset] [])) tg := fun tg kg => by
        refine XS.aload Xj35.here hx rfl (hb hby at_116) rfl rfl ?_
        show Steps p.tables e below (Tj35.setTop (mkF m 118 #[.val (.long i0), .second, .val (.int i1), .val (.int i2), .val (.int i3), .val (.ref b2), .val (.ref b24), .val (.int (Int32.ofNat en)), .val (.int x8_33), .val (.int (Int32.ofNat f)), .unset, .unset, .unset, .unset, .unset, .unset, .unset, .unset, .unset] [(.ref b2)])) tg
        refine XS.iconst Xj35.here hx rfl (hb hby at_118) ?_
        show Steps p.tables e below (Tj35.setTop (mkF m 119 #[.val (.long i0), .second, .val (.int i1), .val (.int i2), .val (.int i3), .val (.ref b2), .val (.ref b24), .val (.int (Int32.ofNat en)), .val (.int x8_33), .val (.int (Int32.ofNat f)), .unset, .unset, .unset, .unset, .unset, .unset, .unset, .unset, .unset] [(.int (0 : Int32)), (.ref b2)])) tg
        exact kg
      refine gs c86 ?_
      have f87 := (f28.keep K29q (ninS (Nat.ne_of_lt (Nat.lt_of_lt_of_le (Nat.lt_of_lt_of_le V2.lt (Nat.le_trans (Nat.le_trans (Nat.le_trans (Nat.le_trans (Keep.of_wr W6).1 (Keep.of_wr W10).1) (Keep.of_wr W14).1) (Keep.of_wr W18).1) (Keep.of_wr W22).1)) (Nat.le_of_eq q24.symm))) nin0))
      obtain ⟨cl88, A88, a88q, a88S, a88N, a88H, a88G⟩ := id f87
      have hi88 := inb_of a88S (j := (0 : Int32)) ⟨by decide, by decide⟩
      have c89 : ∀ tg, Steps p.tables e below (Tj35.setTop (mkF m 125 #[.val (.long i0), .second, .val (.int i1), .val (.int i2), .val (.int i3), .val (.ref b2), .val (.ref b24), .val (.int (Int32.ofNat en)), .val (.int x8_33), .val (.int (Int32.ofNat f)), .unset, .unset, .unset, .unset, .unset, .unset, .unset, .unset, .unset] [(.int (Int32.ofNat en)), (.int (Int32.ofNat f)), (.int (0 : Int32)), (.int (nar .char c5))])) tg → Steps p.tables e below (Tj35.setTop (mkF m 119 #[.val (.long i0), .second, .val (.int i1), .val (.int i2), .val (.int i3), .val (.ref b2), .val (.ref b24), .val (.int (Int32.ofNat en)), .val (.int x8_33), .val (.int (Int32.ofNat f)), .unset, .unset, .unset, .unset, .unset, .unset, .unset, .unset, .unset] [(.int (0 : Int32)), (.ref b2)])) tg := fun tg kg => by
        refine Xj35.caload hx (j := (0 : Int32)) (v := (.int (nar .char c5))) (by rw [ej35]; exact A88.1) (State.isArrayOf_alike hZ.alike A88.2.1) A88.2.2 hi88 (Has.at a88H hi88 rfl) (g := (mkF m 119 #[.val (.long i0), .second, .val (.int i1), .val (.int i2), .val (.int i3), .val (.ref b2), .val (.ref b24), .val (.int (Int32.ofNat en)), .val (.int x8_33), .val (.int (Int32.ofNat f)), .unset, .unset, .unset, .unset, .unset, .unset, .unset, .unset, .unset] [(.int (0 : Int32)), (.ref b2)])) rfl rfl (hb hby at_119) _ ?_
        show Steps p.tables e below (Tj35.setTop (mkF m 120 #[.val (.long i0), .second, .val (.int i1), .val (.int i2), .val (.int i3), .val (.ref b2), .val (.ref b24), .val (.int (Int32.ofNat en)), .val (.int x8_33), .val (.int (Int32.ofNat f)), .unset, .unset, .unset, .unset, .unset, .unset, .unset, .unset, .unset] [(.int (nar .char c5))])) tg
        refine XS.iconst Xj35.here hx rfl (hb hby at_120) ?_
        show Steps p.tables e below (Tj35.setTop (mkF m 121 #[.val (.long i0), .second, .val (.int i1), .val (.int i2), .val (.int i3), .val (.ref b2), .val (.ref b24), .val (.int (Int32.ofNat en)), .val (.int x8_33), .val (.int (Int32.ofNat f)), .unset, .unset, .unset, .unset, .unset, .unset, .unset, .unset, .unset] [(.int (0 : Int32)), (.int (nar .char c5))])) tg
        refine XS.iload Xj35.here hx rfl (hb hby at_121) rfl ?_
        show Steps p.tables e below (Tj35.setTop (mkF m 123 #[.val (.long i0), .second, .val (.int i1), .val (.int i2), .val (.int i3), .val (.ref b2), .val (.ref b24), .val (.int (Int32.ofNat en)), .val (.int x8_33), .val (.int (Int32.ofNat f)), .unset, .unset, .unset, .unset, .unset, .unset, .unset, .unset, .unset] [(.int (Int32.ofNat f)), (.int (0 : Int32)), (.int (nar .char c5))])) tg
        refine XS.iload Xj35.here hx rfl (hb hby at_123) rfl ?_
        show Steps p.tables e below (Tj35.setTop (mkF m 125 #[.val (.long i0), .second, .val (.int i1), .val (.int i2), .val (.int i3), .val (.ref b2), .val (.ref b24), .val (.int (Int32.ofNat en)), .val (.int x8_33), .val (.int (Int32.ofNat f)), .unset, .unset, .unset, .unset, .unset, .unset, .unset, .unset, .unset] [(.int (Int32.ofNat en)), (.int (Int32.ofNat f)), (.int (0 : Int32)), (.int (nar .char c5))])) tg
        exact kg
      refine gs c89 ?_
      obtain ⟨_, _, ⟨T90, L90, k90, n90⟩, -, X90, ⟨Lc90, hQ90, l90, y90, z90⟩, st90⟩ := Jvm.LawKit.callS Xj35 hx (y := (⟨"com/example/tranche/tranche/DecimalsIsWrittenPinLaw", "ok", "(CIII)Z"⟩ : MethodName)) hown (mvT hZ (hw _ (List.mem_of_getElem? (i := 36) rfl))) (mvT hZ (hw _ (List.mem_of_getElem? (i := 37) rfl))) (mvT hZ (hw _ (List.mem_of_getElem? (i := 3) rfl))) (mvT hZ (hw _ (List.mem_of_getElem? (i := 38) rfl))) (by decide) (backC (W := 0) (rm_ok l Z a0 hw [] (nar .char c5) (0 : Int32) (Int32.ofNat f) (Int32.ofNat en) T29.heap n0 Z30 O30 ) hZ (hw _ (List.mem_of_getElem? (i := 38) rfl)) (hw _ (List.mem_of_getElem? (i := 3) rfl)) (by decide) (by decide)) (g := (mkF m 125 #[.val (.long i0), .second, .val (.int i1), .val (.int i2), .val (.int i3), .val (.ref b2), .val (.ref b24), .val (.int (Int32.ofNat en)), .val (.int x8_33), .val (.int (Int32.ofNat f)), .unset, .unset, .unset, .unset, .unset, .unset, .unset, .unset, .unset] [(.int (Int32.ofNat en)), (.int (Int32.ofNat f)), (.int (0 : Int32)), (.int (nar .char c5))])) rfl (by rw [hml]; rfl) (argsL := [(.int (nar .char c5)), (.int (0 : Int32)), (.int (Int32.ofNat f)), (.int (Int32.ofNat en))]) (rest := []) (lenOf pd_195 rfl) rfl (by show 2 * 0 + _ ≤ _; exact Nat.le_of_eq rfl) (hb hby at_125) (fun _ _ => ⟨rfl, ej35, (by decide : 3 + 0 ≤ _), (by decide : 14 + 0 ≤ _)⟩)
      dsimp only [Pt.U, Pt.locs, Pt.cells, Pt.slots] at X90 l90 y90 z90 st90 hQ90
      subst l90 y90 z90
      obtain ⟨rfl, N90q, e90q⟩ := hQ90
      have N90 := Fr.app Nj35 N90q
      refine gs st90 ?_
      show OwnGo p e below s _ _ _ (T90.setTop (mkF m 128 #[.val (.long i0), .second, .val (.int i1), .val (.int i2), .val (.int i3), .val (.ref b2), .val (.ref b24), .val (.int (Int32.ofNat en)), .val (.int x8_33), .val (.int (Int32.ofNat f)), .unset, .unset, .unset, .unset, .unset, .unset, .unset, .unset, .unset] [(.int (own_okI (nar .char c5) (0 : Int32) (Int32.ofNat f) (Int32.ofNat en)))]))
      by_cases hc91 : own_okP (nar .char c5) (0 : Int32) (Int32.ofNat f) (Int32.ofNat en)
      · have c92 : ∀ tg, Steps p.tables e below (T90.setTop (mkF m 134 #[.val (.long i0), .second, .val (.int i1), .val (.int i2), .val (.int i3), .val (.ref b2), .val (.ref b24), .val (.int (Int32.ofNat en)), .val (.int x8_33), .val (.int (Int32.ofNat f)), .unset, .unset, .unset, .unset, .unset, .unset, .unset, .unset, .unset] [(.int (1 : Int32)), (.ref b2)])) tg → Steps p.tables e below (T90.setTop (mkF m 128 #[.val (.long i0), .second, .val (.int i1), .val (.int i2), .val (.int i3), .val (.ref b2), .val (.ref b24), .val (.int (Int32.ofNat en)), .val (.int x8_33), .val (.int (Int32.ofNat f)), .unset, .unset, .unset, .unset, .unset, .unset, .unset, .unset, .unset] [(.int (own_okI (nar .char c5) (0 : Int32) (Int32.ofNat f) (Int32.ofNat en)))])) tg := fun tg kg => by
          refine XS.ifNo X90.here hx rfl (hb hby at_128) rfl ((if0 _ _).trans (feq (by rw [own_okI, if_pos hc91]; decide)).1) ?_
          show Steps p.tables e below (T90.setTop (mkF m 131 #[.val (.long i0), .second, .val (.int i1), .val (.int i2), .val (.int i3), .val (.ref b2), .val (.ref b24), .val (.int (Int32.ofNat en)), .val (.int x8_33), .val (.int (Int32.ofNat f)), .unset, .unset, .unset, .unset, .unset, .unset, .unset, .unset, .unset] [])) tg
          refine XS.aload X90.here hx rfl (hb hby at_131) rfl rfl ?_
          show Steps p.tables e below (T90.setTop (mkF m 133 #[.val (.long i0), .second, .val (.int i1), .val (.int i2), .val (.int i3), .val (.ref b2), .val (.ref b24), .val (.int (Int32.ofNat en)), .val (.int x8_33), .val (.int (Int32.ofNat f)), .unset, .unset, .unset, .unset, .unset, .unset, .unset, .unset, .unset] [(.ref b2)])) tg
          refine XS.iconst X90.here hx rfl (hb hby at_133) ?_
          show Steps p.tables e below (T90.setTop (mkF m 134 #[.val (.long i0), .second, .val (.int i1), .val (.int i2), .val (.int i3), .val (.ref b2), .val (.ref b24), .val (.int (Int32.ofNat en)), .val (.int x8_33), .val (.int (Int32.ofNat f)), .unset, .unset, .unset, .unset, .unset, .unset, .unset, .unset, .unset] [(.int (1 : Int32)), (.ref b2)])) tg
          exact kg
        refine gs c92 ?_
        obtain ⟨cl93, A93, a93q, a93S, a93N, a93H, a93G⟩ := id f87
        have hi93 := inb_of a93S (j := (1 : Int32)) ⟨by decide, by decide⟩
        have c94 : ∀ tg, Steps p.tables e below (T90.setTop (mkF m 140 #[.val (.long i0), .second, .val (.int i1), .val (.int i2), .val (.int i3), .val (.ref b2), .val (.ref b24), .val (.int (Int32.ofNat en)), .val (.int x8_33), .val (.int (Int32.ofNat f)), .unset, .unset, .unset, .unset, .unset, .unset, .unset, .unset, .unset] [(.int (Int32.ofNat en)), (.int (Int32.ofNat f)), (.int (1 : Int32)), (.int (nar .char c9))])) tg → Steps p.tables e below (T90.setTop (mkF m 134 #[.val (.long i0), .second, .val (.int i1), .val (.int i2), .val (.int i3), .val (.ref b2), .val (.ref b24), .val (.int (Int32.ofNat en)), .val (.int x8_33), .val (.int (Int32.ofNat f)), .unset, .unset, .unset, .unset, .unset, .unset, .unset, .unset, .unset] [(.int (1 : Int32)), (.ref b2)])) tg := fun tg kg => by
          refine X90.caload hx (j := (1 : Int32)) (v := (.int (nar .char c9))) (by rw [e90q]; exact A93.1) (State.isArrayOf_alike hZ.alike A93.2.1) A93.2.2 hi93 (Has.at a93H hi93 rfl) (g := (mkF m 134 #[.val (.long i0), .second, .val (.int i1), .val (.int i2), .val (.int i3), .val (.ref b2), .val (.ref b24), .val (.int (Int32.ofNat en)), .val (.int x8_33), .val (.int (Int32.ofNat f)), .unset, .unset, .unset, .unset, .unset, .unset, .unset, .unset, .unset] [(.int (1 : Int32)), (.ref b2)])) rfl rfl (hb hby at_134) _ ?_
          show Steps p.tables e below (T90.setTop (mkF m 135 #[.val (.long i0), .second, .val (.int i1), .val (.int i2), .val (.int i3), .val (.ref b2), .val (.ref b24), .val (.int (Int32.ofNat en)), .val (.int x8_33), .val (.int (Int32.ofNat f)), .unset, .unset, .unset, .unset, .unset, .unset, .unset, .unset, .unset] [(.int (nar .char c9))])) tg
          refine XS.iconst X90.here hx rfl (hb hby at_135) ?_
          show Steps p.tables e below (T90.setTop (mkF m 136 #[.val (.long i0), .second, .val (.int i1), .val (.int i2), .val (.int i3), .val (.ref b2), .val (.ref b24), .val (.int (Int32.ofNat en)), .val (.int x8_33), .val (.int (Int32.ofNat f)), .unset, .unset, .unset, .unset, .unset, .unset, .unset, .unset, .unset] [(.int (1 : Int32)), (.int (nar .char c9))])) tg
          refine XS.iload X90.here hx rfl (hb hby at_136) rfl ?_
          show Steps p.tables e below (T90.setTop (mkF m 138 #[.val (.long i0), .second, .val (.int i1), .val (.int i2), .val (.int i3), .val (.ref b2), .val (.ref b24), .val (.int (Int32.ofNat en)), .val (.int x8_33), .val (.int (Int32.ofNat f)), .unset, .unset, .unset, .unset, .unset, .unset, .unset, .unset, .unset] [(.int (Int32.ofNat f)), (.int (1 : Int32)), (.int (nar .char c9))])) tg
          refine XS.iload X90.here hx rfl (hb hby at_138) rfl ?_
          show Steps p.tables e below (T90.setTop (mkF m 140 #[.val (.long i0), .second, .val (.int i1), .val (.int i2), .val (.int i3), .val (.ref b2), .val (.ref b24), .val (.int (Int32.ofNat en)), .val (.int x8_33), .val (.int (Int32.ofNat f)), .unset, .unset, .unset, .unset, .unset, .unset, .unset, .unset, .unset] [(.int (Int32.ofNat en)), (.int (Int32.ofNat f)), (.int (1 : Int32)), (.int (nar .char c9))])) tg
          exact kg
        refine gs c94 ?_
        obtain ⟨_, _, ⟨T95, L95, k95, n95⟩, -, X95, ⟨Lc95, hQ95, l95, y95, z95⟩, st95⟩ := Jvm.LawKit.callS X90 hx (y := (⟨"com/example/tranche/tranche/DecimalsIsWrittenPinLaw", "ok", "(CIII)Z"⟩ : MethodName)) hown (mvT hZ (hw _ (List.mem_of_getElem? (i := 36) rfl))) (mvT hZ (hw _ (List.mem_of_getElem? (i := 37) rfl))) (mvT hZ (hw _ (List.mem_of_getElem? (i := 3) rfl))) (mvT hZ (hw _ (List.mem_of_getElem? (i := 38) rfl))) (by decide) (backC (W := 0) (rm_ok l Z a0 hw [] (nar .char c9) (1 : Int32) (Int32.ofNat f) (Int32.ofNat en) T29.heap n0 Z30 O30 ) hZ (hw _ (List.mem_of_getElem? (i := 38) rfl)) (hw _ (List.mem_of_getElem? (i := 3) rfl)) (by decide) (by decide)) (g := (mkF m 140 #[.val (.long i0), .second, .val (.int i1), .val (.int i2), .val (.int i3), .val (.ref b2), .val (.ref b24), .val (.int (Int32.ofNat en)), .val (.int x8_33), .val (.int (Int32.ofNat f)), .unset, .unset, .unset, .unset, .unset, .unset, .unset, .unset, .unset] [(.int (Int32.ofNat en)), (.int (Int32.ofNat f)), (.int (1 : Int32)), (.int (nar .char c9))])) rfl (by rw [hml]; rfl) (argsL := [(.int (nar .char c9)), (.int (1 : Int32)), (.int (Int32.ofNat f)), (.int (Int32.ofNat en))]) (rest := []) (lenOf pd_195 rfl) rfl (by show 2 * 0 + _ ≤ _; exact Nat.le_of_eq rfl) (hb hby at_140) (fun _ _ => ⟨rfl, e90q, (by decide : 3 + 0 ≤ _), (by decide : 14 + 0 ≤ _)⟩)
        dsimp only [Pt.U, Pt.locs, Pt.cells, Pt.slots] at X95 l95 y95 z95 st95 hQ95
        subst l95 y95 z95
        obtain ⟨rfl, N95q, e95q⟩ := hQ95
        have N95 := Fr.app N90 N95q
        refine gs st95 ?_
        show OwnGo p e below s _ _ _ (T95.setTop (mkF m 143 #[.val (.long i0), .second, .val (.int i1), .val (.int i2), .val (.int i3), .val (.ref b2), .val (.ref b24), .val (.int (Int32.ofNat en)), .val (.int x8_33), .val (.int (Int32.ofNat f)), .unset, .unset, .unset, .unset, .unset, .unset, .unset, .unset, .unset] [(.int (own_okI (nar .char c9) (1 : Int32) (Int32.ofNat f) (Int32.ofNat en)))]))
        by_cases hc96 : own_okP (nar .char c9) (1 : Int32) (Int32.ofNat f) (Int32.ofNat en)
        · have c97 : ∀ tg, Steps p.tables e below (T95.setTop (mkF m 149 #[.val (.long i0), .second, .val (.int i1), .val (.int i2), .val (.int i3), .val (.ref b2), .val (.ref b24), .val (.int (Int32.ofNat en)), .val (.int x8_33), .val (.int (Int32.ofNat f)), .unset, .unset, .unset, .unset, .unset, .unset, .unset, .unset, .unset] [(.int (2 : Int32)), (.ref b2)])) tg → Steps p.tables e below (T95.setTop (mkF m 143 #[.val (.long i0), .second, .val (.int i1), .val (.int i2), .val (.int i3), .val (.ref b2), .val (.ref b24), .val (.int (Int32.ofNat en)), .val (.int x8_33), .val (.int (Int32.ofNat f)), .unset, .unset, .unset, .unset, .unset, .unset, .unset, .unset, .unset] [(.int (own_okI (nar .char c9) (1 : Int32) (Int32.ofNat f) (Int32.ofNat en)))])) tg := fun tg kg => by
            refine XS.ifNo X95.here hx rfl (hb hby at_143) rfl ((if0 _ _).trans (feq (by rw [own_okI, if_pos hc96]; decide)).1) ?_
            show Steps p.tables e below (T95.setTop (mkF m 146 #[.val (.long i0), .second, .val (.int i1), .val (.int i2), .val (.int i3), .val (.ref b2), .val (.ref b24), .val (.int (Int32.ofNat en)), .val (.int x8_33), .val (.int (Int32.ofNat f)), .unset, .unset, .unset, .unset, .unset, .unset, .unset, .unset, .unset] [])) tg
            refine XS.aload X95.here hx rfl (hb hby at_146) rfl rfl ?_
            show Steps p.tables e below (T95.setTop (mkF m 148 #[.val (.long i0), .second, .val (.int i1), .val (.int i2), .val (.int i3), .val (.ref b2), .val (.ref b24), .val (.int (Int32.ofNat en)), .val (.int x8_33), .val (.int (Int32.ofNat f)), .unset, .unset, .unset, .unset, .unset, .unset, .unset, .unset, .unset] [(.ref b2)])) tg
            refine XS.iconst X95.here hx rfl (hb hby at_148) ?_
            show Steps p.tables e below (T95.setTop (mkF m 149 #[.val (.long i0), .second, .val (.int i1), .val (.int i2), .val (.int i3), .val (.ref b2), .val (.ref b24), .val (.int (Int32.ofNat en)), .val (.int x8_33), .val (.int (Int32.ofNat f)), .unset, .unset, .unset, .unset, .unset, .unset, .unset, .unset, .unset] [(.int (2 : Int32)), (.ref b2)])) tg
            exact kg
          refine gs c97 ?_
          obtain ⟨cl98, A98, a98q, a98S, a98N, a98H, a98G⟩ := id f87
          have hi98 := inb_of a98S (j := (2 : Int32)) ⟨by decide, by decide⟩
          have c99 : ∀ tg, Steps p.tables e below (T95.setTop (mkF m 155 #[.val (.long i0), .second, .val (.int i1), .val (.int i2), .val (.int i3), .val (.ref b2), .val (.ref b24), .val (.int (Int32.ofNat en)), .val (.int x8_33), .val (.int (Int32.ofNat f)), .unset, .unset, .unset, .unset, .unset, .unset, .unset, .unset, .unset] [(.int (Int32.ofNat en)), (.int (Int32.ofNat f)), (.int (2 : Int32)), (.int (nar .char c13))])) tg → Steps p.tables e below (T95.setTop (mkF m 149 #[.val (.long i0), .second, .val (.int i1), .val (.int i2), .val (.int i3), .val (.ref b2), .val (.ref b24), .val (.int (Int32.ofNat en)), .val (.int x8_33), .val (.int (Int32.ofNat f)), .unset, .unset, .unset, .unset, .unset, .unset, .unset, .unset, .unset] [(.int (2 : Int32)), (.ref b2)])) tg := fun tg kg => by
            refine X95.caload hx (j := (2 : Int32)) (v := (.int (nar .char c13))) (by rw [e95q]; exact A98.1) (State.isArrayOf_alike hZ.alike A98.2.1) A98.2.2 hi98 (Has.at a98H hi98 rfl) (g := (mkF m 149 #[.val (.long i0), .second, .val (.int i1), .val (.int i2), .val (.int i3), .val (.ref b2), .val (.ref b24), .val (.int (Int32.ofNat en)), .val (.int x8_33), .val (.int (Int32.ofNat f)), .unset, .unset, .unset, .unset, .unset, .unset, .unset, .unset, .unset] [(.int (2 : Int32)), (.ref b2)])) rfl rfl (hb hby at_149) _ ?_
            show Steps p.tables e below (T95.setTop (mkF m 150 #[.val (.long i0), .second, .val (.int i1), .val (.int i2), .val (.int i3), .val (.ref b2), .val (.ref b24), .val (.int (Int32.ofNat en)), .val (.int x8_33), .val (.int (Int32.ofNat f)), .unset, .unset, .unset, .unset, .unset, .unset, .unset, .unset, .unset] [(.int (nar .char c13))])) tg
            refine XS.iconst X95.here hx rfl (hb hby at_150) ?_
            show Steps p.tables e below (T95.setTop (mkF m 151 #[.val (.long i0), .second, .val (.int i1), .val (.int i2), .val (.int i3), .val (.ref b2), .val (.ref b24), .val (.int (Int32.ofNat en)), .val (.int x8_33), .val (.int (Int32.ofNat f)), .unset, .unset, .unset, .unset, .unset, .unset, .unset, .unset, .unset] [(.int (2 : Int32)), (.int (nar .char c13))])) tg
            refine XS.iload X95.here hx rfl (hb hby at_151) rfl ?_
            show Steps p.tables e below (T95.setTop (mkF m 153 #[.val (.long i0), .second, .val (.int i1), .val (.int i2), .val (.int i3), .val (.ref b2), .val (.ref b24), .val (.int (Int32.ofNat en)), .val (.int x8_33), .val (.int (Int32.ofNat f)), .unset, .unset, .unset, .unset, .unset, .unset, .unset, .unset, .unset] [(.int (Int32.ofNat f)), (.int (2 : Int32)), (.int (nar .char c13))])) tg
            refine XS.iload X95.here hx rfl (hb hby at_153) rfl ?_
            show Steps p.tables e below (T95.setTop (mkF m 155 #[.val (.long i0), .second, .val (.int i1), .val (.int i2), .val (.int i3), .val (.ref b2), .val (.ref b24), .val (.int (Int32.ofNat en)), .val (.int x8_33), .val (.int (Int32.ofNat f)), .unset, .unset, .unset, .unset, .unset, .unset, .unset, .unset, .unset] [(.int (Int32.ofNat en)), (.int (Int32.ofNat f)), (.int (2 : Int32)), (.int (nar .char c13))])) tg
            exact kg
          refine gs c99 ?_
          obtain ⟨_, _, ⟨T100, L100, k100, n100⟩, -, X100, ⟨Lc100, hQ100, l100, y100, z100⟩, st100⟩ := Jvm.LawKit.callS X95 hx (y := (⟨"com/example/tranche/tranche/DecimalsIsWrittenPinLaw", "ok", "(CIII)Z"⟩ : MethodName)) hown (mvT hZ (hw _ (List.mem_of_getElem? (i := 36) rfl))) (mvT hZ (hw _ (List.mem_of_getElem? (i := 37) rfl))) (mvT hZ (hw _ (List.mem_of_getElem? (i := 3) rfl))) (mvT hZ (hw _ (List.mem_of_getElem? (i := 38) rfl))) (by decide) (backC (W := 0) (rm_ok l Z a0 hw [] (nar .char c13) (2 : Int32) (Int32.ofNat f) (Int32.ofNat en) T29.heap n0 Z30 O30 ) hZ (hw _ (List.mem_of_getElem? (i := 38) rfl)) (hw _ (List.mem_of_getElem? (i := 3) rfl)) (by decide) (by decide)) (g := (mkF m 155 #[.val (.long i0), .second, .val (.int i1), .val (.int i2), .val (.int i3), .val (.ref b2), .val (.ref b24), .val (.int (Int32.ofNat en)), .val (.int x8_33), .val (.int (Int32.ofNat f)), .unset, .unset, .unset, .unset, .unset, .unset, .unset, .unset, .unset] [(.int (Int32.ofNat en)), (.int (Int32.ofNat f)), (.int (2 : Int32)), (.int (nar .char c13))])) rfl (by rw [hml]; rfl) (argsL := [(.int (nar .char c13)), (.int (2 : Int32)), (.int (Int32.ofNat f)), (.int (Int32.ofNat en))]) (rest := []) (lenOf pd_195 rfl) rfl (by show 2 * 0 + _ ≤ _; exact Nat.le_of_eq rfl) (hb hby at_155) (fun _ _ => ⟨rfl, e95q, (by decide : 3 + 0 ≤ _), (by decide : 14 + 0 ≤ _)⟩)
          dsimp only [Pt.U, Pt.locs, Pt.cells, Pt.slots] at X100 l100 y100 z100 st100 hQ100
          subst l100 y100 z100
          obtain ⟨rfl, N100q, e100q⟩ := hQ100
          have N100 := Fr.app N95 N100q
          refine gs st100 ?_
          show OwnGo p e below s _ _ _ (T100.setTop (mkF m 158 #[.val (.long i0), .second, .val (.int i1), .val (.int i2), .val (.int i3), .val (.ref b2), .val (.ref b24), .val (.int (Int32.ofNat en)), .val (.int x8_33), .val (.int (Int32.ofNat f)), .unset, .unset, .unset, .unset, .unset, .unset, .unset, .unset, .unset] [(.int (own_okI (nar .char c13) (2 : Int32) (Int32.ofNat f) (Int32.ofNat en)))]))
          by_cases hc101 : own_okP (nar .char c13) (2 : Int32) (Int32.ofNat f) (Int32.ofNat en)
          · have c102 : ∀ tg, Steps p.tables e below (T100.setTop (mkF m 164 #[.val (.long i0), .second, .val (.int i1), .val (.int i2), .val (.int i3), .val (.ref b2), .val (.ref b24), .val (.int (Int32.ofNat en)), .val (.int x8_33), .val (.int (Int32.ofNat f)), .unset, .unset, .unset, .unset, .unset, .unset, .unset, .unset, .unset] [(.int (3 : Int32)), (.ref b2)])) tg → Steps p.tables e below (T100.setTop (mkF m 158 #[.val (.long i0), .second, .val (.int i1), .val (.int i2), .val (.int i3), .val (.ref b2), .val (.ref b24), .val (.int (Int32.ofNat en)), .val (.int x8_33), .val (.int (Int32.ofNat f)), .unset, .unset, .unset, .unset, .unset, .unset, .unset, .unset, .unset] [(.int (own_okI (nar .char c13) (2 : Int32) (Int32.ofNat f) (Int32.ofNat en)))])) tg := fun tg kg => by
              refine XS.ifNo X100.here hx rfl (hb hby at_158) rfl ((if0 _ _).trans (feq (by rw [own_okI, if_pos hc101]; decide)).1) ?_
              show Steps p.tables e below (T100.setTop (mkF m 161 #[.val (.long i0), .second, .val (.int i1), .val (.int i2), .val (.int i3), .val (.ref b2), .val (.ref b24), .val (.int (Int32.ofNat en)), .val (.int x8_33), .val (.int (Int32.ofNat f)), .unset, .unset, .unset, .unset, .unset, .unset, .unset, .unset, .unset] [])) tg
              refine XS.aload X100.here hx rfl (hb hby at_161) rfl rfl ?_
              show Steps p.tables e below (T100.setTop (mkF m 163 #[.val (.long i0), .second, .val (.int i1), .val (.int i2), .val (.int i3), .val (.ref b2), .val (.ref b24), .val (.int (Int32.ofNat en)), .val (.int x8_33), .val (.int (Int32.ofNat f)), .unset, .unset, .unset, .unset, .unset, .unset, .unset, .unset, .unset] [(.ref b2)])) tg
              refine XS.iconst X100.here hx rfl (hb hby at_163) ?_
              show Steps p.tables e below (T100.setTop (mkF m 164 #[.val (.long i0), .second, .val (.int i1), .val (.int i2), .val (.int i3), .val (.ref b2), .val (.ref b24), .val (.int (Int32.ofNat en)), .val (.int x8_33), .val (.int (Int32.ofNat f)), .unset, .unset, .unset, .unset, .unset, .unset, .unset, .unset, .unset] [(.int (3 : Int32)), (.ref b2)])) tg
              exact kg
            refine gs c102 ?_
            obtain ⟨cl103, A103, a103q, a103S, a103N, a103H, a103G⟩ := id f87
            have hi103 := inb_of a103S (j := (3 : Int32)) ⟨by decide, by decide⟩
            have c104 : ∀ tg, Steps p.tables e below (T100.setTop (mkF m 170 #[.val (.long i0), .second, .val (.int i1), .val (.int i2), .val (.int i3), .val (.ref b2), .val (.ref b24), .val (.int (Int32.ofNat en)), .val (.int x8_33), .val (.int (Int32.ofNat f)), .unset, .unset, .unset, .unset, .unset, .unset, .unset, .unset, .unset] [(.int (Int32.ofNat en)), (.int (Int32.ofNat f)), (.int (3 : Int32)), (.int (nar .char c17))])) tg → Steps p.tables e below (T100.setTop (mkF m 164 #[.val (.long i0), .second, .val (.int i1), .val (.int i2), .val (.int i3), .val (.ref b2), .val (.ref b24), .val (.int (Int32.ofNat en)), .val (.int x8_33), .val (.int (Int32.ofNat f)), .unset, .unset, .unset, .unset, .unset, .unset, .unset, .unset, .unset] [(.int (3 : Int32)), (.ref b2)])) tg := fun tg kg => by
              refine X100.caload hx (j := (3 : Int32)) (v := (.int (nar .char c17))) (by rw [e100q]; exact A103.1) (State.isArrayOf_alike hZ.alike A103.2.1) A103.2.2 hi103 (Has.at a103H hi103 rfl) (g := (mkF m 164 #[.val (.long i0), .second, .val (.int i1), .val (.int i2), .val (.int i3), .val (.ref b2), .val (.ref b24), .val (.int (Int32.ofNat en)), .val (.int x8_33), .val (.int (Int32.ofNat f)), .unset, .unset, .unset, .unset, .unset, .unset, .unset, .unset, .unset] [(.int (3 : Int32)), (.ref b2)])) rfl rfl (hb hby at_164) _ ?_
              show Steps p.tables e below (T100.setTop (mkF m 165 #[.val (.long i0), .second, .val (.int i1), .val (.int i2), .val (.int i3), .val (.ref b2), .val (.ref b24), .val (.int (Int32.ofNat en)), .val (.int x8_33), .val (.int (Int32.ofNat f)), .unset, .unset, .unset, .unset, .unset, .unset, .unset, .unset, .unset] [(.int (nar .char c17))])) tg
              refine XS.iconst X100.here hx rfl (hb hby at_165) ?_
              show Steps p.tables e below (T100.setTop (mkF m 166 #[.val (.long i0), .second, .val (.int i1), .val (.int i2), .val (.int i3), .val (.ref b2), .val (.ref b24), .val (.int (Int32.ofNat en)), .val (.int x8_33), .val (.int (Int32.ofNat f)), .unset, .unset, .unset, .unset, .unset, .unset, .unset, .unset, .unset] [(.int (3 : Int32)), (.int (nar .char c17))])) tg
              refine XS.iload X100.here hx rfl (hb hby at_166) rfl ?_
              show Steps p.tables e below (T100.setTop (mkF m 168 #[.val (.long i0), .second, .val (.int i1), .val (.int i2), .val (.int i3), .val (.ref b2), .val (.ref b24), .val (.int (Int32.ofNat en)), .val (.int x8_33), .val (.int (Int32.ofNat f)), .unset, .unset, .unset, .unset, .unset, .unset, .unset, .unset, .unset] [(.int (Int32.ofNat f)), (.int (3 : Int32)), (.int (nar .char c17))])) tg
              refine XS.iload X100.here hx rfl (hb hby at_168) rfl ?_
              show Steps p.tables e below (T100.setTop (mkF m 170 #[.val (.long i0), .second, .val (.int i1), .val (.int i2), .val (.int i3), .val (.ref b2), .val (.ref b24), .val (.int (Int32.ofNat en)), .val (.int x8_33), .val (.int (Int32.ofNat f)), .unset, .unset, .unset, .unset, .unset, .unset, .unset, .unset, .unset] [(.int (Int32.ofNat en)), (.int (Int32.ofNat f)), (.int (3 : Int32)), (.int (nar .char c17))])) tg
              exact kg
            refine gs c104 ?_
            obtain ⟨_, _, ⟨T105, L105, k105, n105⟩, -, X105, ⟨Lc105, hQ105, l105, y105, z105⟩, st105⟩ := Jvm.LawKit.callS X100 hx (y := (⟨"com/example/tranche/tranche/DecimalsIsWrittenPinLaw", "ok", "(CIII)Z"⟩ : MethodName)) hown (mvT hZ (hw _ (List.mem_of_getElem? (i := 36) rfl))) (mvT hZ (hw _ (List.mem_of_getElem? (i := 37) rfl))) (mvT hZ (hw _ (List.mem_of_getElem? (i := 3) rfl))) (mvT hZ (hw _ (List.mem_of_getElem? (i := 38) rfl))) (by decide) (backC (W := 0) (rm_ok l Z a0 hw [] (nar .char c17) (3 : Int32) (Int32.ofNat f) (Int32.ofNat en) T29.heap n0 Z30 O30 ) hZ (hw _ (List.mem_of_getElem? (i := 38) rfl)) (hw _ (List.mem_of_getElem? (i := 3) rfl)) (by decide) (by decide)) (g := (mkF m 170 #[.val (.long i0), .second, .val (.int i1), .val (.int i2), .val (.int i3), .val (.ref b2), .val (.ref b24), .val (.int (Int32.ofNat en)), .val (.int x8_33), .val (.int (Int32.ofNat f)), .unset, .unset, .unset, .unset, .unset, .unset, .unset, .unset, .unset] [(.int (Int32.ofNat en)), (.int (Int32.ofNat f)), (.int (3 : Int32)), (.int (nar .char c17))])) rfl (by rw [hml]; rfl) (argsL := [(.int (nar .char c17)), (.int (3 : Int32)), (.int (Int32.ofNat f)), (.int (Int32.ofNat en))]) (rest := []) (lenOf pd_195 rfl) rfl (by show 2 * 0 + _ ≤ _; exact Nat.le_of_eq rfl) (hb hby at_170) (fun _ _ => ⟨rfl, e100q, (by decide : 3 + 0 ≤ _), (by decide : 14 + 0 ≤ _)⟩)
            dsimp only [Pt.U, Pt.locs, Pt.cells, Pt.slots] at X105 l105 y105 z105 st105 hQ105
            subst l105 y105 z105
            obtain ⟨rfl, N105q, e105q⟩ := hQ105
            have N105 := Fr.app N100 N105q
            refine gs st105 ?_
            show OwnGo p e below s _ _ _ (T105.setTop (mkF m 173 #[.val (.long i0), .second, .val (.int i1), .val (.int i2), .val (.int i3), .val (.ref b2), .val (.ref b24), .val (.int (Int32.ofNat en)), .val (.int x8_33), .val (.int (Int32.ofNat f)), .unset, .unset, .unset, .unset, .unset, .unset, .unset, .unset, .unset] [(.int (own_okI (nar .char c17) (3 : Int32) (Int32.ofNat f) (Int32.ofNat en)))]))
            by_cases hc106 : own_okP (nar .char c17) (3 : Int32) (Int32.ofNat f) (Int32.ofNat en)
            · have c107 : ∀ tg, Steps p.tables e below (T105.setTop (mkF m 179 #[.val (.long i0), .second, .val (.int i1), .val (.int i2), .val (.int i3), .val (.ref b2), .val (.ref b24), .val (.int (Int32.ofNat en)), .val (.int x8_33), .val (.int (Int32.ofNat f)), .unset, .unset, .unset, .unset, .unset, .unset, .unset, .unset, .unset] [(.int (4 : Int32)), (.ref b2)])) tg → Steps p.tables e below (T105.setTop (mkF m 173 #[.val (.long i0), .second, .val (.int i1), .val (.int i2), .val (.int i3), .val (.ref b2), .val (.ref b24), .val (.int (Int32.ofNat en)), .val (.int x8_33), .val (.int (Int32.ofNat f)), .unset, .unset, .unset, .unset, .unset, .unset, .unset, .unset, .unset] [(.int (own_okI (nar .char c17) (3 : Int32) (Int32.ofNat f) (Int32.ofNat en)))])) tg := fun tg kg => by
                refine XS.ifNo X105.here hx rfl (hb hby at_173) rfl ((if0 _ _).trans (feq (by rw [own_okI, if_pos hc106]; decide)).1) ?_
                show Steps p.tables e below (T105.setTop (mkF m 176 #[.val (.long i0), .second, .val (.int i1), .val (.int i2), .val (.int i3), .val (.ref b2), .val (.ref b24), .val (.int (Int32.ofNat en)), .val (.int x8_33), .val (.int (Int32.ofNat f)), .unset, .unset, .unset, .unset, .unset, .unset, .unset, .unset, .unset] [])) tg
                refine XS.aload X105.here hx rfl (hb hby at_176) rfl rfl ?_
                show Steps p.tables e below (T105.setTop (mkF m 178 #[.val (.long i0), .second, .val (.int i1), .val (.int i2), .val (.int i3), .val (.ref b2), .val (.ref b24), .val (.int (Int32.ofNat en)), .val (.int x8_33), .val (.int (Int32.ofNat f)), .unset, .unset, .unset, .unset, .unset, .unset, .unset, .unset, .unset] [(.ref b2)])) tg
                refine XS.iconst X105.here hx rfl (hb hby at_178) ?_
                show Steps p.tables e below (T105.setTop (mkF m 179 #[.val (.long i0), .second, .val (.int i1), .val (.int i2), .val (.int i3), .val (.ref b2), .val (.ref b24), .val (.int (Int32.ofNat en)), .val (.int x8_33), .val (.int (Int32.ofNat f)), .unset, .unset, .unset, .unset, .unset, .unset, .unset, .unset, .unset] [(.int (4 : Int32)), (.ref b2)])) tg
                exact kg
              refine gs c107 ?_
              obtain ⟨cl108, A108, a108q, a108S, a108N, a108H, a108G⟩ := id f87
              have hi108 := inb_of a108S (j := (4 : Int32)) ⟨by decide, by decide⟩
              have c109 : ∀ tg, Steps p.tables e below (T105.setTop (mkF m 185 #[.val (.long i0), .second, .val (.int i1), .val (.int i2), .val (.int i3), .val (.ref b2), .val (.ref b24), .val (.int (Int32.ofNat en)), .val (.int x8_33), .val (.int (Int32.ofNat f)), .unset, .unset, .unset, .unset, .unset, .unset, .unset, .unset, .unset] [(.int (Int32.ofNat en)), (.int (Int32.ofNat f)), (.int (4 : Int32)), (.int (nar .char c21))])) tg → Steps p.tables e below (T105.setTop (mkF m 179 #[.val (.long i0), .second, .val (.int i1), .val (.int i2), .val (.int i3), .val (.ref b2), .val (.ref b24), .val (.int (Int32.ofNat en)), .val (.int x8_33), .val (.int (Int32.ofNat f)), .unset, .unset, .unset, .unset, .unset, .unset, .unset, .unset, .unset] [(.int (4 : Int32)), (.ref b2)])) tg := fun tg kg => by
                refine X105.caload hx (j := (4 : Int32)) (v := (.int (nar .char c21))) (by rw [e105q]; exact A108.1) (State.isArrayOf_alike hZ.alike A108.2.1) A108.2.2 hi108 (Has.at a108H hi108 rfl) (g := (mkF m 179 #[.val (.long i0), .second, .val (.int i1), .val (.int i2), .val (.int i3), .val (.ref b2), .val (.ref b24), .val (.int (Int32.ofNat en)), .val (.int x8_33), .val (.int (Int32.ofNat f)), .unset, .unset, .unset, .unset, .unset, .unset, .unset, .unset, .unset] [(.int (4 : Int32)), (.ref b2)])) rfl rfl (hb hby at_179) _ ?_
                show Steps p.tables e below (T105.setTop (mkF m 180 #[.val (.long i0), .second, .val (.int i1), .val (.int i2), .val (.int i3), .val (.ref b2), .val (.ref b24), .val (.int (Int32.ofNat en)), .val (.int x8_33), .val (.int (Int32.ofNat f)), .unset, .unset, .unset, .unset, .unset, .unset, .unset, .unset, .unset] [(.int (nar .char c21))])) tg
                refine XS.iconst X105.here hx rfl (hb hby at_180) ?_
                show Steps p.tables e below (T105.setTop (mkF m 181 #[.val (.long i0), .second, .val (.int i1), .val (.int i2), .val (.int i3), .val (.ref b2), .val (.ref b24), .val (.int (Int32.ofNat en)), .val (.int x8_33), .val (.int (Int32.ofNat f)), .unset, .unset, .unset, .unset, .unset, .unset, .unset, .unset, .unset] [(.int (4 : Int32)), (.int (nar .char c21))])) tg
                refine XS.iload X105.here hx rfl (hb hby at_181) rfl ?_
                show Steps p.tables e below (T105.setTop (mkF m 183 #[.val (.long i0), .second, .val (.int i1), .val (.int i2), .val (.int i3), .val (.ref b2), .val (.ref b24), .val (.int (Int32.ofNat en)), .val (.int x8_33), .val (.int (Int32.ofNat f)), .unset, .unset, .unset, .unset, .unset, .unset, .unset, .unset, .unset] [(.int (Int32.ofNat f)), (.int (4 : Int32)), (.int (nar .char c21))])) tg
                refine XS.iload X105.here hx rfl (hb hby at_183) rfl ?_
                show Steps p.tables e below (T105.setTop (mkF m 185 #[.val (.long i0), .second, .val (.int i1), .val (.int i2), .val (.int i3), .val (.ref b2), .val (.ref b24), .val (.int (Int32.ofNat en)), .val (.int x8_33), .val (.int (Int32.ofNat f)), .unset, .unset, .unset, .unset, .unset, .unset, .unset, .unset, .unset] [(.int (Int32.ofNat en)), (.int (Int32.ofNat f)), (.int (4 : Int32)), (.int (nar .char c21))])) tg
                exact kg
              refine gs c109 ?_
              obtain ⟨_, _, ⟨T110, L110, k110, n110⟩, -, X110, ⟨Lc110, hQ110, l110, y110, z110⟩, st110⟩ := Jvm.LawKit.callS X105 hx (y := (⟨"com/example/tranche/tranche/DecimalsIsWrittenPinLaw", "ok", "(CIII)Z"⟩ : MethodName)) hown (mvT hZ (hw _ (List.mem_of_getElem? (i := 36) rfl))) (mvT hZ (hw _ (List.mem_of_getElem? (i := 37) rfl))) (mvT hZ (hw _ (List.mem_of_getElem? (i := 3) rfl))) (mvT hZ (hw _ (List.mem_of_getElem? (i := 38) rfl))) (by decide) (backC (W := 0) (rm_ok l Z a0 hw [] (nar .char c21) (4 : Int32) (Int32.ofNat f) (Int32.ofNat en) T29.heap n0 Z30 O30 ) hZ (hw _ (List.mem_of_getElem? (i := 38) rfl)) (hw _ (List.mem_of_getElem? (i := 3) rfl)) (by decide) (by decide)) (g := (mkF m 185 #[.val (.long i0), .second, .val (.int i1), .val (.int i2), .val (.int i3), .val (.ref b2), .val (.ref b24), .val (.int (Int32.ofNat en)), .val (.int x8_33), .val (.int (Int32.ofNat f)), .unset, .unset, .unset, .unset, .unset, .unset, .unset, .unset, .unset] [(.int (Int32.ofNat en)), (.int (Int32.ofNat f)), (.int (4 : Int32)), (.int (nar .char c21))])) rfl (by rw [hml]; rfl) (argsL := [(.int (nar .char c21)), (.int (4 : Int32)), (.int (Int32.ofNat f)), (.int (Int32.ofNat en))]) (rest := []) (lenOf pd_195 rfl) rfl (by show 2 * 0 + _ ≤ _; exact Nat.le_of_eq rfl) (hb hby at_185) (fun _ _ => ⟨rfl, e105q, (by decide : 3 + 0 ≤ _), (by decide : 14 + 0 ≤ _)⟩)
              dsimp only [Pt.U, Pt.locs, Pt.cells, Pt.slots] at X110 l110 y110 z110 st110 hQ110
              subst l110 y110 z110
              obtain ⟨rfl, N110q, e110q⟩ := hQ110
              have N110 := Fr.app N105 N110q
              refine gs st110 ?_
              show OwnGo p e below s _ _ _ (T110.setTop (mkF m 188 #[.val (.long i0), .second, .val (.int i1), .val (.int i2), .val (.int i3), .val (.ref b2), .val (.ref b24), .val (.int (Int32.ofNat en)), .val (.int x8_33), .val (.int (Int32.ofNat f)), .unset, .unset, .unset, .unset, .unset, .unset, .unset, .unset, .unset] [(.int (own_okI (nar .char c21) (4 : Int32) (Int32.ofNat f) (Int32.ofNat en)))]))
              by_cases hc111 : own_okP (nar .char c21) (4 : Int32) (Int32.ofNat f) (Int32.ofNat en)
              · have c112 : ∀ tg, Steps p.tables e below (T110.setTop (mkF m 196 #[.val (.long i0), .second, .val (.int i1), .val (.int i2), .val (.int i3), .val (.ref b2), .val (.ref b24), .val (.int (Int32.ofNat en)), .val (.int x8_33), .val (.int (Int32.ofNat f)), .unset, .unset, .unset, .unset, .unset, .unset, .unset, .unset, .unset] [(.int (1 : Int32))])) tg → Steps p.tables e below (T110.setTop (mkF m 188 #[.val (.long i0), .second, .val (.int i1), .val (.int i2), .val (.int i3), .val (.ref b2), .val (.ref b24), .val (.int (Int32.ofNat en)), .val (.int x8_33), .val (.int (Int32.ofNat f)), .unset, .unset, .unset, .unset, .unset, .unset, .unset, .unset, .unset] [(.int (own_okI (nar .char c21) (4 : Int32) (Int32.ofNat f) (Int32.ofNat en)))])) tg := fun tg kg => by
                  refine XS.ifNo X110.here hx rfl (hb hby at_188) rfl ((if0 _ _).trans (feq (by rw [own_okI, if_pos hc111]; decide)).1) ?_
                  show Steps p.tables e below (T110.setTop (mkF m 191 #[.val (.long i0), .second, .val (.int i1), .val (.int i2), .val (.int i3), .val (.ref b2), .val (.ref b24), .val (.int (Int32.ofNat en)), .val (.int x8_33), .val (.int (Int32.ofNat f)), .unset, .unset, .unset, .unset, .unset, .unset, .unset, .unset, .unset] [])) tg
                  refine XS.iconst X110.here hx rfl (hb hby at_191) ?_
                  show Steps p.tables e below (T110.setTop (mkF m 192 #[.val (.long i0), .second, .val (.int i1), .val (.int i2), .val (.int i3), .val (.ref b2), .val (.ref b24), .val (.int (Int32.ofNat en)), .val (.int x8_33), .val (.int (Int32.ofNat f)), .unset, .unset, .unset, .unset, .unset, .unset, .unset, .unset, .unset] [(.int (1 : Int32))])) tg
                  refine XS.goto X110.here hx rfl (pc0 := 192) (pc' := 196) rfl (hb hby at_192) (by decide) (by decide) ?_
                  show Steps p.tables e below (T110.setTop (mkF m 196 #[.val (.long i0), .second, .val (.int i1), .val (.int i2), .val (.int i3), .val (.ref b2), .val (.ref b24), .val (.int (Int32.ofNat en)), .val (.int x8_33), .val (.int (Int32.ofNat f)), .unset, .unset, .unset, .unset, .unset, .unset, .unset, .unset, .unset] [(.int (1 : Int32))])) tg
                  exact kg
                refine gs c112 ?_
                exact mid37 (1 : Int32) T110 _ (Or.inl ⟨rfl, hc91, hc96, hc101, hc106, hc111⟩) X110 e110q N110
              · have c113 : ∀ tg, Steps p.tables e below (T110.setTop (mkF m 196 #[.val (.long i0), .second, .val (.int i1), .val (.int i2), .val (.int i3), .val (.ref b2), .val (.ref b24), .val (.int (Int32.ofNat en)), .val (.int x8_33), .val (.int (Int32.ofNat f)), .unset, .unset, .unset, .unset, .unset, .unset, .unset, .unset, .unset] [(.int (0 : Int32))])) tg → Steps p.tables e below (T110.setTop (mkF m 188 #[.val (.long i0), .second, .val (.int i1), .val (.int i2), .val (.int i3), .val (.ref b2), .val (.ref b24), .val (.int (Int32.ofNat en)), .val (.int x8_33), .val (.int (Int32.ofNat f)), .unset, .unset, .unset, .unset, .unset, .unset, .unset, .unset, .unset] [(.int (own_okI (nar .char c21) (4 : Int32) (Int32.ofNat f) (Int32.ofNat en)))])) tg := fun tg kg => by
                  refine XS.ifYes X110.here hx rfl (pc0 := 188) (pc' := 195) rfl (hb hby at_188) rfl ((if0 _ _).trans (teq (by rw [own_okI, if_neg hc111])).1) (by decide) (by decide) ?_
                  show Steps p.tables e below (T110.setTop (mkF m 195 #[.val (.long i0), .second, .val (.int i1), .val (.int i2), .val (.int i3), .val (.ref b2), .val (.ref b24), .val (.int (Int32.ofNat en)), .val (.int x8_33), .val (.int (Int32.ofNat f)), .unset, .unset, .unset, .unset, .unset, .unset, .unset, .unset, .unset] [])) tg
                  refine XS.iconst X110.here hx rfl (hb hby at_195) ?_
                  show Steps p.tables e below (T110.setTop (mkF m 196 #[.val (.long i0), .second, .val (.int i1), .val (.int i2), .val (.int i3), .val (.ref b2), .val (.ref b24), .val (.int (Int32.ofNat en)), .val (.int x8_33), .val (.int (Int32.ofNat f)), .unset, .unset, .unset, .unset, .unset, .unset, .unset, .unset, .unset] [(.int (0 : Int32))])) tg
                  exact kg
                refine gs c113 ?_
                exact mid37 (0 : Int32) T110 _ (Or.inr ⟨rfl, fun q => hc111 q.2.2.2.2⟩) X110 e110q N110
            · have c114 : ∀ tg, Steps p.tables e below (T105.setTop (mkF m 196 #[.val (.long i0), .second, .val (.int i1), .val (.int i2), .val (.int i3), .val (.ref b2), .val (.ref b24), .val (.int (Int32.ofNat en)), .val (.int x8_33), .val (.int (Int32.ofNat f)), .unset, .unset, .unset, .unset, .unset, .unset, .unset, .unset, .unset] [(.int (0 : Int32))])) tg → Steps p.tables e below (T105.setTop (mkF m 173 #[.val (.long i0), .second, .val (.int i1), .val (.int i2), .val (.int i3), .val (.ref b2), .val (.ref b24), .val (.int (Int32.ofNat en)), .val (.int x8_33), .val (.int (Int32.ofNat f)), .unset, .unset, .unset, .unset, .unset, .unset, .unset, .unset, .unset] [(.int (own_okI (nar .char c17) (3 : Int32) (Int32.ofNat f) (Int32.ofNat en)))])) tg := fun tg kg => by
                refine XS.ifYes X105.here hx rfl (pc0 := 173) (pc' := 195) rfl (hb hby at_173) rfl ((if0 _ _).trans (teq (by rw [own_okI, if_neg hc106])).1) (by decide) (by decide) ?_
                show Steps p.tables e below (T105.setTop (mkF m 195 #[.val (.long i0), .second, .val (.int i1), .val (.int i2), .val (.int i3), .val (.ref b2), .val (.ref b24), .val (.int (Int32.ofNat en)), .val (.int x8_33), .val (.int (Int32.ofNat f)), .unset, .unset, .unset, .unset, .unset, .unset, .unset, .unset, .unset] [])) tg
                refine XS.iconst X105.here hx rfl (hb hby at_195) ?_
                show Steps p.tables e below (T105.setTop (mkF m 196 #[.val (.long i0), .second, .val (.int i1), .val (.int i2), .val (.int i3), .val (.ref b2), .val (.ref b24), .val (.int (Int32.ofNat en)), .val (.int x8_33), .val (.int (Int32.ofNat f)), .unset, .unset, .unset, .unset, .unset, .unset, .unset, .unset, .unset] [(.int (0 : Int32))])) tg
                exact kg
              refine gs c114 ?_
              exact mid37 (0 : Int32) T105 _ (Or.inr ⟨rfl, fun q => hc106 q.2.2.2.1⟩) X105 e105q N105
          · have c115 : ∀ tg, Steps p.tables e below (T100.setTop (mkF m 196 #[.val (.long i0), .second, .val (.int i1), .val (.int i2), .val (.int i3), .val (.ref b2), .val (.ref b24), .val (.int (Int32.ofNat en)), .val (.int x8_33), .val (.int (Int32.ofNat f)), .unset, .unset, .unset, .unset, .unset, .unset, .unset, .unset, .unset] [(.int (0 : Int32))])) tg → Steps p.tables e below (T100.setTop (mkF m 158 #[.val (.long i0), .second, .val (.int i1), .val (.int i2), .val (.int i3), .val (.ref b2), .val (.ref b24), .val (.int (Int32.ofNat en)), .val (.int x8_33), .val (.int (Int32.ofNat f)), .unset, .unset, .unset, .unset, .unset, .unset, .unset, .unset, .unset] [(.int (own_okI (nar .char c13) (2 : Int32) (Int32.ofNat f) (Int32.ofNat en)))])) tg := fun tg kg => by
              refine XS.ifYes X100.here hx rfl (pc0 := 158) (pc' := 195) rfl (hb hby at_158) rfl ((if0 _ _).trans (teq (by rw [own_okI, if_neg hc101])).1) (by decide) (by decide) ?_
              show Steps p.tables e below (T100.setTop (mkF m 195 #[.val (.long i0), .second, .val (.int i1), .val (.int i2), .val (.int i3), .val (.ref b2), .val (.ref b24), .val (.int (Int32.ofNat en)), .val (.int x8_33), .val (.int (Int32.ofNat f)), .unset, .unset, .unset, .unset, .unset, .unset, .unset, .unset, .unset] [])) tg
              refine XS.iconst X100.here hx rfl (hb hby at_195) ?_
              show Steps p.tables e below (T100.setTop (mkF m 196 #[.val (.long i0), .second, .val (.int i1), .val (.int i2), .val (.int i3), .val (.ref b2), .val (.ref b24), .val (.int (Int32.ofNat en)), .val (.int x8_33), .val (.int (Int32.ofNat f)), .unset, .unset, .unset, .unset, .unset, .unset, .unset, .unset, .unset] [(.int (0 : Int32))])) tg
              exact kg
            refine gs c115 ?_
            exact mid37 (0 : Int32) T100 _ (Or.inr ⟨rfl, fun q => hc101 q.2.2.1⟩) X100 e100q N100
        · have c116 : ∀ tg, Steps p.tables e below (T95.setTop (mkF m 196 #[.val (.long i0), .second, .val (.int i1), .val (.int i2), .val (.int i3), .val (.ref b2), .val (.ref b24), .val (.int (Int32.ofNat en)), .val (.int x8_33), .val (.int (Int32.ofNat f)), .unset, .unset, .unset, .unset, .unset, .unset, .unset, .unset, .unset] [(.int (0 : Int32))])) tg → Steps p.tables e below (T95.setTop (mkF m 143 #[.val (.long i0), .second, .val (.int i1), .val (.int i2), .val (.int i3), .val (.ref b2), .val (.ref b24), .val (.int (Int32.ofNat en)), .val (.int x8_33), .val (.int (Int32.ofNat f)), .unset, .unset, .unset, .unset, .unset, .unset, .unset, .unset, .unset] [(.int (own_okI (nar .char c9) (1 : Int32) (Int32.ofNat f) (Int32.ofNat en)))])) tg := fun tg kg => by
            refine XS.ifYes X95.here hx rfl (pc0 := 143) (pc' := 195) rfl (hb hby at_143) rfl ((if0 _ _).trans (teq (by rw [own_okI, if_neg hc96])).1) (by decide) (by decide) ?_
            show Steps p.tables e below (T95.setTop (mkF m 195 #[.val (.long i0), .second, .val (.int i1), .val (.int i2), .val (.int i3), .val (.ref b2), .val (.ref b24), .val (.int (Int32.ofNat en)), .val (.int x8_33), .val (.int (Int32.ofNat f)), .unset, .unset, .unset, .unset, .unset, .unset, .unset, .unset, .unset] [])) tg
            refine XS.iconst X95.here hx rfl (hb hby at_195) ?_
            show Steps p.tables e below (T95.setTop (mkF m 196 #[.val (.long i0), .second, .val (.int i1), .val (.int i2), .val (.int i3), .val (.ref b2), .val (.ref b24), .val (.int (Int32.ofNat en)), .val (.int x8_33), .val (.int (Int32.ofNat f)), .unset, .unset, .unset, .unset, .unset, .unset, .unset, .unset, .unset] [(.int (0 : Int32))])) tg
            exact kg
          refine gs c116 ?_
          exact mid37 (0 : Int32) T95 _ (Or.inr ⟨rfl, fun q => hc96 q.2.1⟩) X95 e95q N95
      · have c117 : ∀ tg, Steps p.tables e below (T90.setTop (mkF m 196 #[.val (.long i0), .second, .val (.int i1), .val (.int i2), .val (.int i3), .val (.ref b2), .val (.ref b24), .val (.int (Int32.ofNat en)), .val (.int x8_33), .val (.int (Int32.ofNat f)), .unset, .unset, .unset, .unset, .unset, .unset, .unset, .unset, .unset] [(.int (0 : Int32))])) tg → Steps p.tables e below (T90.setTop (mkF m 128 #[.val (.long i0), .second, .val (.int i1), .val (.int i2), .val (.int i3), .val (.ref b2), .val (.ref b24), .val (.int (Int32.ofNat en)), .val (.int x8_33), .val (.int (Int32.ofNat f)), .unset, .unset, .unset, .unset, .unset, .unset, .unset, .unset, .unset] [(.int (own_okI (nar .char c5) (0 : Int32) (Int32.ofNat f) (Int32.ofNat en)))])) tg := fun tg kg => by
          refine XS.ifYes X90.here hx rfl (pc0 := 128) (pc' := 195) rfl (hb hby at_128) rfl ((if0 _ _).trans (teq (by rw [own_okI, if_neg hc91])).1) (by decide) (by decide) ?_
          show Steps p.tables e below (T90.setTop (mkF m 195 #[.val (.long i0), .second, .val (.int i1), .val (.int i2), .val (.int i3), .val (.ref b2), .val (.ref b24), .val (.int (Int32.ofNat en)), .val (.int x8_33), .val (.int (Int32.ofNat f)), .unset, .unset, .unset, .unset, .unset, .unset, .unset, .unset, .unset] [])) tg
          refine XS.iconst X90.here hx rfl (hb hby at_195) ?_
          show Steps p.tables e below (T90.setTop (mkF m 196 #[.val (.long i0), .second, .val (.int i1), .val (.int i2), .val (.int i3), .val (.ref b2), .val (.ref b24), .val (.int (Int32.ofNat en)), .val (.int x8_33), .val (.int (Int32.ofNat f)), .unset, .unset, .unset, .unset, .unset, .unset, .unset, .unset, .unset] [(.int (0 : Int32))])) tg
          exact kg
        refine gs c117 ?_
        exact mid37 (0 : Int32) T90 _ (Or.inr ⟨rfl, fun q => hc91 q.1⟩) X90 e90q N90
    have c118 : ∀ tg, Steps p.tables e below (T29.setTop (mkF m 92 #[.val (.long i0), .second, .val (.int i1), .val (.int i2), .val (.int i3), .val (.ref b2), .val (.ref b24), .val (.int (Int32.ofNat en)), .val (.int x8_33), .unset, .unset, .unset, .unset, .unset, .unset, .unset, .unset, .unset, .unset] [(.int x8_33)])) tg → Steps p.tables e below (T29.setTop (mkF m 90 #[.val (.long i0), .second, .val (.int i1), .val (.int i2), .val (.int i3), .val (.ref b2), .val (.ref b24), .val (.int (Int32.ofNat en)), .val (.int x8_33), .unset, .unset, .unset, .unset, .unset, .unset, .unset, .unset, .unset, .unset] [])) tg := fun tg kg => by
      refine XS.iload X29.here hx rfl (hb hby at_90) rfl ?_
      show Steps p.tables e below (T29.setTop (mkF m 92 #[.val (.long i0), .second, .val (.int i1), .val (.int i2), .val (.int i3), .val (.ref b2), .val (.ref b24), .val (.int (Int32.ofNat en)), .val (.int x8_33), .unset, .unset, .unset, .unset, .unset, .unset, .unset, .unset, .unset, .unset] [(.int x8_33)])) tg
      exact kg
    refine gs c118 ?_
    by_cases hc119 : x8_33 = (0 : Int32)
    · have c120 : ∀ tg, Steps p.tables e below (T29.setTop (mkF m 114 #[.val (.long i0), .second, .val (.int i1), .val (.int i2), .val (.int i3), .val (.ref b2), .val (.ref b24), .val (.int (Int32.ofNat en)), .val (.int x8_33), .unset, .unset, .unset, .unset, .unset, .unset, .unset, .unset, .unset, .unset] [(.int (0 : Int32))])) tg → Steps p.tables e below (T29.setTop (mkF m 92 #[.val (.long i0), .second, .val (.int i1), .val (.int i2), .val (.int i3), .val (.ref b2), .val (.ref b24), .val (.int (Int32.ofNat en)), .val (.int x8_33), .unset, .unset, .unset, .unset, .unset, .unset, .unset, .unset, .unset, .unset] [(.int x8_33)])) tg := fun tg kg => by
        refine XS.ifYes X29.here hx rfl (pc0 := 92) (pc' := 113) rfl (hb hby at_92) rfl ((if0 _ _).trans (teq hc119).1) (by decide) (by decide) ?_
        show Steps p.tables e below (T29.setTop (mkF m 113 #[.val (.long i0), .second, .val (.int i1), .val (.int i2), .val (.int i3), .val (.ref b2), .val (.ref b24), .val (.int (Int32.ofNat en)), .val (.int x8_33), .unset, .unset, .unset, .unset, .unset, .unset, .unset, .unset, .unset, .unset] [])) tg
        refine XS.iconst X29.here hx rfl (hb hby at_113) ?_
        show Steps p.tables e below (T29.setTop (mkF m 114 #[.val (.long i0), .second, .val (.int i1), .val (.int i2), .val (.int i3), .val (.ref b2), .val (.ref b24), .val (.int (Int32.ofNat en)), .val (.int x8_33), .unset, .unset, .unset, .unset, .unset, .unset, .unset, .unset, .unset, .unset] [(.int (0 : Int32))])) tg
        exact kg
      refine gs c120 ?_
      exact mid35 (0 : Int32) T29 _ (by rw [hf, own_first, if_neg (fun q => q.1 hc119)]; rfl) X29 rfl N29
    · have c121 : ∀ tg, Steps p.tables e below (T29.setTop (mkF m 97 #[.val (.long i0), .second, .val (.int i1), .val (.int i2), .val (.int i3), .val (.ref b2), .val (.ref b24), .val (.int (Int32.ofNat en)), .val (.int x8_33), .unset, .unset, .unset, .unset, .unset, .unset, .unset, .unset, .unset, .unset] [(.int (Int32.ofNat en))])) tg → Steps p.tables e below (T29.setTop (mkF m 92 #[.val (.long i0), .second, .val (.int i1), .val (.int i2), .val (.int i3), .val (.ref b2), .val (.ref b24), .val (.int (Int32.ofNat en)), .val (.int x8_33), .unset, .unset, .unset, .unset, .unset, .unset, .unset, .unset, .unset, .unset] [(.int x8_33)])) tg := fun tg kg => by
        refine XS.ifNo X29.here hx rfl (hb hby at_92) rfl ((if0 _ _).trans (feq hc119).1) ?_
        show Steps p.tables e below (T29.setTop (mkF m 95 #[.val (.long i0), .second, .val (.int i1), .val (.int i2), .val (.int i3), .val (.ref b2), .val (.ref b24), .val (.int (Int32.ofNat en)), .val (.int x8_33), .unset, .unset, .unset, .unset, .unset, .unset, .unset, .unset, .unset, .unset] [])) tg
        refine XS.iload X29.here hx rfl (hb hby at_95) rfl ?_
        show Steps p.tables e below (T29.setTop (mkF m 97 #[.val (.long i0), .second, .val (.int i1), .val (.int i2), .val (.int i3), .val (.ref b2), .val (.ref b24), .val (.int (Int32.ofNat en)), .val (.int x8_33), .unset, .unset, .unset, .unset, .unset, .unset, .unset, .unset, .unset, .unset] [(.int (Int32.ofNat en))])) tg
        exact kg
      refine gs c121 ?_
      by_cases hc122 : (0 : Int32) < (Int32.ofNat en)
      · have c123 : ∀ tg, Steps p.tables e below (T29.setTop (mkF m 103 #[.val (.long i0), .second, .val (.int i1), .val (.int i2), .val (.int i3), .val (.ref b2), .val (.ref b24), .val (.int (Int32.ofNat en)), .val (.int x8_33), .unset, .unset, .unset, .unset, .unset, .unset, .unset, .unset, .unset, .unset] [(.int (0 : Int32)), (.ref b2)])) tg → Steps p.tables e below (T29.setTop (mkF m 97 #[.val (.long i0), .second, .val (.int i1), .val (.int i2), .val (.int i3), .val (.ref b2), .val (.ref b24), .val (.int (Int32.ofNat en)), .val (.int x8_33), .unset, .unset, .unset, .unset, .unset, .unset, .unset, .unset, .unset, .unset] [(.int (Int32.ofNat en))])) tg := fun tg kg => by
          refine XS.ifNo X29.here hx rfl (hb hby at_97) rfl ((if0 _ _).trans (tlt hc122).2.2.2) ?_
          show Steps p.tables e below (T29.setTop (mkF m 100 #[.val (.long i0), .second, .val (.int i1), .val (.int i2), .val (.int i3), .val (.ref b2), .val (.ref b24), .val (.int (Int32.ofNat en)), .val (.int x8_33), .unset, .unset, .unset, .unset, .unset, .unset, .unset, .unset, .unset, .unset] [])) tg
          refine XS.aload X29.here hx rfl (hb hby at_100) rfl rfl ?_
          show Steps p.tables e below (T29.setTop (mkF m 102 #[.val (.long i0), .second, .val (.int i1), .val (.int i2), .val (.int i3), .val (.ref b2), .val (.ref b24), .val (.int (Int32.ofNat en)), .val (.int x8_33), .unset, .unset, .unset, .unset, .unset, .unset, .unset, .unset, .unset, .unset] [(.ref b2)])) tg
          refine XS.iconst X29.here hx rfl (hb hby at_102) ?_
          show Steps p.tables e below (T29.setTop (mkF m 103 #[.val (.long i0), .second, .val (.int i1), .val (.int i2), .val (.int i3), .val (.ref b2), .val (.ref b24), .val (.int (Int32.ofNat en)), .val (.int x8_33), .unset, .unset, .unset, .unset, .unset, .unset, .unset, .unset, .unset, .unset] [(.int (0 : Int32)), (.ref b2)])) tg
          exact kg
        refine gs c123 ?_
        have f124 := (f28.keep K29q (ninS (Nat.ne_of_lt (Nat.lt_of_lt_of_le (Nat.lt_of_lt_of_le V2.lt (Nat.le_trans (Nat.le_trans (Nat.le_trans (Nat.le_trans (Keep.of_wr W6).1 (Keep.of_wr W10).1) (Keep.of_wr W14).1) (Keep.of_wr W18).1) (Keep.of_wr W22).1)) (Nat.le_of_eq q24.symm))) nin0))
        obtain ⟨cl125, A125, a125q, a125S, a125N, a125H, a125G⟩ := id f124
        have hi125 := inb_of a125S (j := (0 : Int32)) ⟨by decide, by decide⟩
        have c126 : ∀ tg, Steps p.tables e below (T29.setTop (mkF m 106 #[.val (.long i0), .second, .val (.int i1), .val (.int i2), .val (.int i3), .val (.ref b2), .val (.ref b24), .val (.int (Int32.ofNat en)), .val (.int x8_33), .unset, .unset, .unset, .unset, .unset, .unset, .unset, .unset, .unset, .unset] [(.int (45 : Int32)), (.int (nar .char c5))])) tg → Steps p.tables e below (T29.setTop (mkF m 103 #[.val (.long i0), .second, .val (.int i1), .val (.int i2), .val (.int i3), .val (.ref b2), .val (.ref b24), .val (.int (Int32.ofNat en)), .val (.int x8_33), .unset, .unset, .unset, .unset, .unset, .unset, .unset, .unset, .unset, .unset] [(.int (0 : Int32)), (.ref b2)])) tg := fun tg kg => by
          refine X29.caload hx (j := (0 : Int32)) (v := (.int (nar .char c5))) A125.1 (State.isArrayOf_alike hZ.alike A125.2.1) A125.2.2 hi125 (Has.at a125H hi125 rfl) (g := (mkF m 103 #[.val (.long i0), .second, .val (.int i1), .val (.int i2), .val (.int i3), .val (.ref b2), .val (.ref b24), .val (.int (Int32.ofNat en)), .val (.int x8_33), .unset, .unset, .unset, .unset, .unset, .unset, .unset, .unset, .unset, .unset] [(.int (0 : Int32)), (.ref b2)])) rfl rfl (hb hby at_103) _ ?_
          show Steps p.tables e below (T29.setTop (mkF m 104 #[.val (.long i0), .second, .val (.int i1), .val (.int i2), .val (.int i3), .val (.ref b2), .val (.ref b24), .val (.int (Int32.ofNat en)), .val (.int x8_33), .unset, .unset, .unset, .unset, .unset, .unset, .unset, .unset, .unset, .unset] [(.int (nar .char c5))])) tg
          refine XS.bipush X29.here hx rfl (hb hby at_104) ?_
          show Steps p.tables e below (T29.setTop (mkF m 106 #[.val (.long i0), .second, .val (.int i1), .val (.int i2), .val (.int i3), .val (.ref b2), .val (.ref b24), .val (.int (Int32.ofNat en)), .val (.int x8_33), .unset, .unset, .unset, .unset, .unset, .unset, .unset, .unset, .unset, .unset] [(.int (45 : Int32)), (.int (nar .char c5))])) tg
          exact kg
        refine gs c126 ?_
        by_cases hc127 : (nar .char c5) = (45 : Int32)
        · have c128 : ∀ tg, Steps p.tables e below (T29.setTop (mkF m 114 #[.val (.long i0), .second, .val (.int i1), .val (.int i2), .val (.int i3), .val (.ref b2), .val (.ref b24), .val (.int (Int32.ofNat en)), .val (.int x8_33), .unset, .unset, .unset, .unset, .unset, .unset, .unset, .unset, .unset, .unset] [(.int (1 : Int32))])) tg → Steps p.tables e below (T29.setTop (mkF m 106 #[.val (.long i0), .second, .val (.int i1), .val (.int i2), .val (.int i3), .val (.ref b2), .val (.ref b24), .val (.int (Int32.ofNat en)), .val (.int x8_33), .unset, .unset, .unset, .unset, .unset, .unset, .unset, .unset, .unset, .unset] [(.int (45 : Int32)), (.int (nar .char c5))])) tg := fun tg kg => by
            refine XS.icmpNo X29.here hx rfl (hb hby at_106) rfl (teq hc127).2 ?_
            show Steps p.tables e below (T29.setTop (mkF m 109 #[.val (.long i0), .second, .val (.int i1), .val (.int i2), .val (.int i3), .val (.ref b2), .val (.ref b24), .val (.int (Int32.ofNat en)), .val (.int x8_33), .unset, .unset, .unset, .unset, .unset, .unset, .unset, .unset, .unset, .unset] [])) tg
            refine XS.iconst X29.here hx rfl (hb hby at_109) ?_
            show Steps p.tables e below (T29.setTop (mkF m 110 #[.val (.long i0), .second, .val (.int i1), .val (.int i2), .val (.int i3), .val (.ref b2), .val (.ref b24), .val (.int (Int32.ofNat en)), .val (.int x8_33), .unset, .unset, .unset, .unset, .unset, .unset, .unset, .unset, .unset, .unset] [(.int (1 : Int32))])) tg
            refine XS.goto X29.here hx rfl (pc0 := 110) (pc' := 114) rfl (hb hby at_110) (by decide) (by decide) ?_
            show Steps p.tables e below (T29.setTop (mkF m 114 #[.val (.long i0), .second, .val (.int i1), .val (.int i2), .val (.int i3), .val (.ref b2), .val (.ref b24), .val (.int (Int32.ofNat en)), .val (.int x8_33), .unset, .unset, .unset, .unset, .unset, .unset, .unset, .unset, .unset, .unset] [(.int (1 : Int32))])) tg
            exact kg
          refine gs c128 ?_
          exact mid35 (1 : Int32) T29 _ (by rw [hf, own_first, if_pos ⟨hc119, hc122, hc127⟩]; rfl) X29 rfl N29
        · have c129 : ∀ tg, Steps p.tables e below (T29.setTop (mkF m 114 #[.val (.long i0), .second, .val (.int i1), .val (.int i2), .val (.int i3), .val (.ref b2), .val (.ref b24), .val (.int (Int32.ofNat en)), .val (.int x8_33), .unset, .unset, .unset, .unset, .unset, .unset, .unset, .unset, .unset, .unset] [(.int (0 : Int32))])) tg → Steps p.tables e below (T29.setTop (mkF m 106 #[.val (.long i0), .second, .val (.int i1), .val (.int i2), .val (.int i3), .val (.ref b2), .val (.ref b24), .val (.int (Int32.ofNat en)), .val (.int x8_33), .unset, .unset, .unset, .unset, .unset, .unset, .unset, .unset, .unset, .unset] [(.int (45 : Int32)), (.int (nar .char c5))])) tg := fun tg kg => by
            refine XS.icmpYes X29.here hx rfl (pc0 := 106) (pc' := 113) rfl (hb hby at_106) rfl (feq hc127).2 (by decide) (by decide) ?_
            show Steps p.tables e below (T29.setTop (mkF m 113 #[.val (.long i0), .second, .val (.int i1), .val (.int i2), .val (.int i3), .val (.ref b2), .val (.ref b24), .val (.int (Int32.ofNat en)), .val (.int x8_33), .unset, .unset, .unset, .unset, .unset, .unset, .unset, .unset, .unset, .unset] [])) tg
            refine XS.iconst X29.here hx rfl (hb hby at_113) ?_
            show Steps p.tables e below (T29.setTop (mkF m 114 #[.val (.long i0), .second, .val (.int i1), .val (.int i2), .val (.int i3), .val (.ref b2), .val (.ref b24), .val (.int (Int32.ofNat en)), .val (.int x8_33), .unset, .unset, .unset, .unset, .unset, .unset, .unset, .unset, .unset, .unset] [(.int (0 : Int32))])) tg
            exact kg
          refine gs c129 ?_
          exact mid35 (0 : Int32) T29 _ (by rw [hf, own_first, if_neg (fun q => hc127 q.2.2)]; rfl) X29 rfl N29
      · have c130 : ∀ tg, Steps p.tables e below (T29.setTop (mkF m 114 #[.val (.long i0), .second, .val (.int i1), .val (.int i2), .val (.int i3), .val (.ref b2), .val (.ref b24), .val (.int (Int32.ofNat en)), .val (.int x8_33), .unset, .unset, .unset, .unset, .unset, .unset, .unset, .unset, .unset, .unset] [(.int (0 : Int32))])) tg → Steps p.tables e below (T29.setTop (mkF m 97 #[.val (.long i0), .second, .val (.int i1), .val (.int i2), .val (.int i3), .val (.ref b2), .val (.ref b24), .val (.int (Int32.ofNat en)), .val (.int x8_33), .unset, .unset, .unset, .unset, .unset, .unset, .unset, .unset, .unset, .unset] [(.int (Int32.ofNat en))])) tg := fun tg kg => by
          refine XS.ifYes X29.here hx rfl (pc0 := 97) (pc' := 113) rfl (hb hby at_97) rfl ((if0 _ _).trans (flt hc122).2.2.2) (by decide) (by decide) ?_
          show Steps p.tables e below (T29.setTop (mkF m 113 #[.val (.long i0), .second, .val (.int i1), .val (.int i2), .val (.int i3), .val (.ref b2), .val (.ref b24), .val (.int (Int32.ofNat en)), .val (.int x8_33), .unset, .unset, .unset, .unset, .unset, .unset, .unset, .unset, .unset, .unset] [])) tg
          refine XS.iconst X29.here hx rfl (hb hby at_113) ?_
          show Steps p.tables e below (T29.setTop (mkF m 114 #[.val (.long i0), .second, .val (.int i1), .val (.int i2), .val (.int i3), .val (.ref b2), .val (.ref b24), .val (.int (Int32.ofNat en)), .val (.int x8_33), .unset, .unset, .unset, .unset, .unset, .unset, .unset, .unset, .unset, .unset] [(.int (0 : Int32))])) tg
          exact kg
        refine gs c130 ?_
        exact mid35 (0 : Int32) T29 _ (by rw [hf, own_first, if_neg (fun q => hc122 q.2.1)]; rfl) X29 rfl N29
  have c131 : ∀ tg, Steps p.tables e below (T29.setTop (mkF m 80 #[.val (.long i0), .second, .val (.int i1), .val (.int i2), .val (.int i3), .val (.ref b2), .val (.ref b24), .val (.int (Int32.ofNat en)), .unset, .unset, .unset, .unset, .unset, .unset, .unset, .unset, .unset, .unset, .unset] [(.int (i2 &&& (1 : Int32)))])) tg → Steps p.tables e below (T29.setTop (mkF m 77 #[.val (.long i0), .second, .val (.int i1), .val (.int i2), .val (.int i3), .val (.ref b2), .val (.ref b24), .val (.int (Int32.ofNat en)), .unset, .unset, .unset, .unset, .unset, .unset, .unset, .unset, .unset, .unset, .unset] [])) tg := fun tg kg => by
    refine XS.iloadN X29.here hx rfl (hb hby at_77) rfl ?_
    show Steps p.tables e below (T29.setTop (mkF m 78 #[.val (.long i0), .second, .val (.int i1), .val (.int i2), .val (.int i3), .val (.ref b2), .val (.ref b24), .val (.int (Int32.ofNat en)), .unset, .unset, .unset, .unset, .unset, .unset, .unset, .unset, .unset, .unset, .unset] [(.int i2)])) tg
    refine XS.iconst X29.here hx rfl (hb hby at_78) ?_
    show Steps p.tables e below (T29.setTop (mkF m 79 #[.val (.long i0), .second, .val (.int i1), .val (.int i2), .val (.int i3), .val (.ref b2), .val (.ref b24), .val (.int (Int32.ofNat en)), .unset, .unset, .unset, .unset, .unset, .unset, .unset, .unset, .unset, .unset, .unset] [(.int (1 : Int32)), (.int i2)])) tg
    refine XS.iand X29.here hx rfl (hb hby at_79) rfl ?_
    show Steps p.tables e below (T29.setTop (mkF m 80 #[.val (.long i0), .second, .val (.int i1), .val (.int i2), .val (.int i3), .val (.ref b2), .val (.ref b24), .val (.int (Int32.ofNat en)), .unset, .unset, .unset, .unset, .unset, .unset, .unset, .unset, .unset, .unset, .unset] [(.int (i2 &&& (1 : Int32)))])) tg
    exact kg
  refine gs c131 ?_
  by_cases hc132 : (i2 &&& (1 : Int32)) = (0 : Int32)
  · have c133 : ∀ tg, Steps p.tables e below (T29.setTop (mkF m 88 #[.val (.long i0), .second, .val (.int i1), .val (.int i2), .val (.int i3), .val (.ref b2), .val (.ref b24), .val (.int (Int32.ofNat en)), .unset, .unset, .unset, .unset, .unset, .unset, .unset, .unset, .unset, .unset, .unset] [(.int (0 : Int32))])) tg → Steps p.tables e below (T29.setTop (mkF m 80 #[.val (.long i0), .second, .val (.int i1), .val (.int i2), .val (.int i3), .val (.ref b2), .val (.ref b24), .val (.int (Int32.ofNat en)), .unset, .unset, .unset, .unset, .unset, .unset, .unset, .unset, .unset, .unset, .unset] [(.int (i2 &&& (1 : Int32)))])) tg := fun tg kg => by
      refine XS.ifYes X29.here hx rfl (pc0 := 80) (pc' := 87) rfl (hb hby at_80) rfl ((if0 _ _).trans (teq hc132).1) (by decide) (by decide) ?_
      show Steps p.tables e below (T29.setTop (mkF m 87 #[.val (.long i0), .second, .val (.int i1), .val (.int i2), .val (.int i3), .val (.ref b2), .val (.ref b24), .val (.int (Int32.ofNat en)), .unset, .unset, .unset, .unset, .unset, .unset, .unset, .unset, .unset, .unset, .unset] [])) tg
      refine XS.iconst X29.here hx rfl (hb hby at_87) ?_
      show Steps p.tables e below (T29.setTop (mkF m 88 #[.val (.long i0), .second, .val (.int i1), .val (.int i2), .val (.int i3), .val (.ref b2), .val (.ref b24), .val (.int (Int32.ofNat en)), .unset, .unset, .unset, .unset, .unset, .unset, .unset, .unset, .unset, .unset, .unset] [(.int (0 : Int32))])) tg
      exact kg
    refine gs c133 ?_
    exact mid33 (0 : Int32)
  · have c134 : ∀ tg, Steps p.tables e below (T29.setTop (mkF m 88 #[.val (.long i0), .second, .val (.int i1), .val (.int i2), .val (.int i3), .val (.ref b2), .val (.ref b24), .val (.int (Int32.ofNat en)), .unset, .unset, .unset, .unset, .unset, .unset, .unset, .unset, .unset, .unset, .unset] [(.int (1 : Int32))])) tg → Steps p.tables e below (T29.setTop (mkF m 80 #[.val (.long i0), .second, .val (.int i1), .val (.int i2), .val (.int i3), .val (.ref b2), .val (.ref b24), .val (.int (Int32.ofNat en)), .unset, .unset, .unset, .unset, .unset, .unset, .unset, .unset, .unset, .unset, .unset] [(.int (i2 &&& (1 : Int32)))])) tg := fun tg kg => by
      refine XS.ifNo X29.here hx rfl (hb hby at_80) rfl ((if0 _ _).trans (feq hc132).1) ?_
      show Steps p.tables e below (T29.setTop (mkF m 83 #[.val (.long i0), .second, .val (.int i1), .val (.int i2), .val (.int i3), .val (.ref b2), .val (.ref b24), .val (.int (Int32.ofNat en)), .unset, .unset, .unset, .unset, .unset, .unset, .unset, .unset, .unset, .unset, .unset] [])) tg
      refine XS.iconst X29.here hx rfl (hb hby at_83) ?_
      show Steps p.tables e below (T29.setTop (mkF m 84 #[.val (.long i0), .second, .val (.int i1), .val (.int i2), .val (.int i3), .val (.ref b2), .val (.ref b24), .val (.int (Int32.ofNat en)), .unset, .unset, .unset, .unset, .unset, .unset, .unset, .unset, .unset, .unset, .unset] [(.int (1 : Int32))])) tg
      refine XS.goto X29.here hx rfl (pc0 := 84) (pc' := 88) rfl (hb hby at_84) (by decide) (by decide) ?_
      show Steps p.tables e below (T29.setTop (mkF m 88 #[.val (.long i0), .second, .val (.int i1), .val (.int i2), .val (.int i3), .val (.ref b2), .val (.ref b24), .val (.int (Int32.ofNat en)), .unset, .unset, .unset, .unset, .unset, .unset, .unset, .unset, .unset, .unset, .unset] [(.int (1 : Int32))])) tg
      exact kg
    refine gs c134 ?_
    exact mid33 (1 : Int32)
set_option maxRecDepth 65536 in
set_option maxHeartbeats 40000000 in
theorem comes_1 {Post : Tables → Env → Array Value → State → Outcome → State → Prop} (hpost : ∀ tb e args s v u, (limb_1_1.after args s (.returned v) u = true ∧ limb_1_2.after args s (.returned v) u = true ∧ True) → FrameEnd s (.returned v) u (Jvm.fieldLocs frame_1_writes args s ++ Jvm.arrayLocs frame_1_arrays args s ++ Jvm.staticLocs frame_1_statics s) 16 128 → Post tb e args s (.returned v) u) :
    ArmFor flags0 classFile x code maxLocals ret World_1 tables_1 room_1 Calls_1 rest_1 Pre_1 Post := by
  intro l hfl _ _ p e ha hc hk s m args below hf hA hF happ hP
  obtain ⟨hcalls, hrest, hpre⟩ := hP
  obtain ⟨-, -, -, hnamed, -, -, -, hat⟩ := (Spec.applies_iff hf).mp happ
  obtain ⟨hg, hn⟩ := and_e (Cond.before_iff.mp (show (Jvm.Cond.and given_1 narrow_1).before args s = true from hpre))
  obtain ⟨hcnt, ga0⟩ := and_e hg
  obtain ⟨gi0, ga1⟩ := and_e ga0
  obtain ⟨gi1, ga2⟩ := and_e ga1
  obtain ⟨gi2, ga3⟩ := and_e ga2
  have gi3 := ga3
  obtain ⟨w0, w1, w2, w3, rfl⟩ : ∃ w0 w1 w2 w3 : Value, args = #[w0, w1, w2, w3] := by
    have hs : args.size = 4 := by simpa [Cond.value, given_1] using hcnt
    obtain ⟨L⟩ := args
    match L, hs with
    | [w0, w1, w2, w3], _ => exact ⟨w0, w1, w2, w3, rfl⟩
  have hw := fun d (hd : d ∈ tables_1) => atoms_spec (ws := Jvm.Cond.code x code maxLocals ret :: tables_1) hat d (List.mem_cons_of_mem _ hd)
  obtain ⟨hsets, hown0⟩ := atoms_of _ (rest_1_c_eq ▸ (show rest_1_c.before _ s = true from hrest))
  have hfit : Fit s := fun {y c} hc i hi => by
    obtain ⟨ha, rfl⟩ := Array.getElem?_eq_some_iff.mp hc
    have q := List.all_eq_true.mp ((Array.all_eq_true_iff_forall_mem.mp hF) _ (Array.getElem_mem ha)) i (List.mem_range.mpr hi)
    simpa [Array.getElem?_eq_getElem hi] using q
  obtain ⟨i0, ei0⟩ := isL_v gi0
  obtain rfl : w0 = (.long i0) := Option.some.inj ei0
  obtain ⟨i1, ei1⟩ := is_v gi1
  obtain rfl : w1 = (.int i1) := Option.some.inj ei1
  obtain ⟨i2, ei2⟩ := is_v gi2
  obtain rfl : w2 = (.int i2) := Option.some.inj ei2
  obtain ⟨i3, ei3⟩ := is_v gi3
  obtain rfl : w3 = (.int i3) := Option.some.inj ei3
  have n5 := not_v (Cond.before_iff.mp (hsets _ (List.mem_of_getElem? (i := 2) rfl)))
  obtain ⟨cz, ecz⟩ := is_v (Cond.before_iff.mp (hsets _ (List.mem_of_getElem? (i := 1) rfl)))
  have Scz : Sta s s.heap "java/lang/String" "COMPACT_STRINGS" "Z" (.int cz) := Sta.start ecz (Or.inl (hsets _ (List.mem_of_getElem? (i := 0) rfl)))
  have hcz : ¬ (cz = (0 : Int32)) := gotF (Cond.eq_ints ecz (Term.int_eval (0))) n5
  obtain ⟨fm, efm, rfm⟩ := isR_v (Cond.before_iff.mp (hsets _ (List.mem_of_getElem? (i := 8) rfl)))
  have S_fm : Sta s s.heap "jdk/internal/util/Preconditions" "SIOOBE_FORMATTER" "Ljava/util/function/BiFunction;" fm := Sta.start efm (Or.inl (hsets _ (List.mem_of_getElem? (i := 7) rfl)))
  obtain ⟨n, o, h1, h2, h3, _, L, rfl, ⟨rfl, N⟩, hq⟩ := rm_law l s _ hw tables_1 i0 i1 i2 i3 cz fm s.heap s.heap.size (Nat.le_refl _) (Old.start s) Scz hcz S_fm rfm p e ha hc hk s m _ below hf ((Spec.applies_iff_loose hf).mp happ).1 ⟨rfl, State.Warmed39.refl s, rfl⟩ trivial
  refine ⟨n, _, h1, h2, h3, hpost _ _ _ _ _ _ ⟨Cond.after_iff.mpr rfl, Cond.after_iff.mpr (eq_i res_at (Term.int_eval (1)) rfl), trivial⟩ ⟨hq.1, hq.2.1, (hq.2.2.sift fun y hy => Or.inr (N y hy)).mono (by decide) (by decide)⟩⟩
theorem main_1_1 : Claimed_1_1 := comes_1 fun _ _ _ _ _ _ h hF => ⟨h.1, hF⟩
theorem main_1_2 : Claimed_1_2 := comes_1 fun _ _ _ _ _ _ h hF => ⟨h.2.1, hF⟩
end Jvm.Pilot.@@N@@
namespace Jvm.Pilot.@@N@@
open Jvm Jvm.ClassFile Sem Op Lib Jvm.Free Jvm.Stand Jvm.Pilot.@@N@@.Jvm.D
/-! MADE BY PROGRAM (witnessworld.py) out of the Statement's table words and the real class files: 20 classes; the members and pool entries that the words name. The judged class is class 1, her method 5. -/
namespace start1
open Jvm.ClassFile
def u (s : String) : CpInfo := .utf8 (stringToUtf16 s)
/-- a pool by its gaps: so many unusable entries, then the entry; so many at the end -/
def gap : Nat → List CpInfo → List CpInfo
  | 0, r => r
  | n + 1, r => .unusable :: gap n r
def poolList (es : List (Nat × CpInfo)) (last : Nat) : List CpInfo := es.foldr (fun e r => gap e.1 (e.2 :: r)) (gap last [])
def pool (es : List (Nat × CpInfo)) (last : Nat) : Array CpInfo := ⟨poolList es last⟩
def fileOf (pool : Array CpInfo) (this : Nat) (attrs : Array Attribute := #[]) (ms : Array MethodInfo := #[]) (fl : Nat := 33) (sup : Nat := 0) (ifs : Array Nat := #[]) (fds : Array FieldInfo := #[]) : ClassFile where
  minorVersion := 0
  majorVersion := 65
  constantPool := pool
  accessFlags := fl
  thisClass := this
  superClass := sup
  interfaces := ifs
  fields := fds
  methods := ms
  attributes := attrs
def plain (name : String) (sup : Option ClassId) : Class where
  name := name
  kind := .ordinary
  loader := none
  accessFlags := 33
  super := sup
  interfaces := #[]
  cf := none
  fields := #[]
  methods := #[]
  instanceTypes := #[]
  staticTypes := #[]
  resolved := #[]
  callSites := []
  init := .initialized
  statics := none
  mirror := none

def pool0 : Array CpInfo := pool [(5, u "<init>"), (0, u "()V"), (1, .class_ 10), (1, u "java/lang/Object")] 113

def k0c0 : Code := { maxStack := 0, maxLocals := 1, code := object_method_1_code, exceptionTable := #[], attributes := #[] }
def k0m0 : Method := { name := "<init>", desc := "()V", sig := { parameters := [], returnType := none }, accessFlags := 1, code := some k0c0 }
/-- java/lang/Object -/
def k0 : Class := { plain "java/lang/Object" none with
  accessFlags := 33
  interfaces := #[]
  cf := some (fileOf pool0 8 #[] #[{ accessFlags := 1, nameIndex := 5, descriptorIndex := 6, attributes := #[] }] 33 0 #[] #[])
  fields := #[]
  methods := #[k0m0]
  instanceTypes := #[]
  staticTypes := #[]
  resolved := Array.replicate 124 none
  statics := none }

def pool1 : Array CpInfo := pool [(2, .class_ 4), (1, u "java/lang/Object"), (0, u "<init>"), (0, u "()V"), (0, .long 511), (1, .methodref 10 11), (0, .class_ 12), (0, .nameAndType 13 14), (0, u "com/example/tranche/tranche/DecimalsIsWrittenPinLaw"), (0, u "isDigit"), (0, u "(C)Z"), (0, .methodref 10 16), (0, .nameAndType 17 18), (0, u "draw"), (0, u "(J)C"), (0, .class_ 20), (0, u "java/lang/String"), (0, .methodref 19 22), (0, .nameAndType 5 23), (0, u "([C)V"), (0, .integer 2147483647), (0, .methodref 10 26), (0, .nameAndType 27 28), (0, u "ok"), (0, u "(CIII)Z"), (0, .methodref 10 30), (0, .nameAndType 31 32), (0, u "dot"), (0, u "(CIII)I"), (0, .methodref 34 35), (0, .class_ 36), (0, .nameAndType 37 38), (0, u "com/example/tranche/tranche/Decimals"), (0, u "isWritten"), (0, u "(Ljava/lang/String;IZI)Z"), (3, u "law"), (0, u "(JIII)Z")] 4

def k1m0 : Method := { name := "<init>", desc := "()V", sig := { parameters := [], returnType := none }, accessFlags := 2, code := none }
def k1c1 : Code := { maxStack := 2, maxLocals := 1, code := method_2_code, exceptionTable := #[], attributes := #[] }
def k1m1 : Method := { name := "isDigit", desc := "(C)Z", sig := { parameters := [.char], returnType := some .boolean }, accessFlags := 10, code := some k1c1 }
def k1c2 : Code := { maxStack := 4, maxLocals := 4, code := method_3_code, exceptionTable := #[], attributes := #[] }
def k1m2 : Method := { name := "draw", desc := "(J)C", sig := { parameters := [.long], returnType := some .char }, accessFlags := 10, code := some k1c2 }
def k1c3 : Code := { maxStack := 2, maxLocals := 4, code := method_4_code, exceptionTable := #[], attributes := #[] }
def k1m3 : Method := { name := "ok", desc := "(CIII)Z", sig := { parameters := [.char, .int, .int, .int], returnType := some .boolean }, accessFlags := 10, code := some k1c3 }
def k1c4 : Code := { maxStack := 2, maxLocals := 4, code := method_5_code, exceptionTable := #[], attributes := #[] }
def k1m4 : Method := { name := "dot", desc := "(CIII)I", sig := { parameters := [.char, .int, .int, .int], returnType := some .int }, accessFlags := 10, code := some k1c4 }
def k1c5 : Code := { maxStack := 5, maxLocals := 19, code := code, exceptionTable := #[], attributes := #[] }
def k1m5 : Method := { name := "law", desc := "(JIII)Z", sig := { parameters := [.long, .int, .int, .int], returnType := some .boolean }, accessFlags := 9, code := some k1c5 }
/-- com/example/tranche/tranche/DecimalsIsWrittenPinLaw -/
def k1 : Class := { plain "com/example/tranche/tranche/DecimalsIsWrittenPinLaw" (some 0) with
  accessFlags := 49
  interfaces := #[]
  cf := some (fileOf pool1 10 #[] #[{ accessFlags := 2, nameIndex := 5, descriptorIndex := 6, attributes := #[] }, { accessFlags := 10, nameIndex := 13, descriptorIndex := 14, attributes := #[] }, { accessFlags := 10, nameIndex := 17, descriptorIndex := 18, attributes := #[] }, { accessFlags := 10, nameIndex := 27, descriptorIndex := 28, attributes := #[] }, { accessFlags := 10, nameIndex := 31, descriptorIndex := 32, attributes := #[] }, { accessFlags := 9, nameIndex := 42, descriptorIndex := 43, attributes := #[] }] 49 2 #[] #[])
  fields := #[]
  methods := #[k1m0, k1m1, k1m2, k1m3, k1m4, k1m5]
  instanceTypes := #[]
  staticTypes := #[]
  resolved := Array.replicate 48 none
  statics := none }

def pool2 : Array CpInfo := pool [(1, .class_ 2), (0, u "java/io/Serializable"), (0, .class_ 4), (0, u "java/lang/Object")] 2

/-- java/io/Serializable -/
def k2 : Class := { plain "java/io/Serializable" (some 0) with
  accessFlags := 1537
  interfaces := #[]
  cf := some (fileOf pool2 1 #[] #[] 1537 3 #[] #[])
  fields := #[]
  methods := #[]
  instanceTypes := #[]
  staticTypes := #[]
  resolved := Array.replicate 7 none
  statics := none }

def pool3 : Array CpInfo := pool [(1, .class_ 2), (0, u "java/lang/Comparable"), (0, .class_ 4), (0, u "java/lang/Object")] 7

/-- java/lang/Comparable -/
def k3 : Class := { plain "java/lang/Comparable" (some 0) with
  accessFlags := 1537
  interfaces := #[]
  cf := some (fileOf pool3 1 #[] #[] 1537 3 #[] #[])
  fields := #[]
  methods := #[]
  instanceTypes := #[]
  staticTypes := #[]
  resolved := Array.replicate 12 none
  statics := none }

def pool4 : Array CpInfo := pool [(2, .class_ 4), (1, u "java/lang/CharSequence"), (42, .class_ 48), (0, u "java/lang/CharSequence$1CodePointIterator"), (10, .class_ 60), (0, u "java/lang/CharSequence$1CharIterator"), (5, .class_ 67), (0, u "java/lang/Object")] 63

/-- java/lang/CharSequence -/
def k4 : Class := { plain "java/lang/CharSequence" (some 0) with
  accessFlags := 1537
  interfaces := #[]
  cf := some (fileOf pool4 2 #[.nestMembers #[47, 59]] #[] 1537 66 #[] #[])
  fields := #[]
  methods := #[]
  instanceTypes := #[]
  staticTypes := #[]
  resolved := Array.replicate 131 none
  statics := none }

def pool5 : Array CpInfo := pool [(1, .class_ 2), (0, u "java/lang/constant/Constable"), (0, .class_ 4), (0, u "java/lang/Object")] 6

/-- java/lang/constant/Constable -/
def k5 : Class := { plain "java/lang/constant/Constable" (some 0) with
  accessFlags := 1537
  interfaces := #[]
  cf := some (fileOf pool5 1 #[] #[] 1537 3 #[] #[])
  fields := #[]
  methods := #[]
  instanceTypes := #[]
  staticTypes := #[]
  resolved := Array.replicate 11 none
  statics := none }

def pool6 : Array CpInfo := pool [(1, .class_ 2), (0, u "java/lang/constant/ConstantDesc"), (0, .class_ 4), (0, u "java/lang/Object")] 32

/-- java/lang/constant/ConstantDesc -/
def k6 : Class := { plain "java/lang/constant/ConstantDesc" (some 0) with
  accessFlags := 1537
  interfaces := #[]
  cf := some (fileOf pool6 1 #[] #[] 1537 3 #[] #[])
  fields := #[]
  methods := #[]
  instanceTypes := #[]
  staticTypes := #[]
  resolved := Array.replicate 37 none
  statics := none }

def pool7 : Array CpInfo := pool [(1, .methodref 2 3), (0, .class_ 4), (0, .nameAndType 5 6), (0, u "java/lang/Object"), (0, u "<init>"), (0, u "()V"), (2, .fieldref 10 11), (0, .class_ 12), (0, .nameAndType 13 14), (0, u "java/lang/String"), (0, u "value"), (0, u "[B"), (0, .fieldref 10 16), (0, .nameAndType 17 18), (0, u "coder"), (0, u "B"), (2, u "hash"), (0, u "I"), (2, u "hashIsZero"), (0, u "Z"), (0, .methodref 10 28), (0, .nameAndType 5 29), (0, u "([CIILjava/lang/Void;)V"), (8, .fieldref 10 39), (0, .nameAndType 40 26), (0, u "COMPACT_STRINGS"), (1, .class_ 44), (1, u "java/lang/StringUTF16"), (0, u "compress"), (1, .methodref 42 48), (0, .nameAndType 49 50), (0, u "coderFromArrayLen"), (0, u "([BI)B"), (56, .class_ 109), (1, u "java/lang/StringLatin1"), (32, u "()Z"), (34, .methodref 42 178), (0, .nameAndType 45 179), (0, u "([CII)[B"), (183, u "([BI)C"), (27, u "(II)V"), (35, u "(I)C"), (64, .methodref 10 493), (0, .nameAndType 494 142), (0, u "isLatin1"), (0, .methodref 107 496), (0, .nameAndType 497 363), (0, u "charAt"), (3, u "checkIndex"), (73, .class_ 576), (0, u "java/lang/CharSequence"), (22, u "CASE_INSENSITIVE_ORDER"), (0, u "Ljava/util/Comparator;"), (409, u "([C)V"), (42, .fieldref 1054 1055), (0, .class_ 1056), (0, .nameAndType 1057 1058), (0, u "jdk/internal/util/Preconditions"), (0, u "SIOOBE_FORMATTER"), (0, u "Ljava/util/function/BiFunction;"), (0, .methodref 1054 1060), (0, .nameAndType 501 1061), (0, u "(IILjava/util/function/BiFunction;)I"), (39, u "serialPersistentFields"), (0, u "[Ljava/io/ObjectStreamField;"), (0, .class_ 1104), (0, u "java/lang/String$CaseInsensitiveComparator"), (1, .class_ 1107), (0, u "java/io/Serializable"), (0, .class_ 1109), (0, u "java/lang/Comparable"), (0, .class_ 1111), (0, u "java/lang/constant/Constable"), (0, .class_ 1113), (0, u "java/lang/constant/ConstantDesc"), (2, u "serialVersionUID"), (0, u "J"), (3, u "REPL"), (0, u "C"), (2, u "LATIN1"), (1, u "UTF16")] 323

def k7m0 : Method := { name := "<init>", desc := "()V", sig := { parameters := [], returnType := none }, accessFlags := 1, code := none }
def k7c1 : Code := { maxStack := 5, maxLocals := 2, code := jdk_42_method_3_code, exceptionTable := #[], attributes := #[] }
def k7m1 : Method := { name := "<init>", desc := "([C)V", sig := { parameters := [(.array .char)], returnType := none }, accessFlags := 1, code := some k7c1 }
def k7c2 : Code := { maxStack := 2, maxLocals := 2, code := jdk_42_method_56_code, exceptionTable := #[], attributes := #[] }
def k7m2 : Method := { name := "charAt", desc := "(I)C", sig := { parameters := [.int], returnType := some .char }, accessFlags := 1, code := some k7c2 }
def k7c3 : Code := { maxStack := 4, maxLocals := 6, code := jdk_42_method_149_code, exceptionTable := #[], attributes := #[] }
def k7m3 : Method := { name := "<init>", desc := "([CIILjava/lang/Void;)V", sig := { parameters := [(.array .char), .int, .int, (.object "java/lang/Void")], returnType := none }, accessFlags := 2, code := some k7c3 }
def k7c4 : Code := { maxStack := 1, maxLocals := 1, code := jdk_42_method_154_code, exceptionTable := #[], attributes := #[] }
def k7m4 : Method := { name := "isLatin1", desc := "()Z", sig := { parameters := [], returnType := some .boolean }, accessFlags := 0, code := some k7c4 }
def k7c5 : Code := { maxStack := 3, maxLocals := 2, code := jdk_42_method_155_code, exceptionTable := #[], attributes := #[] }
def k7m5 : Method := { name := "checkIndex", desc := "(II)V", sig := { parameters := [.int, .int], returnType := none }, accessFlags := 8, code := some k7c5 }
/-- java/lang/String -/
def k7 : Class := { plain "java/lang/String" (some 0) with
  accessFlags := 49
  interfaces := #[2, 3, 4, 5, 6]
  cf := some (fileOf pool7 10 #[.nestMembers #[1103]] #[{ accessFlags := 1, nameIndex := 5, descriptorIndex := 6, attributes := #[] }, { accessFlags := 1, nameIndex := 5, descriptorIndex := 1010, attributes := #[] }, { accessFlags := 1, nameIndex := 497, descriptorIndex := 427, attributes := #[] }, { accessFlags := 2, nameIndex := 5, descriptorIndex := 29, attributes := #[] }, { accessFlags := 0, nameIndex := 494, descriptorIndex := 142, attributes := #[] }, { accessFlags := 8, nameIndex := 501, descriptorIndex := 391, attributes := #[] }] 49 2 #[1106, 1108, 575, 1110, 1112] #[{ accessFlags := 18, nameIndex := 13, descriptorIndex := 14, attributes := #[] }, { accessFlags := 18, nameIndex := 17, descriptorIndex := 18, attributes := #[] }, { accessFlags := 2, nameIndex := 21, descriptorIndex := 22, attributes := #[] }, { accessFlags := 2, nameIndex := 25, descriptorIndex := 26, attributes := #[] }, { accessFlags := 26, nameIndex := 1116, descriptorIndex := 1117, attributes := #[] }, { accessFlags := 24, nameIndex := 40, descriptorIndex := 26, attributes := #[] }, { accessFlags := 26, nameIndex := 1101, descriptorIndex := 1102, attributes := #[] }, { accessFlags := 26, nameIndex := 1121, descriptorIndex := 1122, attributes := #[] }, { accessFlags := 25, nameIndex := 599, descriptorIndex := 600, attributes := #[] }, { accessFlags := 24, nameIndex := 1125, descriptorIndex := 18, attributes := #[] }, { accessFlags := 24, nameIndex := 1127, descriptorIndex := 18, attributes := #[] }])
  fields := #[{ name := "value", type := (.array .byte), accessFlags := 18, slot := 0, constantValue := 0 }, { name := "coder", type := .byte, accessFlags := 18, slot := 1, constantValue := 0 }, { name := "hash", type := .int, accessFlags := 2, slot := 2, constantValue := 0 }, { name := "hashIsZero", type := .boolean, accessFlags := 2, slot := 3, constantValue := 0 }, { name := "serialVersionUID", type := .long, accessFlags := 26, slot := 0, constantValue := 0 }, { name := "COMPACT_STRINGS", type := .boolean, accessFlags := 24, slot := 1, constantValue := 0 }, { name := "serialPersistentFields", type := (.array (.object "java/io/ObjectStreamField")), accessFlags := 26, slot := 2, constantValue := 0 }, { name := "REPL", type := .char, accessFlags := 26, slot := 3, constantValue := 0 }, { name := "CASE_INSENSITIVE_ORDER", type := (.object "java/util/Comparator"), accessFlags := 25, slot := 4, constantValue := 0 }, { name := "LATIN1", type := .byte, accessFlags := 24, slot := 5, constantValue := 0 }, { name := "UTF16", type := .byte, accessFlags := 24, slot := 6, constantValue := 0 }]
  methods := #[k7m0, k7m1, k7m2, k7m3, k7m4, k7m5]
  instanceTypes := #[(.array .byte), .byte, .int, .boolean]
  staticTypes := #[.long, .boolean, (.array (.object "java/io/ObjectStreamField")), .char, (.object "java/util/Comparator"), .byte, .byte]
  resolved := Array.replicate 1451 none
  statics := some 0 }

def pool8 : Array CpInfo := pool [(6, .class_ 8), (1, u "java/lang/Object"), (0, u "<init>"), (0, u "()V"), (1, .class_ 14), (1, u "java/lang/StringUTF16"), (31, u "$assertionsDisabled"), (0, u "Z"), (13, u "HI_BYTE_SHIFT"), (0, u "I"), (2, u "LO_BYTE_SHIFT"), (49, .methodref 12 116), (0, .nameAndType 117 118), (0, u "compress"), (0, u "([CI[BII)I"), (3, u "([CII)[B"), (138, u "coderFromArrayLen"), (0, u "([BI)B"), (106, .class_ 371), (1, u "java/lang/StringUTF16$LinesSpliterator"), (58, u "MAX_LENGTH"), (196, .class_ 628), (0, u "java/lang/StringUTF16$CodePointsSpliterator"), (0, .class_ 630), (0, u "java/lang/StringUTF16$CharsSpliterator")] 4

def k8m0 : Method := { name := "<init>", desc := "()V", sig := { parameters := [], returnType := none }, accessFlags := 0, code := none }
def k8c1 : Code := { maxStack := 2, maxLocals := 2, code := jdk_52_method_15_code, exceptionTable := #[], attributes := #[] }
def k8m1 : Method := { name := "coderFromArrayLen", desc := "([BI)B", sig := { parameters := [(.array .byte), .int], returnType := some .byte }, accessFlags := 8, code := some k8c1 }
def k8c2 : Code := { maxStack := 5, maxLocals := 6, code := jdk_52_method_16_code, exceptionTable := #[], attributes := #[] }
def k8m2 : Method := { name := "compress", desc := "([CII)[B", sig := { parameters := [(.array .char), .int, .int], returnType := some (.array .byte) }, accessFlags := 9, code := some k8c2 }
def k8c3 : Code := { maxStack := 3, maxLocals := 7, code := jdk_52_method_21_code, exceptionTable := #[], attributes := #[] }
def k8m3 : Method := { name := "compress", desc := "([CI[BII)I", sig := { parameters := [(.array .char), .int, (.array .byte), .int, .int], returnType := some .int }, accessFlags := 9, code := some k8c3 }
/-- java/lang/StringUTF16 -/
def k8 : Class := { plain "java/lang/StringUTF16" (some 0) with
  accessFlags := 48
  interfaces := #[]
  cf := some (fileOf pool8 12 #[.nestMembers #[627, 629, 369]] #[{ accessFlags := 0, nameIndex := 9, descriptorIndex := 10, attributes := #[] }, { accessFlags := 8, nameIndex := 261, descriptorIndex := 262, attributes := #[] }, { accessFlags := 9, nameIndex := 117, descriptorIndex := 122, attributes := #[] }, { accessFlags := 9, nameIndex := 117, descriptorIndex := 118, attributes := #[] }] 48 6 #[] #[{ accessFlags := 26, nameIndex := 61, descriptorIndex := 62, attributes := #[] }, { accessFlags := 26, nameIndex := 65, descriptorIndex := 62, attributes := #[] }, { accessFlags := 24, nameIndex := 430, descriptorIndex := 62, attributes := #[] }, { accessFlags := 4120, nameIndex := 46, descriptorIndex := 47, attributes := #[] }])
  fields := #[{ name := "HI_BYTE_SHIFT", type := .int, accessFlags := 26, slot := 0, constantValue := 0 }, { name := "LO_BYTE_SHIFT", type := .int, accessFlags := 26, slot := 1, constantValue := 0 }, { name := "MAX_LENGTH", type := .int, accessFlags := 24, slot := 2, constantValue := 0 }, { name := "$assertionsDisabled", type := .boolean, accessFlags := 4120, slot := 3, constantValue := 0 }]
  methods := #[k8m0, k8m1, k8m2, k8m3]
  instanceTypes := #[]
  staticTypes := #[.int, .int, .int, .boolean]
  resolved := Array.replicate 635 none
  statics := none }

def pool9 : Array CpInfo := pool [(2, .class_ 4), (1, u "java/lang/Object"), (0, u "<init>"), (0, u "()V"), (1, .class_ 10), (1, u "java/lang/String"), (6, .class_ 19), (1, u "com/example/tranche/tranche/Decimals"), (0, u "isWritten"), (0, u "(Ljava/lang/String;IZI)Z"), (37, .methodref 8 60), (0, .nameAndType 61 62), (0, u "charAt"), (0, u "(I)C"), (0, .methodref 17 64), (0, .nameAndType 65 66), (0, u "digitsEnd"), (0, u "(Ljava/lang/String;II)I"), (0, u "MAX_DIGITS"), (0, u "I")] 24

def k9m0 : Method := { name := "<init>", desc := "()V", sig := { parameters := [], returnType := none }, accessFlags := 2, code := none }
def k9c1 : Code := { maxStack := 3, maxLocals := 9, code := prog_9_method_3_code, exceptionTable := #[], attributes := #[] }
def k9m1 : Method := { name := "isWritten", desc := "(Ljava/lang/String;IZI)Z", sig := { parameters := [(.object "java/lang/String"), .int, .boolean, .int], returnType := some .boolean }, accessFlags := 8, code := some k9c1 }
def k9c2 : Code := { maxStack := 2, maxLocals := 4, code := prog_9_method_4_code, exceptionTable := #[], attributes := #[] }
def k9m2 : Method := { name := "digitsEnd", desc := "(Ljava/lang/String;II)I", sig := { parameters := [(.object "java/lang/String"), .int, .int], returnType := some .int }, accessFlags := 10, code := some k9c2 }
/-- com/example/tranche/tranche/Decimals -/
def k9 : Class := { plain "com/example/tranche/tranche/Decimals" (some 0) with
  accessFlags := 49
  interfaces := #[]
  cf := some (fileOf pool9 17 #[] #[{ accessFlags := 2, nameIndex := 5, descriptorIndex := 6, attributes := #[] }, { accessFlags := 8, nameIndex := 20, descriptorIndex := 21, attributes := #[] }, { accessFlags := 10, nameIndex := 65, descriptorIndex := 66, attributes := #[] }] 49 2 #[] #[{ accessFlags := 25, nameIndex := 67, descriptorIndex := 68, attributes := #[] }])
  fields := #[{ name := "MAX_DIGITS", type := .int, accessFlags := 25, slot := 0, constantValue := 0 }]
  methods := #[k9m0, k9m1, k9m2]
  instanceTypes := #[]
  staticTypes := #[.int]
  resolved := Array.replicate 93 none
  statics := none }

def pool10 : Array CpInfo := pool [(1, .class_ 2), (0, u "java/lang/String"), (1, .class_ 6), (1, u "java/lang/Object"), (0, u "<init>"), (0, u "()V"), (0, .methodref 1 10), (0, .nameAndType 11 12), (0, u "checkIndex"), (0, u "(II)V"), (1, .class_ 16), (1, u "java/lang/StringLatin1"), (36, u "([BI)C"), (67, u "$assertionsDisabled"), (0, u "Z"), (98, .class_ 223), (1, u "java/lang/StringLatin1$LinesSpliterator"), (28, u "charAt"), (137, .class_ 391), (0, u "java/lang/StringLatin1$CharsSpliterator")] 3

def k10m0 : Method := { name := "<init>", desc := "()V", sig := { parameters := [], returnType := none }, accessFlags := 0, code := none }
def k10c1 : Code := { maxStack := 2, maxLocals := 2, code := jdk_43_method_2_code, exceptionTable := #[], attributes := #[] }
def k10m1 : Method := { name := "charAt", desc := "([BI)C", sig := { parameters := [(.array .byte), .int], returnType := some .char }, accessFlags := 9, code := some k10c1 }
/-- java/lang/StringLatin1 -/
def k10 : Class := { plain "java/lang/StringLatin1" (some 0) with
  accessFlags := 48
  interfaces := #[]
  cf := some (fileOf pool10 14 #[.nestMembers #[390, 221]] #[{ accessFlags := 0, nameIndex := 7, descriptorIndex := 8, attributes := #[] }, { accessFlags := 9, nameIndex := 252, descriptorIndex := 53, attributes := #[] }] 48 4 #[] #[{ accessFlags := 4120, nameIndex := 121, descriptorIndex := 122, attributes := #[] }])
  fields := #[{ name := "$assertionsDisabled", type := .boolean, accessFlags := 4120, slot := 0, constantValue := 0 }]
  methods := #[k10m0, k10m1]
  instanceTypes := #[]
  staticTypes := #[.boolean]
  resolved := Array.replicate 395 none
  statics := none }

def pool11 : Array CpInfo := pool [(2, .class_ 4), (1, u "java/lang/Object"), (0, u "<init>"), (0, u "()V"), (17, .class_ 26), (1, u "jdk/internal/util/Preconditions"), (6, u "checkIndex"), (21, .class_ 56), (0, u "jdk/internal/util/Preconditions$4"), (57, .class_ 115), (0, u "jdk/internal/util/Preconditions$1"), (7, u "SIOOBE_FORMATTER"), (0, u "Ljava/util/function/BiFunction;"), (0, .class_ 126), (0, u "jdk/internal/util/Preconditions$2"), (3, u "AIOOBE_FORMATTER"), (0, .class_ 132), (0, u "jdk/internal/util/Preconditions$3"), (3, u "IOOBE_FORMATTER"), (41, u "(IILjava/util/function/BiFunction;)I")] 15

def k11m0 : Method := { name := "<init>", desc := "()V", sig := { parameters := [], returnType := none }, accessFlags := 1, code := none }
def k11c1 : Code := { maxStack := 3, maxLocals := 3, code := jdk_41_method_11_code, exceptionTable := #[], attributes := #[] }
def k11m1 : Method := { name := "checkIndex", desc := "(IILjava/util/function/BiFunction;)I", sig := { parameters := [.int, .int, (.object "java/util/function/BiFunction")], returnType := some .int }, accessFlags := 9, code := some k11c1 }
/-- jdk/internal/util/Preconditions -/
def k11 : Class := { plain "jdk/internal/util/Preconditions" (some 0) with
  accessFlags := 33
  interfaces := #[]
  cf := some (fileOf pool11 24 #[.nestMembers #[55, 131, 125, 114]] #[{ accessFlags := 1, nameIndex := 5, descriptorIndex := 6, attributes := #[] }, { accessFlags := 9, nameIndex := 33, descriptorIndex := 178, attributes := #[] }] 33 2 #[] #[{ accessFlags := 25, nameIndex := 123, descriptorIndex := 124, attributes := #[] }, { accessFlags := 25, nameIndex := 130, descriptorIndex := 124, attributes := #[] }, { accessFlags := 25, nameIndex := 136, descriptorIndex := 124, attributes := #[] }])
  fields := #[{ name := "SIOOBE_FORMATTER", type := (.object "java/util/function/BiFunction"), accessFlags := 25, slot := 0, constantValue := 0 }, { name := "AIOOBE_FORMATTER", type := (.object "java/util/function/BiFunction"), accessFlags := 25, slot := 1, constantValue := 0 }, { name := "IOOBE_FORMATTER", type := (.object "java/util/function/BiFunction"), accessFlags := 25, slot := 2, constantValue := 0 }]
  methods := #[k11m0, k11m1]
  instanceTypes := #[]
  staticTypes := #[(.object "java/util/function/BiFunction"), (.object "java/util/function/BiFunction"), (.object "java/util/function/BiFunction")]
  resolved := Array.replicate 194 none
  statics := some 1 }

def pool12 : Array CpInfo := pool [(9, u "<init>"), (6, .class_ 18), (1, u "java/lang/Object"), (0, u "()V"), (1, .class_ 23), (1, u "jdk/internal/util/ArraysSupport"), (0, u "LOG2_ARRAY_LONG_INDEX_SCALE"), (0, u "I"), (2, u "U"), (0, u "Ljdk/internal/misc/Unsafe;"), (8, u "BIG_ENDIAN"), (0, u "Z"), (8, u "LOG2_BYTE_BIT_SIZE"), (4, u "LOG2_ARRAY_INT_INDEX_SCALE"), (54, u "JLA"), (0, u "Ljdk/internal/access/JavaLangAccess;"), (11, u "LOG2_ARRAY_BOOLEAN_INDEX_SCALE"), (9, u "LOG2_ARRAY_BYTE_INDEX_SCALE"), (5, u "LOG2_ARRAY_CHAR_INDEX_SCALE"), (5, u "LOG2_ARRAY_SHORT_INDEX_SCALE"), (18, u "LOG2_ARRAY_FLOAT_INDEX_SCALE"), (24, u "LOG2_ARRAY_DOUBLE_INDEX_SCALE"), (89, u "T_BOOLEAN"), (2, u "T_CHAR"), (1, u "T_FLOAT"), (1, u "T_DOUBLE"), (1, u "T_BYTE"), (1, u "T_SHORT"), (1, u "T_INT"), (1, u "T_LONG"), (1, u "SOFT_MAX_ARRAY_LENGTH")] 83

def k12m0 : Method := { name := "<init>", desc := "()V", sig := { parameters := [], returnType := none }, accessFlags := 2, code := none }
/-- jdk/internal/util/ArraysSupport -/
def k12 : Class := { plain "jdk/internal/util/ArraysSupport" (some 0) with
  accessFlags := 33
  interfaces := #[]
  cf := some (fileOf pool12 21 #[] #[{ accessFlags := 2, nameIndex := 9, descriptorIndex := 19, attributes := #[] }] 33 16 #[] #[{ accessFlags := 24, nameIndex := 28, descriptorIndex := 29, attributes := #[] }, { accessFlags := 26, nameIndex := 38, descriptorIndex := 39, attributes := #[] }, { accessFlags := 25, nameIndex := 121, descriptorIndex := 25, attributes := #[] }, { accessFlags := 25, nameIndex := 131, descriptorIndex := 25, attributes := #[] }, { accessFlags := 25, nameIndex := 137, descriptorIndex := 25, attributes := #[] }, { accessFlags := 25, nameIndex := 143, descriptorIndex := 25, attributes := #[] }, { accessFlags := 25, nameIndex := 53, descriptorIndex := 25, attributes := #[] }, { accessFlags := 25, nameIndex := 24, descriptorIndex := 25, attributes := #[] }, { accessFlags := 25, nameIndex := 162, descriptorIndex := 25, attributes := #[] }, { accessFlags := 25, nameIndex := 187, descriptorIndex := 25, attributes := #[] }, { accessFlags := 26, nameIndex := 48, descriptorIndex := 25, attributes := #[] }, { accessFlags := 25, nameIndex := 277, descriptorIndex := 25, attributes := #[] }, { accessFlags := 25, nameIndex := 280, descriptorIndex := 25, attributes := #[] }, { accessFlags := 25, nameIndex := 282, descriptorIndex := 25, attributes := #[] }, { accessFlags := 25, nameIndex := 284, descriptorIndex := 25, attributes := #[] }, { accessFlags := 25, nameIndex := 286, descriptorIndex := 25, attributes := #[] }, { accessFlags := 25, nameIndex := 288, descriptorIndex := 25, attributes := #[] }, { accessFlags := 25, nameIndex := 290, descriptorIndex := 25, attributes := #[] }, { accessFlags := 25, nameIndex := 292, descriptorIndex := 25, attributes := #[] }, { accessFlags := 26, nameIndex := 108, descriptorIndex := 109, attributes := #[] }, { accessFlags := 25, nameIndex := 294, descriptorIndex := 25, attributes := #[] }])
  fields := #[{ name := "U", type := (.object "jdk/internal/misc/Unsafe"), accessFlags := 24, slot := 0, constantValue := 0 }, { name := "BIG_ENDIAN", type := .boolean, accessFlags := 26, slot := 1, constantValue := 0 }, { name := "LOG2_ARRAY_BOOLEAN_INDEX_SCALE", type := .int, accessFlags := 25, slot := 2, constantValue := 0 }, { name := "LOG2_ARRAY_BYTE_INDEX_SCALE", type := .int, accessFlags := 25, slot := 3, constantValue := 0 }, { name := "LOG2_ARRAY_CHAR_INDEX_SCALE", type := .int, accessFlags := 25, slot := 4, constantValue := 0 }, { name := "LOG2_ARRAY_SHORT_INDEX_SCALE", type := .int, accessFlags := 25, slot := 5, constantValue := 0 }, { name := "LOG2_ARRAY_INT_INDEX_SCALE", type := .int, accessFlags := 25, slot := 6, constantValue := 0 }, { name := "LOG2_ARRAY_LONG_INDEX_SCALE", type := .int, accessFlags := 25, slot := 7, constantValue := 0 }, { name := "LOG2_ARRAY_FLOAT_INDEX_SCALE", type := .int, accessFlags := 25, slot := 8, constantValue := 0 }, { name := "LOG2_ARRAY_DOUBLE_INDEX_SCALE", type := .int, accessFlags := 25, slot := 9, constantValue := 0 }, { name := "LOG2_BYTE_BIT_SIZE", type := .int, accessFlags := 26, slot := 10, constantValue := 0 }, { name := "T_BOOLEAN", type := .int, accessFlags := 25, slot := 11, constantValue := 0 }, { name := "T_CHAR", type := .int, accessFlags := 25, slot := 12, constantValue := 0 }, { name := "T_FLOAT", type := .int, accessFlags := 25, slot := 13, constantValue := 0 }, { name := "T_DOUBLE", type := .int, accessFlags := 25, slot := 14, constantValue := 0 }, { name := "T_BYTE", type := .int, accessFlags := 25, slot := 15, constantValue := 0 }, { name := "T_SHORT", type := .int, accessFlags := 25, slot := 16, constantValue := 0 }, { name := "T_INT", type := .int, accessFlags := 25, slot := 17, constantValue := 0 }, { name := "T_LONG", type := .int, accessFlags := 25, slot := 18, constantValue := 0 }, { name := "JLA", type := (.object "jdk/internal/access/JavaLangAccess"), accessFlags := 26, slot := 19, constantValue := 0 }, { name := "SOFT_MAX_ARRAY_LENGTH", type := .int, accessFlags := 25, slot := 20, constantValue := 0 }]
  methods := #[k12m0]
  instanceTypes := #[]
  staticTypes := #[(.object "jdk/internal/misc/Unsafe"), .boolean, .int, .int, .int, .int, .int, .int, .int, .int, .int, .int, .int, .int, .int, .int, .int, .int, .int, (.object "jdk/internal/access/JavaLangAccess"), .int]
  resolved := Array.replicate 378 none
  statics := none }

def pool13 : Array CpInfo := pool [(1, u "java/lang/Cloneable"), (0, .class_ 1), (0, u "java/lang/Object"), (0, .class_ 3)] 3

/-- java/lang/Cloneable -/
def k13 : Class := { plain "java/lang/Cloneable" (some 0) with
  accessFlags := 1537
  interfaces := #[]
  cf := some (fileOf pool13 2 #[] #[] 1537 4 #[] #[])
  fields := #[]
  methods := #[]
  instanceTypes := #[]
  staticTypes := #[]
  resolved := Array.replicate 8 none
  statics := none }

/-- the primitive byte -/
def k14 : Class := { plain "byte" none with kind := .primitive 'B', accessFlags := 0x411 }
/-- [B -/
def k15 : Class := { plain "[B" (some 0) with kind := .array 14 .byte, interfaces := #[13, 2], accessFlags := 1041 }

/-- the primitive char -/
def k16 : Class := { plain "char" none with kind := .primitive 'C', accessFlags := 0x411 }
/-- [C -/
def k17 : Class := { plain "[C" (some 0) with kind := .array 16 .char, interfaces := #[13, 2], accessFlags := 1041 }

/-- the primitive int -/
def k18 : Class := { plain "int" none with kind := .primitive 'I', accessFlags := 0x411 }
/-- [I -/
def k19 : Class := { plain "[I" (some 0) with kind := .array 18 .int, interfaces := #[13, 2], accessFlags := 1041 }

def heap : Heap := #[{ cls := 7, slots := #[.long 0, .int 1, .null, .int 0, .null, .int 0, .int 0], vm := .statics 7 },
  { cls := 11, slots := #[.null, .null, .null], vm := .statics 11 }]
def classes : Array Class := #[k0, k1, k2, k3, k4, k5, k6, k7, k8, k9, k10, k11, k12, k13, k14, k15, k16, k17, k18, k19]
def interned : List (Array UInt16 × Addr) := []
def slotsUsed : Nat := 10
def theMethod : MethodId := ⟨1, 5⟩
def args0 : Array Value := #[.long 1, .int 2, .int 3, .int 4]
def aboutOver (below : List Frame) : State where
  vm := { classes := classes, interned := interned.toArray }
  heap := heap
  slotsUsed := slotsUsed
  threads := #[{ frames := .invoking theMethod args0 :: below }]
def below0 : List Frame := [.native { method := ⟨0, 0⟩, args := #[] }]
def about1 : State := aboutOver below0
def p0 : Program := .bare "" "" ""
def e0 : Env := launch0.env 0 0 0
theorem w_frames : about1.frames = Frame.invoking theMethod args0 :: below0 := rfl
set_option maxRecDepth 65536 in
theorem w_args : argsFit about1.vm theMethod args0 = true := by decide +kernel
set_option maxRecDepth 65536 in
theorem w_heap : heapFits about1 = true := by decide +kernel
set_option maxRecDepth 65536 in
theorem w_runnable : about1.curStatus? = some .runnable := by decide +kernel
set_option maxRecDepth 65536 in
theorem w_alone : about1.alone = true := by decide +kernel
set_option maxRecDepth 65536 in
theorem w_named : about1.methodNamed? x = some theMethod := by decide +kernel
set_option maxRecDepth 65536 in
theorem w_hears : about1.hears theMethod below0 = true := by decide +kernel
set_option maxRecDepth 65536 in
theorem w_ripe : about1.ripe theMethod args0 below0 = true := by decide +kernel
theorem w_running : about1.status = .running := rfl
set_option maxRecDepth 65536 in
theorem w_room : about1.hasRoom e0.platform room_1 = true :=
  launch0.hasRoom_least _ room_1 (by decide +kernel) (by decide +kernel) (by decide +kernel) (by decide +kernel) (by decide +kernel) (by decide +kernel)
theorem allAtoms_all (ts : List Jvm.Cond) (a : Array Jvm.Value) (st : Jvm.State) : (allAtoms ts).before a st = ts.all (fun c => c.before a st) := by
  induction ts with
  | nil => rfl
  | cons c t ih =>
    show (Jvm.Cond.and c (allAtoms t)).before a st = _
    rw [Jvm.Cond.before_and, ih, List.all_cons]
def words1 : List Jvm.Cond := Jvm.Cond.code x code maxLocals ret :: tables_1
/-- a 'code' word, met by the world's own term for the bytes: nothing is compared byte by byte -/
theorem code_word {y : MethodName} {bytes : ByteArray} {mx : Nat} {rt : Option FieldType} {a : Array Value} {s : State} {m : MethodId} {meth : Method} {c : Code} (h1 : s.methodNamed? y = some m) (h2 : s.vm.method? m = some meth) (h3 : meth.code = some c) (h4 : c.code = bytes)
    (h5 : (c.maxLocals == mx && c.exceptionTable.isEmpty && decide (c.maxStack ≤ mostOperands) && decide (meth.sig.returnType = rt) && !meth.locks && decide (parseMethodDescriptor y.desc = some meth.sig)) = true) : (Jvm.Cond.code y bytes mx rt).before a s = true := by
  simp only [Bool.and_eq_true, beq_iff_eq, Bool.not_eq_true', decide_eq_true_eq] at h5
  obtain ⟨⟨⟨⟨⟨g1, g2⟩, g3⟩, g4⟩, g5⟩, g6⟩ := h5
  simp [Cond.before, Cond.holds, Cond.value, h1, h2, h3, h4, g1, g2, g3, g4, g5, g6]
def isCode : Jvm.Cond → Bool
  | .code _ _ _ _ => true
  | _ => false
theorem all_split {L : List Jvm.Cond} {P : Jvm.Cond → Bool} (h1 : L.all (fun c => isCode c || P c) = true) (h2 : ∀ c ∈ L.filter isCode, P c = true) : L.all P = true := by
  refine List.all_eq_true.mpr fun c hc => ?_
  have h := List.all_eq_true.mp h1 c hc
  rcases Bool.eq_false_or_eq_true (isCode c) with hi | hi
  · exact h2 c (List.mem_filter.mpr ⟨hc, hi⟩)
  · simpa [hi] using h
set_option maxRecDepth 65536 in
theorem w_c0 : (Jvm.Cond.code x code maxLocals ret).before args0 about1 = true := code_word (m := ⟨1, 5⟩) (meth := k1m5) (c := k1c5) (by decide +kernel) rfl rfl rfl (by decide +kernel)
set_option maxRecDepth 65536 in
theorem w_c1 : (Jvm.Cond.code ({ cls := "com/example/tranche/tranche/DecimalsIsWrittenPinLaw", name := "draw", desc := "(J)C" } : Jvm.MethodName) method_3_code (4 : Nat) (Option.some Jvm.ClassFile.FieldType.char)).before args0 about1 = true := code_word (m := ⟨1, 2⟩) (meth := k1m2) (c := k1c2) (by decide +kernel) rfl rfl rfl (by decide +kernel)
set_option maxRecDepth 65536 in
theorem w_c2 : (Jvm.Cond.code ({ cls := "java/lang/String", name := "<init>", desc := "([C)V" } : Jvm.MethodName) jdk_42_method_3_code (2 : Nat) (Option.none : Option Jvm.ClassFile.FieldType)).before args0 about1 = true := code_word (m := ⟨7, 1⟩) (meth := k7m1) (c := k7c1) (by decide +kernel) rfl rfl rfl (by decide +kernel)
set_option maxRecDepth 65536 in
theorem w_c3 : (Jvm.Cond.code ({ cls := "java/lang/String", name := "<init>", desc := "([CIILjava/lang/Void;)V" } : Jvm.MethodName) jdk_42_method_149_code (6 : Nat) (Option.none : Option Jvm.ClassFile.FieldType)).before args0 about1 = true := code_word (m := ⟨7, 3⟩) (meth := k7m3) (c := k7c3) (by decide +kernel) rfl rfl rfl (by decide +kernel)
set_option maxRecDepth 65536 in
theorem w_c4 : (Jvm.Cond.code ({ cls := "java/lang/Object", name := "<init>", desc := "()V" } : Jvm.MethodName) object_method_1_code (1 : Nat) (Option.none : Option Jvm.ClassFile.FieldType)).before args0 about1 = true := code_word (m := ⟨0, 0⟩) (meth := k0m0) (c := k0c0) (by decide +kernel) rfl rfl rfl (by decide +kernel)
set_option maxRecDepth 65536 in
theorem w_c5 : (Jvm.Cond.code ({ cls := "java/lang/StringUTF16", name := "compress", desc := "([CII)[B" } : Jvm.MethodName) jdk_52_method_16_code (6 : Nat) (Option.some (Jvm.ClassFile.FieldType.array Jvm.ClassFile.FieldType.byte))).before args0 about1 = true := code_word (m := ⟨8, 2⟩) (meth := k8m2) (c := k8c2) (by decide +kernel) rfl rfl rfl (by decide +kernel)
set_option maxRecDepth 65536 in
theorem w_c6 : (Jvm.Cond.code ({ cls := "java/lang/StringUTF16", name := "compress", desc := "([CI[BII)I" } : Jvm.MethodName) jdk_52_method_21_code (7 : Nat) (Option.some Jvm.ClassFile.FieldType.int)).before args0 about1 = true := code_word (m := ⟨8, 3⟩) (meth := k8m3) (c := k8c3) (by decide +kernel) rfl rfl rfl (by decide +kernel)
set_option maxRecDepth 65536 in
theorem w_c7 : (Jvm.Cond.code ({ cls := "java/lang/StringUTF16", name := "coderFromArrayLen", desc := "([BI)B" } : Jvm.MethodName) jdk_52_method_15_code (2 : Nat) (Option.some Jvm.ClassFile.FieldType.byte)).before args0 about1 = true := code_word (m := ⟨8, 1⟩) (meth := k8m1) (c := k8c1) (by decide +kernel) rfl rfl rfl (by decide +kernel)
set_option maxRecDepth 65536 in
theorem w_c8 : (Jvm.Cond.code ({ cls := "com/example/tranche/tranche/DecimalsIsWrittenPinLaw", name := "ok", desc := "(CIII)Z" } : Jvm.MethodName) method_4_code (4 : Nat) (Option.some Jvm.ClassFile.FieldType.boolean)).before args0 about1 = true := code_word (m := ⟨1, 3⟩) (meth := k1m3) (c := k1c3) (by decide +kernel) rfl rfl rfl (by decide +kernel)
set_option maxRecDepth 65536 in
theorem w_c9 : (Jvm.Cond.code ({ cls := "com/example/tranche/tranche/DecimalsIsWrittenPinLaw", name := "isDigit", desc := "(C)Z" } : Jvm.MethodName) method_2_code (1 : Nat) (Option.some Jvm.ClassFile.FieldType.boolean)).before args0 about1 = true := code_word (m := ⟨1, 1⟩) (meth := k1m1) (c := k1c1) (by decide +kernel) rfl rfl rfl (by decide +kernel)
set_option maxRecDepth 65536 in
theorem w_c10 : (Jvm.Cond.code ({ cls := "com/example/tranche/tranche/DecimalsIsWrittenPinLaw", name := "dot", desc := "(CIII)I" } : Jvm.MethodName) method_5_code (4 : Nat) (Option.some Jvm.ClassFile.FieldType.int)).before args0 about1 = true := code_word (m := ⟨1, 4⟩) (meth := k1m4) (c := k1c4) (by decide +kernel) rfl rfl rfl (by decide +kernel)
set_option maxRecDepth 65536 in
theorem w_c11 : (Jvm.Cond.code ({ cls := "com/example/tranche/tranche/Decimals", name := "isWritten", desc := "(Ljava/lang/String;IZI)Z" } : Jvm.MethodName) prog_9_method_3_code (9 : Nat) (Option.some Jvm.ClassFile.FieldType.boolean)).before args0 about1 = true := code_word (m := ⟨9, 1⟩) (meth := k9m1) (c := k9c1) (by decide +kernel) rfl rfl rfl (by decide +kernel)
set_option maxRecDepth 65536 in
theorem w_c12 : (Jvm.Cond.code ({ cls := "java/lang/String", name := "charAt", desc := "(I)C" } : Jvm.MethodName) jdk_42_method_56_code (2 : Nat) (Option.some Jvm.ClassFile.FieldType.char)).before args0 about1 = true := code_word (m := ⟨7, 2⟩) (meth := k7m2) (c := k7c2) (by decide +kernel) rfl rfl rfl (by decide +kernel)
set_option maxRecDepth 65536 in
theorem w_c13 : (Jvm.Cond.code ({ cls := "java/lang/String", name := "isLatin1", desc := "()Z" } : Jvm.MethodName) jdk_42_method_154_code (1 : Nat) (Option.some Jvm.ClassFile.FieldType.boolean)).before args0 about1 = true := code_word (m := ⟨7, 4⟩) (meth := k7m4) (c := k7c4) (by decide +kernel) rfl rfl rfl (by decide +kernel)
set_option maxRecDepth 65536 in
theorem w_c14 : (Jvm.Cond.code ({ cls := "java/lang/StringLatin1", name := "charAt", desc := "([BI)C" } : Jvm.MethodName) jdk_43_method_2_code (2 : Nat) (Option.some Jvm.ClassFile.FieldType.char)).before args0 about1 = true := code_word (m := ⟨10, 1⟩) (meth := k10m1) (c := k10c1) (by decide +kernel) rfl rfl rfl (by decide +kernel)
set_option maxRecDepth 65536 in
theorem w_c15 : (Jvm.Cond.code ({ cls := "java/lang/String", name := "checkIndex", desc := "(II)V" } : Jvm.MethodName) jdk_42_method_155_code (2 : Nat) (Option.none : Option Jvm.ClassFile.FieldType)).before args0 about1 = true := code_word (m := ⟨7, 5⟩) (meth := k7m5) (c := k7c5) (by decide +kernel) rfl rfl rfl (by decide +kernel)
set_option maxRecDepth 65536 in
theorem w_c16 : (Jvm.Cond.code ({ cls := "jdk/internal/util/Preconditions", name := "checkIndex", desc := "(IILjava/util/function/BiFunction;)I" } : Jvm.MethodName) jdk_41_method_11_code (3 : Nat) (Option.some Jvm.ClassFile.FieldType.int)).before args0 about1 = true := code_word (m := ⟨11, 1⟩) (meth := k11m1) (c := k11c1) (by decide +kernel) rfl rfl rfl (by decide +kernel)
set_option maxRecDepth 65536 in
theorem w_c17 : (Jvm.Cond.code ({ cls := "com/example/tranche/tranche/Decimals", name := "digitsEnd", desc := "(Ljava/lang/String;II)I" } : Jvm.MethodName) prog_9_method_4_code (4 : Nat) (Option.some Jvm.ClassFile.FieldType.int)).before args0 about1 = true := code_word (m := ⟨9, 2⟩) (meth := k9m2) (c := k9c2) (by decide +kernel) rfl rfl rfl (by decide +kernel)
def codes1 : List Jvm.Cond := [Jvm.Cond.code x code maxLocals ret, Jvm.Cond.code ({ cls := "com/example/tranche/tranche/DecimalsIsWrittenPinLaw", name := "draw", desc := "(J)C" } : Jvm.MethodName) method_3_code (4 : Nat) (Option.some Jvm.ClassFile.FieldType.char), Jvm.Cond.code ({ cls := "java/lang/String", name := "<init>", desc := "([C)V" } : Jvm.MethodName) jdk_42_method_3_code (2 : Nat) (Option.none : Option Jvm.ClassFile.FieldType), Jvm.Cond.code ({ cls := "java/lang/String", name := "<init>", desc := "([CIILjava/lang/Void;)V" } : Jvm.MethodName) jdk_42_method_149_code (6 : Nat) (Option.none : Option Jvm.ClassFile.FieldType), Jvm.Cond.code ({ cls := "java/lang/Object", name := "<init>", desc := "()V" } : Jvm.MethodName) object_method_1_code (1 : Nat) (Option.none : Option Jvm.ClassFile.FieldType), Jvm.Cond.code ({ cls := "java/lang/StringUTF16", name := "compress", desc := "([CII)[B" } : Jvm.MethodName) jdk_52_method_16_code (6 : Nat) (Option.some (Jvm.ClassFile.FieldType.array Jvm.ClassFile.FieldType.byte)), Jvm.Cond.code ({ cls := "java/lang/StringUTF16", name := "compress", desc := "([CI[BII)I" } : Jvm.MethodName) jdk_52_method_21_code (7 : Nat) (Option.some Jvm.ClassFile.FieldType.int), Jvm.Cond.code ({ cls := "java/lang/StringUTF16", name := "coderFromArrayLen", desc := "([BI)B" } : Jvm.MethodName) jdk_52_method_15_code (2 : Nat) (Option.some Jvm.ClassFile.FieldType.byte), Jvm.Cond.code ({ cls := "com/example/tranche/tranche/DecimalsIsWrittenPinLaw", name := "ok", desc := "(CIII)Z" } : Jvm.MethodName) method_4_code (4 : Nat) (Option.some Jvm.ClassFile.FieldType.boolean), Jvm.Cond.code ({ cls := "com/example/tranche/tranche/DecimalsIsWrittenPinLaw", name := "isDigit", desc := "(C)Z" } : Jvm.MethodName) method_2_code (1 : Nat) (Option.some Jvm.ClassFile.FieldType.boolean), Jvm.Cond.code ({ cls := "com/example/tranche/tranche/DecimalsIsWrittenPinLaw", name := "dot", desc := "(CIII)I" } : Jvm.MethodName) method_5_code (4 : Nat) (Option.some Jvm.ClassFile.FieldType.int), Jvm.Cond.code ({ cls := "com/example/tranche/tranche/Decimals", name := "isWritten", desc := "(Ljava/lang/String;IZI)Z" } : Jvm.MethodName) prog_9_method_3_code (9 : Nat) (Option.some Jvm.ClassFile.FieldType.boolean), Jvm.Cond.code ({ cls := "java/lang/String", name := "charAt", desc := "(I)C" } : Jvm.MethodName) jdk_42_method_56_code (2 : Nat) (Option.some Jvm.ClassFile.FieldType.char), Jvm.Cond.code ({ cls := "java/lang/String", name := "isLatin1", desc := "()Z" } : Jvm.MethodName) jdk_42_method_154_code (1 : Nat) (Option.some Jvm.ClassFile.FieldType.boolean), Jvm.Cond.code ({ cls := "java/lang/StringLatin1", name := "charAt", desc := "([BI)C" } : Jvm.MethodName) jdk_43_method_2_code (2 : Nat) (Option.some Jvm.ClassFile.FieldType.char), Jvm.Cond.code ({ cls := "java/lang/String", name := "checkIndex", desc := "(II)V" } : Jvm.MethodName) jdk_42_method_155_code (2 : Nat) (Option.none : Option Jvm.ClassFile.FieldType), Jvm.Cond.code ({ cls := "jdk/internal/util/Preconditions", name := "checkIndex", desc := "(IILjava/util/function/BiFunction;)I" } : Jvm.MethodName) jdk_41_method_11_code (3 : Nat) (Option.some Jvm.ClassFile.FieldType.int), Jvm.Cond.code ({ cls := "com/example/tranche/tranche/Decimals", name := "digitsEnd", desc := "(Ljava/lang/String;II)I" } : Jvm.MethodName) prog_9_method_4_code (4 : Nat) (Option.some Jvm.ClassFile.FieldType.int)]
set_option maxRecDepth 65536 in
theorem codes_eq : words1.filter isCode = codes1 := rfl
theorem w_codes : ∀ c ∈ words1.filter isCode, c.before args0 about1 = true := by
  rw [codes_eq]
  intro c hc
  simp only [codes1, List.mem_cons, List.not_mem_nil, or_false] at hc
  rcases hc with rfl | rfl | rfl | rfl | rfl | rfl | rfl | rfl | rfl | rfl | rfl | rfl | rfl | rfl | rfl | rfl | rfl | rfl
  · exact w_c0
  · exact w_c1
  · exact w_c2
  · exact w_c3
  · exact w_c4
  · exact w_c5
  · exact w_c6
  · exact w_c7
  · exact w_c8
  · exact w_c9
  · exact w_c10
  · exact w_c11
  · exact w_c12
  · exact w_c13
  · exact w_c14
  · exact w_c15
  · exact w_c16
  · exact w_c17
set_option maxRecDepth 65536 in
theorem w_t1 : (words1.take 24).all (fun c => isCode c || c.before args0 about1) = true := by decide +kernel
set_option maxRecDepth 65536 in
theorem w_t2 : ((words1.drop 24).take 24).all (fun c => isCode c || c.before args0 about1) = true := by decide +kernel
set_option maxRecDepth 65536 in
theorem w_t3 : (((words1.drop 24).drop 24).take 24).all (fun c => isCode c || c.before args0 about1) = true := by decide +kernel
set_option maxRecDepth 65536 in
theorem w_t4 : (((words1.drop 24).drop 24).drop 24).all (fun c => isCode c || c.before args0 about1) = true := by decide +kernel
theorem w_tables : (allAtoms (Jvm.Cond.code x code maxLocals ret :: tables_1)).before args0 about1 = true := by
  rw [allAtoms_all]
  show words1.all (fun c => c.before args0 about1) = true
  refine all_split ?_ w_codes
  rw [← List.take_append_drop 24 words1, List.all_append, w_t1, ← List.take_append_drop 24 (words1.drop 24), List.all_append, w_t2, ← List.take_append_drop 24 ((words1.drop 24).drop 24), List.all_append, w_t3, w_t4]
  rfl
set_option maxRecDepth 65536 in
theorem w_rest : rest_1_c.before args0 about1 = true := by decide +kernel
set_option maxRecDepth 65536 in
theorem w_case : (Jvm.Cond.and given_1 narrow_1).before args0 about1 = true := by decide +kernel
theorem w_applies : (headSpec (Jvm.Cond.code x code maxLocals ret :: tables_1) room_1).applies x e0.platform about1 = true :=
  (Spec.applies_iff w_frames).mpr ⟨w_running, w_runnable, w_alone, w_named, w_hears, w_ripe, w_room, w_tables⟩
theorem atStart : AtStart classFile x code maxLocals ret World_1 tables_1 room_1 Calls_1 rest_1 Pre_1 launch0 p0 e0 about1 theMethod args0 below0 :=
  ⟨lists_1, trivial, launch0.admits_env _ _ _, launch0.least_env, fairChoices_fair.cas, fairChoices_fair.clock, w_frames, w_args, w_heap, w_applies, trivial, w_rest, w_case⟩
end start1
theorem witness_1 : WitnessClaimed_1 := ⟨start1.p0, start1.e0, start1.about1, start1.theMethod, start1.args0, start1.below0, start1.atStart⟩
end Jvm.Pilot.@@N@@
