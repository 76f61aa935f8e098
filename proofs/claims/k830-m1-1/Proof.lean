import JvmDerived
import JvmDerived.Pilot.@@N@@Statement
import JvmDerived.Pilot.@@N@@Code
set_option linter.unusedVariables false
set_option linter.unusedSimpArgs false
namespace Jvm.RoadKit
open Sem ClassFile Op Lib Jvm.Stand Jvm.Free Jvm.LawKit
section New
variable {p : Program} {l : Launch} {e : Env} {R : Room} {s : State} {m : MethodId} {args : Array Value} {below : List Frame} {meth : Method} {c : Code} {T : State} {locs : List Loc} {cells slots : Nat}
theorem retI (X : Stand p l e R s m args below meth c T locs cells slots) (hx : p.tables.exec = Jvm.exec) {pc : Nat} {Ls : Array Slot} {z : Int32} {rest : List Value} (hret : meth.sig.returnType = some .int) (hd : decode c.code pc = .ok (.ireturn, 1)) {fs : List Frame}
    (hl : ∀ (f : JFrame) (acts : List Action), f.method = m → f.locked = none → f.entered = [] → (doReturn e (T.setTop f) acts (some (.int z))).1 = T.setFrames fs) : Steps p.tables e below (T.setTop (mkF m pc Ls (.int z :: rest))) (T.setFrames fs) := by
  have hm' : T.vm.method? m = some meth := X.method'
  have hn : narrow .int (.int z) = .int z := rfl
  show Steps p.tables e below (T.setTop { method := m, pc := pc, locals := Ls, stack := _ :: rest, locked := none }) _
  jvm_step X.here [X.here.top, hx, hd, hm', hret, hn]
  first | (intro acts; rw [hl _ acts rfl rfl rfl]) | rw [hl _ _ rfl rfl rfl]
  exact Steps.refl _
/-- what is left of a walk: from S the run comes to its end, and Q is said of that -/
def OwnGo (p : Program) (e : Env) (below : List Frame) (s : State) (Q : Option Value → Heap → List Loc → Prop) (k n : Nat) (S : State) : Prop :=
  ∃ s₂ o, Steps p.tables e below S s₂ ∧ s₂.status = .running ∧ Ended s₂ below o ∧ ∃ v L, o = .returned v ∧ Q v s₂.heap L ∧ FrameEnd s o s₂ L k n
theorem gs {Q : Option Value → Heap → List Loc → Prop} {k n : Nat} {S S' : State} (f : ∀ t, Steps p.tables e below S' t → Steps p.tables e below S t) (h : OwnGo p e below s Q k n S') : OwnGo p e below s Q k n S := by
  obtain ⟨s₂, o, h1, r⟩ := h; exact ⟨s₂, o, f _ h1, r⟩
theorem gout {Q : Option Value → Heap → List Loc → Prop} {k n : Nat} {S : State} (X : Stand p l e R s m args below meth c T locs cells slots) (hlk : meth.locks = false) {v : Option Value} (hv : meth.sig.returnType = none → v = none) (hk : cells ≤ k) (hn : slots ≤ n) (hq : Q v T.heap locs)
    (st : ∀ fs, (∀ (f : JFrame) (acts : List Action), f.method = m → f.locked = none → f.entered = [] → (doReturn e (T.setTop f) acts v).1 = T.setFrames fs) → Steps p.tables e below S (T.setFrames fs)) : OwnGo p e below s Q k n S := by
  obtain ⟨fs, hr, hrun, hended, hW, hsame⟩ := X.leave (v := v) hv hlk
  exact ⟨_, _, st fs hr, hrun, hended, v, _, rfl, hq, ⟨v, rfl⟩, hW, hsame.mono hk hn⟩
/-- .. where String constants may be loaded on the way -/
def OwnGoW (p : Program) (e : Env) (below : List Frame) (s : State) (Z : State) (EL : List (String × Nat)) (Q : Option Value → Heap → List Loc → Prop) (k n : Nat) (S : State) : Prop :=
  ∃ s₂ o, Steps p.tables e below S s₂ ∧ s₂.status = .running ∧ Ended s₂ below o ∧ ∃ v L, o = .returned v ∧ Q v s₂.heap L ∧ CHr Z EL s.vm s.heap s₂.vm s₂.heap ∧ ReturnedEndW s o s₂ L k n
theorem gsW {Z : State} {EL : List (String × Nat)} {Q : Option Value → Heap → List Loc → Prop} {k n : Nat} {S S' : State} (f : ∀ t, Steps p.tables e below S' t → Steps p.tables e below S t) (h : OwnGoW p e below s Z EL Q k n S') : OwnGoW p e below s Z EL Q k n S := by
  obtain ⟨s₂, o, h1, r⟩ := h; exact ⟨s₂, o, f _ h1, r⟩
theorem goutW {Z : State} {a0 : Array Value} {EL : List (String × Nat)} {Q : Option Value → Heap → List Loc → Prop} {k n k0 : Nat} {S : State} {vm1 : Vm} {h0 h : Heap} (X : Stand p l e R (s.setVm vm1) m args below meth c T locs cells slots) (hS : s.Since vm1 k0) (hkk : k0 ≤ h.size) (hZ : Z.Warmed39 (s.setVm vm1).vm) (hEL : EW Z a0 EL) (hh : s.heap = h0) (eT : T.heap = h) (hR : CHr Z EL s.vm h0 vm1 h)
    (hlk : meth.locks = false) {v : Option Value} (hv : meth.sig.returnType = none → v = none) (hk : cells ≤ k) (hn : slots ≤ n) (hq : Q v h locs)
    (st : ∀ fs, (∀ (f : JFrame) (acts : List Action), f.method = m → f.locked = none → f.entered = [] → (doReturn e (T.setTop f) acts v).1 = T.setFrames fs) → Steps p.tables e below S (T.setFrames fs)) : OwnGoW p e below s Z EL Q k n S := by
  subst eT hh
  obtain ⟨fs, hr, hrun, hended, hE⟩ := X.leaveW hS hkk (v := v) hv hlk
  exact ⟨_, _, st fs hr, hrun, hended, v, _, rfl, hq, hR.trans (show CHr Z EL vm1 T.heap T.vm T.heap from CHv.at X hZ hEL hR.1), hE.1, hE.2.1, hE.2.2.1, hE.2.2.2.mono hk hn⟩
end New
def CtrW (l : Launch) (Z : State) (EL : List (String × Nat)) (y : MethodName) (bytes : ByteArray) (maxL : Nat) (ret : Option FieldType) (ws : List Jvm.Cond) (R : Room) (as' : Array Value) (h0 : Heap) (Q : Option Value → Heap → List Loc → Prop) : Prop :=
  MetFree l y (head1 (Jvm.Cond.code y bytes maxL ret :: ws) R) (fun a U => a = as' ∧ Z.Warmed39 U.vm ∧ U.heap = h0 ∧ CHv Z EL U.vm h0) (fun _ _ _ _ _ => True) (fun _ U o U' => ∃ v L, o = .returned v ∧ Q v U'.heap L ∧ CHr Z EL U.vm U.heap U'.vm U'.heap ∧ ReturnedEndW U o U' L R.cells R.slots)
/-- a method's contract -/
def Ctr (l : Launch) (Z : State) (y : MethodName) (bytes : ByteArray) (maxL : Nat) (ret : Option FieldType) (ws : List Jvm.Cond) (R : Room) (as' : Array Value) (h0 : Heap) (Q : Option Value → Heap → List Loc → Prop) : Prop :=
  MetFree l y (head1 (Jvm.Cond.code y bytes maxL ret :: ws) R) (fun a U => a = as' ∧ Z.Warmed39 U.vm ∧ U.heap = h0) (fun _ _ _ _ _ => True) (fun _ U o U' => ∃ v L, o = .returned v ∧ Q v U'.heap L ∧ FrameEnd U o U' L R.cells R.slots)
section Own
variable {p : Program} {l : Launch} {e : Env} {R : Room} {s Z : State} {args a0 : Array Value} {below : List Frame} {y : MethodName} {bytes : ByteArray} {maxL : Nat} {ret : Option FieldType} {rm : Room} {len W : Nat} {as' : Array Value} {h : Heap} {Q : Option Value → Heap → List Loc → Prop} {EL : List (String × Nat)} {vm0 : Vm} {ws : List Jvm.Cond}
theorem Ctr.of (hM : MetFree l y (head1 (Jvm.Cond.code y bytes maxL ret :: ws) R) (fun a U => a = as' ∧ Z.Warmed39 U.vm ∧ U.heap = h) (fun _ _ _ _ _ => True) (fun _ U o U' => ∃ v L, o = .returned v ∧ Q v U'.heap L ∧ FrameEnd U o U' L R.cells R.slots)) : Ctr l Z y bytes maxL ret ws R as' h Q := hM
theorem CtrW.of (hM : MetFree l y (head1 (Jvm.Cond.code y bytes maxL ret :: ws) R) (fun a U => a = as' ∧ Z.Warmed39 U.vm ∧ U.heap = h ∧ CHv Z EL U.vm h) (fun _ _ _ _ _ => True) (fun _ U o U' => ∃ v L, o = .returned v ∧ Q v U'.heap L ∧ CHr Z EL U.vm U.heap U'.vm U'.heap ∧ ReturnedEndW U o U' L R.cells R.slots)) : CtrW l Z EL y bytes maxL ret ws R as' h Q := hM
theorem backC (hM : Ctr l Z y bytes maxL ret [] rm as' h Q) (hZ : Z.Warmed39 s.vm) (wc : (Cond.code y bytes maxL ret).before a0 Z = true) (wz : (Cond.initialized y.cls).before a0 Z = true) (hf : rm.frames + 1 ≤ R.frames) (hl : W + (maxL + 11) + rm.locals ≤ R.locals) :
    Back l R p e below s args y len W (fun A a => a = as' ∧ A.U.heap = h ∧ A.cells + rm.cells ≤ R.cells ∧ A.slots + rm.slots ≤ R.slots)
      (fun A _ v B => ∃ L, Q v B.U.heap L ∧ B.locs = A.locs ++ L ∧ B.cells = A.cells + rm.cells ∧ B.slots = A.slots + rm.slots) := backOf (Q := Q) hM hZ wc wz hf hl
theorem backCW (hM : CtrW l Z EL y bytes maxL ret [] rm as' h Q) (hZ : Z.Warmed39 vm0) (wc : (Cond.code y bytes maxL ret).before a0 Z = true) (wz : (Cond.initialized y.cls).before a0 Z = true) (hf : rm.frames + 1 ≤ R.frames) (hl : W + (maxL + 11) + rm.locals ≤ R.locals) (hEL : EW Z a0 EL) (H : CHv Z EL vm0 h) :
    BackS l R p e below (s.setVm vm0) args y len W (fun A a => a = as' ∧ A.U.heap = h ∧ A.cells + rm.cells ≤ R.cells ∧ A.slots + rm.slots ≤ R.slots)
      (fun A _ v B => ∃ L, Q v B.U.heap L ∧ B.locs = A.locs ++ L ∧ B.cells = A.cells + rm.cells ∧ B.slots = A.slots + rm.slots ∧ CHr Z EL vm0 h B.U.vm B.U.heap) := backOfSH (Q := Q) hM hZ wc wz hf hl hEL H
end Own
end Jvm.RoadKit
/- laws to paste: Road.backV, Road.eqW, Road.chN, Road.codOf (cut by pick.py; bodies as the Statement names them) -/
namespace Jvm.Pilot.@@N@@
namespace StrChars
open Jvm Sem ClassFile Op Lib Jvm.Stand Jvm.Free.XT Jvm.Free.ALB Jvm.Free.JM Jvm.Free
open Jvm.Lib.Cold (StaticIs)
/-- a char array whose places are chars -/
def Ch (a : Addr) (A : Cell) (U : State) : Prop := Arr .char a A U ∧ Typed .char A
theorem Ch.mv {a : Addr} {A : Cell} {U U' : State} (h : Ch a A U) (hal : U.vm.Alike U'.vm) (hh : U'.heap = U.heap) : Ch a A U' := ⟨h.1.mv hal hh, h.2⟩
theorem Ch.keep {a : Addr} {A : Cell} {U U' : State} (h : Ch a A U) (hal : U.vm.Alike U'.vm) (hk : U'.heap[a]? = some A) : Ch a A U' := ⟨h.1.keep hal hk, h.2⟩
/-- what place i of a char[]'s cell holds -/
def cv (A : Cell) (i : Nat) : Int32 := match A.slots[i]? with | some (.int x) => x | _ => 0
theorem Ch.get {a : Addr} {A : Cell} {U : State} (h : Ch a A U) {i : Nat} (hi : i < A.slots.size) : A.slots[i]? = some (.int (cv A i)) := by
  have e := Array.getElem?_eq_getElem hi
  have f := h.2 i _ e
  unfold cv; rw [e]
  generalize A.slots[i] = v at f
  cases v <;> simp [fits] at f ⊢
/-- the byte that i2b leaves of a char -/
def lo8 (x : Int32) : Int32 := x.toInt8.toInt32
theorem fits_lo8 (y : Int32) : fits .byte (.int (lo8 y)) = true := by
  have h1 := y.toInt8.le_toInt
  have h2 := y.toInt8.toInt_lt
  simp only [lo8, fits, Bool.and_eq_true, decide_eq_true_eq, Int32.le_iff_toInt_le, Int8.toInt_toInt32, show (-128 : Int32).toInt = -128 from by decide, show (127 : Int32).toInt = 127 from by decide]
  omega
/-- A' is A but that each place j of lo .. hi - 1 holds f j -/
def Laid (A A' : Cell) (lo hi : Nat) (f : Nat → Value) : Prop := A'.cls = A.cls ∧ A'.vm = A.vm ∧ A'.slots.size = A.slots.size ∧ ∀ i, A'.slots[i]? = if lo ≤ i ∧ i < hi then some (f i) else A.slots[i]?
theorem Laid.zero (A : Cell) (lo : Nat) (f : Nat → Value) : Laid A A lo (lo + 0) f := ⟨rfl, rfl, rfl, fun i => by rw [if_neg (by omega)]⟩
theorem Laid.step {A Ak : Cell} {lo k : Nat} {f : Nat → Value} {v : Value} (h : Laid A Ak lo k f) (hlo : lo ≤ k) (hk : k < Ak.slots.size) (hv : v = f k) : Laid A (Ak.setSlot k v) lo (k + 1) f := by
  refine ⟨h.1, h.2.1, by simpa [Cell.setSlot] using h.2.2.1, fun i => ?_⟩
  by_cases e : k = i
  · subst e; rw [Cell.slots_setSlot_self v hk, if_pos (by omega), hv]
  · rw [Cell.slots_setSlot_ne v e, h.2.2.2 i]
    by_cases q : lo ≤ i ∧ i < k
    · rw [if_pos q, if_pos (by omega)]
    · rw [if_neg q, if_neg (by omega)]
def U16 : String := "java/lang/StringUTF16"
namespace Cmp5
def yN : MethodName := ⟨"java/lang/StringUTF16", "compress", "([CI[BII)I"⟩
abbrev yB : ByteArray := jdk_52_method_21_code
theorem d0 : decode yB 0 = .ok (.iconst 0, 1) := by decide +kernel
theorem d1 : decode yB 1 = .ok (.istore 5, 2) := by decide +kernel
theorem d3 : decode yB 3 = .ok (.iload 5, 2) := by decide +kernel
theorem d5 : decode yB 5 = .ok (.iload 4, 2) := by decide +kernel
theorem d7 : decode yB 7 = .ok (.if_icmp (.ge) 37, 3) := by decide +kernel
theorem d10 : decode yB 10 = .ok (.aload_n 0, 1) := by decide +kernel
theorem d11 : decode yB 11 = .ok (.iload_n 1, 1) := by decide +kernel
theorem d12 : decode yB 12 = .ok (.caload, 1) := by decide +kernel
theorem d13 : decode yB 13 = .ok (.istore 6, 2) := by decide +kernel
theorem d15 : decode yB 15 = .ok (.iload 6, 2) := by decide +kernel
theorem d17 : decode yB 17 = .ok (.sipush 255, 3) := by decide +kernel
theorem d20 : decode yB 20 = .ok (.if_icmp (.le) 6, 3) := by decide +kernel
theorem d26 : decode yB 26 = .ok (.aload_n 2, 1) := by decide +kernel
theorem d27 : decode yB 27 = .ok (.iload_n 3, 1) := by decide +kernel
theorem d28 : decode yB 28 = .ok (.iload 6, 2) := by decide +kernel
theorem d30 : decode yB 30 = .ok (.i2b, 1) := by decide +kernel
theorem d31 : decode yB 31 = .ok (.bastore, 1) := by decide +kernel
theorem d32 : decode yB 32 = .ok (.iinc 1 1, 3) := by decide +kernel
theorem d35 : decode yB 35 = .ok (.iinc 3 1, 3) := by decide +kernel
theorem d38 : decode yB 38 = .ok (.iinc 5 1, 3) := by decide +kernel
theorem d41 : decode yB 41 = .ok (.goto (-38), 3) := by decide +kernel
theorem d44 : decode yB 44 = .ok (.iload 4, 2) := by decide +kernel
theorem d46 : decode yB 46 = .ok (.ireturn, 1) := by decide +kernel
def site : List Cond := []
def tab : Cond := tabOf yN yB 7 (some .int) site
def P (b : Addr) (A : Cell) (d : Addr) (B : Cell) (o q len : Nat) (args : Array Value) (s : State) : Prop := args = #[.ref b, .int (Int32.ofNat o), .ref d, .int (Int32.ofNat q), .int (Int32.ofNat len)] ∧ Ch b A s ∧ Arr .byte d B s ∧ b ≠ d ∧ o + len ≤ A.slots.size ∧ q + len ≤ B.slots.size ∧ ∀ i, i < len → ¬ 255 < cv A (o + i)
def E (b : Addr) (A : Cell) (d : Addr) (B : Cell) (o q len : Nat) (r : Option Value) (s u : State) : Prop := r = some (.int (Int32.ofNat len)) ∧ ∃ B', Put d B' s u ∧ Laid B B' q (q + len) (fun j => Value.int (lo8 (cv A (o + (j - q)))))
/-- no char of the range above 255: len; the places written hold each char's low byte -/
theorem law (l : Launch) (b : Addr) (A : Cell) (d : Addr) (B : Cell) (o q len : Nat) : Law l yN 5 5 0 0 yB 7 (some .int) site (P b A d B o q len) (E b A d B o q len) (copyLocs d q len) 0 0 := by
  refine Law.of_walk (plainFor_of_name (by decide +kernel)) (by decide +kernel) (by decide +kernel) (by decide) (fun _ _ h => by rw [h.1]; rfl) (fun _ U U' hal hh h => ⟨h.1, h.2.1.mv hal hh, h.2.2.1.mv hal hh, h.2.2.2⟩) (fun r U U' V V' h1 hal h2 h => ⟨h.1, h.2.elim fun B' q => ⟨B', q.1.mv h1 h2, q.2⟩⟩) ?_
  intro p e s m args below meth c s₁ X0 hexec hbytes hml hret hlk hnm hown hh0 W hP
  obtain ⟨rfl, hA, hB, hne, l1, l2, hp⟩ := hP
  have c1 : Steps p.tables e below (s₁.setTop (entryFrame m #[.ref b, .int (Int32.ofNat o), .ref d, .int (Int32.ofNat q), .int (Int32.ofNat len)] 7)) (s₁.setTop (mkF m 0 #[.val (.ref b), .val (.int (Int32.ofNat o)), .val (.ref d), .val (.int (Int32.ofNat q)), .val (.int (Int32.ofNat len)), .unset, .unset] [])) := entry rfl
  have hA0 := hA.1.mv X0.warmed.alike hh0
  have hB0 := hB.mv X0.warmed.alike hh0
  have a31 := hA.1.2.2.2
  have c2 : Steps p.tables e below (s₁.setTop (entryFrame m #[.ref b, .int (Int32.ofNat o), .ref d, .int (Int32.ofNat q), .int (Int32.ofNat len)] 7)) (s₁.setTop (mkF m 3 #[.val (.ref b), .val (.int (Int32.ofNat o)), .val (.ref d), .val (.int (Int32.ofNat q)), .val (.int (Int32.ofNat len)), .val (.int 0), .unset] [])) := c1.trans (by
    refine iconstV X0.here hexec rfl 0 (hb hbytes d0) (by decide) ?_
    refine XS.istore X0.here hexec rfl (hb hbytes d1) rfl rfl ?_
    exact Steps.refl _)
  have loop : ∀ (r i : Nat), i + r = len → ∀ (z : Slot), (z = .unset ∨ ∃ w, z = .val w ∧ w.category = 1) → ∀ (Tl : State) (Bk : Cell), Stand p l e { frames := 0, locals := 0, cells := 0, slots := 0 } s m #[.ref b, .int (Int32.ofNat o), .ref d, .int (Int32.ofNat q), .int (Int32.ofNat len)] below meth c Tl ([] ++ copyLocs d q i) 0 0 → Put d Bk s₁ Tl → Laid B Bk q (q + i) (fun j => Value.int (lo8 (cv A (o + (j - q))))) →
      Steps p.tables e below (s₁.setTop (entryFrame m #[.ref b, .int (Int32.ofNat o), .ref d, .int (Int32.ofNat q), .int (Int32.ofNat len)] 7)) (Tl.setTop (mkF m 3 #[.val (.ref b), .val (.int (Int32.ofNat (o + i))), .val (.ref d), .val (.int (Int32.ofNat (q + i))), .val (.int (Int32.ofNat len)), .val (.int (Int32.ofNat i)), z] [])) → ∃ (T' : State) (B' : Cell) (z' : Slot), Stand p l e { frames := 0, locals := 0, cells := 0, slots := 0 } s m #[.ref b, .int (Int32.ofNat o), .ref d, .int (Int32.ofNat q), .int (Int32.ofNat len)] below meth c T' ([] ++ copyLocs d q len) 0 0 ∧ Put d B' s₁ T' ∧ Laid B B' q (q + len) (fun j => Value.int (lo8 (cv A (o + (j - q))))) ∧
      Steps p.tables e below (s₁.setTop (entryFrame m #[.ref b, .int (Int32.ofNat o), .ref d, .int (Int32.ofNat q), .int (Int32.ofNat len)] 7)) (T'.setTop (mkF m 3 #[.val (.ref b), .val (.int (Int32.ofNat (o + len))), .val (.ref d), .val (.int (Int32.ofNat (q + len))), .val (.int (Int32.ofNat len)), .val (.int (Int32.ofNat len)), z'] [])) := by
    intro r
    induction r with
    | zero =>
      intro i hi z hz Tl Bk Xl pl fl cl
      have hil : i = len := by omega
      rw [hil] at Xl fl cl
      exact ⟨Tl, Bk, z, Xl, pl, fl, cl⟩
    | succ r ih =>
      intro i hi z hz Tl Bk Xl pl fl cl
      have all := X0.warmed.alike.symm.trans Xl.warmed.alike
      have hAl := hA0.keep all (pl.other hne hA0.1)
      have hBk := hB0.like all pl.1 fl.1 fl.2.1 fl.2.2.1
      have hlt : q + i < Bk.slots.size := by rw [fl.2.2.1]; omega
      have c3 : Steps p.tables e below (s₁.setTop (entryFrame m #[.ref b, .int (Int32.ofNat o), .ref d, .int (Int32.ofNat q), .int (Int32.ofNat len)] 7)) (Tl.setTop (mkF m 12 #[.val (.ref b), .val (.int (Int32.ofNat (o + i))), .val (.ref d), .val (.int (Int32.ofNat (q + i))), .val (.int (Int32.ofNat len)), .val (.int (Int32.ofNat i)), z] [.int (Int32.ofNat (o + i)), .ref b])) := cl.trans (by
        refine XS.iload Xl.here hexec rfl (hb hbytes d3) rfl ?_
        refine XS.iload Xl.here hexec rfl (hb hbytes d5) rfl ?_
        refine XS.icmpNo Xl.here hexec rfl (hb hbytes d7) rfl (ii_ge_f (lt32 (by omega) (by omega))) ?_
        refine XS.aloadN Xl.here hexec rfl (hb hbytes d10) rfl rfl ?_
        refine XS.iloadN Xl.here hexec rfl (hb hbytes d11) rfl ?_
        exact Steps.refl _)
      have c4 : Steps p.tables e below (s₁.setTop (entryFrame m #[.ref b, .int (Int32.ofNat o), .ref d, .int (Int32.ofNat q), .int (Int32.ofNat len)] 7)) (Tl.setTop (mkF m 13 #[.val (.ref b), .val (.int (Int32.ofNat (o + i))), .val (.ref d), .val (.int (Int32.ofNat (q + i))), .val (.int (Int32.ofNat len)), .val (.int (Int32.ofNat i)), z] [.int (cv A (o + i))])) := c3.trans (by
        refine Xl.aget hexec hAl rfl (hA.get (i := o + i) (by omega)) rfl rfl (hb hbytes d12) ?_
        exact Steps.refl _)
      have c5 : Steps p.tables e below (s₁.setTop (entryFrame m #[.ref b, .int (Int32.ofNat o), .ref d, .int (Int32.ofNat q), .int (Int32.ofNat len)] 7)) (Tl.setTop (mkF m 15 #[.val (.ref b), .val (.int (Int32.ofNat (o + i))), .val (.ref d), .val (.int (Int32.ofNat (q + i))), .val (.int (Int32.ofNat len)), .val (.int (Int32.ofNat i)), .val (.int (cv A (o + i)))] [])) := c4.trans (by
        refine XS.istoreS Xl.here hexec rfl (hb hbytes d13) rfl rfl hz ?_
        exact Steps.refl _)
      have c6 : Steps p.tables e below (s₁.setTop (entryFrame m #[.ref b, .int (Int32.ofNat o), .ref d, .int (Int32.ofNat q), .int (Int32.ofNat len)] 7)) (Tl.setTop (mkF m 31 #[.val (.ref b), .val (.int (Int32.ofNat (o + i))), .val (.ref d), .val (.int (Int32.ofNat (q + i))), .val (.int (Int32.ofNat len)), .val (.int (Int32.ofNat i)), .val (.int (cv A (o + i)))] [.int (lo8 (cv A (o + i))), .int (Int32.ofNat (q + i)), .ref d])) := c5.trans (by
        refine XS.iload Xl.here hexec rfl (hb hbytes d15) rfl ?_
        refine sipushV Xl.here hexec rfl 255 (hb hbytes d17) (by decide) ?_
        refine XS.icmpYes Xl.here hexec rfl (pc0 := 20) rfl (hb hbytes d20) rfl (ii_le_t (hp i (by omega))) (by decide) rfl ?_
        refine XS.aloadN Xl.here hexec rfl (hb hbytes d26) rfl rfl ?_
        refine XS.iloadN Xl.here hexec rfl (hb hbytes d27) rfl ?_
        refine XS.iload Xl.here hexec rfl (hb hbytes d28) rfl ?_
        refine i2b Xl.here hexec rfl (hb hbytes d30) rfl ?_
        exact Steps.refl _)
      obtain ⟨T7, X7, p7, st7⟩ := Xl.aput hexec hBk rfl hlt rfl (fits_lo8 (cv A (o + i))) (g := (mkF m 31 #[.val (.ref b), .val (.int (Int32.ofNat (o + i))), .val (.ref d), .val (.int (Int32.ofNat (q + i))), .val (.int (Int32.ofNat len)), .val (.int (Int32.ofNat i)), .val (.int (cv A (o + i)))] [.int (lo8 (cv A (o + i))), .int (Int32.ofNat (q + i)), .ref d])) rfl (rest := []) rfl (hb hbytes d31)
      have c8 : Steps p.tables e below (s₁.setTop (entryFrame m #[.ref b, .int (Int32.ofNat o), .ref d, .int (Int32.ofNat q), .int (Int32.ofNat len)] 7)) (T7.setTop (mkF m 32 #[.val (.ref b), .val (.int (Int32.ofNat (o + i))), .val (.ref d), .val (.int (Int32.ofNat (q + i))), .val (.int (Int32.ofNat len)), .val (.int (Int32.ofNat i)), .val (.int (cv A (o + i)))] [])) := c6.trans (st7 _ (Steps.refl _))
      have c9 : Steps p.tables e below (s₁.setTop (entryFrame m #[.ref b, .int (Int32.ofNat o), .ref d, .int (Int32.ofNat q), .int (Int32.ofNat len)] 7)) (T7.setTop (mkF m 3 #[.val (.ref b), .val (.int (Int32.ofNat (o + i) + 1)), .val (.ref d), .val (.int (Int32.ofNat (q + i) + 1)), .val (.int (Int32.ofNat len)), .val (.int (Int32.ofNat i + 1)), .val (.int (cv A (o + i)))] [])) := c8.trans (by
        refine iincV X7.here hexec rfl 1 (hb hbytes d32) (by decide) rfl rfl ?_
        refine iincV X7.here hexec rfl 1 (hb hbytes d35) (by decide) rfl rfl ?_
        refine iincV X7.here hexec rfl 1 (hb hbytes d38) (by decide) rfl rfl ?_
        refine XS.goto X7.here hexec rfl (pc0 := 41) rfl (hb hbytes d41) (by decide) rfl ?_
        exact Steps.refl _)
      have c10 : Steps p.tables e below (s₁.setTop (entryFrame m #[.ref b, .int (Int32.ofNat o), .ref d, .int (Int32.ofNat q), .int (Int32.ofNat len)] 7)) (T7.setTop (mkF m 3 #[.val (.ref b), .val (.int (Int32.ofNat (o + (i + 1)))), .val (.ref d), .val (.int (Int32.ofNat (q + (i + 1)))), .val (.int (Int32.ofNat len)), .val (.int (Int32.ofNat (i + 1))), .val (.int (cv A (o + i)))] [])) := by
        have := c9
        rw [succ32, succ32, succ32] at this
        exact this
      exact ih (i + 1) (by omega) _ (Or.inr ⟨_, rfl, rfl⟩) T7 _ (by rw [copyLocs_step, ← List.append_assoc]; exact X7) (pl.trans p7) (fl.step (by omega) hlt (by simp)) c10
  obtain ⟨T9, B9, z9, X9, p9, f9, g9⟩ := loop len 0 (by omega) .unset (Or.inl rfl) s₁ B (by simpa [copyLocs] using X0) ⟨hB0.1, fun _ _ => rfl, rfl⟩ (Laid.zero _ _ _) c2
  have c11 : Steps p.tables e below (s₁.setTop (entryFrame m #[.ref b, .int (Int32.ofNat o), .ref d, .int (Int32.ofNat q), .int (Int32.ofNat len)] 7)) (T9.setTop (mkF m 46 #[.val (.ref b), .val (.int (Int32.ofNat (o + len))), .val (.ref d), .val (.int (Int32.ofNat (q + len))), .val (.int (Int32.ofNat len)), .val (.int (Int32.ofNat len)), z9] [.int (Int32.ofNat len)])) := g9.trans (by
    refine XS.iload X9.here hexec rfl (hb hbytes d3) rfl ?_
    refine XS.iload X9.here hexec rfl (hb hbytes d5) rfl ?_
    refine XS.icmpYes X9.here hexec rfl (pc0 := 7) rfl (hb hbytes d7) rfl (ii_ge_t (nlt32 (by omega) (Nat.le_refl _))) (by decide) rfl ?_
    refine XS.iload X9.here hexec rfl (hb hbytes d44) rfl ?_
    exact Steps.refl _)
  exact ⟨T9, some (.int (Int32.ofNat len)), _, _, _, X9, by simp, rfl, rfl, (fun h => by cases h), ⟨rfl, B9, p9.from hh0, f9⟩, fun fs hl => c11.trans (X9.ireturnOut hexec hret rfl (Or.inl rfl) (hb hbytes d46) hl)⟩
end Cmp5
namespace Cmp3
def yN : MethodName := ⟨"java/lang/StringUTF16", "compress", "([CII)[B"⟩
abbrev yB : ByteArray := jdk_52_method_16_code
theorem d0 : decode yB 0 = .ok (.iload_n 2, 1) := by decide +kernel
theorem d1 : decode yB 1 = .ok (.newarray .byte, 2) := by decide +kernel
theorem d3 : decode yB 3 = .ok (.astore_n 3, 1) := by decide +kernel
theorem d4 : decode yB 4 = .ok (.aload_n 0, 1) := by decide +kernel
theorem d5 : decode yB 5 = .ok (.iload_n 1, 1) := by decide +kernel
theorem d6 : decode yB 6 = .ok (.aload_n 3, 1) := by decide +kernel
theorem d7 : decode yB 7 = .ok (.iconst 0, 1) := by decide +kernel
theorem d8 : decode yB 8 = .ok (.iload_n 2, 1) := by decide +kernel
theorem d9 : decode yB 9 = .ok (.invokestatic 115, 3) := by decide +kernel
theorem d12 : decode yB 12 = .ok (.istore 4, 2) := by decide +kernel
theorem d14 : decode yB 14 = .ok (.iload 4, 2) := by decide +kernel
theorem d16 : decode yB 16 = .ok (.iload_n 2, 1) := by decide +kernel
theorem d17 : decode yB 17 = .ok (.if_icmp (.eq) 40, 3) := by decide +kernel
theorem d57 : decode yB 57 = .ok (.aload_n 3, 1) := by decide +kernel
theorem d58 : decode yB 58 = .ok (.areturn, 1) := by decide +kernel
def site : List Cond := [.arrayClass .byte, Cmp5.tab] ++ staticW U16 115 Cmp5.yN
def tab : Cond := tabOf yN yB 6 (some (.array .byte)) site
def P (b : Addr) (A : Cell) (o len : Nat) (args : Array Value) (s : State) : Prop := args = #[.ref b, .int (Int32.ofNat o), .int (Int32.ofNat len)] ∧ Ch b A s ∧ o + len ≤ A.slots.size ∧ len ≤ 536870912 ∧ ∀ i, i < len → ¬ 255 < cv A (o + i)
def E (b : Addr) (A : Cell) (o len : Nat) (r : Option Value) (s u : State) : Prop := NewArr .byte "[B" len (fun j => .int (lo8 (cv A (o + j)))) r s u ∧ u.heap.size = s.heap.size + 1
/-- no char of the range above 255: a new byte[] of their low bytes -/
theorem law (l : Launch) (b : Addr) (A : Cell) (o len : Nat) : Law l yN 3 3 1 18 yB 6 (some (.array .byte)) site (P b A o len) (E b A o len) [] 1 len := by
  refine Law.of_walk (plainFor_of_name (by decide +kernel)) (by decide +kernel) (by decide +kernel) (by decide) (fun _ _ h => by rw [h.1]; rfl) (fun _ U U' hal hh h => ⟨h.1, h.2.1.mv hal hh, h.2.2⟩) (fun r U U' V V' h1 hal h2 h => ⟨NewArr.mv r U U' V V' h1 hal h2 h.1, by rw [h1, h2]; exact h.2⟩) ?_
  intro p e s m args below meth c s₁ X0 hexec hbytes hml hret hlk hnm hown hh0 W hP
  obtain ⟨rfl, hA, l1, l2, hp⟩ := hP
  have a31 := hA.1.2.2.2
  have c1 : Steps p.tables e below (s₁.setTop (entryFrame m #[.ref b, .int (Int32.ofNat o), .int (Int32.ofNat len)] 6)) (s₁.setTop (mkF m 0 #[.val (.ref b), .val (.int (Int32.ofNat o)), .val (.int (Int32.ofNat len)), .unset, .unset, .unset] [])) := entry rfl
  have c2 : Steps p.tables e below (s₁.setTop (entryFrame m #[.ref b, .int (Int32.ofNat o), .int (Int32.ofNat len)] 6)) (s₁.setTop (mkF m 1 #[.val (.ref b), .val (.int (Int32.ofNat o)), .val (.int (Int32.ofNat len)), .unset, .unset, .unset] [.int (Int32.ofNat len)])) := c1.trans (by
    refine XS.iloadN X0.here hexec rfl (hb hbytes d0) rfl ?_
    exact Steps.refl _)
  obtain ⟨T3, B3, X3, ba3, bs3, bv3, bh3, bf3, st3⟩ := X0.anew hexec (atype := .byte) (wk W (.arrayClass .byte)) rfl (by show len * 1 ≤ _; omega) (by omega) (g := (mkF m 1 #[.val (.ref b), .val (.int (Int32.ofNat o)), .val (.int (Int32.ofNat len)), .unset, .unset, .unset] [.int (Int32.ofNat len)])) rfl (hb hbytes d1) (rest := []) rfl (Nat.le_refl _) (by show 0 + len ≤ len; omega)
  rw [hh0] at ba3 st3
  have kp3 : XT.Kept s T3 := (XT.Kept.of_eq hh0).push bh3
  have hA3 := hA.keep X3.warmed.alike (kp3 _ _ hA.1.1)
  have hne : b ≠ s.heap.size := hA.1.ne
  have c4 : Steps p.tables e below (s₁.setTop (entryFrame m #[.ref b, .int (Int32.ofNat o), .int (Int32.ofNat len)] 6)) (T3.setTop (mkF m 3 #[.val (.ref b), .val (.int (Int32.ofNat o)), .val (.int (Int32.ofNat len)), .unset, .unset, .unset] [.ref s.heap.size])) := c2.trans (st3 _ (Steps.refl _))
  have c5 : Steps p.tables e below (s₁.setTop (entryFrame m #[.ref b, .int (Int32.ofNat o), .int (Int32.ofNat len)] 6)) (T3.setTop (mkF m 9 #[.val (.ref b), .val (.int (Int32.ofNat o)), .val (.int (Int32.ofNat len)), .val (.ref s.heap.size), .unset, .unset] [.int (Int32.ofNat len), .int 0, .ref s.heap.size, .int (Int32.ofNat o), .ref b])) := c4.trans (by
    refine XS.astoreN X3.here hexec rfl (hb hbytes d3) rfl rfl rfl ?_
    refine XS.aloadN X3.here hexec rfl (hb hbytes d4) rfl rfl ?_
    refine XS.iloadN X3.here hexec rfl (hb hbytes d5) rfl ?_
    refine XS.aloadN X3.here hexec rfl (hb hbytes d6) rfl rfl ?_
    refine iconstV X3.here hexec rfl 0 (hb hbytes d7) (by decide) ?_
    refine XS.iloadN X3.here hexec rfl (hb hbytes d8) rfl ?_
    exact Steps.refl _)
  obtain ⟨v6, T6, X6, E6, g6⟩ := X3.callS hexec (Cmp5.law l b A s.heap.size B3 o 0 len) hown (wks W (staticW U16 115 Cmp5.yN)) (wk W Cmp5.tab) (W := 0) (Nat.le_of_ble_eq_true rfl) (Nat.le_of_ble_eq_true rfl) (Nat.le_refl _) (by show 0 + len + 0 ≤ len; omega) (g := (mkF m 9 #[.val (.ref b), .val (.int (Int32.ofNat o)), .val (.int (Int32.ofNat len)), .val (.ref s.heap.size), .unset, .unset] [.int (Int32.ofNat len), .int (Int32.ofNat 0), .ref s.heap.size, .int (Int32.ofNat o), .ref b])) rfl (by rw [hml]; rfl) c5 (argsL := [.ref b, .int (Int32.ofNat o), .ref s.heap.size, .int (Int32.ofNat 0), .int (Int32.ofNat len)]) (rest := []) rfl rfl (by show 2 * 0 + 0 ≤ _; decide) (hb hbytes d9) (⟨rfl, hA3, ba3, hne, l1, by rw [bs3]; simp, hp⟩)
  obtain ⟨rfl, B6, p6, f6⟩ := E6
  have c7 : Steps p.tables e below (s₁.setTop (entryFrame m #[.ref b, .int (Int32.ofNat o), .int (Int32.ofNat len)] 6)) (T6.setTop (mkF m 12 #[.val (.ref b), .val (.int (Int32.ofNat o)), .val (.int (Int32.ofNat len)), .val (.ref s.heap.size), .unset, .unset] [.int (Int32.ofNat len)])) := g6
  have c8 : Steps p.tables e below (s₁.setTop (entryFrame m #[.ref b, .int (Int32.ofNat o), .int (Int32.ofNat len)] 6)) (T6.setTop (mkF m 58 #[.val (.ref b), .val (.int (Int32.ofNat o)), .val (.int (Int32.ofNat len)), .val (.ref s.heap.size), .val (.int (Int32.ofNat len)), .unset] [.ref s.heap.size])) := c7.trans (by
    refine XS.istore X6.here hexec rfl (hb hbytes d12) rfl rfl ?_
    refine XS.iload X6.here hexec rfl (hb hbytes d14) rfl ?_
    refine XS.iloadN X6.here hexec rfl (hb hbytes d16) rfl ?_
    refine XS.icmpYes X6.here hexec rfl (pc0 := 17) rfl (hb hbytes d17) rfl (ii_eq_t rfl) (by decide) rfl ?_
    refine XS.aloadN X6.here hexec rfl (hb hbytes d57) rfl rfl ?_
    exact Steps.refl _)
  have X8 := X6.wide (L' := []) (cells' := 1) (slots' := len) (fun x hx hlt => by
    simp only [List.nil_append, copyLocs, List.mem_map, List.mem_range] at hx
    obtain ⟨i, -, rfl⟩ := hx
    exact absurd hlt (Nat.lt_irrefl _)) (Nat.le_refl _) (by omega)
  exact ⟨T6, some (.ref s.heap.size), _, _, _, X8, rfl, rfl, rfl, (fun h => by cases h), ⟨⟨rfl, B6, ba3.like (X3.warmed.alike.symm.trans X6.warmed.alike) p6.1 f6.1 f6.2.1 f6.2.2.1, f6.2.1.trans bv3, by rw [X6.warmed.alike.findClass, f6.1]; exact bf3, by rw [f6.2.2.1, bs3]; simp, fun j hj => by rw [f6.2.2.2 j, if_pos (by omega)]; rfl, kp3.put p6 (Nat.le_refl _)⟩, by rw [p6.2.2, bh3, hh0]; simp⟩, fun fs hl => c8.trans (X8.areturnOut hexec rfl hret rfl (hb hbytes d58) hl)⟩
end Cmp3
namespace CodL
def yN : MethodName := ⟨"java/lang/StringUTF16", "coderFromArrayLen", "([BI)B"⟩
abbrev yB : ByteArray := jdk_52_method_15_code
theorem d0 : decode yB 0 = .ok (.iload_n 1, 1) := by decide +kernel
theorem d1 : decode yB 1 = .ok (.aload_n 0, 1) := by decide +kernel
theorem d2 : decode yB 2 = .ok (.arraylength, 1) := by decide +kernel
theorem d3 : decode yB 3 = .ok (.isub, 1) := by decide +kernel
theorem d4 : decode yB 4 = .ok (.bipush 31, 2) := by decide +kernel
theorem d6 : decode yB 6 = .ok (.iushr, 1) := by decide +kernel
theorem d7 : decode yB 7 = .ok (.i2b, 1) := by decide +kernel
theorem d8 : decode yB 8 = .ok (.ireturn, 1) := by decide +kernel
def site : List Cond := []
def tab : Cond := tabOf yN yB 2 (some .byte) site
def P (d : Addr) (B : Cell) (args : Array Value) (s : State) : Prop := args = #[.ref d, .int (Int32.ofNat B.slots.size)] ∧ Arr .byte d B s
def E (r : Option Value) (s u : State) : Prop := XT.PureE (some (.int 0)) r s u
/-- an array as long as the number of chars: LATIN1 -/
theorem law (l : Launch) (d : Addr) (B : Cell) : Law l yN 2 2 0 0 yB 2 (some .byte) site (P d B) E [] 0 0 := by
  refine Law.of_walk (plainFor_of_name (by decide +kernel)) (by decide +kernel) (by decide +kernel) (by decide) (fun _ _ h => by rw [h.1]; rfl) (fun _ U U' hal hh h => ⟨h.1, h.2.mv hal hh⟩) (fun r U U' V V' h1 hal h2 h => XT.PureE.mv r U U' V V' h1 hal h2 h) ?_
  intro p e s m args below meth c s₁ X0 hexec hbytes hml hret hlk hnm hown hh0 W hP
  obtain ⟨rfl, hB⟩ := hP
  have hB0 := hB.mv X0.warmed.alike hh0
  have c1 : Steps p.tables e below (s₁.setTop (entryFrame m #[.ref d, .int (Int32.ofNat B.slots.size)] 2)) (s₁.setTop (mkF m 0 #[.val (.ref d), .val (.int (Int32.ofNat B.slots.size))] [])) := entry rfl
  have c2 : Steps p.tables e below (s₁.setTop (entryFrame m #[.ref d, .int (Int32.ofNat B.slots.size)] 2)) (s₁.setTop (mkF m 2 #[.val (.ref d), .val (.int (Int32.ofNat B.slots.size))] [.ref d, .int (Int32.ofNat B.slots.size)])) := c1.trans (by
    refine XS.iloadN X0.here hexec rfl (hb hbytes d0) rfl ?_
    refine XS.aloadN X0.here hexec rfl (hb hbytes d1) rfl rfl ?_
    exact Steps.refl _)
  have c3 : Steps p.tables e below (s₁.setTop (entryFrame m #[.ref d, .int (Int32.ofNat B.slots.size)] 2)) (s₁.setTop (mkF m 8 #[.val (.ref d), .val (.int (Int32.ofNat B.slots.size))] [.int (lo8 (ushr (Int32.ofNat B.slots.size - Int32.ofNat B.slots.size) 31))])) := c2.trans (by
    refine X0.alen hexec hB0 rfl rfl (hb hbytes d2) ?_
    refine XS.isub X0.here hexec rfl (hb hbytes d3) rfl ?_
    refine bipushV X0.here hexec rfl 31 (hb hbytes d4) (by decide) ?_
    refine iushr X0.here hexec rfl (hb hbytes d6) rfl ?_
    refine i2b X0.here hexec rfl (hb hbytes d7) rfl ?_
    exact Steps.refl _)
  have e0 : lo8 (ushr (Int32.ofNat B.slots.size - Int32.ofNat B.slots.size) 31) = 0 := by rw [Int32.sub_self]; decide
  rw [e0] at c3
  exact ⟨s₁, some (.int 0), _, _, _, X0, rfl, rfl, rfl, (fun h => by cases h), ⟨rfl, hh0⟩, fun fs hl => c3.trans (X0.ireturnOut hexec hret rfl (Or.inr (Or.inr (Or.inl rfl))) (hb hbytes d8) hl)⟩
end CodL
/-- the String at a is Latin-1 over a new byte[] (the heap's one new cell): the low bytes of the len chars of A from o on; every cell but a is kept -/
def Got (a : Addr) (D : Cell) (fV fC : Field) (A : Cell) (o len : Nat) (r : Option Value) (s u : State) : Prop := r = none ∧ ∃ D' V : Cell, Blank "java/lang/String" a D' u ∧ Same D D' [fV.slot, fC.slot] ∧ D'.slots[fV.slot]? = some (.ref s.heap.size) ∧ D'.slots[fC.slot]? = some (.int 0) ∧ Arr .byte s.heap.size V u ∧ V.vm = .none ∧ u.vm.findClass "[B" = some V.cls ∧ V.slots.size = len ∧ (∀ j, j < len → V.slots[j]? = some (.int (lo8 (cv A (o + j))))) ∧ (∀ (y : Addr) (c : Cell), y ≠ a → s.heap[y]? = some c → u.heap[y]? = some c) ∧ u.heap.size = s.heap.size + 1
theorem Got.mv {a : Addr} {D A : Cell} {fV fC : Field} {o len : Nat} : ∀ r (U U' V V' : State), U'.heap = U.heap → V.vm.Alike V'.vm → V'.heap = V.heap → Got a D fV fC A o len r U V → Got a D fV fC A o len r U' V' :=
  fun r U U' V V' h1 hal h2 ⟨e0, D', X, a1, a2, a3, a4, a5, a6, a7, a8, a9, a10, a11⟩ => ⟨e0, D', X, a1.mv hal h2, a2, by rw [h1]; exact a3, a4, by rw [h1]; exact a5.mv hal h2, a6, by rw [hal.findClass]; exact a7, a8, a9, by rw [h1, h2]; exact a10, by rw [h1, h2]; exact a11⟩
namespace New4
def yN : MethodName := ⟨"java/lang/String", "<init>", "([CIILjava/lang/Void;)V"⟩
abbrev yB : ByteArray := jdk_42_method_149_code
theorem d0 : decode yB 0 = .ok (.aload_n 0, 1) := by decide +kernel
theorem d1 : decode yB 1 = .ok (.invokespecial 1, 3) := by decide +kernel
theorem d4 : decode yB 4 = .ok (.iload_n 3, 1) := by decide +kernel
theorem d5 : decode yB 5 = .ok (.ifCond (.ne) 22, 3) := by decide +kernel
theorem d27 : decode yB 27 = .ok (.getstatic 38, 3) := by decide +kernel
theorem d30 : decode yB 30 = .ok (.ifCond (.eq) 28, 3) := by decide +kernel
theorem d33 : decode yB 33 = .ok (.aload_n 1, 1) := by decide +kernel
theorem d34 : decode yB 34 = .ok (.iload_n 2, 1) := by decide +kernel
theorem d35 : decode yB 35 = .ok (.iload_n 3, 1) := by decide +kernel
theorem d36 : decode yB 36 = .ok (.invokestatic 177, 3) := by decide +kernel
theorem d39 : decode yB 39 = .ok (.astore 5, 2) := by decide +kernel
theorem d41 : decode yB 41 = .ok (.aload_n 0, 1) := by decide +kernel
theorem d42 : decode yB 42 = .ok (.aload 5, 2) := by decide +kernel
theorem d44 : decode yB 44 = .ok (.iload_n 3, 1) := by decide +kernel
theorem d45 : decode yB 45 = .ok (.invokestatic 47, 3) := by decide +kernel
theorem d48 : decode yB 48 = .ok (.putfield 15, 3) := by decide +kernel
theorem d51 : decode yB 51 = .ok (.aload_n 0, 1) := by decide +kernel
theorem d52 : decode yB 52 = .ok (.aload 5, 2) := by decide +kernel
theorem d54 : decode yB 54 = .ok (.putfield 9, 3) := by decide +kernel
theorem d57 : decode yB 57 = .ok (.return_, 1) := by decide +kernel
def site : List Cond := [.fieldLink "java/lang/String" 38 "java/lang/String" "COMPACT_STRINGS" "Z", Cmp3.tab, CodL.tab, .laysFinal "java/lang/String" "java/lang/String" "value" "[B", .fieldLink "java/lang/String" 9 "java/lang/String" "value" "[B", .laysFinal "java/lang/String" "java/lang/String" "coder" "B", .fieldLink "java/lang/String" 15 "java/lang/String" "coder" "B"] ++ objW "java/lang/String" 1 ++ staticW "java/lang/String" 177 Cmp3.yN ++ staticW "java/lang/String" 47 CodL.yN
def tab : Cond := tabOf yN yB 6 none site
def P (a : Addr) (D : Cell) (fV fC : Field) (b : Addr) (A : Cell) (z : Int32) (o len : Nat) (args : Array Value) (s : State) : Prop := args = #[.ref a, .ref b, .int (Int32.ofNat o), .int (Int32.ofNat len), .null] ∧ Blank "java/lang/String" a D s ∧ Found "java/lang/String" "value" "[B" fV s ∧ Found "java/lang/String" "coder" "B" fC s ∧ Ch b A s ∧ StaticIs s "java/lang/String" "COMPACT_STRINGS" "Z" (.int z) ∧ ¬ z = 0 ∧ 0 < len ∧ o + len ≤ A.slots.size ∧ len ≤ 536870912 ∧ ∀ i, i < len → ¬ 255 < cv A (o + i)
def E (a : Addr) (D : Cell) (fV fC : Field) (A : Cell) (o len : Nat) (r : Option Value) (s u : State) : Prop := Got a D fV fC A o len r s u
/-- len > 0, no char of the range above 255: a Latin-1 String of their low bytes -/
theorem law (l : Launch) (a : Addr) (D : Cell) (fV fC : Field) (b : Addr) (A : Cell) (z : Int32) (o len : Nat) : Law l yN 5 4 2 35 yB 6 none site (P a D fV fC b A z o len) (E a D fV fC A o len) [⟨a, fC.slot⟩, ⟨a, fV.slot⟩] 1 len := by
  refine Law.of_walk (plainFor_of_name (by decide +kernel)) (by decide +kernel) (by decide +kernel) (by decide) (fun _ _ h => by rw [h.1]; rfl) (fun _ U U' hal hh h => ⟨h.1, h.2.1.mv hal hh, h.2.2.1.al hal, h.2.2.2.1.al hal, h.2.2.2.2.1.mv hal hh, h.2.2.2.2.2.1.there hal hh, h.2.2.2.2.2.2⟩) (fun r U U' V V' h1 hal h2 h => Got.mv r U U' V V' h1 hal h2 h) ?_
  intro p e s m args below meth c s₁ X0 hexec hbytes hml hret hlk hnm hown hh0 W hP
  obtain ⟨rfl, hB, f1, f2, hA, s1, hz, l0, l1, l2, hp⟩ := hP
  have a31 := hA.1.2.2.2
  have c1 : Steps p.tables e below (s₁.setTop (entryFrame m #[.ref a, .ref b, .int (Int32.ofNat o), .int (Int32.ofNat len), .null] 6)) (s₁.setTop (mkF m 0 #[.val (.ref a), .val (.ref b), .val (.int (Int32.ofNat o)), .val (.int (Int32.ofNat len)), .val .null, .unset] [])) := entry rfl
  have c2 : Steps p.tables e below (s₁.setTop (entryFrame m #[.ref a, .ref b, .int (Int32.ofNat o), .int (Int32.ofNat len), .null] 6)) (s₁.setTop (mkF m 1 #[.val (.ref a), .val (.ref b), .val (.int (Int32.ofNat o)), .val (.int (Int32.ofNat len)), .val .null, .unset] [.ref a])) := c1.trans (by
    refine XS.aloadN X0.here hexec rfl (hb hbytes d0) rfl rfl ?_
    exact Steps.refl _)
  obtain ⟨T3, X3, q3, st3⟩ := X0.oinit hexec hown (wks W (objW "java/lang/String" 1)) (g := (mkF m 1 #[.val (.ref a), .val (.ref b), .val (.int (Int32.ofNat o)), .val (.int (Int32.ofNat len)), .val .null, .unset] [.ref a])) rfl (by rw [hml]; rfl) (rest := []) rfl (hb hbytes d1) (W := 0) (by show 2 * 0 + 0 ≤ _; decide) (Nat.le_of_ble_eq_true rfl) (Nat.le_of_ble_eq_true rfl)
  have hh3 := q3.trans hh0
  have c4 : Steps p.tables e below (s₁.setTop (entryFrame m #[.ref a, .ref b, .int (Int32.ofNat o), .int (Int32.ofNat len), .null] 6)) (T3.setTop (mkF m 27 #[.val (.ref a), .val (.ref b), .val (.int (Int32.ofNat o)), .val (.int (Int32.ofNat len)), .val .null, .unset] [])) := (c2.trans (st3 _ (Steps.refl _))).trans (by
    refine XS.iloadN X3.here hexec rfl (hb hbytes d4) rfl ?_
    refine XS.ifYes X3.here hexec rfl (pc0 := 5) rfl (hb hbytes d5) rfl (i0_ne_t (nz32 (by omega) l0)) (by decide) rfl ?_
    exact Steps.refl _)
  obtain ⟨T5, X5, q5, st5⟩ := X3.sget hexec hown (wk W (.fieldLink "java/lang/String" 38 "java/lang/String" "COMPACT_STRINGS" "Z")) s1 (fun _ _ h => by rw [hh3]; exact h) (g := (mkF m 27 #[.val (.ref a), .val (.ref b), .val (.int (Int32.ofNat o)), .val (.int (Int32.ofNat len)), .val .null, .unset] [])) rfl (hb hbytes d27)
  have hh5 := q5.trans hh3
  have c6 : Steps p.tables e below (s₁.setTop (entryFrame m #[.ref a, .ref b, .int (Int32.ofNat o), .int (Int32.ofNat len), .null] 6)) (T5.setTop (mkF m 30 #[.val (.ref a), .val (.ref b), .val (.int (Int32.ofNat o)), .val (.int (Int32.ofNat len)), .val .null, .unset] [.int z])) := c4.trans (st5 _ (Steps.refl _))
  have c7 : Steps p.tables e below (s₁.setTop (entryFrame m #[.ref a, .ref b, .int (Int32.ofNat o), .int (Int32.ofNat len), .null] 6)) (T5.setTop (mkF m 36 #[.val (.ref a), .val (.ref b), .val (.int (Int32.ofNat o)), .val (.int (Int32.ofNat len)), .val .null, .unset] [.int (Int32.ofNat len), .int (Int32.ofNat o), .ref b])) := c6.trans (by
    refine XS.ifNo X5.here hexec rfl (hb hbytes d30) rfl (i0_eq_f hz) ?_
    refine XS.aloadN X5.here hexec rfl (hb hbytes d33) rfl rfl ?_
    refine XS.iloadN X5.here hexec rfl (hb hbytes d34) rfl ?_
    refine XS.iloadN X5.here hexec rfl (hb hbytes d35) rfl ?_
    exact Steps.refl _)
  obtain ⟨v8, T8, X8, E8, g8⟩ := X5.callS hexec (Cmp3.law l b A o len) hown (wks W (staticW "java/lang/String" 177 Cmp3.yN)) (wk W Cmp3.tab) (W := 0) (Nat.le_of_ble_eq_true rfl) (Nat.le_of_ble_eq_true rfl) (Nat.le_refl _) (by show 0 + len ≤ len; omega) (g := (mkF m 36 #[.val (.ref a), .val (.ref b), .val (.int (Int32.ofNat o)), .val (.int (Int32.ofNat len)), .val .null, .unset] [.int (Int32.ofNat len), .int (Int32.ofNat o), .ref b])) rfl (by rw [hml]; rfl) c7 (argsL := [.ref b, .int (Int32.ofNat o), .int (Int32.ofNat len)]) (rest := []) rfl rfl (by show 2 * 0 + 0 ≤ _; decide) (hb hbytes d36) (⟨rfl, hA.mv X5.warmed.alike hh5, l1, l2, hp⟩)
  obtain ⟨e8, z8⟩ := E8
  obtain ⟨rfl, N, n1, n2, n3, n4, n5, n6⟩ := NewArr.mv _ T5 s _ _ hh5.symm (Vm.Alike.refl _) rfl e8
  rw [hh5] at z8
  have hB1 := hB.keep X8.warmed.alike (n6 _ _ hB.1)
  have hne : s.heap.size ≠ a := (Nat.ne_of_lt (Array.getElem?_eq_some_iff.mp hB.1).1).symm
  have c9 : Steps p.tables e below (s₁.setTop (entryFrame m #[.ref a, .ref b, .int (Int32.ofNat o), .int (Int32.ofNat len), .null] 6)) (T8.setTop (mkF m 39 #[.val (.ref a), .val (.ref b), .val (.int (Int32.ofNat o)), .val (.int (Int32.ofNat len)), .val .null, .unset] [.ref s.heap.size])) := g8
  have c10 : Steps p.tables e below (s₁.setTop (entryFrame m #[.ref a, .ref b, .int (Int32.ofNat o), .int (Int32.ofNat len), .null] 6)) (T8.setTop (mkF m 45 #[.val (.ref a), .val (.ref b), .val (.int (Int32.ofNat o)), .val (.int (Int32.ofNat len)), .val .null, .val (.ref s.heap.size)] [.int (Int32.ofNat N.slots.size), .ref s.heap.size, .ref a])) := by
    have hc : Steps p.tables e below (s₁.setTop (entryFrame m #[.ref a, .ref b, .int (Int32.ofNat o), .int (Int32.ofNat len), .null] 6)) (T8.setTop (mkF m 45 #[.val (.ref a), .val (.ref b), .val (.int (Int32.ofNat o)), .val (.int (Int32.ofNat len)), .val .null, .val (.ref s.heap.size)] [.int (Int32.ofNat len), .ref s.heap.size, .ref a])) := c9.trans (by
      refine XS.astore X8.here hexec rfl (hb hbytes d39) rfl rfl rfl ?_
      refine XS.aloadN X8.here hexec rfl (hb hbytes d41) rfl rfl ?_
      refine XS.aload X8.here hexec rfl (hb hbytes d42) rfl rfl ?_
      refine XS.iloadN X8.here hexec rfl (hb hbytes d44) rfl ?_
      exact Steps.refl _)
    rw [n4]; exact hc
  obtain ⟨v11, T11, X11, E11, g11⟩ := X8.callS hexec (CodL.law l s.heap.size N) hown (wks W (staticW "java/lang/String" 47 CodL.yN)) (wk W CodL.tab) (W := 1) (Nat.le_of_ble_eq_true rfl) (Nat.le_of_ble_eq_true rfl) (Nat.le_refl _) (by show 0 + len + 0 ≤ len; omega) (g := (mkF m 45 #[.val (.ref a), .val (.ref b), .val (.int (Int32.ofNat o)), .val (.int (Int32.ofNat len)), .val .null, .val (.ref s.heap.size)] [.int (Int32.ofNat N.slots.size), .ref s.heap.size, .ref a])) rfl (by rw [hml]; rfl) c10 (argsL := [.ref s.heap.size, .int (Int32.ofNat N.slots.size)]) (rest := [.ref a]) rfl rfl (by show 2 * 0 + (1 + 0) ≤ _; decide) (hb hbytes d45) (⟨rfl, n1⟩)
  obtain ⟨rfl, q11⟩ := E11
  have hB11 := hB1.mv (X8.warmed.alike.symm.trans X11.warmed.alike) q11
  have c12 : Steps p.tables e below (s₁.setTop (entryFrame m #[.ref a, .ref b, .int (Int32.ofNat o), .int (Int32.ofNat len), .null] 6)) (T11.setTop (mkF m 48 #[.val (.ref a), .val (.ref b), .val (.int (Int32.ofNat o)), .val (.int (Int32.ofNat len)), .val .null, .val (.ref s.heap.size)] [.int 0, .ref a])) := g11
  obtain ⟨T13, X13, p13, bl13, sl13, st13⟩ := X11.finit hexec hown (wk W (.fieldLink "java/lang/String" 15 "java/lang/String" "coder" "B")) (Or.inr ⟨_, (wk W (.laysFinal "java/lang/String" "java/lang/String" "coder" "B"))⟩) (Or.inl ⟨rfl, hnm⟩) f2 (Or.inl rfl) hB11 (t := .byte) (by decide +kernel) rfl (g := (mkF m 48 #[.val (.ref a), .val (.ref b), .val (.int (Int32.ofNat o)), .val (.int (Int32.ofNat len)), .val .null, .val (.ref s.heap.size)] [.int 0, .ref a])) rfl (rest := []) rfl (hb hbytes d48)
  have c14 : Steps p.tables e below (s₁.setTop (entryFrame m #[.ref a, .ref b, .int (Int32.ofNat o), .int (Int32.ofNat len), .null] 6)) (T13.setTop (mkF m 54 #[.val (.ref a), .val (.ref b), .val (.int (Int32.ofNat o)), .val (.int (Int32.ofNat len)), .val .null, .val (.ref s.heap.size)] [.ref s.heap.size, .ref a])) := (c12.trans (st13 _ (Steps.refl _))).trans (by
    refine XS.aloadN X13.here hexec rfl (hb hbytes d51) rfl rfl ?_
    refine XS.aload X13.here hexec rfl (hb hbytes d52) rfl rfl ?_
    exact Steps.refl _)
  obtain ⟨T15, X15, p15, bl15, sl15, st15⟩ := X13.finit hexec hown (wk W (.fieldLink "java/lang/String" 9 "java/lang/String" "value" "[B")) (Or.inr ⟨_, (wk W (.laysFinal "java/lang/String" "java/lang/String" "value" "[B"))⟩) (Or.inl ⟨rfl, hnm⟩) f1 (Or.inl rfl) bl13 (t := (.array .byte)) (by decide +kernel) rfl (g := (mkF m 54 #[.val (.ref a), .val (.ref b), .val (.int (Int32.ofNat o)), .val (.int (Int32.ofNat len)), .val .null, .val (.ref s.heap.size)] [.ref s.heap.size, .ref a])) rfl (rest := []) rfl (hb hbytes d54)
  have c16 : Steps p.tables e below (s₁.setTop (entryFrame m #[.ref a, .ref b, .int (Int32.ofNat o), .int (Int32.ofNat len), .null] 6)) (T15.setTop (mkF m 57 #[.val (.ref a), .val (.ref b), .val (.int (Int32.ofNat o)), .val (.int (Int32.ofNat len)), .val .null, .val (.ref s.heap.size)] [])) := c14.trans (st15 _ (Steps.refl _))
  have ap := apart (Or.inr ⟨_, (wk W (.laysFinal "java/lang/String" "java/lang/String" "value" "[B"))⟩) (Or.inr ⟨_, (wk W (.laysFinal "java/lang/String" "java/lang/String" "coder" "B"))⟩) f1 f2 (t₁ := .array .byte) (t₂ := .byte) (by decide +kernel) (by decide +kernel) (by decide)
  have al := X8.warmed.alike.symm.trans X15.warmed.alike
  have n7 : T11.heap[s.heap.size]? = some N := by rw [q11]; exact n1.1
  exact ⟨T15, none, _, _, _, X15, by simp, rfl, by omega, (fun _ => rfl), ⟨rfl, _, N, bl15, ((Same.refl D _).set _ (by simp)).set _ (by simp), sl15, (Cell.slots_setSlot_ne _ ap).trans sl13, n1.keep al (p15.other hne (p13.other hne n7)), n2, by rw [al.findClass]; exact n3, n4, n5, fun y c h1 h2 => p15.other h1 (p13.other h1 (by rw [q11]; exact n6 y c h2)), by rw [p15.2.2, p13.2.2, q11]; exact z8⟩, fun fs hl => c16.trans (X15.returnOut hexec hret (hb hbytes d57) hl)⟩
end New4
namespace New1
def yN : MethodName := ⟨"java/lang/String", "<init>", "([C)V"⟩
abbrev yB : ByteArray := jdk_42_method_3_code
theorem d0 : decode yB 0 = .ok (.aload_n 0, 1) := by decide +kernel
theorem d1 : decode yB 1 = .ok (.aload_n 1, 1) := by decide +kernel
theorem d2 : decode yB 2 = .ok (.iconst 0, 1) := by decide +kernel
theorem d3 : decode yB 3 = .ok (.aload_n 1, 1) := by decide +kernel
theorem d4 : decode yB 4 = .ok (.arraylength, 1) := by decide +kernel
theorem d5 : decode yB 5 = .ok (.aconst_null, 1) := by decide +kernel
theorem d6 : decode yB 6 = .ok (.invokespecial 27, 3) := by decide +kernel
theorem d9 : decode yB 9 = .ok (.return_, 1) := by decide +kernel
def site : List Cond := [New4.tab] ++ initW "java/lang/String" 27 New4.yN
def tab : Cond := tabOf yN yB 2 none site
def P (a : Addr) (D : Cell) (fV fC : Field) (b : Addr) (A : Cell) (z : Int32) (args : Array Value) (s : State) : Prop := args = #[.ref a, .ref b] ∧ Blank "java/lang/String" a D s ∧ Found "java/lang/String" "value" "[B" fV s ∧ Found "java/lang/String" "coder" "B" fC s ∧ Ch b A s ∧ StaticIs s "java/lang/String" "COMPACT_STRINGS" "Z" (.int z) ∧ ¬ z = 0 ∧ 0 < A.slots.size ∧ A.slots.size ≤ 536870912 ∧ ∀ i, i < A.slots.size → ¬ 255 < cv A i
def E (a : Addr) (D : Cell) (fV fC : Field) (A : Cell) (r : Option Value) (s u : State) : Prop := Got a D fV fC A 0 A.slots.size r s u
/-- new String(chars), not empty, no char above 255: a Latin-1 String of their low bytes -/
theorem law (l : Launch) (a : Addr) (D : Cell) (fV fC : Field) (b : Addr) (A : Cell) (z : Int32) : Law l yN 2 1 3 52 yB 2 none site (P a D fV fC b A z) (E a D fV fC A) [⟨a, fC.slot⟩, ⟨a, fV.slot⟩] 1 A.slots.size := by
  refine Law.of_walk (plainFor_of_name (by decide +kernel)) (by decide +kernel) (by decide +kernel) (by decide) (fun _ _ h => by rw [h.1]; rfl) (fun _ U U' hal hh h => ⟨h.1, h.2.1.mv hal hh, h.2.2.1.al hal, h.2.2.2.1.al hal, h.2.2.2.2.1.mv hal hh, h.2.2.2.2.2.1.there hal hh, h.2.2.2.2.2.2⟩) (fun r U U' V V' h1 hal h2 h => Got.mv r U U' V V' h1 hal h2 h) ?_
  intro p e s m args below meth c s₁ X0 hexec hbytes hml hret hlk hnm hown hh0 W hP
  obtain ⟨rfl, hB, f1, f2, hA, s1, hz, l0, l2, hp⟩ := hP
  have c1 : Steps p.tables e below (s₁.setTop (entryFrame m #[.ref a, .ref b] 2)) (s₁.setTop (mkF m 0 #[.val (.ref a), .val (.ref b)] [])) := entry rfl
  have c2 : Steps p.tables e below (s₁.setTop (entryFrame m #[.ref a, .ref b] 2)) (s₁.setTop (mkF m 6 #[.val (.ref a), .val (.ref b)] [.null, .int (Int32.ofNat A.slots.size), .int 0, .ref b, .ref a])) := c1.trans (by
    refine XS.aloadN X0.here hexec rfl (hb hbytes d0) rfl rfl ?_
    refine XS.aloadN X0.here hexec rfl (hb hbytes d1) rfl rfl ?_
    refine iconstV X0.here hexec rfl 0 (hb hbytes d2) (by decide) ?_
    refine XS.aloadN X0.here hexec rfl (hb hbytes d3) rfl rfl ?_
    refine X0.alen hexec (hA.1.mv X0.warmed.alike hh0) rfl rfl (hb hbytes d4) ?_
    refine XS.aconstNull X0.here hexec rfl (hb hbytes d5) ?_
    exact Steps.refl _)
  obtain ⟨v3, T3, X3, E3, g3⟩ := X0.callN hexec (New4.law l a D fV fC b A z 0 A.slots.size) rfl hown (wks W (initW "java/lang/String" 27 New4.yN)) (W New4.tab (by simp only [site, List.mem_cons, List.mem_append, true_or, or_true])) (W := 0) (Nat.le_of_ble_eq_true rfl) (Nat.le_of_ble_eq_true rfl) (Nat.le_refl _) (by show 0 + A.slots.size ≤ A.slots.size; omega) (g := (mkF m 6 #[.val (.ref a), .val (.ref b)] [.null, .int (Int32.ofNat A.slots.size), .int (Int32.ofNat 0), .ref b, .ref a])) rfl (by rw [hml]; rfl) c2 (argsL := [.ref b, .int (Int32.ofNat 0), .int (Int32.ofNat A.slots.size), .null]) (rest := []) rfl rfl (by show 2 * 0 + 0 ≤ _; decide) (hb hbytes d6) (⟨rfl, hB.mv X0.warmed.alike hh0, f1.al X0.warmed.alike, f2.al X0.warmed.alike, hA.mv X0.warmed.alike hh0, s1.there X0.warmed.alike hh0, hz, l0, by omega, l2, fun i hi => by rw [Nat.zero_add]; exact hp i hi⟩)
  have e0 := Got.mv _ s₁ s _ _ hh0.symm (Vm.Alike.refl _) rfl E3
  obtain rfl := e0.1
  have c4 : Steps p.tables e below (s₁.setTop (entryFrame m #[.ref a, .ref b] 2)) (T3.setTop (mkF m 9 #[.val (.ref a), .val (.ref b)] [])) := g3
  exact ⟨T3, none, _, _, _, X3, by simp, rfl, by omega, (fun _ => rfl), e0, fun fs hl => c4.trans (X3.returnOut hexec hret (hb hbytes d9) hl)⟩
theorem pays {l : Launch} {R : Room} {p : Program} {e : Env} {below : List Frame} {s : State} {sargs : Array Value} {len W : Nat} (a : Addr) (D : Cell) (fV fC : Field) (b : Addr) (A : Cell) (z : Int32) (htab : tab.before sargs s = true) (hfr : 4 ≤ R.frames) (hlo : W + 65 ≤ R.locals) :
    Back l R p e below s sargs yN len W (fun A₁ a₁ => A₁.cells + 1 ≤ R.cells ∧ A₁.slots + A.slots.size ≤ R.slots ∧ P a D fV fC b A z a₁ A₁.U) (fun A₁ _ v₁ B₁ => E a D fV fC A v₁ A₁.U B₁.U ∧ B₁.locs = A₁.locs ++ [⟨a, fC.slot⟩, ⟨a, fV.slot⟩] ∧ B₁.cells = A₁.cells + 1 ∧ B₁.slots = A₁.slots + A.slots.size) :=
  (law l a D fV fC b A z).pays htab hfr (by omega)
end New1
/-- the byte, read back as charAt reads it, is the char -/
theorem lo8_mask {x : Int32} (h0 : ¬ x < 0) (h1 : ¬ 255 < x) : lo8 x &&& 255 = x := by
  have t : ∀ k : Fin 256, lo8 (Int32.ofNat k.val) &&& 255 = Int32.ofNat k.val := by decide +kernel
  rw [Int32.lt_iff_toInt_lt] at h0 h1
  have e0 : (0 : Int32).toInt = 0 := rfl
  have e1 : (255 : Int32).toInt = 255 := rfl
  obtain ⟨k, hk⟩ : ∃ k : Nat, x.toInt = k := ⟨x.toInt.toNat, by omega⟩
  have hx : x = Int32.ofNat k := Int32.toInt_inj.mp (by rw [hk, Int32.toInt_ofNat_small (by omega)])
  rw [hx]
  exact t ⟨k, by omega⟩
end StrChars
namespace StrChars.Road
open Jvm Sem ClassFile Op Lib Jvm.Stand Jvm.Free Jvm.Free.XT
open Jvm.Lib.Cold (StaticIs)
abbrev ST : String := "java/lang/String"
/-- every table word that New1's law asks, flat -/
abbrev words : List Jvm.Cond := [.code New1.yN New1.yB 2 none, .initialized ST, .methodLink ST 27 New4.yN, .instanceMethod New4.yN,
  .code New4.yN New4.yB 6 none, .fieldLink ST 38 ST "COMPACT_STRINGS" "Z", .laysFinal ST ST "value" "[B", .fieldLink ST 9 ST "value" "[B", .laysFinal ST ST "coder" "B", .fieldLink ST 15 ST "coder" "B",
  .methodLink ST 1 Lib.objectInit, .instanceMethod Lib.objectInit, .code Lib.objectInit ⟨#[0xb1]⟩ 1 none, .methodLink ST 177 Cmp3.yN, .static Cmp3.yN, .methodLink ST 47 CodL.yN, .static CodL.yN,
  .code Cmp3.yN Cmp3.yB 6 (some (.array .byte)), .initialized U16, .arrayClass .byte, .methodLink U16 115 Cmp5.yN, .static Cmp5.yN, .code Cmp5.yN Cmp5.yB 7 (some .int), .code CodL.yN CodL.yB 2 (some .byte)]
theorem tab_of {a : Array Value} {s : State} (h : ∀ w ∈ words, w.before a s = true) : New1.tab.before a s = true := by
  have h5 : Cmp5.tab.before a s = true := unparts (wk h (.code Cmp5.yN Cmp5.yB 7 (some .int))) (wks h (.initialized Cmp5.yN.cls :: Cmp5.site))
  have hc : CodL.tab.before a s = true := unparts (wk h (.code CodL.yN CodL.yB 2 (some .byte))) (wks h (.initialized CodL.yN.cls :: CodL.site))
  have q5 : ∀ w ∈ Cmp5.tab :: words, w.before a s = true := fun w hw => (List.mem_cons.mp hw).elim (fun e => e ▸ h5) (h w)
  have h3 : Cmp3.tab.before a s = true := unparts (wk q5 (.code Cmp3.yN Cmp3.yB 6 (some (.array .byte)))) (wks q5 (.initialized Cmp3.yN.cls :: Cmp3.site))
  have q3 : ∀ w ∈ Cmp3.tab :: CodL.tab :: words, w.before a s = true := fun w hw => (List.mem_cons.mp hw).elim (fun e => e ▸ h3) fun hw => (List.mem_cons.mp hw).elim (fun e => e ▸ hc) (h w)
  have h4 : New4.tab.before a s = true := unparts (wk q3 (.code New4.yN New4.yB 6 none)) (wks q3 (.initialized New4.yN.cls :: New4.site))
  have q4 : ∀ w ∈ New4.tab :: words, w.before a s = true := fun w hw => (List.mem_cons.mp hw).elim (fun e => e ▸ h4) (h w)
  exact unparts (wk q4 (.code New1.yN New1.yB 2 none)) (wks q4 (.initialized New1.yN.cls :: New1.site))
/-- the words ride from the start Z to the walk's own state -/
theorem moved {Z s : State} {a0 args : Array Value} (hZ : Z.Warmed39 s.vm) (hw : ∀ d ∈ words, d.before a0 Z = true) : ∀ d ∈ words, d.before args s = true := fun d hd => by
  have q := hw d hd
  have t : ∀ d ∈ words, d = .arrayClass .byte ∨ (d.onTables && d.keepsFace) = true := by decide +kernel
  rcases t d hd with rfl | t
  · exact RoadKit.mvA hZ q
  · exact RoadKit.mv hZ q t
/-- WHAT COMES BACK, over the tables of the start Z: h the heap at the call, h' behind it -/
def Q (Z : State) (x : Addr) (A : Cell) (h : Heap) (v : Option Value) (h' : Heap) (L : List Loc) : Prop := v = none ∧ (∀ y ∈ L, y.base = x) ∧ RoadKit.Keep h h' [x] ∧ h'.size = h.size + 1 ∧ RoadKit.Exa Z h' x ST ∧ RoadKit.Fld Z h' x ST "value" "[B" (.ref h.size) ∧ RoadKit.Fld Z h' x ST "coder" "B" (.int 0) ∧
  (∃ V : Cell, RoadKit.Arr Z h' h.size V .byte ∧ V.vm = .none ∧ Z.vm.findClass "[B" = some V.cls ∧ V.slots.size = A.slots.size ∧ ∀ j, j < A.slots.size → V.slots[j]? = some (.int (lo8 (cv A j)))) ∧
  ∀ (O n d : String) (w : Value), RoadKit.Fld Z h x O n d w → RoadKit.slotOf Z O n d ≠ RoadKit.slotOf Z ST "value" "[B" → RoadKit.slotOf Z O n d ≠ RoadKit.slotOf Z ST "coder" "B" → RoadKit.Fld Z h' x O n d w
/-- **new String(chars) AT A CALL, IN THE ROAD'S FORM**: for specialBack behind newO: x the fresh String, b the char[] with the cell A -/
theorem back {p : Program} {l : Launch} {e : Env} {R : Room} {s : State} {args : Array Value} {below : List Frame} {len W : Nat} {Z : State} {a0 : Array Value} {h : Heap} (hZ : Z.Warmed39 s.vm) (hw : ∀ d ∈ words, d.before a0 Z = true) {kI : Nat} (wi : (Jvm.Cond.instantiable ST kI).before a0 Z = true)
    {x b : Addr} {A : Cell} {z : Int32} {v0 c0 : Value} (E : RoadKit.Exa Z h x ST) (V : RoadKit.Fld Z h x ST "value" "[B" v0) (C : RoadKit.Fld Z h x ST "coder" "B" c0) (K : RoadKit.Arr Z h b A .char) (hty : Typed .char A) (S : RoadKit.Sta Z h ST "COMPACT_STRINGS" "Z" (.int z)) (hz : ¬ z = 0)
    (l0 : 0 < A.slots.size) (l2 : A.slots.size ≤ 536870912) (hp : ∀ i, i < A.slots.size → ¬ 255 < cv A i) (hfr : 4 ≤ R.frames) (hlo : W + 65 ≤ R.locals) :
    Back l R p e below s args New1.yN len W (fun P a => a = #[.ref x, .ref b] ∧ P.U.heap = h ∧ P.cells + 1 ≤ R.cells ∧ P.slots + A.slots.size ≤ R.slots)
      (fun P _ v B => ∃ L, Q Z x A h v B.U.heap L ∧ B.locs = P.locs ++ L ∧ B.cells = P.cells + 1 ∧ B.slots = P.slots + A.slots.size) := by
  intro m meth c P g ig mk a X hg hsize hdg hW hn hp'
  obtain ⟨rfl, rfl, r1, r2⟩ := hp'
  have al : Z.vm.Alike P.U.vm := hZ.alike.trans X.warmed.alike
  obtain ⟨D, cfV, kV, iV, fV, hD, gV, stV, knV, obV, asV, slV⟩ := id V
  obtain ⟨D', cfC, kC, iC, fC, hD', gC, stC, -, -, asC, slC⟩ := id C
  cases hD.symm.trans hD'
  obtain ⟨D2, kD, e1, e2, e3, e4, e5⟩ := id E
  cases hD.symm.trans e1
  obtain ⟨c2, k2, i1, i2, i3, -⟩ := Cond.instantiable_spec wi
  cases e2.symm.trans i1
  cases e3.symm.trans i2
  obtain ⟨kU, u1, u2⟩ := al.2.2 _ _ e3
  have hB : Blank ST x D P.U := ⟨hD, ⟨knV, fun q hq => by rw [hq] at obV; cases obV⟩, by rw [al.findClass]; exact e2, kU, u1, by rw [u2]; exact i3, by rw [u2]; exact e5 i3⟩
  have F1 : Found ST "value" "[B" fV P.U := ⟨SBG.found_only al ⟨cfV, kV, iV, gV⟩, stV⟩
  have F2 : Found ST "coder" "B" fC P.U := ⟨SBG.found_only al ⟨cfC, kC, iC, gC⟩, stC⟩
  have hA : Ch b A P.U := ⟨⟨K.1, State.isArrayOf_alike al K.2.1, K.2.2, by omega⟩, hty⟩
  have hS : StaticIs P.U ST "COMPACT_STRINGS" "Z" (.int z) := by
    obtain ⟨cfS, iS, kS, fS, st, cS, t1, t2, t3, t4, t5, t6, t7⟩ := S
    exact StaticIs.there (s := { Z with heap := P.U.heap }) ⟨cfS, iS, kS, fS, st, cS, t1, t2, t3, t4, t5, (fun q => by rw [q] at t6; cases t6), t7⟩ al rfl
  obtain ⟨v, B, X', ⟨⟨hv, E', V', q1, q2, q3, q4, q5, q6, q7, q8, q9, q10, q11⟩, hl, hc, hs⟩, st⟩ := New1.pays x D fV fC b A z (tab_of (moved hZ hw)) hfr hlo m meth c P g ig mk _ X hg hsize hdg hW hn ⟨r1, r2, rfl, hB, F1, F2, hA, hS, hz, l0, l2, hp⟩
  have al' : Z.vm.Alike B.U.vm := hZ.alike.trans X'.warmed.alike
  have hsz : E'.slots.size = D.slots.size := by
    obtain ⟨-, -, -, kB, w1, w2, w3⟩ := q1
    obtain ⟨kB', y1, y2⟩ := al'.2.2 _ _ e3
    rw [q2.2.1] at w1
    cases w1.symm.trans y1
    rw [w3, e5 i3, y2]
  refine ⟨v, B, X', ⟨_, ⟨hv, ?_, ⟨by omega, fun y cy hy hn' => q10 y cy (by simpa using hn') hy, fun y cy hy => ?_⟩, q11, ⟨E', _, q1.1, by rw [q2.2.1]; exact e2, by rw [q2.2.1]; exact e3, by rw [q2.1]; exact obV, fun _ => by rw [hsz]; exact e5 i3⟩,
    ⟨E', cfV, kV, iV, fV, q1.1, gV, stV, by rw [q2.1]; exact knV, by rw [q2.1]; exact obV, by rw [q2.2.1]; exact asV, q3⟩, ⟨E', cfC, kC, iC, fC, q1.1, gC, stC, by rw [q2.1]; exact knV, by rw [q2.1]; exact obV, by rw [q2.2.1]; exact asC, q4⟩,
    ⟨V', ⟨q5.1, State.isArrayOf_alike al'.symm q5.2.1, q5.2.2.1⟩, q6, by rw [← al'.findClass]; exact q7, q8, fun j hj => by have := q9 j hj; rwa [Nat.zero_add] at this⟩, fun O n d w F n1 n2 => ?_⟩, hl, hc, hs⟩, st⟩
  · intro y hy
    simp only [List.mem_cons, List.not_mem_nil, or_false] at hy
    rcases hy with rfl | rfl <;> rfl
  · by_cases q : y = x
    · subst q
      cases hD.symm.trans hy
      exact ⟨E', q1.1, q2.2.1, q2.1, hsz⟩
    · exact ⟨cy, q10 y cy q hy, rfl, rfl, rfl⟩
  · obtain ⟨D3, cf, k, i, f, g1, g2, g3, g4, g5, g6, g7⟩ := F
    cases hD.symm.trans g1
    simp only [RoadKit.slotOf, g2, gV, gC, Option.map_some, Option.getD_some] at n1 n2
    exact ⟨E', cf, k, i, f, q1.1, g2, g3, by rw [q2.1]; exact g4, by rw [q2.1]; exact g5, by rw [q2.2.1]; exact g6, by rw [q2.2.2 f.slot (by simp [n1, n2])]; exact g7⟩
end StrChars.Road
namespace StrChars.Road
open Jvm Sem ClassFile Op Lib Jvm.Stand Jvm.Free Jvm.Free.XT
/-- WHAT COMES BACK, the byte[] as a list of values -/
def QA (Z : State) (x : Addr) (zn : Int32) (cs : List Int32) (h : Heap) (v : Option Value) (h' : Heap) (L : List Loc) : Prop := v = none ∧ (∀ y ∈ L, y.base = x) ∧ RoadKit.Keep h h' [x] ∧ h'.size = h.size + 1 ∧ RoadKit.Exa Z h' x ST ∧ RoadKit.Fld Z h' x ST "value" "[B" (.ref h.size) ∧ RoadKit.Fld Z h' x ST "coder" "B" (.int 0) ∧
  (∃ kb, Z.vm.findClass "[B" = some kb ∧ RoadKit.Arv Z h' h.size kb .byte zn (cs.map fun c => .int (lo8 c)) (.int 0)) ∧
  ∀ (O n d : String) (w : Value), RoadKit.Fld Z h x O n d w → RoadKit.slotOf Z O n d ≠ RoadKit.slotOf Z ST "value" "[B" → RoadKit.slotOf Z O n d ≠ RoadKit.slotOf Z ST "coder" "B" → RoadKit.Fld Z h' x O n d w
/-- **new String(chars) AT A CALL, THE ARRAYS AS LISTS**: the char[] at b holds cs, not empty, no char above 255 -/
theorem backArv {p : Program} {l : Launch} {e : Env} {R : Room} {s : State} {args : Array Value} {below : List Frame} {len W : Nat} {Z : State} {a0 : Array Value} {h : Heap} (hZ : Z.Warmed39 s.vm) (hw : ∀ d ∈ words, d.before a0 Z = true) {kI : Nat} (wi : (Jvm.Cond.instantiable ST kI).before a0 Z = true)
    {x b : Addr} {k : ClassId} {zn z : Int32} {cs : List Int32} {dv v0 c0 : Value} (E : RoadKit.Exa Z h x ST) (V : RoadKit.Fld Z h x ST "value" "[B" v0) (C : RoadKit.Fld Z h x ST "coder" "B" c0) (K : RoadKit.Arv Z h b k .char zn (cs.map Value.int) dv) (S : RoadKit.Sta Z h ST "COMPACT_STRINGS" "Z" (.int z)) (hz : ¬ z = 0)
    (hlen : zn.toNatClampNeg = cs.length) (h0 : 0 < cs.length) (hbig : cs.length ≤ 536870912) (hall : ∀ c ∈ cs, ¬ 255 < c) (hfr : 4 ≤ R.frames) (hlo : W + 65 ≤ R.locals) :
    Back l R p e below s args New1.yN len W (fun P a => a = #[.ref x, .ref b] ∧ P.U.heap = h ∧ P.cells + 1 ≤ R.cells ∧ P.slots + cs.length ≤ R.slots)
      (fun P _ v B => ∃ L, QA Z x zn cs h v B.U.heap L ∧ B.locs = P.locs ++ L ∧ B.cells = P.cells + 1 ∧ B.slots = P.slots + cs.length) := by
  obtain ⟨A, K1, K2, K3, K4, K5, K6⟩ := K
  have e : A.slots.size = cs.length := K3.trans hlen
  have hat : ∀ (i : Nat) (hi : i < cs.length), A.slots[i]? = some (.int cs[i]) := fun i hi => by rw [K5 i (by omega)]; simp [List.getD_eq_getElem?_getD, hi]
  have hcv : ∀ (i : Nat) (hi : i < cs.length), cv A i = cs[i] := fun i hi => by unfold cv; rw [hat i hi]
  have hty : Typed .char A := fun i v hv => by
    have hi : i < A.slots.size := (Array.getElem?_eq_some_iff.mp hv).1
    have q := K5 i hi
    rw [hv] at q
    rw [Option.some.inj q]
    exact K6 i hi
  refine Back.mono (back hZ hw wi E V C K1 hty S hz (by omega) (by omega) (fun i hi => by rw [hcv i (by omega)]; exact hall _ (List.getElem_mem _)) hfr hlo) (fun P a hp => ⟨hp.1, hp.2.1, hp.2.2.1, by rw [e]; exact hp.2.2.2⟩) (fun P a v B hp hq => ?_)
  obtain ⟨L, ⟨q1, q2, q3, q4, q5, q6, q7, ⟨V', v1, v2, v3, v4, v5⟩, q9⟩, hl, hc, hs⟩ := hq
  refine ⟨L, ⟨q1, q2, q3, q4, q5, q6, q7, ⟨V'.cls, v3, V', v1, rfl, by rw [v4, e, hlen], K4, fun i hi => ?_, fun i hi => ?_⟩, q9⟩, hl, hc, by rw [hs, e]⟩
  · have hi' : i < cs.length := by omega
    rw [v5 i (by omega), hcv i hi']; simp [List.getD_eq_getElem?_getD, hi']
  · have hi' : i < cs.length := by omega
    simp only [List.getD_eq_getElem?_getD, List.getElem?_map, List.getElem?_eq_getElem hi', Option.map_some, Option.getD_some]
    exact fits_lo8 _
end StrChars.Road
namespace StrChars.Road
open Jvm Sem ClassFile Op Lib Jvm.Stand Jvm.Free Jvm.Free.XT
/-- WHAT COMES BACK, in the writer's own shape -/
def QV (Z : State) (x : Addr) (N : Int32) (bs : List Int32) (h : Heap) (n0 : Nat) (v : Option Value) (h' : Heap) (L : List Loc) : Prop := v = none ∧ RoadKit.Fr n0 L ∧ RoadKit.Keep h h' [x] ∧ RoadKit.Exa Z h' x ST ∧ RoadKit.Fld Z h' x ST "coder" "B" (.int 0) ∧
  ∃ (t : Addr) (kb : ClassId), n0 ≤ t ∧ h.size ≤ t ∧ ¬ t = x ∧ RoadKit.Fld Z h' x ST "value" "[B" (.ref t) ∧ RoadKit.Arv Z h' t kb .byte N (bs.map Value.int) (.int 0)
/-- **new String(chars) AT A CALL, FOR THE WRITER**: a char[] of n known ints, each 0 to 255 -/
theorem backV {p : Program} {l : Launch} {e : Env} {R : Room} {s : State} {args : Array Value} {below : List Frame} {len W : Nat} {Z : State} {a0 : Array Value} {h : Heap} (hZ : Z.Warmed39 s.vm) (hw : ∀ d ∈ words, d.before a0 Z = true) {kI : Nat} (wi : (Jvm.Cond.instantiable ST kI).before a0 Z = true)
    {x b : Addr} {kC : ClassId} {cs bs : List Int32} {d v0 c0 : Value} {z N : Int32} {n n0 : Nat} (hx0 : n0 ≤ x) (hh0 : n0 ≤ h.size) (E : RoadKit.Exa Z h x ST) (V : RoadKit.Fld Z h x ST "value" "[B" v0) (C : RoadKit.Fld Z h x ST "coder" "B" c0) (K : RoadKit.Arv Z h b kC .char N (cs.map Value.int) d) (S : RoadKit.Sta Z h ST "COMPACT_STRINGS" "Z" (.int z)) (hz : ¬ z = 0)
    (hn : cs.length = n) (hN : N = Int32.ofNat n) (l0 : 0 < n) (l2 : n ≤ 4000) (hp : ∀ c ∈ cs, ¬ c < 0 ∧ ¬ (255 : Int32) < c) (hb : bs = cs.map (fun c => c.toInt8.toInt32)) (hfr : 4 ≤ R.frames) (hlo : W + 65 ≤ R.locals) :
    Back l R p e below s args (⟨"java/lang/String", "<init>", "([C)V"⟩ : MethodName) len W (fun P a => a = #[.ref x, .ref b] ∧ P.U.heap = h ∧ P.cells + 1 ≤ R.cells ∧ P.slots + n ≤ R.slots)
      (fun P _ v B => ∃ L, QV Z x N bs h n0 v B.U.heap L ∧ B.locs = P.locs ++ L ∧ B.cells = P.cells + 1 ∧ B.slots = P.slots + n) := by
  subst hn hN hb
  refine Back.mono (backArv hZ hw wi E V C K S hz (n32 (by omega)) l0 (by omega) (fun c hc => (hp c hc).2) hfr hlo) (fun P a hp => hp) (fun P a v B hp hq => ?_)
  obtain ⟨L, ⟨q1, q2, q3, q4, q5, q6, q7, ⟨kb, v1, v2⟩, q9⟩, hl, hc, hs⟩ := hq
  exact ⟨L, ⟨q1, fun y hy => by rw [q2 y hy]; exact hx0, q3, q5, q7, h.size, kb, hh0, Nat.le_refl _, Nat.ne_of_gt E.lt, q6, by rw [List.map_map]; exact v2⟩, hl, hc, hs⟩
end StrChars.Road
namespace StrChars
open Jvm Sem ClassFile Op Lib Jvm.Stand Jvm.Free.XT Jvm.Free.ALB Jvm.Free.JM Jvm.Free
open Jvm.Lib.Cold (StaticIs)
def hi8 (x : Int32) : Int32 := lo8 (x >>> ((8 : Int32) &&& 31))
/-- what StringUTF16.getChar makes of two bytes -/
def pairCh (u v : Int32) : Int32 := (((u &&& 255) <<< ((0 : Int32) &&& 31)) ||| ((v &&& 255) <<< ((8 : Int32) &&& 31))).toUInt32.toUInt16.toUInt32.toInt32
theorem lo8_and (x : Int32) : (lo8 x &&& 255).toBitVec.toNat = x.toBitVec.toNat % 256 := by
  have h : (lo8 x).toBitVec = (x.toBitVec.signExtend 8).signExtend 32 := by rw [lo8, Int8.toBitVec_toInt32, Int32.toBitVec_toInt8]
  rw [Int32.toBitVec_and, BitVec.toNat_and, h]
  have e : ((x.toBitVec.signExtend 8).signExtend 32).toNat % 256 = x.toBitVec.toNat % 256 := by
    rw [BitVec.toNat_signExtend]
    have hlt := x.toBitVec.isLt
    simp only [BitVec.toNat_setWidth, BitVec.toNat_signExtend]
    split <;> split <;> omega
  rw [← e]
  exact Nat.and_two_pow_sub_one_eq_mod _ 8
theorem pair_says {c : Int32} (h0 : ¬ c < 0) (h1 : ¬ 65535 < c) : pairCh (lo8 c) (hi8 c) = c := by
  rw [Int32.lt_iff_toInt_lt] at h0 h1
  have e0 : (0 : Int32).toInt = 0 := rfl
  have e1 : (65535 : Int32).toInt = 65535 := rfl
  have hc : c.toInt = c.toBitVec.toNat := by
    have := c.toBitVec.isLt
    have e : c.toInt = c.toBitVec.toInt := rfl
    rw [e] at h0 h1
    rw [e]
    rw [BitVec.toInt_eq_toNat_cond] at h0 h1 ⊢
    split at h0 <;> split <;> omega
  have hn : c.toBitVec.toNat < 65536 := by omega
  have a1 := lo8_and c
  have a2 : (hi8 c &&& 255).toBitVec.toNat = c.toBitVec.toNat / 256 := by
    rw [hi8, lo8_and]
    have e : ((8 : Int32) &&& 31) = 8 := by decide
    rw [e, Int32.toBitVec_shiftRight]
    have e2 : ((8 : Int32).toBitVec.smod 32) = 8#32 := by decide
    rw [e2, BitVec.sshiftRight_eq', BitVec.toNat_sshiftRight_of_msb_false (by rw [BitVec.msb_eq_false_iff_two_mul_lt]; omega)]
    show c.toBitVec.toNat >>> 8 % 256 = _
    rw [Nat.shiftRight_eq_div_pow]
    omega
  unfold pairCh
  apply Int32.toBitVec_inj.mp
  apply BitVec.eq_of_toNat_eq
  have f0 : ((0 : Int32) &&& 31) = 0 := by decide
  have f8 : ((8 : Int32) &&& 31) = 8 := by decide
  rw [f0, f8]
  have g : (((lo8 c &&& 255) <<< (0 : Int32)) ||| ((hi8 c &&& 255) <<< (8 : Int32))).toBitVec.toNat = c.toBitVec.toNat := by
    rw [Int32.toBitVec_or, Int32.toBitVec_shiftLeft, Int32.toBitVec_shiftLeft]
    have s0 : ((0 : Int32).toBitVec.smod 32) = 0#32 := by decide
    have s8 : ((8 : Int32).toBitVec.smod 32) = 8#32 := by decide
    rw [s0, s8, BitVec.toNat_or]
    simp only [BitVec.shiftLeft_eq', BitVec.toNat_shiftLeft, a1, a2]
    show (c.toBitVec.toNat % 256) <<< 0 % 2 ^ 32 ||| (c.toBitVec.toNat / 256) <<< 8 % 2 ^ 32 = _
    rw [Nat.shiftLeft_zero, Nat.mod_eq_of_lt (show c.toBitVec.toNat % 256 < 2 ^ 32 by omega), Nat.mod_eq_of_lt (show (c.toBitVec.toNat / 256) <<< 8 < 2 ^ 32 by rw [Nat.shiftLeft_eq]; omega), Nat.or_comm, ← Nat.shiftLeft_add_eq_or_of_lt (by omega), Nat.shiftLeft_eq]
    omega
  show BitVec.toNat (((((lo8 c &&& 255) <<< (0 : Int32)) ||| ((hi8 c &&& 255) <<< (8 : Int32))).toBitVec.setWidth 16).setWidth 32) = _
  rw [BitVec.toNat_setWidth, BitVec.toNat_setWidth, g]
  omega
end StrChars
namespace StrChars
open Jvm Sem ClassFile Op Lib Jvm.Stand Jvm.Free.XT Jvm.Free.ALB Jvm.Free.JM Jvm.Free
open Jvm.Lib.Cold (StaticIs)
/-- charAt's cast of a byte read back -/
def chr8 (u : Int32) : Int32 := (u &&& 255).toUInt32.toUInt16.toUInt32.toInt32
theorem chr8_lo8 {c : Int32} (h0 : ¬ c < 0) (h1 : ¬ 255 < c) : chr8 (lo8 c) = c := by
  have t : ∀ k : Fin 256, (Int32.ofNat k.val).toUInt32.toUInt16.toUInt32.toInt32 = Int32.ofNat k.val := by decide +kernel
  unfold chr8
  rw [lo8_mask h0 h1]
  rw [Int32.lt_iff_toInt_lt] at h0 h1
  have e0 : (0 : Int32).toInt = 0 := rfl
  have e1 : (255 : Int32).toInt = 255 := rfl
  obtain ⟨k, hk⟩ : ∃ k : Nat, c.toInt = k := ⟨c.toInt.toNat, by omega⟩
  have hx : c = Int32.ofNat k := Int32.toInt_inj.mp (by rw [hk, Int32.toInt_ofNat_small (by omega)])
  rw [hx]
  exact t ⟨k, by omega⟩
theorem narrow_ch {c : Int32} (h0 : ¬ c < 0) (h1 : ¬ 65535 < c) : narrow .char (.int c) = .int c := by
  have q : narrow .char (.int (pairCh (lo8 c) (hi8 c))) = .int (pairCh (lo8 c) (hi8 c)) := narrow_c _
  rwa [pair_says h0 h1] at q
/-- the array's cell V codes the n chars f 0 .. f (n - 1) by the coder cd, as the JDK does: coder 1 just where some char is above 255 -/
def Cod (cd : Int32) (n : Nat) (f : Nat → Int32) (V : Cell) : Prop := (cd = 0 ∧ V.slots.size = n ∧ ∀ j, j < n → V.slots[j]? = some (.int (lo8 (f j))) ∧ ¬ 255 < f j) ∨ (cd = 1 ∧ V.slots.size = 2 * n ∧ (∀ j, j < n → V.slots[2 * j]? = some (.int (lo8 (f j))) ∧ V.slots[2 * j + 1]? = some (.int (hi8 (f j)))) ∧ ∃ j, j < n ∧ 255 < f j)
theorem Cod.cd {cd : Int32} {n : Nat} {f : Nat → Int32} {V : Cell} (h : Cod cd n f V) : cd = 0 ∨ cd = 1 := h.imp (fun q => q.1) fun q => q.1
/-- **x is a String of the n chars f 0 .. f (n - 1)**, Latin-1 or UTF-16; its array at t has the cell V -/
def Txt (x t : Addr) (V : Cell) (cd : Int32) (n : Nat) (f : Nat → Int32) (U : State) : Prop := Exact "java/lang/String" x U ∧ Has x "java/lang/String" "value" "[B" (.ref t) U ∧ Has x "java/lang/String" "coder" "B" (.int cd) U ∧ XT.Arr .byte t V U ∧ Cod cd n f V ∧ ∀ j, j < n → ¬ f j < 0 ∧ ¬ 65535 < f j
theorem Txt.mv {x t : Addr} {V : Cell} {cd : Int32} {n : Nat} {f : Nat → Int32} {U U' : State} (h : Txt x t V cd n f U) (hal : U.vm.Alike U'.vm) (hh : U'.heap = U.heap) : Txt x t V cd n f U' := ⟨h.1.mv hal hh, h.2.1.mv hal hh, h.2.2.1.mv hal hh, h.2.2.2.1.mv hal hh, h.2.2.2.2⟩
namespace IsL
def yN : MethodName := ⟨"java/lang/String", "isLatin1", "()Z"⟩
abbrev yB : ByteArray := jdk_42_method_154_code
theorem d0 : decode yB 0 = .ok (.getstatic 38, 3) := by decide +kernel
theorem d3 : decode yB 3 = .ok (.ifCond (.eq) 14, 3) := by decide +kernel
theorem d6 : decode yB 6 = .ok (.aload_n 0, 1) := by decide +kernel
theorem d7 : decode yB 7 = .ok (.getfield 15, 3) := by decide +kernel
theorem d10 : decode yB 10 = .ok (.ifCond (.ne) 7, 3) := by decide +kernel
theorem d13 : decode yB 13 = .ok (.iconst 1, 1) := by decide +kernel
theorem d14 : decode yB 14 = .ok (.goto 4, 3) := by decide +kernel
theorem d17 : decode yB 17 = .ok (.iconst 0, 1) := by decide +kernel
theorem d18 : decode yB 18 = .ok (.ireturn, 1) := by decide +kernel
def site : List Cond := [.fieldLink "java/lang/String" 38 "java/lang/String" "COMPACT_STRINGS" "Z", .fieldLink "java/lang/String" 15 "java/lang/String" "coder" "B"]
def tab : Cond := tabOf yN yB 1 (some .boolean) site
def P (x : Addr) (cd z : Int32) (args : Array Value) (s : State) : Prop := args = #[.ref x] ∧ Has x "java/lang/String" "coder" "B" (.int cd) s ∧ (cd = 0 ∨ cd = 1) ∧ StaticIs s "java/lang/String" "COMPACT_STRINGS" "Z" (.int z) ∧ ¬ z = 0
def E (cd : Int32) (r : Option Value) (s u : State) : Prop := XT.PureE (some (.int (1 - cd))) r s u
theorem law (l : Launch) (x : Addr) (cd z : Int32) : Law l yN 1 0 0 0 yB 1 (some .boolean) site (P x cd z) (E cd) [] 0 0 := by
  refine Law.of_walk (plainFor_of_name (by decide +kernel)) (by decide +kernel) (by decide +kernel) (by decide) (fun _ _ h => by rw [h.1]; rfl) (fun _ U U' hal hh h => ⟨h.1, h.2.1.mv hal hh, h.2.2.1, h.2.2.2.1.there hal hh, h.2.2.2.2⟩) (fun r U U' V V' h1 hal h2 h => XT.PureE.mv r U U' V V' h1 hal h2 h) ?_
  intro p e s m args below meth c s₁ X0 hexec hbytes hml hret hlk hnm hown hh0 W hP
  obtain ⟨rfl, hx, hc, s1, hz⟩ := hP
  have c1 : Steps p.tables e below (s₁.setTop (entryFrame m #[.ref x] 1)) (s₁.setTop (mkF m 0 #[.val (.ref x)] [])) := entry rfl
  obtain ⟨T2, X2, q2, st2⟩ := X0.sget hexec hown (wk W (.fieldLink "java/lang/String" 38 "java/lang/String" "COMPACT_STRINGS" "Z")) s1 (fun _ _ h => by rw [hh0]; exact h) (g := (mkF m 0 #[.val (.ref x)] [])) rfl (hb hbytes d0)
  have hh2 := q2.trans hh0
  have c3 : Steps p.tables e below (s₁.setTop (entryFrame m #[.ref x] 1)) (T2.setTop (mkF m 7 #[.val (.ref x)] [.ref x])) := (c1.trans (st2 _ (Steps.refl _))).trans (by
    refine XS.ifNo X2.here hexec rfl (hb hbytes d3) rfl (i0_eq_f hz) ?_
    refine XS.aloadN X2.here hexec rfl (hb hbytes d6) rfl rfl ?_
    exact Steps.refl _)
  obtain ⟨T4, X4, q4, st4⟩ := X2.hget hexec hown (wk W (.fieldLink "java/lang/String" 15 "java/lang/String" "coder" "B")) (hx.mv X2.warmed.alike hh2) (g := (mkF m 7 #[.val (.ref x)] [.ref x])) rfl (rest := []) rfl (hb hbytes d7)
  have c5 : Steps p.tables e below (s₁.setTop (entryFrame m #[.ref x] 1)) (T4.setTop (mkF m 10 #[.val (.ref x)] [.int cd])) := c3.trans (st4 _ (Steps.refl _))
  have c6 : Steps p.tables e below (s₁.setTop (entryFrame m #[.ref x] 1)) (T4.setTop (mkF m 18 #[.val (.ref x)] [.int (1 - cd)])) := by
    rcases hc with rfl | rfl
    · exact c5.trans (by
        refine XS.ifNo X4.here hexec rfl (hb hbytes d10) rfl (i0_ne_f rfl) ?_
        refine iconstV X4.here hexec rfl 1 (hb hbytes d13) (by decide) ?_
        refine XS.goto X4.here hexec rfl (pc0 := 14) rfl (hb hbytes d14) (by decide) rfl ?_
        exact Steps.refl _)
    · exact c5.trans (by
        refine XS.ifYes X4.here hexec rfl (pc0 := 10) rfl (hb hbytes d10) rfl (i0_ne_t (by decide)) (by decide) rfl ?_
        refine iconstV X4.here hexec rfl 0 (hb hbytes d17) (by decide) ?_
        exact Steps.refl _)
  exact ⟨T4, some (.int (1 - cd)), _, _, _, X4, rfl, rfl, rfl, (fun h => by cases h), ⟨rfl, q4.trans hh2⟩, fun fs hl => c6.trans (X4.ireturnOut hexec hret (by rcases hc with rfl | rfl <;> rfl) (Or.inr (Or.inl rfl)) (hb hbytes d18) hl)⟩
end IsL
namespace LChA
def yN : MethodName := ⟨"java/lang/StringLatin1", "charAt", "([BI)C"⟩
abbrev yB : ByteArray := jdk_43_method_2_code
theorem d0 : decode yB 0 = .ok (.iload_n 1, 1) := by decide +kernel
theorem d1 : decode yB 1 = .ok (.aload_n 0, 1) := by decide +kernel
theorem d2 : decode yB 2 = .ok (.arraylength, 1) := by decide +kernel
theorem d3 : decode yB 3 = .ok (.invokestatic 9, 3) := by decide +kernel
theorem d6 : decode yB 6 = .ok (.aload_n 0, 1) := by decide +kernel
theorem d7 : decode yB 7 = .ok (.iload_n 1, 1) := by decide +kernel
theorem d8 : decode yB 8 = .ok (.baload, 1) := by decide +kernel
theorem d9 : decode yB 9 = .ok (.sipush 255, 3) := by decide +kernel
theorem d12 : decode yB 12 = .ok (.iand, 1) := by decide +kernel
theorem d13 : decode yB 13 = .ok (.i2c, 1) := by decide +kernel
theorem d14 : decode yB 14 = .ok (.ireturn, 1) := by decide +kernel
def site : List Cond := [JO.Str_checkIndex.tab] ++ staticW "java/lang/StringLatin1" 9 JO.Str_checkIndex.yN
def tab : Cond := tabOf yN yB 2 (some .char) site
def P (t : Addr) (V : Cell) (i : Nat) (u : Int32) (fm : Value) (args : Array Value) (s : State) : Prop := args = #[.ref t, .int (Int32.ofNat i)] ∧ XT.Arr .byte t V s ∧ V.slots[i]? = some (.int u) ∧ (StaticIs s "jdk/internal/util/Preconditions" "SIOOBE_FORMATTER" "Ljava/util/function/BiFunction;" fm ∧ fm.isRef = true)
def E (u : Int32) (r : Option Value) (s w : State) : Prop := XT.PureE (some (.int (chr8 u))) r s w
theorem law (l : Launch) (t : Addr) (V : Cell) (i : Nat) (u : Int32) (fm : Value) : Law l yN 2 2 2 27 yB 2 (some .char) site (P t V i u fm) (E u) [] 0 0 := by
  refine Law.of_walk (plainFor_of_name (by decide +kernel)) (by decide +kernel) (by decide +kernel) (by decide) (fun _ _ h => by rw [h.1]; rfl) (fun _ U U' hal hh h => ⟨h.1, h.2.1.mv hal hh, h.2.2.1, h.2.2.2.1.there hal hh, h.2.2.2.2⟩) (fun r U U' V V' h1 hal h2 h => XT.PureE.mv r U U' V V' h1 hal h2 h) ?_
  intro p e s m args below meth c s₁ X0 hexec hbytes hml hret hlk hnm hown hh0 W hP
  obtain ⟨rfl, hV, hu, s1, rf⟩ := hP
  have v31 := hV.2.2.2
  have hi : i < V.slots.size := (Array.getElem?_eq_some_iff.mp hu).1
  have c1 : Steps p.tables e below (s₁.setTop (entryFrame m #[.ref t, .int (Int32.ofNat i)] 2)) (s₁.setTop (mkF m 0 #[.val (.ref t), .val (.int (Int32.ofNat i))] [])) := entry rfl
  have c2 : Steps p.tables e below (s₁.setTop (entryFrame m #[.ref t, .int (Int32.ofNat i)] 2)) (s₁.setTop (mkF m 3 #[.val (.ref t), .val (.int (Int32.ofNat i))] [.int (Int32.ofNat V.slots.size), .int (Int32.ofNat i)])) := c1.trans (by
    refine XS.iloadN X0.here hexec rfl (hb hbytes d0) rfl ?_
    refine XS.aloadN X0.here hexec rfl (hb hbytes d1) rfl rfl ?_
    refine X0.alen hexec (hV.mv X0.warmed.alike hh0) rfl rfl (hb hbytes d2) ?_
    exact Steps.refl _)
  obtain ⟨v3, T3, X3, E3, g3⟩ := X0.callS hexec (JO.Str_checkIndex.law l (Int32.ofNat i) (Int32.ofNat V.slots.size) fm) hown (wks W (staticW "java/lang/StringLatin1" 9 JO.Str_checkIndex.yN)) (wk W JO.Str_checkIndex.tab) (W := 0) (Nat.le_of_ble_eq_true rfl) (Nat.le_of_ble_eq_true rfl) (Nat.le_refl _) (Nat.le_refl _) (g := (mkF m 3 #[.val (.ref t), .val (.int (Int32.ofNat i))] [.int (Int32.ofNat V.slots.size), .int (Int32.ofNat i)])) rfl (by rw [hml]; rfl) c2 (argsL := [.int (Int32.ofNat i), .int (Int32.ofNat V.slots.size)]) (rest := []) rfl rfl (by show 2 * 0 + 0 ≤ _; decide) (hb hbytes d3) (⟨rfl, rf, s1.there X0.warmed.alike hh0, Int32.ofNat_not_neg (by omega), lt32 v31 hi⟩)
  obtain ⟨rfl, q3⟩ := E3
  have hh3 := q3.trans hh0
  have c4 : Steps p.tables e below (s₁.setTop (entryFrame m #[.ref t, .int (Int32.ofNat i)] 2)) (T3.setTop (mkF m 14 #[.val (.ref t), .val (.int (Int32.ofNat i))] [.int (chr8 u)])) := Steps.trans g3 (by
    refine XS.aloadN X3.here hexec rfl (hb hbytes d6) rfl rfl ?_
    refine XS.iloadN X3.here hexec rfl (hb hbytes d7) rfl ?_
    refine X3.aget hexec (hV.mv X3.warmed.alike hh3) rfl hu rfl rfl (hb hbytes d8) ?_
    refine sipushV X3.here hexec rfl 255 (hb hbytes d9) (by decide) ?_
    refine XS.iand X3.here hexec rfl (hb hbytes d12) rfl ?_
    refine i2c X3.here hexec rfl (hb hbytes d13) rfl ?_
    exact Steps.refl _)
  exact ⟨T3, some (.int (chr8 u)), _, _, _, X3, rfl, rfl, rfl, (fun h => by cases h), ⟨rfl, hh3⟩, fun fs hl => c4.trans (X3.ireturnOut hexec hret (narrow_c _) (Or.inr (Or.inr (Or.inr (Or.inl rfl)))) (hb hbytes d14) hl)⟩
end LChA
end StrChars
namespace StrChars.Road
open Jvm Sem ClassFile Op Lib Jvm.Stand Jvm.Free Jvm.Free.XT
open Jvm.Lib.Cold (StaticIs)
theorem consq {a : Array Value} {s : State} {c : Jvm.Cond} {L : List Jvm.Cond} (h0 : c.before a s = true) (h : ∀ w ∈ L, w.before a s = true) : ∀ w ∈ c :: L, w.before a s = true := fun w hw => (List.mem_cons.mp hw).elim (fun e => e ▸ h0) (h w)
/-- the bytes of the chars cs, low before high -/
def wideBytes : List Int32 → List Value
  | [] => []
  | c :: cs => .int (lo8 c) :: .int (hi8 c) :: wideBytes cs
theorem wide_lo (d : Value) : ∀ (cs : List Int32) (j : Nat), j < cs.length → (wideBytes cs).getD (2 * j) d = .int (lo8 (cs.getD j 0))
  | [], j, h => absurd h (Nat.not_lt_zero j)
  | c :: cs, 0, _ => rfl
  | c :: cs, j + 1, h => by
    have q := wide_lo d cs j (by simpa using h)
    rw [show 2 * (j + 1) = 2 * j + 1 + 1 from by omega]
    simpa [wideBytes] using q
theorem wide_hi (d : Value) : ∀ (cs : List Int32) (j : Nat), j < cs.length → (wideBytes cs).getD (2 * j + 1) d = .int (hi8 (cs.getD j 0))
  | [], j, h => absurd h (Nat.not_lt_zero j)
  | c :: cs, 0, _ => rfl
  | c :: cs, j + 1, h => by
    have q := wide_hi d cs j (by simpa using h)
    rw [show 2 * (j + 1) + 1 = 2 * j + 1 + 1 + 1 from by omega]
    simpa [wideBytes] using q
theorem low_at (d : Value) (cs : List Int32) (j : Nat) (h : j < cs.length) : (cs.map fun c => Value.int (lo8 c)).getD j d = .int (lo8 (cs.getD j 0)) := by
  simp [List.getD_eq_getElem?_getD, h]
/-- an array of N2 bytes vs codes the chars cs by the coder cd -/
def CodA (cs : List Int32) (cd N2 : Int32) (vs : List Value) : Prop := (cd = 0 ∧ N2 = Int32.ofNat cs.length ∧ vs = (cs.map fun c => Value.int (lo8 c)) ∧ ∀ c ∈ cs, ¬ 255 < c) ∨ (cd = 1 ∧ N2 = Int32.ofNat (2 * cs.length) ∧ vs = wideBytes cs ∧ ∃ c ∈ cs, 255 < c)
theorem CodA.cod {cs : List Int32} {cd N2 : Int32} {vs : List Value} {V : Cell} (h : CodA cs cd N2 vs) (hn : 2 * cs.length < 2 ^ 31) (hs : V.slots.size = N2.toNatClampNeg) (hv : RoadKit.Has V vs (.int 0)) : Cod cd cs.length (fun j => cs.getD j 0) V := by
  rcases h with ⟨rfl, rfl, rfl, h⟩ | ⟨rfl, rfl, rfl, c, hc, hw⟩
  · rw [n32 (by omega)] at hs
    exact Or.inl ⟨rfl, hs, fun j hj => ⟨by rw [hv j (by omega), low_at _ _ _ hj], by
      have e : cs.getD j 0 = cs[j] := by simp [List.getD_eq_getElem?_getD, hj]
      show ¬ 255 < cs.getD j 0
      rw [e]; exact h _ (List.getElem_mem _)⟩⟩
  · rw [n32 (by omega)] at hs
    obtain ⟨j, hj, rfl⟩ := List.getElem_of_mem hc
    exact Or.inr ⟨rfl, hs, fun j hj => ⟨by rw [hv _ (by omega), wide_lo _ _ _ hj], by rw [hv _ (by omega), wide_hi _ _ _ hj]⟩, j, hj, by
      have e : cs.getD j 0 = cs[j] := by simp [List.getD_eq_getElem?_getD, hj]
      show 255 < cs.getD j 0
      rw [e]; exact hw⟩
/-- an object of exactly java/lang/String, its two fields found: as the laws ask it -/
theorem strObj {Z U : State} {a0 : Array Value} {kI : Nat} (wi : (Jvm.Cond.instantiable ST kI).before a0 Z = true) (al : Z.vm.Alike U.vm) {x : Addr} {v0 c0 : Value} (E : RoadKit.Exa Z U.heap x ST) (V : RoadKit.Fld Z U.heap x ST "value" "[B" v0) (C : RoadKit.Fld Z U.heap x ST "coder" "B" c0) :
    ∃ (D : Cell) (fV fC : Field), Blank ST x D U ∧ Found ST "value" "[B" fV U ∧ Found ST "coder" "B" fC U ∧ D.slots[fV.slot]? = some v0 ∧ D.slots[fC.slot]? = some c0 ∧ RoadKit.slotOf Z ST "value" "[B" = fV.slot ∧ RoadKit.slotOf Z ST "coder" "B" = fC.slot := by
  obtain ⟨D, cfV, kV, iV, fV, hD, gV, stV, knV, obV, asV, slV⟩ := V
  obtain ⟨D', cfC, kC, iC, fC, hD', gC, stC, -, -, asC, slC⟩ := C
  cases hD.symm.trans hD'
  obtain ⟨D2, kD, e1, e2, e3, e4, e5⟩ := E
  cases hD.symm.trans e1
  obtain ⟨c2, k2, i1, i2, i3, -⟩ := Cond.instantiable_spec wi
  cases e2.symm.trans i1
  cases e3.symm.trans i2
  obtain ⟨kU, u1, u2⟩ := al.2.2 _ _ e3
  exact ⟨D, fV, fC, ⟨hD, ⟨knV, fun q hq => by rw [hq] at obV; cases obV⟩, by rw [al.findClass]; exact e2, kU, u1, by rw [u2]; exact i3, by rw [u2]; exact e5 i3⟩, ⟨SBG.found_only al ⟨cfV, kV, iV, gV⟩, stV⟩, ⟨SBG.found_only al ⟨cfC, kC, iC, gC⟩, stC⟩, slV, slC, by simp [RoadKit.slotOf, gV], by simp [RoadKit.slotOf, gC]⟩
theorem sta_is {Z U : State} (al : Z.vm.Alike U.vm) {C n d : String} {v : Value} (S : RoadKit.Sta Z U.heap C n d v) : StaticIs U C n d v := by
  obtain ⟨cfS, iS, kS, fS, st, cS, t1, t2, t3, t4, t5, t6, t7⟩ := S
  exact StaticIs.there (s := { Z with heap := U.heap }) ⟨cfS, iS, kS, fS, st, cS, t1, t2, t3, t4, t5, (fun q => by rw [q] at t6; cases t6), t7⟩ al rfl
end StrChars.Road
namespace StrChars
open Jvm Sem ClassFile Op Lib Jvm.Stand Jvm.Free.XT Jvm.Free.ALB Jvm.Free.JM Jvm.Free
open Jvm.Lib.Cold (StaticIs)
/-- what place i of a byte[]'s cell holds -/
def yv (A : Cell) (i : Nat) : Int32 := match A.slots[i]? with | some (.int x) => x | _ => 0
theorem yv_get {a : Addr} {A : Cell} {U : State} (h : XT.Arr .byte a A U) (ht : Typed .byte A) {i : Nat} (hi : i < A.slots.size) : A.slots[i]? = some (.int (yv A i)) := by
  have e := Array.getElem?_eq_getElem hi
  have f := ht i _ e
  unfold yv; rw [e]
  generalize A.slots[i] = v at f
  cases v <;> simp [fits] at f ⊢
/-- the two arrays are equal, place for place -/
def EqC (A B : Cell) : Prop := A.slots.size = B.slots.size ∧ ∀ i, i < A.slots.size → yv A i = yv B i
/-- a boolean that says whether p -/
def Says01 (q : Prop) (r : Option Value) (s u : State) : Prop := ∃ v : Int32, r = some (.int v) ∧ u.heap = s.heap ∧ ((v = 1 ∧ q) ∨ (v = 0 ∧ ¬ q))
theorem Says01.mv {q : Prop} : ∀ r (U U' V V' : State), U'.heap = U.heap → V.vm.Alike V'.vm → V'.heap = V.heap → Says01 q r U V → Says01 q r U' V' :=
  fun r U U' V V' h1 _ h2 ⟨v, a, b, c⟩ => ⟨v, a, by rw [h1, h2]; exact b, c⟩
namespace LEq
def yN : MethodName := ⟨"java/lang/StringLatin1", "equals", "([B[B)Z"⟩
abbrev yB : ByteArray := jdk_43_method_13_code
theorem d0 : decode yB 0 = .ok (.aload_n 0, 1) := by decide +kernel
theorem d1 : decode yB 1 = .ok (.arraylength, 1) := by decide +kernel
theorem d2 : decode yB 2 = .ok (.aload_n 1, 1) := by decide +kernel
theorem d3 : decode yB 3 = .ok (.arraylength, 1) := by decide +kernel
theorem d4 : decode yB 4 = .ok (.if_icmp (.ne) 30, 3) := by decide +kernel
theorem d7 : decode yB 7 = .ok (.iconst 0, 1) := by decide +kernel
theorem d8 : decode yB 8 = .ok (.istore_n 2, 1) := by decide +kernel
theorem d9 : decode yB 9 = .ok (.iload_n 2, 1) := by decide +kernel
theorem d10 : decode yB 10 = .ok (.aload_n 0, 1) := by decide +kernel
theorem d11 : decode yB 11 = .ok (.arraylength, 1) := by decide +kernel
theorem d12 : decode yB 12 = .ok (.if_icmp (.ge) 20, 3) := by decide +kernel
theorem d15 : decode yB 15 = .ok (.aload_n 0, 1) := by decide +kernel
theorem d16 : decode yB 16 = .ok (.iload_n 2, 1) := by decide +kernel
theorem d17 : decode yB 17 = .ok (.baload, 1) := by decide +kernel
theorem d18 : decode yB 18 = .ok (.aload_n 1, 1) := by decide +kernel
theorem d19 : decode yB 19 = .ok (.iload_n 2, 1) := by decide +kernel
theorem d20 : decode yB 20 = .ok (.baload, 1) := by decide +kernel
theorem d21 : decode yB 21 = .ok (.if_icmp (.eq) 5, 3) := by decide +kernel
theorem d24 : decode yB 24 = .ok (.iconst 0, 1) := by decide +kernel
theorem d25 : decode yB 25 = .ok (.ireturn, 1) := by decide +kernel
theorem d26 : decode yB 26 = .ok (.iinc 2 1, 3) := by decide +kernel
theorem d29 : decode yB 29 = .ok (.goto (-20), 3) := by decide +kernel
theorem d32 : decode yB 32 = .ok (.iconst 1, 1) := by decide +kernel
theorem d33 : decode yB 33 = .ok (.ireturn, 1) := by decide +kernel
theorem d34 : decode yB 34 = .ok (.iconst 0, 1) := by decide +kernel
theorem d35 : decode yB 35 = .ok (.ireturn, 1) := by decide +kernel
def site : List Cond := []
def tab : Cond := tabOf yN yB 3 (some .boolean) site
def P (a : Addr) (A : Cell) (b : Addr) (B : Cell) (args : Array Value) (s : State) : Prop := args = #[.ref a, .ref b] ∧ XT.Arr .byte a A s ∧ Typed .byte A ∧ XT.Arr .byte b B s ∧ Typed .byte B
/-- whether two byte[] are equal, place for place -/
theorem law (l : Launch) (a : Addr) (A : Cell) (b : Addr) (B : Cell) : Law l yN 2 2 0 0 yB 3 (some .boolean) site (P a A b B) (Says01 (EqC A B)) [] 0 0 := by
  refine Law.of_walk (plainFor_of_name (by decide +kernel)) (by decide +kernel) (by decide +kernel) (by decide) (fun _ _ h => by rw [h.1]; rfl) (fun _ U U' hal hh h => ⟨h.1, h.2.1.mv hal hh, h.2.2.1, h.2.2.2.1.mv hal hh, h.2.2.2.2⟩) (fun r U U' V V' h1 hal h2 h => Says01.mv r U U' V V' h1 hal h2 h) ?_
  intro p e s m args below meth c s₁ X0 hexec hbytes hml hret hlk hnm hown hh0 W hP
  obtain ⟨rfl, hA, tA, hB, tB⟩ := hP
  have a31 := hA.2.2.2
  have b31 := hB.2.2.2
  have hA0 := hA.mv X0.warmed.alike hh0
  have hB0 := hB.mv X0.warmed.alike hh0
  have c1 : Steps p.tables e below (s₁.setTop (entryFrame m #[.ref a, .ref b] 3)) (s₁.setTop (mkF m 0 #[.val (.ref a), .val (.ref b), .unset] [])) := entry rfl
  have c2 : Steps p.tables e below (s₁.setTop (entryFrame m #[.ref a, .ref b] 3)) (s₁.setTop (mkF m 4 #[.val (.ref a), .val (.ref b), .unset] [.int (Int32.ofNat B.slots.size), .int (Int32.ofNat A.slots.size)])) := c1.trans (by
    refine XS.aloadN X0.here hexec rfl (hb hbytes d0) rfl rfl ?_
    refine X0.alen hexec hA0 rfl rfl (hb hbytes d1) ?_
    refine XS.aloadN X0.here hexec rfl (hb hbytes d2) rfl rfl ?_
    refine X0.alen hexec hB0 rfl rfl (hb hbytes d3) ?_
    exact Steps.refl _)
  by_cases hs : A.slots.size = B.slots.size
  · have c3 : Steps p.tables e below (s₁.setTop (entryFrame m #[.ref a, .ref b] 3)) (s₁.setTop (mkF m 9 #[.val (.ref a), .val (.ref b), .val (.int 0)] [])) := c2.trans (by
      refine XS.icmpNo X0.here hexec rfl (hb hbytes d4) rfl (ii_ne_f (by rw [hs])) ?_
      refine iconstV X0.here hexec rfl 0 (hb hbytes d7) (by decide) ?_
      refine XS.istoreN X0.here hexec rfl (hb hbytes d8) rfl rfl ?_
      exact Steps.refl _)
    have loop : ∀ (r i : Nat), i + r = A.slots.size → (∀ j, j < i → yv A j = yv B j) → Steps p.tables e below (s₁.setTop (entryFrame m #[.ref a, .ref b] 3)) (s₁.setTop (mkF m 9 #[.val (.ref a), .val (.ref b), .val (.int (Int32.ofNat i))] [])) → ∃ (pc : Nat) (Ls : Array Slot) (v : Int32), (pc = 25 ∨ pc = 33) ∧ ((v = 1 ∧ EqC A B) ∨ (v = 0 ∧ ¬ EqC A B)) ∧ Steps p.tables e below (s₁.setTop (entryFrame m #[.ref a, .ref b] 3)) (s₁.setTop (mkF m pc Ls [.int v])) := by
      intro r
      induction r with
      | zero =>
        intro i hi he cl
        exact ⟨33, _, 1, Or.inr rfl, Or.inl ⟨rfl, hs, fun j hj => he j (by omega)⟩, cl.trans (by
          refine XS.iloadN X0.here hexec rfl (hb hbytes d9) rfl ?_
          refine XS.aloadN X0.here hexec rfl (hb hbytes d10) rfl rfl ?_
          refine X0.alen hexec hA0 rfl rfl (hb hbytes d11) ?_
          refine XS.icmpYes X0.here hexec rfl (pc0 := 12) rfl (hb hbytes d12) rfl (ii_ge_t (nlt32 (by omega) (by omega))) (by decide) rfl ?_
          refine iconstV X0.here hexec rfl 1 (hb hbytes d32) (by decide) ?_
          exact Steps.refl _)⟩
      | succ r ih =>
        intro i hi he cl
        have c4 : Steps p.tables e below (s₁.setTop (entryFrame m #[.ref a, .ref b] 3)) (s₁.setTop (mkF m 21 #[.val (.ref a), .val (.ref b), .val (.int (Int32.ofNat i))] [.int (yv B i), .int (yv A i)])) := cl.trans (by
          refine XS.iloadN X0.here hexec rfl (hb hbytes d9) rfl ?_
          refine XS.aloadN X0.here hexec rfl (hb hbytes d10) rfl rfl ?_
          refine X0.alen hexec hA0 rfl rfl (hb hbytes d11) ?_
          refine XS.icmpNo X0.here hexec rfl (hb hbytes d12) rfl (ii_ge_f (lt32 (by omega) (by omega))) ?_
          refine XS.aloadN X0.here hexec rfl (hb hbytes d15) rfl rfl ?_
          refine XS.iloadN X0.here hexec rfl (hb hbytes d16) rfl ?_
          refine X0.aget hexec hA0 rfl (yv_get hA tA (i := i) (by omega)) rfl rfl (hb hbytes d17) ?_
          refine XS.aloadN X0.here hexec rfl (hb hbytes d18) rfl rfl ?_
          refine XS.iloadN X0.here hexec rfl (hb hbytes d19) rfl ?_
          refine X0.aget hexec hB0 rfl (yv_get hB tB (i := i) (by omega)) rfl rfl (hb hbytes d20) ?_
          exact Steps.refl _)
        by_cases hv : yv A i = yv B i
        · have c5 : Steps p.tables e below (s₁.setTop (entryFrame m #[.ref a, .ref b] 3)) (s₁.setTop (mkF m 9 #[.val (.ref a), .val (.ref b), .val (.int (Int32.ofNat i + 1))] [])) := c4.trans (by
            refine XS.icmpYes X0.here hexec rfl (pc0 := 21) rfl (hb hbytes d21) rfl (ii_eq_t hv) (by decide) rfl ?_
            refine iincV X0.here hexec rfl 1 (hb hbytes d26) (by decide) rfl rfl ?_
            refine XS.goto X0.here hexec rfl (pc0 := 29) rfl (hb hbytes d29) (by decide) rfl ?_
            exact Steps.refl _)
          rw [succ32] at c5
          exact ih (i + 1) (by omega) (fun j hj => by
            by_cases e : j = i
            · rw [e]; exact hv
            · exact he j (by omega)) c5
        · exact ⟨25, _, 0, Or.inl rfl, Or.inr ⟨rfl, fun q => hv (q.2 i (by omega))⟩, c4.trans (by
            refine XS.icmpNo X0.here hexec rfl (hb hbytes d21) rfl (ii_eq_f hv) ?_
            refine iconstV X0.here hexec rfl 0 (hb hbytes d24) (by decide) ?_
            exact Steps.refl _)⟩
    obtain ⟨pc, Ls, v, hpc, hv, cz⟩ := loop A.slots.size 0 (by omega) (fun j hj => absurd hj (Nat.not_lt_zero j)) c3
    have nv : narrow .boolean (.int v) = .int v := by rcases hv with ⟨rfl, -⟩ | ⟨rfl, -⟩ <;> rfl
    rcases hpc with rfl | rfl
    · exact ⟨s₁, some (.int v), _, _, _, X0, rfl, rfl, rfl, (fun h => by cases h), ⟨v, rfl, hh0, hv⟩, fun fs hl => cz.trans (X0.ireturnOut hexec hret nv (Or.inr (Or.inl rfl)) (hb hbytes d25) hl)⟩
    · exact ⟨s₁, some (.int v), _, _, _, X0, rfl, rfl, rfl, (fun h => by cases h), ⟨v, rfl, hh0, hv⟩, fun fs hl => cz.trans (X0.ireturnOut hexec hret nv (Or.inr (Or.inl rfl)) (hb hbytes d33) hl)⟩
  · have c3 : Steps p.tables e below (s₁.setTop (entryFrame m #[.ref a, .ref b] 3)) (s₁.setTop (mkF m 35 #[.val (.ref a), .val (.ref b), .unset] [.int 0])) := c2.trans (by
      refine XS.icmpYes X0.here hexec rfl (pc0 := 4) rfl (hb hbytes d4) rfl (ii_ne_t (ne32 a31 b31 hs)) (by decide) rfl ?_
      refine iconstV X0.here hexec rfl 0 (hb hbytes d34) (by decide) ?_
      exact Steps.refl _)
    exact ⟨s₁, some (.int 0), _, _, _, X0, rfl, rfl, rfl, (fun h => by cases h), ⟨0, rfl, hh0, Or.inr ⟨rfl, fun q => hs q.1⟩⟩, fun fs hl => c3.trans (X0.ireturnOut hexec hret rfl (Or.inr (Or.inl rfl)) (hb hbytes d35) hl)⟩
end LEq
theorem Cod.ty {cd : Int32} {n : Nat} {f : Nat → Int32} {V : Cell} (h : Cod cd n f V) : Typed .byte V := fun i v hv => by
  have hi : i < V.slots.size := (Array.getElem?_eq_some_iff.mp hv).1
  rcases h with ⟨-, k1, k2⟩ | ⟨-, k1, k2, -⟩
  · rw [(k2 i (by omega)).1] at hv; cases hv; exact fits_lo8 _
  · rcases Nat.mod_two_eq_zero_or_one i with e | e
    · obtain ⟨j, rfl⟩ : ∃ j, i = 2 * j := ⟨i / 2, by omega⟩
      rw [(k2 j (by omega)).1] at hv; cases hv; exact fits_lo8 _
    · obtain ⟨j, rfl⟩ : ∃ j, i = 2 * j + 1 := ⟨i / 2, by omega⟩
      rw [(k2 j (by omega)).2] at hv; cases hv; exact fits_lo8 _
/-- the same text -/
def SameT (n : Nat) (f : Nat → Int32) (k : Nat) (g : Nat → Int32) : Prop := n = k ∧ ∀ j, j < n → f j = g j
theorem lo8_inj {x y : Int32} (h0 : ¬ x < 0) (h1 : ¬ 255 < x) (k0 : ¬ y < 0) (k1 : ¬ 255 < y) (h : lo8 x = lo8 y) : x = y := by
  rw [← lo8_mask h0 h1, ← lo8_mask k0 k1, h]
/-- arrays coded by one coder are equal just where the texts are -/
theorem Cod.eqv {cd : Int32} {n k : Nat} {f g : Nat → Int32} {V V' : Cell} (h : Cod cd n f V) (h' : Cod cd k g V') (hf : ∀ j, j < n → ¬ f j < 0 ∧ ¬ 65535 < f j) (hg : ∀ j, j < k → ¬ g j < 0 ∧ ¬ 65535 < g j) : EqC V V' ↔ SameT n f k g := by
  have yvv : ∀ {W : Cell} {i : Nat} {x : Int32}, W.slots[i]? = some (.int x) → yv W i = x := fun q => by unfold yv; rw [q]
  rcases h with ⟨rfl, k1, k2⟩ | ⟨rfl, k1, k2, -⟩
  · rcases h' with ⟨-, m1, m2⟩ | ⟨e, -⟩
    · constructor
      · rintro ⟨e1, e2⟩
        refine ⟨by omega, fun j hj => ?_⟩
        have q := e2 j (by omega)
        rw [yvv (k2 j hj).1, yvv (m2 j (by omega)).1] at q
        exact lo8_inj (hf j hj).1 (k2 j hj).2 (hg j (by omega)).1 (m2 j (by omega)).2 q
      · rintro ⟨rfl, e2⟩
        refine ⟨by omega, fun j hj => ?_⟩
        rw [yvv (k2 j (by omega)).1, yvv (m2 j (by omega)).1, e2 j (by omega)]
    · exact absurd e (by decide)
  · rcases h' with ⟨e, -⟩ | ⟨-, m1, m2, -⟩
    · exact absurd e (by decide)
    · constructor
      · rintro ⟨e1, e2⟩
        refine ⟨by omega, fun j hj => ?_⟩
        have q1 := e2 (2 * j) (by omega)
        have q2 := e2 (2 * j + 1) (by omega)
        rw [yvv (k2 j hj).1, yvv (m2 j (by omega)).1] at q1
        rw [yvv (k2 j hj).2, yvv (m2 j (by omega)).2] at q2
        rw [← pair_says (hf j hj).1 (hf j hj).2, ← pair_says (hg j (by omega)).1 (hg j (by omega)).2, q1, q2]
      · rintro ⟨rfl, e2⟩
        refine ⟨by omega, fun i hi => ?_⟩
        rcases Nat.mod_two_eq_zero_or_one i with e | e
        · obtain ⟨j, rfl⟩ : ∃ j, i = 2 * j := ⟨i / 2, by omega⟩
          rw [yvv (k2 j (by omega)).1, yvv (m2 j (by omega)).1, e2 j (by omega)]
        · obtain ⟨j, rfl⟩ : ∃ j, i = 2 * j + 1 := ⟨i / 2, by omega⟩
          rw [yvv (k2 j (by omega)).2, yvv (m2 j (by omega)).2, e2 j (by omega)]
/-- two codings differ: so do the texts -/
theorem Cod.dif {cd cd' : Int32} {n k : Nat} {f g : Nat → Int32} {V V' : Cell} (h : Cod cd n f V) (h' : Cod cd' k g V') (hne : ¬ cd = cd') : ¬ SameT n f k g := by
  rintro ⟨rfl, e⟩
  rcases h with ⟨rfl, -, k2⟩ | ⟨rfl, -, -, j, hj, hw⟩
  · rcases h' with ⟨rfl, -⟩ | ⟨-, -, -, j, hj, hw⟩
    · exact hne rfl
    · exact (k2 j hj).2 (by rw [e j hj]; exact hw)
  · rcases h' with ⟨-, -, m2⟩ | ⟨rfl, -⟩
    · exact (m2 j hj).2 (by rw [← e j hj]; exact hw)
    · exact hne rfl
/-- an object of exactly C is an instance of C -/
theorem cinst {p : Program} {l : Launch} {e : Env} {R : Room} {s : State} {m : MethodId} {args : Array Value} {below : List Frame} {meth : Method} {c : Code} {T : State} {locs : List Loc} {cells slots : Nat} (X : Stand p l e R s m args below meth c T locs cells slots) (hexec : p.tables.exec = Jvm.exec) {own C : String} {index : Nat} (hown : s.vm.findClass own = some m.cls) (hlink : (Cond.classLink own index C).before args s = true) {a : Addr} (hE : Exact C a T)
    {g : JFrame} (hg : g.method = m) {rest : List Value} (hstack : g.stack = .ref a :: rest) (hdg : decode c.code g.pc = .ok (.instanceof index, 3)) :
    ∃ T', Stand p l e R s m args below meth c T' locs cells slots ∧ T'.heap = T.heap ∧ ∀ target, Steps p.tables e below (T'.setTop { g with pc := g.pc + 3, stack := .int 1 :: rest }) target → Steps p.tables e below (T.setTop g) target := by
  obtain ⟨cB, h1, D, h2, h3, h4⟩ := hE
  have h1' : s.vm.findClass C = some cB := by rw [← X.warmed.alike.findClass]; exact h1
  obtain ⟨vm', X', st⟩ := X.instanceofYes hexec hown hlink h2 h4 h1' (by rw [h3]; exact Jvm.Free.SB.assignable_self _ _) hg hstack hdg
  exact ⟨_, X', rfl, st⟩
theorem cself {p : Program} {l : Launch} {e : Env} {R : Room} {s : State} {m : MethodId} {args : Array Value} {below : List Frame} {meth : Method} {c : Code} {T : State} {locs : List Loc} {cells slots : Nat} (X : Stand p l e R s m args below meth c T locs cells slots) (hexec : p.tables.exec = Jvm.exec) {own C : String} {index : Nat} (hown : s.vm.findClass own = some m.cls) (hlink : (Cond.classLink own index C).before args s = true) {a : Addr} (hE : Exact C a T)
    {g : JFrame} (hg : g.method = m) {rest : List Value} (hstack : g.stack = .ref a :: rest) (hdg : decode c.code g.pc = .ok (.checkcast index, 3)) :
    ∃ T', Stand p l e R s m args below meth c T' locs cells slots ∧ T'.heap = T.heap ∧ ∀ target, Steps p.tables e below (T'.setTop { g with pc := g.pc + 3, stack := .ref a :: rest }) target → Steps p.tables e below (T.setTop g) target := by
  obtain ⟨cB, h1, D, h2, h3, h4⟩ := hE
  have h1' : s.vm.findClass C = some cB := by rw [← X.warmed.alike.findClass]; exact h1
  obtain ⟨vm', X', st⟩ := X.checkcastYes hexec hown hlink h2 h4 h1' (by rw [h3]; exact Jvm.Free.SB.assignable_self _ _) hg hstack hdg
  exact ⟨_, X', rfl, fun t h => st t (by rw [← hstack] at h; exact h)⟩
namespace SEq
def yN : MethodName := ⟨"java/lang/String", "equals", "(Ljava/lang/Object;)Z"⟩
abbrev yB : ByteArray := jdk_42_method_66_code
theorem d0 : decode yB 0 = .ok (.aload_n 0, 1) := by decide +kernel
theorem d1 : decode yB 1 = .ok (.aload_n 1, 1) := by decide +kernel
theorem d2 : decode yB 2 = .ok (.if_acmp (.ne) 5, 3) := by decide +kernel
theorem d5 : decode yB 5 = .ok (.iconst 1, 1) := by decide +kernel
theorem d6 : decode yB 6 = .ok (.ireturn, 1) := by decide +kernel
theorem d7 : decode yB 7 = .ok (.aload_n 1, 1) := by decide +kernel
theorem d8 : decode yB 8 = .ok (.instanceof 10, 3) := by decide +kernel
theorem d11 : decode yB 11 = .ok (.ifCond (.eq) 43, 3) := by decide +kernel
theorem d14 : decode yB 14 = .ok (.aload_n 1, 1) := by decide +kernel
theorem d15 : decode yB 15 = .ok (.checkcast 10, 3) := by decide +kernel
theorem d18 : decode yB 18 = .ok (.astore_n 2, 1) := by decide +kernel
theorem d19 : decode yB 19 = .ok (.getstatic 38, 3) := by decide +kernel
theorem d22 : decode yB 22 = .ok (.ifCond (.eq) 14, 3) := by decide +kernel
theorem d25 : decode yB 25 = .ok (.aload_n 0, 1) := by decide +kernel
theorem d26 : decode yB 26 = .ok (.getfield 15, 3) := by decide +kernel
theorem d29 : decode yB 29 = .ok (.aload_n 2, 1) := by decide +kernel
theorem d30 : decode yB 30 = .ok (.getfield 15, 3) := by decide +kernel
theorem d33 : decode yB 33 = .ok (.if_icmp (.ne) 21, 3) := by decide +kernel
theorem d36 : decode yB 36 = .ok (.aload_n 0, 1) := by decide +kernel
theorem d37 : decode yB 37 = .ok (.getfield 9, 3) := by decide +kernel
theorem d40 : decode yB 40 = .ok (.aload_n 2, 1) := by decide +kernel
theorem d41 : decode yB 41 = .ok (.getfield 9, 3) := by decide +kernel
theorem d44 : decode yB 44 = .ok (.invokestatic 541, 3) := by decide +kernel
theorem d47 : decode yB 47 = .ok (.ifCond (.eq) 7, 3) := by decide +kernel
theorem d50 : decode yB 50 = .ok (.iconst 1, 1) := by decide +kernel
theorem d51 : decode yB 51 = .ok (.goto 4, 3) := by decide +kernel
theorem d54 : decode yB 54 = .ok (.iconst 0, 1) := by decide +kernel
theorem d55 : decode yB 55 = .ok (.ireturn, 1) := by decide +kernel
def site : List Cond := [.classLink "java/lang/String" 10 "java/lang/String", .fieldLink "java/lang/String" 38 "java/lang/String" "COMPACT_STRINGS" "Z", .fieldLink "java/lang/String" 15 "java/lang/String" "coder" "B", .fieldLink "java/lang/String" 9 "java/lang/String" "value" "[B", LEq.tab] ++ staticW "java/lang/String" 541 LEq.yN
def tab : Cond := tabOf yN yB 3 (some .boolean) site
def P (x t : Addr) (V : Cell) (cd : Int32) (n : Nat) (f : Nat → Int32) (y t' : Addr) (V' : Cell) (cd' : Int32) (k : Nat) (g : Nat → Int32) (z : Int32) (args : Array Value) (s : State) : Prop := args = #[.ref x, .ref y] ∧ Txt x t V cd n f s ∧ Txt y t' V' cd' k g s ∧ StaticIs s "java/lang/String" "COMPACT_STRINGS" "Z" (.int z) ∧ ¬ z = 0
/-- equals(Object) of two Strings: whether the texts are the same -/
theorem law (l : Launch) (x t : Addr) (V : Cell) (cd : Int32) (n : Nat) (f : Nat → Int32) (y t' : Addr) (V' : Cell) (cd' : Int32) (k : Nat) (g : Nat → Int32) (z : Int32) : Law l yN 2 1 1 14 yB 3 (some .boolean) site (P x t V cd n f y t' V' cd' k g z) (Says01 (SameT n f k g)) [] 0 0 := by
  refine Law.of_walk (plainFor_of_name (by decide +kernel)) (by decide +kernel) (by decide +kernel) (by decide) (fun _ _ h => by rw [h.1]; rfl) (fun _ U U' hal hh h => ⟨h.1, h.2.1.mv hal hh, h.2.2.1.mv hal hh, h.2.2.2.1.there hal hh, h.2.2.2.2⟩) (fun r U U' V V' h1 hal h2 h => Says01.mv r U U' V V' h1 hal h2 h) ?_
  intro p e s m args below meth c s₁ X0 hexec hbytes hml hret hlk hnm hown hh0 W hP
  obtain ⟨rfl, hx, hy, s1, hz⟩ := hP
  have c1 : Steps p.tables e below (s₁.setTop (entryFrame m #[.ref x, .ref y] 3)) (s₁.setTop (mkF m 2 #[.val (.ref x), .val (.ref y), .unset] [.ref y, .ref x])) := Steps.trans (entry rfl) (by
    show Steps p.tables e below (s₁.setTop (mkF m 0 #[.val (.ref x), .val (.ref y), .unset] [])) _
    refine XS.aloadN X0.here hexec rfl (hb hbytes d0) rfl rfl ?_
    refine XS.aloadN X0.here hexec rfl (hb hbytes d1) rfl rfl ?_
    exact Steps.refl _)
  by_cases hxy : x = y
  · have c2 : Steps p.tables e below (s₁.setTop (entryFrame m #[.ref x, .ref y] 3)) (s₁.setTop (mkF m 6 #[.val (.ref x), .val (.ref y), .unset] [.int 1])) := c1.trans (by
      refine acmpNo X0.here hexec rfl (hb hbytes d2) rfl rfl rfl (by simp [acmp, hxy]) ?_
      refine iconstV X0.here hexec rfl 1 (hb hbytes d5) (by decide) ?_
      exact Steps.refl _)
    subst hxy
    have ec : cd = cd' := by
      obtain ⟨D, fd, a1, a2, a3⟩ := hx.2.2.1
      obtain ⟨D', fd', b1, b2, b3⟩ := hy.2.2.1
      cases a1.symm.trans b1
      obtain ⟨q1, q2, q3, q4⟩ := a2.1
      obtain ⟨r1, r2, r3, r4⟩ := b2.1
      cases q4.symm.trans r4
      cases a3.symm.trans b3; rfl
    have et : t = t' := by
      obtain ⟨D, fd, a1, a2, a3⟩ := hx.2.1
      obtain ⟨D', fd', b1, b2, b3⟩ := hy.2.1
      cases a1.symm.trans b1
      obtain ⟨q1, q2, q3, q4⟩ := a2.1
      obtain ⟨r1, r2, r3, r4⟩ := b2.1
      cases q4.symm.trans r4
      cases a3.symm.trans b3; rfl
    subst ec et
    have ev : V = V' := by cases hx.2.2.2.1.1.symm.trans hy.2.2.2.1.1; rfl
    subst ev
    have hs : SameT n f k g := (Cod.eqv hx.2.2.2.2.1 hy.2.2.2.2.1 hx.2.2.2.2.2 hy.2.2.2.2.2).mp ⟨rfl, fun _ _ => rfl⟩
    exact ⟨s₁, some (.int 1), _, _, _, X0, rfl, rfl, rfl, (fun h => by cases h), ⟨1, rfl, hh0, Or.inl ⟨rfl, hs⟩⟩, fun fs hl => c2.trans (X0.ireturnOut hexec hret rfl (Or.inr (Or.inl rfl)) (hb hbytes d6) hl)⟩
  · have c2 : Steps p.tables e below (s₁.setTop (entryFrame m #[.ref x, .ref y] 3)) (s₁.setTop (mkF m 8 #[.val (.ref x), .val (.ref y), .unset] [.ref y])) := c1.trans (by
      refine acmpYes X0.here hexec rfl (pc0 := 2) rfl (hb hbytes d2) rfl rfl rfl (by simp [acmp, hxy]) (by decide) rfl ?_
      refine XS.aloadN X0.here hexec rfl (hb hbytes d7) rfl rfl ?_
      exact Steps.refl _)
    obtain ⟨T3, X3, q3, st3⟩ := cinst X0 hexec hown (wk W (.classLink "java/lang/String" 10 "java/lang/String")) (hy.mv X0.warmed.alike hh0).1 (g := (mkF m 8 #[.val (.ref x), .val (.ref y), .unset] [.ref y])) rfl (rest := []) rfl (hb hbytes d8)
    have hh3 := q3.trans hh0
    have c4 : Steps p.tables e below (s₁.setTop (entryFrame m #[.ref x, .ref y] 3)) (T3.setTop (mkF m 15 #[.val (.ref x), .val (.ref y), .unset] [.ref y])) := (c2.trans (st3 _ (Steps.refl _))).trans (by
      refine XS.ifNo X3.here hexec rfl (hb hbytes d11) rfl (i0_eq_f (by decide)) ?_
      refine XS.aloadN X3.here hexec rfl (hb hbytes d14) rfl rfl ?_
      exact Steps.refl _)
    obtain ⟨T5, X5, q5, st5⟩ := cself X3 hexec hown (wk W (.classLink "java/lang/String" 10 "java/lang/String")) (hy.mv X3.warmed.alike hh3).1 (g := (mkF m 15 #[.val (.ref x), .val (.ref y), .unset] [.ref y])) rfl (rest := []) rfl (hb hbytes d15)
    have hh5 := q5.trans hh3
    have c6 : Steps p.tables e below (s₁.setTop (entryFrame m #[.ref x, .ref y] 3)) (T5.setTop (mkF m 19 #[.val (.ref x), .val (.ref y), .val (.ref y)] [])) := (c4.trans (st5 _ (Steps.refl _))).trans (by
      refine XS.astoreN X5.here hexec rfl (hb hbytes d18) rfl rfl rfl ?_
      exact Steps.refl _)
    obtain ⟨T7, X7, q7, st7⟩ := X5.sget hexec hown (wk W (.fieldLink "java/lang/String" 38 "java/lang/String" "COMPACT_STRINGS" "Z")) s1 (fun _ _ h => by rw [hh5]; exact h) (g := (mkF m 19 #[.val (.ref x), .val (.ref y), .val (.ref y)] [])) rfl (hb hbytes d19)
    have hh7 := q7.trans hh5
    have c8 : Steps p.tables e below (s₁.setTop (entryFrame m #[.ref x, .ref y] 3)) (T7.setTop (mkF m 26 #[.val (.ref x), .val (.ref y), .val (.ref y)] [.ref x])) := (c6.trans (st7 _ (Steps.refl _))).trans (by
      refine XS.ifNo X7.here hexec rfl (hb hbytes d22) rfl (i0_eq_f hz) ?_
      refine XS.aloadN X7.here hexec rfl (hb hbytes d25) rfl rfl ?_
      exact Steps.refl _)
    obtain ⟨T9, X9, q9, st9⟩ := X7.hget hexec hown (wk W (.fieldLink "java/lang/String" 15 "java/lang/String" "coder" "B")) (hx.mv X7.warmed.alike hh7).2.2.1 (g := (mkF m 26 #[.val (.ref x), .val (.ref y), .val (.ref y)] [.ref x])) rfl (rest := []) rfl (hb hbytes d26)
    have hh9 := q9.trans hh7
    have c10 : Steps p.tables e below (s₁.setTop (entryFrame m #[.ref x, .ref y] 3)) (T9.setTop (mkF m 30 #[.val (.ref x), .val (.ref y), .val (.ref y)] [.ref y, .int cd])) := (c8.trans (st9 _ (Steps.refl _))).trans (by
      refine XS.aloadN X9.here hexec rfl (hb hbytes d29) rfl rfl ?_
      exact Steps.refl _)
    obtain ⟨T11, X11, q11, st11⟩ := X9.hget hexec hown (wk W (.fieldLink "java/lang/String" 15 "java/lang/String" "coder" "B")) (hy.mv X9.warmed.alike hh9).2.2.1 (g := (mkF m 30 #[.val (.ref x), .val (.ref y), .val (.ref y)] [.ref y, .int cd])) rfl (rest := [.int cd]) rfl (hb hbytes d30)
    have hh11 := q11.trans hh9
    have c12 : Steps p.tables e below (s₁.setTop (entryFrame m #[.ref x, .ref y] 3)) (T11.setTop (mkF m 33 #[.val (.ref x), .val (.ref y), .val (.ref y)] [.int cd', .int cd])) := c10.trans (st11 _ (Steps.refl _))
    by_cases hcd : cd = cd'
    · subst hcd
      have c13 : Steps p.tables e below (s₁.setTop (entryFrame m #[.ref x, .ref y] 3)) (T11.setTop (mkF m 37 #[.val (.ref x), .val (.ref y), .val (.ref y)] [.ref x])) := c12.trans (by
        refine XS.icmpNo X11.here hexec rfl (hb hbytes d33) rfl (ii_ne_f rfl) ?_
        refine XS.aloadN X11.here hexec rfl (hb hbytes d36) rfl rfl ?_
        exact Steps.refl _)
      obtain ⟨T14, X14, q14, st14⟩ := X11.hget hexec hown (wk W (.fieldLink "java/lang/String" 9 "java/lang/String" "value" "[B")) (hx.mv X11.warmed.alike hh11).2.1 (g := (mkF m 37 #[.val (.ref x), .val (.ref y), .val (.ref y)] [.ref x])) rfl (rest := []) rfl (hb hbytes d37)
      have hh14 := q14.trans hh11
      have c15 : Steps p.tables e below (s₁.setTop (entryFrame m #[.ref x, .ref y] 3)) (T14.setTop (mkF m 41 #[.val (.ref x), .val (.ref y), .val (.ref y)] [.ref y, .ref t])) := (c13.trans (st14 _ (Steps.refl _))).trans (by
        refine XS.aloadN X14.here hexec rfl (hb hbytes d40) rfl rfl ?_
        exact Steps.refl _)
      obtain ⟨T16, X16, q16, st16⟩ := X14.hget hexec hown (wk W (.fieldLink "java/lang/String" 9 "java/lang/String" "value" "[B")) (hy.mv X14.warmed.alike hh14).2.1 (g := (mkF m 41 #[.val (.ref x), .val (.ref y), .val (.ref y)] [.ref y, .ref t])) rfl (rest := [.ref t]) rfl (hb hbytes d41)
      have hh16 := q16.trans hh14
      have c17 : Steps p.tables e below (s₁.setTop (entryFrame m #[.ref x, .ref y] 3)) (T16.setTop (mkF m 44 #[.val (.ref x), .val (.ref y), .val (.ref y)] [.ref t', .ref t])) := c15.trans (st16 _ (Steps.refl _))
      obtain ⟨v18, T18, X18, E18, g18⟩ := X16.callS hexec (LEq.law l t V t' V') hown (wks W (staticW "java/lang/String" 541 LEq.yN)) (wk W LEq.tab) (W := 0) (Nat.le_of_ble_eq_true rfl) (Nat.le_of_ble_eq_true rfl) (Nat.le_refl _) (Nat.le_refl _) (g := (mkF m 44 #[.val (.ref x), .val (.ref y), .val (.ref y)] [.ref t', .ref t])) rfl (by rw [hml]; rfl) c17 (argsL := [.ref t, .ref t']) (rest := []) rfl rfl (by show 2 * 0 + 0 ≤ _; decide) (hb hbytes d44) (⟨rfl, hx.2.2.2.1.mv X16.warmed.alike hh16, hx.2.2.2.2.1.ty, hy.2.2.2.1.mv X16.warmed.alike hh16, hy.2.2.2.2.1.ty⟩)
      obtain ⟨v, rfl, q18, hv⟩ := E18
      have iff := Cod.eqv hx.2.2.2.2.1 hy.2.2.2.2.1 hx.2.2.2.2.2 hy.2.2.2.2.2
      rcases hv with ⟨rfl, he⟩ | ⟨rfl, he⟩
      · have c19 : Steps p.tables e below (s₁.setTop (entryFrame m #[.ref x, .ref y] 3)) (T18.setTop (mkF m 55 #[.val (.ref x), .val (.ref y), .val (.ref y)] [.int 1])) := Steps.trans g18 (by
          refine XS.ifNo X18.here hexec rfl (hb hbytes d47) rfl (i0_eq_f (by decide)) ?_
          refine iconstV X18.here hexec rfl 1 (hb hbytes d50) (by decide) ?_
          refine XS.goto X18.here hexec rfl (pc0 := 51) rfl (hb hbytes d51) (by decide) rfl ?_
          exact Steps.refl _)
        exact ⟨T18, some (.int 1), _, _, _, X18, rfl, rfl, rfl, (fun h => by cases h), ⟨1, rfl, q18.trans hh16, Or.inl ⟨rfl, iff.mp he⟩⟩, fun fs hl => c19.trans (X18.ireturnOut hexec hret rfl (Or.inr (Or.inl rfl)) (hb hbytes d55) hl)⟩
      · have c19 : Steps p.tables e below (s₁.setTop (entryFrame m #[.ref x, .ref y] 3)) (T18.setTop (mkF m 55 #[.val (.ref x), .val (.ref y), .val (.ref y)] [.int 0])) := Steps.trans g18 (by
          refine XS.ifYes X18.here hexec rfl (pc0 := 47) rfl (hb hbytes d47) rfl (i0_eq_t rfl) (by decide) rfl ?_
          refine iconstV X18.here hexec rfl 0 (hb hbytes d54) (by decide) ?_
          exact Steps.refl _)
        exact ⟨T18, some (.int 0), _, _, _, X18, rfl, rfl, rfl, (fun h => by cases h), ⟨0, rfl, q18.trans hh16, Or.inr ⟨rfl, fun q => he (iff.mpr q)⟩⟩, fun fs hl => c19.trans (X18.ireturnOut hexec hret rfl (Or.inr (Or.inl rfl)) (hb hbytes d55) hl)⟩
    · have c13 : Steps p.tables e below (s₁.setTop (entryFrame m #[.ref x, .ref y] 3)) (T11.setTop (mkF m 55 #[.val (.ref x), .val (.ref y), .val (.ref y)] [.int 0])) := c12.trans (by
        refine XS.icmpYes X11.here hexec rfl (pc0 := 33) rfl (hb hbytes d33) rfl (ii_ne_t hcd) (by decide) rfl ?_
        refine iconstV X11.here hexec rfl 0 (hb hbytes d54) (by decide) ?_
        exact Steps.refl _)
      exact ⟨T11, some (.int 0), _, _, _, X11, rfl, rfl, rfl, (fun h => by cases h), ⟨0, rfl, hh11, Or.inr ⟨rfl, Cod.dif hx.2.2.2.2.1 hy.2.2.2.2.1 hcd⟩⟩, fun fs hl => c13.trans (X11.ireturnOut hexec hret rfl (Or.inr (Or.inl rfl)) (hb hbytes d55) hl)⟩
theorem pays {l : Launch} {R : Room} {p : Program} {e : Env} {below : List Frame} {s : State} {sargs : Array Value} {len W : Nat} (x t : Addr) (V : Cell) (cd : Int32) (n : Nat) (f : Nat → Int32) (y t' : Addr) (V' : Cell) (cd' : Int32) (k : Nat) (g : Nat → Int32) (z : Int32) (htab : tab.before sargs s = true) (hfr : 2 ≤ R.frames) (hlo : W + 28 ≤ R.locals) :
    Back l R p e below s sargs yN len W (fun A₁ a₁ => A₁.cells + 0 ≤ R.cells ∧ A₁.slots + 0 ≤ R.slots ∧ P x t V cd n f y t' V' cd' k g z a₁ A₁.U) (fun A₁ _ v₁ B₁ => Says01 (SameT n f k g) v₁ A₁.U B₁.U ∧ B₁.locs = A₁.locs ++ [] ∧ B₁.cells = A₁.cells + 0 ∧ B₁.slots = A₁.slots + 0) :=
  (law l x t V cd n f y t' V' cd' k g z).pays htab hfr (by omega)
end SEq
end StrChars
namespace StrChars.Road
open Jvm Sem ClassFile Op Lib Jvm.Stand Jvm.Free Jvm.Free.XT
open Jvm.Lib.Cold (StaticIs)
/-- the words of String.equals(Object) -/
abbrev wordsEq : List Jvm.Cond := [.code SEq.yN SEq.yB 3 (some .boolean), .initialized ST, .classLink ST 10 ST, .fieldLink ST 38 ST "COMPACT_STRINGS" "Z", .fieldLink ST 15 ST "coder" "B", .fieldLink ST 9 ST "value" "[B", .methodLink ST 541 LEq.yN, .static LEq.yN, .code LEq.yN LEq.yB 3 (some .boolean), .initialized "java/lang/StringLatin1"]
theorem tabEq_of {a : Array Value} {s : State} (h : ∀ w ∈ wordsEq, w.before a s = true) : SEq.tab.before a s = true := by
  have hl : LEq.tab.before a s = true := unparts (wk h (.code LEq.yN LEq.yB 3 (some .boolean))) (wks h (.initialized LEq.yN.cls :: LEq.site))
  have q := consq hl h
  exact unparts (wk q (.code SEq.yN SEq.yB 3 (some .boolean))) (wks q (.initialized SEq.yN.cls :: SEq.site))
theorem movedEq {Z s : State} {a0 args : Array Value} (hZ : Z.Warmed39 s.vm) (hw : ∀ d ∈ wordsEq, d.before a0 Z = true) : ∀ d ∈ wordsEq, d.before args s = true := fun d hd => by
  have t : ∀ d ∈ wordsEq, (d.onTables && d.keepsFace) = true := by decide +kernel
  exact RoadKit.mv hZ (hw d hd) (t d hd)
/-- the road's facts of a String, as the laws ask it -/
theorem txt_of {Z U : State} {a0 : Array Value} {kI : Nat} (wi : (Jvm.Cond.instantiable ST kI).before a0 Z = true) (al : Z.vm.Alike U.vm) {x t : Addr} {kb : ClassId} {cs : List Int32} {cd N2 : Int32} {vs : List Value} (E : RoadKit.Exa Z U.heap x ST) (V : RoadKit.Fld Z U.heap x ST "value" "[B" (.ref t)) (C : RoadKit.Fld Z U.heap x ST "coder" "B" (.int cd)) (K : RoadKit.Arv Z U.heap t kb .byte N2 vs (.int 0)) (hc : CodA cs cd N2 vs) (hb : ∀ c ∈ cs, ¬ c < 0 ∧ ¬ (65535 : Int32) < c) (l2 : cs.length ≤ 4000) :
    ∃ A, Txt x t A cd cs.length (fun j => cs.getD j 0) U := by
  obtain ⟨A, K1, K2, K3, K4, K5, K6⟩ := K
  have hcod := hc.cod (by omega) K3 K5
  obtain ⟨D, fV, fC, hB, F1, F2, g1, g2, -, -⟩ := strObj wi al E V C
  exact ⟨A, ⟨_, hB.2.2.1, D, hB.1, rfl, by cases q : D.vm <;> first | rfl | exact absurd q (hB.2.1.2 _)⟩, Has.of hB F1 g1, Has.of hB F2 g2, ⟨K1.1, State.isArrayOf_alike al K1.2.1, K1.2.2, by rcases hcod with ⟨-, q, -⟩ | ⟨-, q, -⟩ <;> omega⟩, hcod, fun j hj => by
    have e : cs.getD j 0 = cs[j] := by simp [List.getD_eq_getElem?_getD, hj]
    show ¬ cs.getD j 0 < 0 ∧ ¬ 65535 < cs.getD j 0
    rw [e]; exact hb _ (List.getElem_mem _)⟩
theorem same_list (cs ds : List Int32) : SameT cs.length (fun j => cs.getD j 0) ds.length (fun j => ds.getD j 0) ↔ cs = ds := by
  constructor
  · rintro ⟨e, q⟩
    refine List.ext_getElem e fun j h1 h2 => ?_
    have := q j h1
    simpa [List.getD_eq_getElem?_getD, h1, h2] using this
  · rintro rfl
    exact ⟨rfl, fun _ _ => rfl⟩
/-- **equals(Object) OF TWO SUCH STRINGS**: 1 just where the chars are the same -/
theorem eqW {p : Program} {l : Launch} {e : Env} {R : Room} {s : State} {args : Array Value} {below : List Frame} {len W : Nat} {Z : State} {a0 : Array Value} {h : Heap} (hZ : Z.Warmed39 s.vm) (hw : ∀ d ∈ wordsEq, d.before a0 Z = true) {kI : Nat} (wi : (Jvm.Cond.instantiable ST kI).before a0 Z = true)
    {x t : Addr} {kb : ClassId} {cs : List Int32} {cd N2 : Int32} {vs : List Value} (E : RoadKit.Exa Z h x ST) (V : RoadKit.Fld Z h x ST "value" "[B" (.ref t)) (C : RoadKit.Fld Z h x ST "coder" "B" (.int cd)) (K : RoadKit.Arv Z h t kb .byte N2 vs (.int 0)) (hc : CodA cs cd N2 vs) (hb : ∀ c ∈ cs, ¬ c < 0 ∧ ¬ (65535 : Int32) < c) (l2 : cs.length ≤ 4000)
    {y t' : Addr} {kb' : ClassId} {ds : List Int32} {cd' N2' : Int32} {vs' : List Value} (E' : RoadKit.Exa Z h y ST) (V' : RoadKit.Fld Z h y ST "value" "[B" (.ref t')) (C' : RoadKit.Fld Z h y ST "coder" "B" (.int cd')) (K' : RoadKit.Arv Z h t' kb' .byte N2' vs' (.int 0)) (hc' : CodA ds cd' N2' vs') (hb' : ∀ c ∈ ds, ¬ c < 0 ∧ ¬ (65535 : Int32) < c) (l2' : ds.length ≤ 4000)
    {z : Int32} (S : RoadKit.Sta Z h ST "COMPACT_STRINGS" "Z" (.int z)) (hz : ¬ z = 0) (hfr : 2 ≤ R.frames) (hlo : W + 28 ≤ R.locals) :
    Back l R p e below s args (⟨"java/lang/String", "equals", "(Ljava/lang/Object;)Z"⟩ : MethodName) len W (fun P a => a = #[.ref x, .ref y] ∧ P.U.heap = h ∧ P.cells + 0 ≤ R.cells ∧ P.slots + 0 ≤ R.slots)
      (fun P _ v B => ∃ L, (((v = some (.int 1) ∧ cs = ds) ∨ (v = some (.int 0) ∧ ¬ cs = ds)) ∧ L = [] ∧ B.U.heap = h) ∧ B.locs = P.locs ++ L ∧ B.cells = P.cells + 0 ∧ B.slots = P.slots + 0) := by
  intro m meth c P g ig mk a X hg hsize hdg hW hn hp'
  obtain ⟨rfl, rfl, r1, r2⟩ := hp'
  have al : Z.vm.Alike P.U.vm := hZ.alike.trans X.warmed.alike
  obtain ⟨A, hx⟩ := txt_of wi al E V C K hc hb l2
  obtain ⟨A', hy⟩ := txt_of wi al E' V' C' K' hc' hb' l2'
  obtain ⟨v, B, X', ⟨⟨w, hv, hh, hq⟩, hl, hk, hs⟩, st⟩ := SEq.pays x t A cd cs.length (fun j => cs.getD j 0) y t' A' cd' ds.length (fun j => ds.getD j 0) z (tabEq_of (movedEq hZ hw)) hfr hlo m meth c P g ig mk _ X hg hsize hdg hW hn ⟨r1, r2, rfl, hx, hy, sta_is al S, hz⟩
  refine ⟨v, B, X', ⟨[], ⟨?_, rfl, hh⟩, hl, hk, hs⟩, st⟩
  rcases hq with ⟨rfl, q⟩ | ⟨rfl, q⟩
  · exact Or.inl ⟨hv, (same_list cs ds).mp q⟩
  · exact Or.inr ⟨hv, fun e => q ((same_list cs ds).mpr e)⟩
end StrChars.Road
namespace StrChars
open Jvm Sem ClassFile Op Lib Jvm.Stand Jvm.Free.XT Jvm.Free.ALB Jvm.Free.JM Jvm.Free
open Jvm.Lib.Cold (StaticIs)
namespace ChN
def yN : MethodName := ⟨"java/lang/String", "charAt", "(I)C"⟩
abbrev yB : ByteArray := jdk_42_method_56_code
theorem d0 : decode yB 0 = .ok (.aload_n 0, 1) := by decide +kernel
theorem d1 : decode yB 1 = .ok (.invokevirtual 492, 3) := by decide +kernel
theorem d4 : decode yB 4 = .ok (.ifCond (.eq) 12, 3) := by decide +kernel
theorem d7 : decode yB 7 = .ok (.aload_n 0, 1) := by decide +kernel
theorem d8 : decode yB 8 = .ok (.getfield 9, 3) := by decide +kernel
theorem d11 : decode yB 11 = .ok (.iload_n 1, 1) := by decide +kernel
theorem d12 : decode yB 12 = .ok (.invokestatic 495, 3) := by decide +kernel
theorem d15 : decode yB 15 = .ok (.ireturn, 1) := by decide +kernel
def site : List Cond := [.fieldLink "java/lang/String" 9 "java/lang/String" "value" "[B", IsL.tab, LChA.tab] ++ virtW "java/lang/String" 492 "java/lang/String" IsL.yN IsL.yN ++ staticW "java/lang/String" 495 LChA.yN
def tab : Cond := tabOf yN yB 2 (some .char) site
def P (x t : Addr) (V : Cell) (n : Nat) (f : Nat → Int32) (z : Int32) (fm : Value) (i : Nat) (args : Array Value) (s : State) : Prop := args = #[.ref x, .int (Int32.ofNat i)] ∧ Txt x t V 0 n f s ∧ i < n ∧ StaticIs s "java/lang/String" "COMPACT_STRINGS" "Z" (.int z) ∧ ¬ z = 0 ∧ StaticIs s "jdk/internal/util/Preconditions" "SIOOBE_FORMATTER" "Ljava/util/function/BiFunction;" fm ∧ fm.isRef = true
def E (f : Nat → Int32) (i : Nat) (r : Option Value) (s u : State) : Prop := XT.PureE (some (.int (f i))) r s u
/-- charAt(i) of a Latin-1 String of n chars, i < n: f i -/
theorem law (l : Launch) (x t : Addr) (V : Cell) (n : Nat) (f : Nat → Int32) (z : Int32) (fm : Value) (i : Nat) : Law l yN 2 1 3 40 yB 2 (some .char) site (P x t V n f z fm i) (E f i) [] 0 0 := by
  refine Law.of_walk (plainFor_of_name (by decide +kernel)) (by decide +kernel) (by decide +kernel) (by decide) (fun _ _ h => by rw [h.1]; rfl) (fun _ U U' hal hh h => ⟨h.1, h.2.1.mv hal hh, h.2.2.1, h.2.2.2.1.there hal hh, h.2.2.2.2.1, h.2.2.2.2.2.1.there hal hh, h.2.2.2.2.2.2⟩) (fun r U U' V V' h1 hal h2 h => XT.PureE.mv r U U' V V' h1 hal h2 h) ?_
  intro p e s m args below meth c s₁ X0 hexec hbytes hml hret hlk hnm hown hh0 W hP
  obtain ⟨rfl, hx, hi, s1, hz, s3, rf⟩ := hP
  have v31 := hx.2.2.2.1.2.2.2
  have hr := hx.2.2.2.2.2 i hi
  have hx0 := hx.mv X0.warmed.alike hh0
  have c1 : Steps p.tables e below (s₁.setTop (entryFrame m #[.ref x, .int (Int32.ofNat i)] 2)) (s₁.setTop (mkF m 1 #[.val (.ref x), .val (.int (Int32.ofNat i))] [.ref x])) := Steps.trans (entry rfl) (by
    show Steps p.tables e below (s₁.setTop (mkF m 0 #[.val (.ref x), .val (.int (Int32.ofNat i))] [])) _
    refine XS.aloadN X0.here hexec rfl (hb hbytes d0) rfl rfl ?_
    exact Steps.refl _)
  obtain ⟨v2, T2, X2, E2, g2⟩ := X0.callV hexec (IsL.law l x 0 z) hown (wks W (virtW "java/lang/String" 492 "java/lang/String" IsL.yN IsL.yN)) rfl (by decide) (wk W IsL.tab) (W := 0) (Nat.le_of_ble_eq_true rfl) (Nat.le_of_ble_eq_true rfl) (Nat.le_refl _) (Nat.le_refl _) (hx0.1.fc X0.warmed.alike) hx0.1.is (g := (mkF m 1 #[.val (.ref x), .val (.int (Int32.ofNat i))] [.ref x])) rfl (by rw [hml]; rfl) c1 (argsL := []) (rest := []) rfl rfl (by show 2 * 0 + 0 ≤ _; decide) (hb hbytes d1) (⟨rfl, hx0.2.2.1, hx.2.2.2.2.1.cd, s1.there X0.warmed.alike hh0, hz⟩)
  obtain ⟨rfl, q2⟩ := E2
  have hh2 := q2.trans hh0
  have hx2 := hx.mv X2.warmed.alike hh2
  obtain ⟨-, k1, k2⟩ | ⟨k0, -⟩ := hx.2.2.2.2.1
  · have c3 : Steps p.tables e below (s₁.setTop (entryFrame m #[.ref x, .int (Int32.ofNat i)] 2)) (T2.setTop (mkF m 8 #[.val (.ref x), .val (.int (Int32.ofNat i))] [.ref x])) := Steps.trans g2 (by
      refine XS.ifNo X2.here hexec rfl (hb hbytes d4) rfl (i0_eq_f (by decide)) ?_
      refine XS.aloadN X2.here hexec rfl (hb hbytes d7) rfl rfl ?_
      exact Steps.refl _)
    obtain ⟨T4, X4, q4, st4⟩ := X2.hget hexec hown (wk W (.fieldLink "java/lang/String" 9 "java/lang/String" "value" "[B")) hx2.2.1 (g := (mkF m 8 #[.val (.ref x), .val (.int (Int32.ofNat i))] [.ref x])) rfl (rest := []) rfl (hb hbytes d8)
    have hh4 := q4.trans hh2
    have c5 : Steps p.tables e below (s₁.setTop (entryFrame m #[.ref x, .int (Int32.ofNat i)] 2)) (T4.setTop (mkF m 12 #[.val (.ref x), .val (.int (Int32.ofNat i))] [.int (Int32.ofNat i), .ref t])) := (c3.trans (st4 _ (Steps.refl _))).trans (by
      refine XS.iloadN X4.here hexec rfl (hb hbytes d11) rfl ?_
      exact Steps.refl _)
    obtain ⟨v6, T6, X6, E6, g6⟩ := X4.callS hexec (LChA.law l t V i (lo8 (f i)) fm) hown (wks W (staticW "java/lang/String" 495 LChA.yN)) (wk W LChA.tab) (W := 0) (Nat.le_of_ble_eq_true rfl) (Nat.le_of_ble_eq_true rfl) (Nat.le_refl _) (Nat.le_refl _) (g := (mkF m 12 #[.val (.ref x), .val (.int (Int32.ofNat i))] [.int (Int32.ofNat i), .ref t])) rfl (by rw [hml]; rfl) c5 (argsL := [.ref t, .int (Int32.ofNat i)]) (rest := []) rfl rfl (by show 2 * 0 + 0 ≤ _; decide) (hb hbytes d12) (⟨rfl, hx.2.2.2.1.mv X4.warmed.alike hh4, (k2 i hi).1, s3.there X4.warmed.alike hh4, rf⟩)
    obtain ⟨rfl, q6⟩ := E6
    rw [chr8_lo8 hr.1 (k2 i hi).2] at g6
    exact ⟨T6, some (.int (f i)), _, _, _, X6, rfl, rfl, rfl, (fun h => by cases h), ⟨rfl, q6.trans hh4⟩, fun fs hl => Steps.trans g6 (X6.ireturnOut hexec hret (narrow_ch hr.1 hr.2) (Or.inr (Or.inr (Or.inr (Or.inl rfl)))) (hb hbytes d15) hl)⟩
  · exact absurd k0 (by decide)
theorem pays {l : Launch} {R : Room} {p : Program} {e : Env} {below : List Frame} {s : State} {sargs : Array Value} {len W : Nat} (x t : Addr) (V : Cell) (n : Nat) (f : Nat → Int32) (z : Int32) (fm : Value) (i : Nat) (htab : tab.before sargs s = true) (hfr : 4 ≤ R.frames) (hlo : W + 53 ≤ R.locals) :
    Back l R p e below s sargs yN len W (fun A₁ a₁ => A₁.cells + 0 ≤ R.cells ∧ A₁.slots + 0 ≤ R.slots ∧ P x t V n f z fm i a₁ A₁.U) (fun A₁ _ v₁ B₁ => E f i v₁ A₁.U B₁.U ∧ B₁.locs = A₁.locs ++ [] ∧ B₁.cells = A₁.cells + 0 ∧ B₁.slots = A₁.slots + 0) :=
  (law l x t V n f z fm i).pays htab hfr (by omega)
end ChN
end StrChars
namespace StrChars.Road
open Jvm Sem ClassFile Op Lib Jvm.Stand Jvm.Free Jvm.Free.XT
open Jvm.Lib.Cold (StaticIs)
/-- the words of String.charAt(int), the Latin-1 road alone -/
abbrev wordsChN : List Jvm.Cond := [.code ChN.yN ChN.yB 2 (some .char), .initialized ST, .fieldLink ST 9 ST "value" "[B", .fieldLink ST 38 ST "COMPACT_STRINGS" "Z", .fieldLink ST 15 ST "coder" "B", .code IsL.yN IsL.yB 1 (some .boolean), .methodLink ST 492 IsL.yN, .declares IsL.yN, .selects ST IsL.yN IsL.yN, .instanceMethod IsL.yN,
  .methodLink ST 495 LChA.yN, .static LChA.yN, .code LChA.yN LChA.yB 2 (some .char), .initialized "java/lang/StringLatin1", .methodLink "java/lang/StringLatin1" 9 JO.Str_checkIndex.yN, .static JO.Str_checkIndex.yN, .code JO.Str_checkIndex.yN JO.Str_checkIndex.yB 2 none,
  .fieldLink ST 1053 "jdk/internal/util/Preconditions" "SIOOBE_FORMATTER" "Ljava/util/function/BiFunction;", .methodLink ST 1059 JC.PreCheck.yN, .static JC.PreCheck.yN, .code JC.PreCheck.yN JC.PreCheck.yB 3 (some .int), .initialized "jdk/internal/util/Preconditions"]
theorem tabChN_of {a : Array Value} {s : State} (h : ∀ w ∈ wordsChN, w.before a s = true) : ChN.tab.before a s = true := by
  have hp : JC.PreCheck.tab.before a s = true := unparts (wk h (.code JC.PreCheck.yN JC.PreCheck.yB 3 (some .int))) (wks h (.initialized JC.PreCheck.yN.cls :: JC.PreCheck.site))
  have qk := consq hp h
  have hk : JO.Str_checkIndex.tab.before a s = true := unparts (wk qk (.code JO.Str_checkIndex.yN JO.Str_checkIndex.yB 2 none)) (wks qk (.initialized JO.Str_checkIndex.yN.cls :: JO.Str_checkIndex.site))
  have ql := consq hk h
  have hl : LChA.tab.before a s = true := unparts (wk ql (.code LChA.yN LChA.yB 2 (some .char))) (wks ql (.initialized LChA.yN.cls :: LChA.site))
  have hi : IsL.tab.before a s = true := unparts (wk h (.code IsL.yN IsL.yB 1 (some .boolean))) (wks h (.initialized IsL.yN.cls :: IsL.site))
  have q := consq hi (consq hl h)
  exact unparts (wk q (.code ChN.yN ChN.yB 2 (some .char))) (wks q (.initialized ChN.yN.cls :: ChN.site))
theorem movedChN {Z s : State} {a0 args : Array Value} (hZ : Z.Warmed39 s.vm) (hw : ∀ d ∈ wordsChN, d.before a0 Z = true) : ∀ d ∈ wordsChN, d.before args s = true := fun d hd => by
  have t : ∀ d ∈ wordsChN, (d.onTables && d.keepsFace) = true := by decide +kernel
  exact RoadKit.mv hZ (hw d hd) (t d hd)
/-- **charAt(i) OF A LATIN-1 STRING**, i < n: the char -/
theorem chN {p : Program} {l : Launch} {e : Env} {R : Room} {s : State} {args : Array Value} {below : List Frame} {len W : Nat} {Z : State} {a0 : Array Value} {h : Heap} (hZ : Z.Warmed39 s.vm) (hw : ∀ d ∈ wordsChN, d.before a0 Z = true) {kI : Nat} (wi : (Jvm.Cond.instantiable ST kI).before a0 Z = true)
    {x t : Addr} {kb : ClassId} {cs : List Int32} {N2 z : Int32} {vs : List Value} {fm : Value} {i : Nat} {j : Int32} (E : RoadKit.Exa Z h x ST) (V : RoadKit.Fld Z h x ST "value" "[B" (.ref t)) (C : RoadKit.Fld Z h x ST "coder" "B" (.int 0)) (K : RoadKit.Arv Z h t kb .byte N2 vs (.int 0)) (hc : CodA cs 0 N2 vs) (hb : ∀ c ∈ cs, ¬ c < 0 ∧ ¬ (65535 : Int32) < c)
    (S : RoadKit.Sta Z h ST "COMPACT_STRINGS" "Z" (.int z)) (hz : ¬ z = 0) (F : RoadKit.Sta Z h "jdk/internal/util/Preconditions" "SIOOBE_FORMATTER" "Ljava/util/function/BiFunction;" fm) (rf : fm.isRef = true) (l2 : cs.length ≤ 4000) (hi : i < cs.length) (hj : j = Int32.ofNat i) (hfr : 4 ≤ R.frames) (hlo : W + 53 ≤ R.locals) :
    Back l R p e below s args (⟨"java/lang/String", "charAt", "(I)C"⟩ : MethodName) len W (fun P a => a = #[.ref x, .int j] ∧ P.U.heap = h ∧ P.cells + 0 ≤ R.cells ∧ P.slots + 0 ≤ R.slots)
      (fun P _ v B => ∃ L, (v = some (.int (cs.getD i 0)) ∧ L = [] ∧ B.U.heap = h) ∧ B.locs = P.locs ++ L ∧ B.cells = P.cells + 0 ∧ B.slots = P.slots + 0) := by
  subst hj
  intro m meth c P g ig mk a X hg hsize hdg hW hn hp'
  obtain ⟨rfl, rfl, r1, r2⟩ := hp'
  have al : Z.vm.Alike P.U.vm := hZ.alike.trans X.warmed.alike
  obtain ⟨A, hx⟩ := txt_of wi al E V C K hc hb l2
  obtain ⟨v, B, X', ⟨⟨hv, hh⟩, hl, hk, hs⟩, st⟩ := ChN.pays x t A cs.length (fun j => cs.getD j 0) z fm i (tabChN_of (movedChN hZ hw)) hfr hlo m meth c P g ig mk _ X hg hsize hdg hW hn ⟨r1, r2, rfl, hx, hi, sta_is al S, hz, sta_is al F, rf⟩
  exact ⟨v, B, X', ⟨[], ⟨hv, rfl, hh⟩, hl, hk, hs⟩, st⟩
/-- what backV says of its String, as the contracts of this text ask it: cs's low bytes, coder 0 -/
theorem codOf {cs : List Int32} {n : Nat} (hn : cs.length = n) (hb : ∀ c ∈ cs, ¬ 255 < c) : CodA cs 0 (Int32.ofNat n) ((cs.map lo8).map Value.int) := Or.inl ⟨rfl, by rw [hn], by simp [List.map_map, Function.comp_def], hb⟩
end StrChars.Road
end Jvm.Pilot.@@N@@
namespace Jvm.Pilot.@@N@@
open Jvm Jvm.ClassFile Sem Op Lib Jvm.Free Jvm.Stand Jvm.LawKit Jvm.RoadKit Bundle Jvm.Pilot.@@N@@.Jvm.D
def own_EL : List (String × Nat) := [("com/example/caddisfly/caddisfly/Syntax", 193), ("com/example/caddisfly/caddisfly/Syntax", 195), ("com/example/caddisfly/caddisfly/SyntaxIsHelpPinLaw", 7), ("java/lang/String", 7)]
theorem own_EW {Z : State} {a0 : Array Value} (hw : ∀ d ∈ tables_1, d.before a0 Z = true) : EW Z a0 own_EL := (EW.cons (hw _ (List.mem_of_getElem? (i := 33) rfl)) (by decide) (EW.cons (hw _ (List.mem_of_getElem? (i := 45) rfl)) (by decide) (EW.cons (hw _ (List.mem_of_getElem? (i := 56) rfl)) (by decide) (EW.cons (hw _ (List.mem_of_getElem? (i := 21) rfl)) (by decide) EW.nil))))
theorem own_wS {Z : State} {a0 : Array Value} (hw : ∀ d ∈ tables_1, d.before a0 Z = true) : ∀ a ∈ Bundle.stringAtoms, a.before a0 Z = true := fun d hd => hw d ((by decide +kernel : ∀ d ∈ Bundle.stringAtoms, d ∈ tables_1) d hd)
theorem own_and255 (x : Int32) : ¬ nar .char ((x &&& (255 : Int32)).toUInt32.toUInt16.toUInt32.toInt32) < 0 ∧ ¬ (255 : Int32) < nar .char ((x &&& (255 : Int32)).toUInt32.toUInt16.toUInt32.toInt32) := by
  have h := c_i2c (x &&& (255 : Int32)); have h2 := c_and x 255 (by decide)
  have h3 := c_i2c ((x &&& (255 : Int32)).toUInt32.toUInt16.toUInt32.toInt32)
  have e : (255 : Int32).toInt = 255 := by decide
  have z : (0 : Int32).toInt = 0 := by decide
  show ¬ ((x &&& (255 : Int32)).toUInt32.toUInt16.toUInt32.toInt32).toUInt32.toUInt16.toUInt32.toInt32 < 0 ∧ ¬ (255 : Int32) < ((x &&& (255 : Int32)).toUInt32.toUInt16.toUInt32.toInt32).toUInt32.toUInt16.toUInt32.toInt32
  simp only [Int32.lt_iff_toInt_lt]
  omega
theorem own_narc (x : Int32) : nar .char (x.toUInt32.toUInt16.toUInt32.toInt32) = x.toUInt32.toUInt16.toUInt32.toInt32 := by
  show (x.toUInt32.toUInt16.toUInt32.toInt32).toUInt32.toUInt16.toUInt32.toInt32 = _
  simp only [UInt32.toUInt32_toInt32, UInt16.toUInt16_toUInt32]
theorem own_narb (x : Int32) : nar .byte (x.toInt8.toInt32) = x.toInt8.toInt32 := by
  show (x.toInt8.toInt32).toInt8.toInt32 = _
  simp
theorem own_ci (x : Int32) : ¬ (x &&& (255 : Int32)).toUInt32.toUInt16.toUInt32.toInt32 < 0 ∧ ¬ (255 : Int32) < (x &&& (255 : Int32)).toUInt32.toUInt16.toUInt32.toInt32 := by
  have h := c_i2c (x &&& (255 : Int32)); have h2 := c_and x 255 (by decide)
  have e : (255 : Int32).toInt = 255 := by decide
  have z : (0 : Int32).toInt = 0 := by decide
  simp only [Int32.lt_iff_toInt_lt]
  omega


/-- a String at a spells cs (each 0 to 255) -/
def Str (Z : State) (h : Heap) (a : Addr) (cs : List Int32) : Prop := ∃ (t : Addr) (kb : ClassId), Exa Z h a "java/lang/String" ∧ Fld Z h a "java/lang/String" "coder" "B" (.int 0) ∧ Fld Z h a "java/lang/String" "value" "[B" (.ref t) ∧ Arv Z h t kb .byte (Int32.ofNat cs.length) ((cs.map (fun c => c.toInt8.toInt32)).map Value.int) (.int 0)
theorem Str.exa {Z : State} {h : Heap} {a : Addr} {cs : List Int32} (F : Str Z h a cs) : Exa Z h a "java/lang/String" := by obtain ⟨t, kb, E, -⟩ := F; exact E
theorem Str.lt {Z : State} {h : Heap} {a : Addr} {cs : List Int32} (F : Str Z h a cs) : a < h.size := F.exa.lt
theorem Str.ext {Z : State} {h h' : Heap} {a : Addr} {cs : List Int32} (F : Str Z h a cs) (E : Ext h h') : Str Z h' a cs := by obtain ⟨t, kb, x, c, v, k⟩ := F; exact ⟨t, kb, x.ext E, c.ext E, v.ext E, k.ext E⟩
theorem Str.keep0 {Z : State} {h h' : Heap} {a : Addr} {cs : List Int32} (F : Str Z h a cs) (K : Keep h h' []) : Str Z h' a cs := by obtain ⟨t, kb, x, c, v, k⟩ := F; exact ⟨t, kb, x.keep K, c.keep K nin0, v.keep K nin0, k.keep K nin0⟩
theorem Str.keepE {Z : State} {h h' : Heap} {a b : Addr} {C : String} {cs : List Int32} (F : Str Z h a cs) (K : Keep h h' [b]) (E : Exa Z h b C) (hC : C ≠ "java/lang/String") {a0 : Array Value} {n : Nat} (w : (Cond.instantiable C n).before a0 Z = true) : Str Z h' a cs := by
  obtain ⟨t, kb, x, c, v, k⟩ := F
  have n1 : a ≠ b := Ne.symm (Exa.ne E x hC)
  have n2 : t ≠ b := Ne.symm (Exa.neArv E k w)
  exact ⟨t, kb, x.keep K, c.keep K (ninS n1 nin0), v.keep K (ninS n1 nin0), k.keep K (ninS n2 nin0)⟩
theorem Str.wrE {Z : State} {h h' : Heap} {a b : Addr} {C : String} {cs : List Int32} {sl : Nat} {v : Value} (F : Str Z h a cs) (W : Wr h h' b sl v) (E : Exa Z h b C) (hC : C ≠ "java/lang/String") {a0 : Array Value} {n : Nat} (w : (Cond.instantiable C n).before a0 Z = true) : Str Z h' a cs := F.keepE (Keep.of_wr W) E hC w
theorem own_up {cs : List Int32} (hb : ∀ c ∈ cs, ¬ c < 0 ∧ ¬ (255 : Int32) < c) : ∀ c ∈ cs, ¬ c < 0 ∧ ¬ (65535 : Int32) < c := fun c hc => by
  have h := hb c hc
  have e1 : (255 : Int32).toInt = 255 := by decide
  have e2 : (65535 : Int32).toInt = 65535 := by decide
  simp only [Int32.lt_iff_toInt_lt] at h ⊢
  omega

theorem own_eqB {p : Program} {l : Launch} {e : Env} {R : Room} {s : State} {args : Array Value} {below : List Frame} {len W : Nat} {Z : State} {a0 : Array Value} {h : Heap} {x y : Addr} {cs ds : List Int32} {z : Int32} (hZ : Z.Warmed39 s.vm) (hw : ∀ d ∈ tables_1, d.before a0 Z = true) (F : Str Z h x cs) (hb : ∀ c ∈ cs, ¬ c < 0 ∧ ¬ (255 : Int32) < c) (l2 : cs.length ≤ 4000) (F' : Str Z h y ds) (hb' : ∀ c ∈ ds, ¬ c < 0 ∧ ¬ (255 : Int32) < c) (l2' : ds.length ≤ 4000)
    (S : Sta Z h "java/lang/String" "COMPACT_STRINGS" "Z" (.int z)) (hz : ¬ z = 0) (hfr : 2 ≤ R.frames) (hlo : W + 28 ≤ R.locals) :
    Back l R p e below s args (⟨"java/lang/String", "equals", "(Ljava/lang/Object;)Z"⟩ : MethodName) len W (fun P a => a = #[.ref x, .ref y] ∧ P.U.heap = h ∧ P.cells + 0 ≤ R.cells ∧ P.slots + 0 ≤ R.slots)
      (fun P _ v B => ∃ L, (((v = some (.int 1) ∧ cs = ds) ∨ (v = some (.int 0) ∧ ¬ cs = ds)) ∧ L = [] ∧ B.U.heap = h) ∧ B.locs = P.locs ++ L ∧ B.cells = P.cells + 0 ∧ B.slots = P.slots + 0) := by
  obtain ⟨t, kb, E, C, V, K⟩ := F
  obtain ⟨t', kb', E', C', V', K'⟩ := F'
  exact StrChars.Road.eqW hZ (fun d hd => hw d ((by decide +kernel : ∀ d ∈ StrChars.Road.wordsEq, d ∈ tables_1) d hd)) (kI := 4) (hw _ (List.mem_of_getElem? (i := 8) rfl)) E V C K (StrChars.Road.codOf rfl fun c hc => (hb c hc).2) (own_up hb) l2 E' V' C' K' (StrChars.Road.codOf rfl fun c hc => (hb' c hc).2) (own_up hb') l2' S hz hfr hlo

theorem own_chB {p : Program} {l : Launch} {e : Env} {R : Room} {s : State} {args : Array Value} {below : List Frame} {len W : Nat} {Z : State} {a0 : Array Value} {h : Heap} {x : Addr} {cs : List Int32} {z : Int32} {fm : Value} {i : Nat} {j : Int32} (hZ : Z.Warmed39 s.vm) (hw : ∀ d ∈ tables_1, d.before a0 Z = true) (F : Str Z h x cs) (hb : ∀ c ∈ cs, ¬ c < 0 ∧ ¬ (255 : Int32) < c)
    (S : Sta Z h "java/lang/String" "COMPACT_STRINGS" "Z" (.int z)) (hz : ¬ z = 0) (G : Sta Z h "jdk/internal/util/Preconditions" "SIOOBE_FORMATTER" "Ljava/util/function/BiFunction;" fm) (rf : fm.isRef = true) (l2 : cs.length ≤ 4000) (hi : i < cs.length) (hj : j = Int32.ofNat i) (hfr : 4 ≤ R.frames) (hlo : W + 53 ≤ R.locals) :
    Back l R p e below s args (⟨"java/lang/String", "charAt", "(I)C"⟩ : MethodName) len W (fun P a => a = #[.ref x, .int j] ∧ P.U.heap = h ∧ P.cells + 0 ≤ R.cells ∧ P.slots + 0 ≤ R.slots)
      (fun P _ v B => ∃ L, (v = some (.int (cs.getD i 0)) ∧ L = [] ∧ B.U.heap = h) ∧ B.locs = P.locs ++ L ∧ B.cells = P.cells + 0 ∧ B.slots = P.slots + 0) := by
  obtain ⟨t, kb, E, C, V, K⟩ := F
  exact StrChars.Road.chN hZ (fun d hd => hw d ((by decide +kernel : ∀ d ∈ StrChars.Road.wordsChN, d ∈ tables_1) d hd)) (kI := 4) (hw _ (List.mem_of_getElem? (i := 8) rfl)) E V C K (StrChars.Road.codOf rfl fun c hc => (hb c hc).2) (own_up hb) S hz G rf l2 hi hj hfr hlo

theorem own_nc {x : Int32} (h : ¬ x < 0 ∧ ¬ (255 : Int32) < x) : nar .char x = x := by
  have a := c_i2c x
  have e : (255 : Int32).toInt = 255 := by decide
  have z : (0 : Int32).toInt = 0 := by decide
  show x.toUInt32.toUInt16.toUInt32.toInt32 = x
  simp only [Int32.lt_iff_toInt_lt] at h
  rw [← Int32.toInt_inj]
  omega
theorem own_nb {x : Int32} (h : ¬ x < 0 ∧ ¬ (255 : Int32) < x) : ¬ nar .char x < 0 ∧ ¬ (255 : Int32) < nar .char x := by rw [own_nc h]; exact h
theorem own_getD {cs : List Int32} (hb : ∀ c ∈ cs, ¬ c < 0 ∧ ¬ (255 : Int32) < c) {i : Nat} (hi : i < cs.length) : ¬ cs.getD i 0 < 0 ∧ ¬ (255 : Int32) < cs.getD i 0 := by
  rw [List.getD_eq_getElem?_getD, List.getElem?_eq_getElem hi]
  exact hb _ (List.getElem_mem hi)
theorem own_m5 (x : Int32) : ∃ i : Nat, i < 5 ∧ (x &&& (255 : Int32)) % (5 : Int32) = Int32.ofNat i := by
  have a := c_and x 255 (by decide)
  have b := (c_iremV (x &&& (255 : Int32)) 5).1 a.1 (by decide)
  have e5 : (5 : Int32).toInt = 5 := by decide
  refine ⟨((x &&& (255 : Int32)) % (5 : Int32)).toInt.toNat, by omega, ?_⟩
  rw [← Int32.toInt_inj, Int32.toInt_ofNat_of_lt (by omega)]
  omega
def own_mk (p0 p1 p2 p3 p4 p5 p6 p7 : Int32) : List Int32 :=
  if p0 = (0 : Int32) then [] else if p0 = (1 : Int32) then [p1] else if p0 = (2 : Int32) then [p1, p2] else if p0 = (3 : Int32) then [p1, p2, p3] else if p0 = (4 : Int32) then [p1, p2, p3, p4] else if p0 = (5 : Int32) then [p1, p2, p3, p4, p5] else if p0 = (6 : Int32) then [p1, p2, p3, p4, p5, p6] else [p1, p2, p3, p4, p5, p6, p7]
theorem own_mk_cases (p0 p1 p2 p3 p4 p5 p6 p7 : Int32) {P : List Int32 → Prop} (h0 : p0 = 0 → P []) (h1 : p0 = 1 → P [p1]) (h2 : p0 = 2 → P [p1, p2]) (h3 : p0 = 3 → P [p1, p2, p3]) (h4 : p0 = 4 → P [p1, p2, p3, p4]) (h5 : p0 = 5 → P [p1, p2, p3, p4, p5]) (h6 : p0 = 6 → P [p1, p2, p3, p4, p5, p6])
    (h7 : ¬ p0 = 0 → ¬ p0 = 1 → ¬ p0 = 2 → ¬ p0 = 3 → ¬ p0 = 4 → ¬ p0 = 5 → ¬ p0 = 6 → P [p1, p2, p3, p4, p5, p6, p7]) : P (own_mk p0 p1 p2 p3 p4 p5 p6 p7) := by
  unfold own_mk
  by_cases e0 : p0 = 0
  · rw [if_pos e0]; exact h0 e0
  rw [if_neg e0]; by_cases e1 : p0 = 1
  · rw [if_pos e1]; exact h1 e1
  rw [if_neg e1]; by_cases e2 : p0 = 2
  · rw [if_pos e2]; exact h2 e2
  rw [if_neg e2]; by_cases e3 : p0 = 3
  · rw [if_pos e3]; exact h3 e3
  rw [if_neg e3]; by_cases e4 : p0 = 4
  · rw [if_pos e4]; exact h4 e4
  rw [if_neg e4]; by_cases e5 : p0 = 5
  · rw [if_pos e5]; exact h5 e5
  rw [if_neg e5]; by_cases e6 : p0 = 6
  · rw [if_pos e6]; exact h6 e6
  rw [if_neg e6]; exact h7 e0 e1 e2 e3 e4 e5 e6
theorem own_mk_hb {p0 p1 p2 p3 p4 p5 p6 p7 : Int32} (b1 : ¬ p1 < 0 ∧ ¬ (255 : Int32) < p1) (b2 : ¬ p2 < 0 ∧ ¬ (255 : Int32) < p2) (b3 : ¬ p3 < 0 ∧ ¬ (255 : Int32) < p3) (b4 : ¬ p4 < 0 ∧ ¬ (255 : Int32) < p4) (b5 : ¬ p5 < 0 ∧ ¬ (255 : Int32) < p5) (b6 : ¬ p6 < 0 ∧ ¬ (255 : Int32) < p6) (b7 : ¬ p7 < 0 ∧ ¬ (255 : Int32) < p7) :
    (∀ c ∈ own_mk p0 p1 p2 p3 p4 p5 p6 p7, ¬ c < 0 ∧ ¬ (255 : Int32) < c) ∧ (own_mk p0 p1 p2 p3 p4 p5 p6 p7).length ≤ 4000 := by
  refine own_mk_cases p0 p1 p2 p3 p4 p5 p6 p7 (P := fun L => (∀ c ∈ L, ¬ c < 0 ∧ ¬ (255 : Int32) < c) ∧ L.length ≤ 4000) ?_ ?_ ?_ ?_ ?_ ?_ ?_ ?_
  all_goals (intros; refine ⟨?_, by simp⟩; intro c hc; simp only [List.mem_cons, List.not_mem_nil, or_false] at hc)
  · rcases hc with rfl; exact b1
  · rcases hc with rfl | rfl <;> assumption
  · rcases hc with rfl | rfl | rfl <;> assumption
  · rcases hc with rfl | rfl | rfl | rfl <;> assumption
  · rcases hc with rfl | rfl | rfl | rfl | rfl <;> assumption
  · rcases hc with rfl | rfl | rfl | rfl | rfl | rfl <;> assumption
  · rcases hc with rfl | rfl | rfl | rfl | rfl | rfl | rfl <;> assumption
theorem own_mk_h (p0 p1 p2 p3 p4 p5 p6 p7 : Int32) : own_mk p0 p1 p2 p3 p4 p5 p6 p7 = ([45, 104] : List Int32) ↔ p0 = (2 : Int32) ∧ p1 = (45 : Int32) ∧ p2 = (104 : Int32) := by
  refine own_mk_cases p0 p1 p2 p3 p4 p5 p6 p7 (P := fun L => L = ([45, 104] : List Int32) ↔ p0 = (2 : Int32) ∧ p1 = (45 : Int32) ∧ p2 = (104 : Int32)) ?_ ?_ ?_ ?_ ?_ ?_ ?_ ?_
  all_goals (intros; simp_all)
theorem own_mk_help (p0 p1 p2 p3 p4 p5 p6 p7 : Int32) : own_mk p0 p1 p2 p3 p4 p5 p6 p7 = ([45, 45, 104, 101, 108, 112] : List Int32) ↔ p0 = (6 : Int32) ∧ p1 = (45 : Int32) ∧ p2 = (45 : Int32) ∧ p3 = (104 : Int32) ∧ p4 = (101 : Int32) ∧ p5 = (108 : Int32) ∧ p6 = (112 : Int32) := by
  refine own_mk_cases p0 p1 p2 p3 p4 p5 p6 p7 (P := fun L => L = ([45, 45, 104, 101, 108, 112] : List Int32) ↔ p0 = (6 : Int32) ∧ p1 = (45 : Int32) ∧ p2 = (45 : Int32) ∧ p3 = (104 : Int32) ∧ p4 = (101 : Int32) ∧ p5 = (108 : Int32) ∧ p6 = (112 : Int32)) ?_ ?_ ?_ ?_ ?_ ?_ ?_ ?_
  all_goals (intros; simp_all)
theorem own_safe_new {Z : State} {EL : List (String × Nat)} {vm : Vm} {h : Heap} {x : Addr} (hal : Z.vm.Alike vm) (E : Exa Z h x "java/lang/String") (F : Fld Z h x "java/lang/String" "value" "[B" .null) : Safe Z EL vm h x := fun B => by
  obtain ⟨p, hp, u, a, hb, q, hqa, S, hy⟩ := B
  obtain ⟨cS, ⟨⟨s1, s2, s3, ⟨cv, kv, iv, s4, s4'⟩, ⟨cc, kc, ic, s5, s5'⟩, s6, s7, s8, s9, s10, s11, s12, s13, s14, s15, s16⟩, hfS, hcS⟩, ⟨kS, k1, k2, k3⟩, hB, hbyt⟩ := S
  rcases hy with hy | hy
  · obtain ⟨cell, cf, k, i, f, h1, h2, h3, h4, h5, h6, h7⟩ := F
    obtain ⟨kv', z4⟩ := ff_back (U := Wst Z vm h) hal s4
    subst hy
    have s1' : h[q.sa]? = some q.sC := s1
    cases h1.symm.trans s1'
    cases h2.symm.trans z4
    cases h7.symm.trans s8
  · obtain ⟨cell, k, h1, h2, -⟩ := E
    subst hy
    have s10' : h[q.sd]? = some q.SA := s10
    cases h1.symm.trans s10'
    have hB' : vm.findClass "[B" = some q.SA.cls := hB
    rw [hal.findClass] at hB'
    exact ids_ne h2 hB' (by decide) rfl
theorem ef_0 (m : MethodId) (x0 : Addr) (x1 : Addr) (x2 : Int32) (x3 : Int32) : entryFrame m #[(.ref x0), (.ref x1), (.int x2), (.int x3), .null] 6 = mkF m 0 #[.val (.ref x0), .val (.ref x1), .val (.int x2), .val (.int x3), .val .null, .unset] [] := by first | (simp [entryFrame, mkF, argsToLocals, Value.category]; done) | rfl
theorem d_jdk_42_method_149_code_0 : decode jdk_42_method_149_code 0 = .ok (.aload_n 0, 1) := by decide +kernel
theorem d_jdk_42_method_149_code_1 : decode jdk_42_method_149_code 1 = .ok (.invokespecial 1, 3) := by decide +kernel
theorem d_jdk_42_method_149_code_4 : decode jdk_42_method_149_code 4 = .ok (.iload_n 3, 1) := by decide +kernel
theorem d_jdk_42_method_149_code_5 : decode jdk_42_method_149_code 5 = .ok (.ifCond .ne 22, 3) := by decide +kernel
theorem d_jdk_42_method_149_code_8 : decode jdk_42_method_149_code 8 = .ok (.aload_n 0, 1) := by decide +kernel
theorem d_jdk_42_method_149_code_9 : decode jdk_42_method_149_code 9 = .ok (.ldc 7, 2) := by decide +kernel
theorem d_jdk_42_method_149_code_11 : decode jdk_42_method_149_code 11 = .ok (.getfield 9, 3) := by decide +kernel
theorem d_jdk_42_method_149_code_14 : decode jdk_42_method_149_code 14 = .ok (.putfield 9, 3) := by decide +kernel
theorem d_jdk_42_method_149_code_17 : decode jdk_42_method_149_code 17 = .ok (.aload_n 0, 1) := by decide +kernel
theorem d_jdk_42_method_149_code_18 : decode jdk_42_method_149_code 18 = .ok (.ldc 7, 2) := by decide +kernel
theorem d_jdk_42_method_149_code_20 : decode jdk_42_method_149_code 20 = .ok (.getfield 15, 3) := by decide +kernel
theorem d_jdk_42_method_149_code_23 : decode jdk_42_method_149_code 23 = .ok (.putfield 15, 3) := by decide +kernel
theorem d_jdk_42_method_149_code_26 : decode jdk_42_method_149_code 26 = .ok (.return_, 1) := by decide +kernel
theorem pn_14 : plainName "java/lang/String" = true := by first | (simp [plainName, overriddenIn]; done) | decide +kernel
set_option maxRecDepth 65536 in
set_option maxHeartbeats 40000000 in
theorem rm_sv0 (l : Launch) (Z : State) (a0 : Array Value) (hw : ∀ d ∈ tables_1, d.before a0 Z = true) (ws : List Jvm.Cond) (a : Addr) (b : Addr) (h0 : Heap) (n0 : Nat) (Z0 : n0 ≤ h0.size) (O0 : Old Z n0 h0) (E_a : Exa Z h0 a "java/lang/String") (F_v : Fld Z h0 a "java/lang/String" "value" "[B" .null) (F_c : Fld Z h0 a "java/lang/String" "coder" "B" (.int (0 : Int32))) (g_a : n0 ≤ a) :
    CtrW l Z own_EL (⟨"java/lang/String", "<init>", "([CIILjava/lang/Void;)V"⟩ : MethodName) jdk_42_method_149_code 6 ((Option.none : Option Jvm.ClassFile.FieldType)) ws ({ frames := 1, cells := 4, slots := 8, locals := 12 } : Room) #[(.ref a), (.ref b), (.int (0 : Int32)), (.int (0 : Int32)), .null] h0 (fun v h L => v = none ∧ Fr n0 L ∧ Keep h0 h [a] ∧ Str Z h a []) := by
  refine CtrW.of (MetFree.of_bodySF (plainFor_of_name pn_14) hisR ?_)
  intro p e s m args below meth c s₁ Bd hml0 hP hK
  obtain ⟨rfl, hZ0, hh, hC⟩ := hP
  have hx := Bd.exec
  have hby := Bd.bytes
  have hml : c.maxLocals = 6 := hml0
  have hZ : Z.Warmed39 (s.setVm s.vm).vm := hZ0
  have hown : (s.setVm s.vm).vm.findClass "java/lang/String" = some m.cls := findClass_of_methodNamed Bd.named
  have hnm := (name_of_methodNamed Bd.named Bd.method).1
  have X0 : Stand p l e ({ frames := 1, cells := 4, slots := 8, locals := 12 } : Room) (s.setVm s.vm) m #[(.ref a), (.ref b), (.int (0 : Int32)), (.int (0 : Int32)), .null] below meth c s₁ [] 0 0 := Stand.of_body Bd
  have e0 : s₁.heap = h0 := by rw [← hh, Bd.state]; rfl
  have N0 := Fr.nil n0
  have K0 : Keep h0 h0 [a] := Keep.refl h0 [a]
  have hS : s.Since s.vm 0 := (State.WarmedH.refl s).since 0
  have hk : 0 ≤ h0.size := Nat.zero_le _
  have R0 : CHr Z own_EL s.vm h0 s.vm h0 := CHr.refl hC
  show OwnGoW p e below s Z own_EL (fun v h L => v = none ∧ Fr n0 L ∧ Keep h0 h [a] ∧ Str Z h a []) ({ frames := 1, cells := 4, slots := 8, locals := 12 } : Room).cells ({ frames := 1, cells := 4, slots := 8, locals := 12 } : Room).slots _
  refine gsW (S' := s₁.setTop (mkF m 0 #[.val (.ref a), .val (.ref b), .val (.int (0 : Int32)), .val (.int (0 : Int32)), .val .null, .unset] [])) (fun tg kg => castTop (ef_0 m a b (0 : Int32) (0 : Int32)) kg) ?_
  have sfa0 : Safe Z own_EL s.vm h0 a := own_safe_new hZ0.alike E_a F_v
  have c1 : ∀ tg, Steps p.tables e below (s₁.setTop (mkF m 1 #[.val (.ref a), .val (.ref b), .val (.int (0 : Int32)), .val (.int (0 : Int32)), .val .null, .unset] [(.ref a)])) tg → Steps p.tables e below (s₁.setTop (mkF m 0 #[.val (.ref a), .val (.ref b), .val (.int (0 : Int32)), .val (.int (0 : Int32)), .val .null, .unset] [])) tg := fun tg kg => by
    refine XS.aloadN X0.here hx rfl (hb hby d_jdk_42_method_149_code_0) rfl rfl ?_
    show Steps p.tables e below (s₁.setTop (mkF m 1 #[.val (.ref a), .val (.ref b), .val (.int (0 : Int32)), .val (.int (0 : Int32)), .val .null, .unset] [(.ref a)])) tg
    exact kg
  refine gsW c1 ?_
  obtain ⟨T2, X2, e2, st2⟩ := initO X0 hx hZ hown (hw _ (List.mem_of_getElem? (i := 18) rfl)) (hw _ (List.mem_of_getElem? (i := 19) rfl)) (hw _ (List.mem_of_getElem? (i := 20) rfl)) e0 (g := (mkF m 1 #[.val (.ref a), .val (.ref b), .val (.int (0 : Int32)), .val (.int (0 : Int32)), .val .null, .unset] [(.ref a)])) rfl (by rw [hml]; rfl) rfl (hb hby d_jdk_42_method_149_code_1) (by decide) (W := 0) (by show 2 * 0 + _ ≤ _; exact Nat.le_of_eq rfl) (by decide)
  refine gsW st2 ?_
  show OwnGoW p e below s Z own_EL _ _ _ (T2.setTop (mkF m 4 #[.val (.ref a), .val (.ref b), .val (.int (0 : Int32)), .val (.int (0 : Int32)), .val .null, .unset] []))
  have c3 : ∀ tg, Steps p.tables e below (T2.setTop (mkF m 9 #[.val (.ref a), .val (.ref b), .val (.int (0 : Int32)), .val (.int (0 : Int32)), .val .null, .unset] [(.ref a)])) tg → Steps p.tables e below (T2.setTop (mkF m 4 #[.val (.ref a), .val (.ref b), .val (.int (0 : Int32)), .val (.int (0 : Int32)), .val .null, .unset] [])) tg := fun tg kg => by
    refine XS.iloadN X2.here hx rfl (hb hby d_jdk_42_method_149_code_4) rfl ?_
    show Steps p.tables e below (T2.setTop (mkF m 5 #[.val (.ref a), .val (.ref b), .val (.int (0 : Int32)), .val (.int (0 : Int32)), .val .null, .unset] [(.int (0 : Int32))])) tg
    refine XS.ifNo X2.here hx rfl (hb hby d_jdk_42_method_149_code_5) rfl ((if0 _ _).trans (teq (by decide : (0 : Int32) = (0 : Int32))).2) ?_
    show Steps p.tables e below (T2.setTop (mkF m 8 #[.val (.ref a), .val (.ref b), .val (.int (0 : Int32)), .val (.int (0 : Int32)), .val .null, .unset] [])) tg
    refine XS.aloadN X2.here hx rfl (hb hby d_jdk_42_method_149_code_8) rfl rfl ?_
    show Steps p.tables e below (T2.setTop (mkF m 9 #[.val (.ref a), .val (.ref b), .val (.int (0 : Int32)), .val (.int (0 : Int32)), .val .null, .unset] [(.ref a)])) tg
    exact kg
  refine gsW c3 ?_
  obtain ⟨a4, T4, h4, k4, t4, kb4, X4, e4, E4, hS, hk4, hZ, hown, g4e, g4c, g4v, g4a, -, -, r4x, -, ne4, st4⟩ := ldcCH X2 hx hZ hown (hw _ (List.mem_of_getElem? (i := 21) rfl)) (own_wS hw) e2 hS hk (own_EW hw) (List.mem_of_getElem? (i := 3) rfl) R0.1 (vs := ((([] : List Int32).map (fun c => c.toInt8.toInt32)).map Value.int)) (z := (0 : Int32)) ⟨by decide, by rfl⟩ (by decide) rfl (g := (mkF m 9 #[.val (.ref a), .val (.ref b), .val (.int (0 : Int32)), .val (.int (0 : Int32)), .val .null, .unset] [(.ref a)])) rfl (hb hby d_jdk_42_method_149_code_9) (n := 0) (by decide) (by decide) (by decide) (by decide)
  have r5 : CHr Z own_EL s.vm h0 T4.vm h4 := r4x
  have R5 : CHr Z own_EL s.vm h0 T4.vm h4 := R0.trans r5
  have Z5 : n0 ≤ h4.size := Nat.le_trans Z0 E4.1
  have O5 : Old Z n0 h4 := O0.ext E4
  have K5 : Keep h0 h4 [a] := K0.ext E4
  have T4q : Str Z h4 a4 ([] : List Int32) := ⟨_, _, g4e, g4c, g4v, g4a⟩
  have f6 := (r5.safe (Nat.lt_of_lt_of_le E_a.lt (Nat.le_refl _)) sfa0)
  refine gsW st4 ?_
  show OwnGoW p e below s Z own_EL _ _ _ (T4.setTop (mkF m 11 #[.val (.ref a), .val (.ref b), .val (.int (0 : Int32)), .val (.int (0 : Int32)), .val .null, .unset] [(.ref a4), (.ref a)]))
  obtain ⟨T7, X7, e7, st7⟩ := getF X4 hx hZ hown (host := "") (Or.inl (hw _ (List.mem_of_getElem? (i := 27) rfl))) Via.refl e4 g4v (g := (mkF m 11 #[.val (.ref a), .val (.ref b), .val (.int (0 : Int32)), .val (.int (0 : Int32)), .val .null, .unset] [(.ref a4), (.ref a)])) rfl rfl (hb hby d_jdk_42_method_149_code_11)
  refine gsW st7 ?_
  show OwnGoW p e below s Z own_EL _ _ _ (T7.setTop (mkF m 14 #[.val (.ref a), .val (.ref b), .val (.int (0 : Int32)), .val (.int (0 : Int32)), .val .null, .unset] [(.ref t4), (.ref a)]))
  have f8 := (F_v.ext E4)
  have f9 := (E_a.ext E4)
  obtain ⟨T10, h10, X10, e10, W10, st10⟩ := putF X7 hx hZ hown (host := "") (Or.inl (hw _ (List.mem_of_getElem? (i := 27) rfl))) Via.refl e7 f8 f9 (Or.inr ⟨(hw _ (List.mem_of_getElem? (i := 23) rfl)), rfl, hnm⟩) (hw _ (List.mem_of_getElem? (i := 8) rfl)) (ty := (.array .byte)) (by decide) rfl rfl (g := (mkF m 14 #[.val (.ref a), .val (.ref b), .val (.int (0 : Int32)), .val (.int (0 : Int32)), .val .null, .unset] [(.ref t4), (.ref a)])) rfl rfl (hb hby d_jdk_42_method_149_code_14)
  have N10 := Fr.snoc X10 N0 g_a
  have Fw10 := f8.same W10
  have r11 : CHr Z own_EL T4.vm h4 T4.vm h10 := CHr.wr W10 f6 R5.1
  have R11 : CHr Z own_EL s.vm h0 T4.vm h10 := R5.trans r11
  have Z11 : n0 ≤ h10.size := Nat.le_trans Z5 (Keep.of_wr W10).1
  have O11 : Old Z n0 h10 := O5.wr W10 g_a
  have K11 : Keep h0 h10 [a] := K5.wr W10 (Or.inl (List.mem_of_getElem? (i := 0) rfl))
  refine gsW st10 ?_
  show OwnGoW p e below s Z own_EL _ _ _ (T10.setTop (mkF m 17 #[.val (.ref a), .val (.ref b), .val (.int (0 : Int32)), .val (.int (0 : Int32)), .val .null, .unset] []))
  have c12 : ∀ tg, Steps p.tables e below (T10.setTop (mkF m 18 #[.val (.ref a), .val (.ref b), .val (.int (0 : Int32)), .val (.int (0 : Int32)), .val .null, .unset] [(.ref a)])) tg → Steps p.tables e below (T10.setTop (mkF m 17 #[.val (.ref a), .val (.ref b), .val (.int (0 : Int32)), .val (.int (0 : Int32)), .val .null, .unset] [])) tg := fun tg kg => by
    refine XS.aloadN X10.here hx rfl (hb hby d_jdk_42_method_149_code_17) rfl rfl ?_
    show Steps p.tables e below (T10.setTop (mkF m 18 #[.val (.ref a), .val (.ref b), .val (.int (0 : Int32)), .val (.int (0 : Int32)), .val .null, .unset] [(.ref a)])) tg
    exact kg
  refine gsW c12 ?_
  obtain ⟨a13, T13, h13, k13, t13, kb13, X13, e13, E13, hS, hk13, hZ, hown, g13e, g13c, g13v, g13a, -, -, r13x, -, ne13, st13⟩ := ldcCH X10 hx hZ hown (hw _ (List.mem_of_getElem? (i := 21) rfl)) (own_wS hw) e10 hS (Nat.le_trans hk4 (Keep.of_wr W10).1) (own_EW hw) (List.mem_of_getElem? (i := 3) rfl) R11.1 (vs := ((([] : List Int32).map (fun c => c.toInt8.toInt32)).map Value.int)) (z := (0 : Int32)) ⟨by decide, by rfl⟩ (by decide) rfl (g := (mkF m 18 #[.val (.ref a), .val (.ref b), .val (.int (0 : Int32)), .val (.int (0 : Int32)), .val .null, .unset] [(.ref a)])) rfl (hb hby d_jdk_42_method_149_code_18) (n := 0) (by decide) (by decide) (by decide) (by decide)
  have r14 : CHr Z own_EL T4.vm h10 T13.vm h13 := r13x
  have R14 : CHr Z own_EL s.vm h0 T13.vm h13 := R11.trans r14
  have Z14 : n0 ≤ h13.size := Nat.le_trans Z11 E13.1
  have O14 : Old Z n0 h13 := O11.ext E13
  have K14 : Keep h0 h13 [a] := K11.ext E13
  have T13q : Str Z h13 a13 ([] : List Int32) := ⟨_, _, g13e, g13c, g13v, g13a⟩
  have f15 := (r14.safe (Nat.lt_of_lt_of_le E_a.lt (Nat.le_trans E4.1 (Keep.of_wr W10).1)) (r11.safe (Nat.lt_of_lt_of_le E_a.lt E4.1) f6))
  refine gsW st13 ?_
  show OwnGoW p e below s Z own_EL _ _ _ (T13.setTop (mkF m 20 #[.val (.ref a), .val (.ref b), .val (.int (0 : Int32)), .val (.int (0 : Int32)), .val .null, .unset] [(.ref a13), (.ref a)]))
  obtain ⟨T16, X16, e16, st16⟩ := getF X13 hx hZ hown (host := "") (Or.inl (hw _ (List.mem_of_getElem? (i := 28) rfl))) Via.refl e13 g13c (g := (mkF m 20 #[.val (.ref a), .val (.ref b), .val (.int (0 : Int32)), .val (.int (0 : Int32)), .val .null, .unset] [(.ref a13), (.ref a)])) rfl rfl (hb hby d_jdk_42_method_149_code_20)
  refine gsW st16 ?_
  show OwnGoW p e below s Z own_EL _ _ _ (T16.setTop (mkF m 23 #[.val (.ref a), .val (.ref b), .val (.int (0 : Int32)), .val (.int (0 : Int32)), .val .null, .unset] [(.int (0 : Int32)), (.ref a)]))
  have f17 := (((F_c.ext E4).other W10 (Or.inr (slot_ne (Or.inr (hw _ (List.mem_of_getElem? (i := 24) rfl))) (Or.inr (hw _ (List.mem_of_getElem? (i := 23) rfl))) (by decide) (t := .byte) (t' := (.array .byte)) (by decide) (by decide)))).ext E13)
  have f18 := ((f9.wr W10).ext E13)
  obtain ⟨T19, h19, X19, e19, W19, st19⟩ := putFN X16 hx hZ hown (hw _ (List.mem_of_getElem? (i := 28) rfl)) Via.refl e16 f17 f18 (Or.inr ⟨(hw _ (List.mem_of_getElem? (i := 24) rfl)), rfl, hnm⟩) (hw _ (List.mem_of_getElem? (i := 8) rfl)) (ty := .byte) (v' := (.int (0 : Int32))) (by decide) rfl rfl (g := (mkF m 23 #[.val (.ref a), .val (.ref b), .val (.int (0 : Int32)), .val (.int (0 : Int32)), .val .null, .unset] [(.int (0 : Int32)), (.ref a)])) rfl rfl (hb hby d_jdk_42_method_149_code_23)
  have N19 := Fr.snoc X19 N10 g_a
  have Fw19 := f17.same W19
  have r20 : CHr Z own_EL T13.vm h13 T13.vm h19 := CHr.wr W19 f15 R14.1
  have R20 : CHr Z own_EL s.vm h0 T13.vm h19 := R14.trans r20
  have Z20 : n0 ≤ h19.size := Nat.le_trans Z14 (Keep.of_wr W19).1
  have O20 : Old Z n0 h19 := O14.wr W19 g_a
  have K20 : Keep h0 h19 [a] := K14.wr W19 (Or.inl (List.mem_of_getElem? (i := 0) rfl))
  refine gsW st19 ?_
  show OwnGoW p e below s Z own_EL _ _ _ (T19.setTop (mkF m 26 #[.val (.ref a), .val (.ref b), .val (.int (0 : Int32)), .val (.int (0 : Int32)), .val .null, .unset] []))
  have f21 := (f18.wr W19)
  have f22 := ((Fw10.ext E13).other W19 (Or.inr (slot_ne (Or.inr (hw _ (List.mem_of_getElem? (i := 23) rfl))) (Or.inr (hw _ (List.mem_of_getElem? (i := 24) rfl))) (by decide) (t := (.array .byte)) (t' := .byte) (by decide) (by decide))))
  have f23 := (((g4a.other W10 (Ne.symm (ne4 _ f6).2)).ext E13).other W19 (Ne.symm (ne4 _ f6).2))
  refine goutW (v := none) X19 hS (Nat.le_trans hk13 (Keep.of_wr W19).1) hZ (own_EW hw) hh e19 R20 Bd.notSynchronized (fun _ => rfl) (by decide) (by decide) ?_ (fun fs hr => X19.returnOut hx Bd.returns (hb hby d_jdk_42_method_149_code_26) hr)
  exact ⟨rfl, N19, K20, _, _, f21, Fw19, f22, f23⟩
theorem ef_15 (m : MethodId) (x0 : Addr) (x1 : Addr) : entryFrame m #[(.ref x0), (.ref x1)] 2 = mkF m 0 #[.val (.ref x0), .val (.ref x1)] [] := by first | (simp [entryFrame, mkF, argsToLocals, Value.category]; done) | rfl
theorem d_jdk_42_method_3_code_0 : decode jdk_42_method_3_code 0 = .ok (.aload_n 0, 1) := by decide +kernel
theorem d_jdk_42_method_3_code_1 : decode jdk_42_method_3_code 1 = .ok (.aload_n 1, 1) := by decide +kernel
theorem d_jdk_42_method_3_code_2 : decode jdk_42_method_3_code 2 = .ok (.iconst 0, 1) := by decide +kernel
theorem d_jdk_42_method_3_code_3 : decode jdk_42_method_3_code 3 = .ok (.aload_n 1, 1) := by decide +kernel
theorem d_jdk_42_method_3_code_4 : decode jdk_42_method_3_code 4 = .ok (.arraylength, 1) := by decide +kernel
theorem d_jdk_42_method_3_code_5 : decode jdk_42_method_3_code 5 = .ok (.aconst_null, 1) := by decide +kernel
theorem d_jdk_42_method_3_code_6 : decode jdk_42_method_3_code 6 = .ok (.invokespecial 27, 3) := by decide +kernel
theorem pd_23 : parseMethodDescriptor "([CIILjava/lang/Void;)V" = some ⟨[(.array .char), .int, .int, (.object "java/lang/Void")], none⟩ := by decide +kernel
theorem d_jdk_42_method_3_code_9 : decode jdk_42_method_3_code 9 = .ok (.return_, 1) := by decide +kernel
set_option maxRecDepth 65536 in
set_option maxHeartbeats 40000000 in
theorem rm_s0 (l : Launch) (Z : State) (a0 : Array Value) (hw : ∀ d ∈ tables_1, d.before a0 Z = true) (ws : List Jvm.Cond) (a : Addr) (b : Addr) (kb : ClassId) (h0 : Heap) (n0 : Nat) (Z0 : n0 ≤ h0.size) (O0 : Old Z n0 h0) (E_a : Exa Z h0 a "java/lang/String") (F_v : Fld Z h0 a "java/lang/String" "value" "[B" .null) (F_c : Fld Z h0 a "java/lang/String" "coder" "B" (.int (0 : Int32))) (g_a : n0 ≤ a) (V_b : Arv Z h0 b kb .char (0 : Int32) [] (.int (0 : Int32))) :
    CtrW l Z own_EL (⟨"java/lang/String", "<init>", "([C)V"⟩ : MethodName) jdk_42_method_3_code 2 ((Option.none : Option Jvm.ClassFile.FieldType)) ws ({ frames := 2, cells := 4, slots := 8, locals := 30 } : Room) #[(.ref a), (.ref b)] h0 (fun v h L => v = none ∧ Fr n0 L ∧ Keep h0 h [a] ∧ Str Z h a []) := by
  refine CtrW.of (MetFree.of_bodySF (plainFor_of_name pn_14) hisR ?_)
  intro p e s m args below meth c s₁ Bd hml0 hP hK
  obtain ⟨rfl, hZ0, hh, hC⟩ := hP
  have hx := Bd.exec
  have hby := Bd.bytes
  have hml : c.maxLocals = 2 := hml0
  have hZ : Z.Warmed39 (s.setVm s.vm).vm := hZ0
  have hown : (s.setVm s.vm).vm.findClass "java/lang/String" = some m.cls := findClass_of_methodNamed Bd.named
  have hnm := (name_of_methodNamed Bd.named Bd.method).1
  have X0 : Stand p l e ({ frames := 2, cells := 4, slots := 8, locals := 30 } : Room) (s.setVm s.vm) m #[(.ref a), (.ref b)] below meth c s₁ [] 0 0 := Stand.of_body Bd
  have e0 : s₁.heap = h0 := by rw [← hh, Bd.state]; rfl
  have N0 := Fr.nil n0
  have K0 : Keep h0 h0 [a] := Keep.refl h0 [a]
  have hS : s.Since s.vm 0 := (State.WarmedH.refl s).since 0
  have hk : 0 ≤ h0.size := Nat.zero_le _
  have R0 : CHr Z own_EL s.vm h0 s.vm h0 := CHr.refl hC
  show OwnGoW p e below s Z own_EL (fun v h L => v = none ∧ Fr n0 L ∧ Keep h0 h [a] ∧ Str Z h a []) ({ frames := 2, cells := 4, slots := 8, locals := 30 } : Room).cells ({ frames := 2, cells := 4, slots := 8, locals := 30 } : Room).slots _
  refine gsW (S' := s₁.setTop (mkF m 0 #[.val (.ref a), .val (.ref b)] [])) (fun tg kg => castTop (ef_15 m a b) kg) ?_
  have c1 : ∀ tg, Steps p.tables e below (s₁.setTop (mkF m 4 #[.val (.ref a), .val (.ref b)] [(.ref b), (.int (0 : Int32)), (.ref b), (.ref a)])) tg → Steps p.tables e below (s₁.setTop (mkF m 0 #[.val (.ref a), .val (.ref b)] [])) tg := fun tg kg => by
    refine XS.aloadN X0.here hx rfl (hb hby d_jdk_42_method_3_code_0) rfl rfl ?_
    show Steps p.tables e below (s₁.setTop (mkF m 1 #[.val (.ref a), .val (.ref b)] [(.ref a)])) tg
    refine XS.aloadN X0.here hx rfl (hb hby d_jdk_42_method_3_code_1) rfl rfl ?_
    show Steps p.tables e below (s₁.setTop (mkF m 2 #[.val (.ref a), .val (.ref b)] [(.ref b), (.ref a)])) tg
    refine XS.iconst X0.here hx rfl (hb hby d_jdk_42_method_3_code_2) ?_
    show Steps p.tables e below (s₁.setTop (mkF m 3 #[.val (.ref a), .val (.ref b)] [(.int (0 : Int32)), (.ref b), (.ref a)])) tg
    refine XS.aloadN X0.here hx rfl (hb hby d_jdk_42_method_3_code_3) rfl rfl ?_
    show Steps p.tables e below (s₁.setTop (mkF m 4 #[.val (.ref a), .val (.ref b)] [(.ref b), (.int (0 : Int32)), (.ref b), (.ref a)])) tg
    exact kg
  refine gsW c1 ?_
  obtain ⟨cl2, A2, a2q, a2S, a2N, a2H, a2G⟩ := id V_b
  have c3 : ∀ tg, Steps p.tables e below (s₁.setTop (mkF m 6 #[.val (.ref a), .val (.ref b)] [.null, (.int (0 : Int32)), (.int (0 : Int32)), (.ref b), (.ref a)])) tg → Steps p.tables e below (s₁.setTop (mkF m 4 #[.val (.ref a), .val (.ref b)] [(.ref b), (.int (0 : Int32)), (.ref b), (.ref a)])) tg := fun tg kg => by
    refine X0.arraylength hx (by rw [e0]; exact A2.1) (State.isArrayOf_alike hZ.alike A2.2.1) (g := (mkF m 4 #[.val (.ref a), .val (.ref b)] [(.ref b), (.int (0 : Int32)), (.ref b), (.ref a)])) rfl rfl (hb hby d_jdk_42_method_3_code_4) _ ?_; rw [len_of a2S a2N]
    show Steps p.tables e below (s₁.setTop (mkF m 5 #[.val (.ref a), .val (.ref b)] [(.int (0 : Int32)), (.int (0 : Int32)), (.ref b), (.ref a)])) tg
    refine XS.aconstNull X0.here hx rfl (hb hby d_jdk_42_method_3_code_5) ?_
    show Steps p.tables e below (s₁.setTop (mkF m 6 #[.val (.ref a), .val (.ref b)] [.null, (.int (0 : Int32)), (.int (0 : Int32)), (.ref b), (.ref a)])) tg
    exact kg
  refine gsW c3 ?_
  obtain ⟨_, _, ⟨T4, L4, k4, n4⟩, -, Xq4, hSq4, gq4, ⟨Lc4, hQ4, l4, y4, z4, rq4⟩, st4⟩ := X0.specialBackS hx (y := (⟨"java/lang/String", "<init>", "([CIILjava/lang/Void;)V"⟩ : MethodName)) rfl hown (mvT hZ (hw _ (List.mem_of_getElem? (i := 14) rfl))) (mvT hZ (hw _ (List.mem_of_getElem? (i := 15) rfl))) (mvT hZ (hw _ (List.mem_of_getElem? (i := 17) rfl))) (by decide) (backCW (W := 0) (rm_sv0 l Z a0 hw [] a b h0 n0 Z0 O0 E_a F_v F_c g_a) hZ (hw _ (List.mem_of_getElem? (i := 17) rfl)) (hw _ (List.mem_of_getElem? (i := 9) rfl)) (by decide) (by decide) (own_EW hw) R0.1) (g := (mkF m 6 #[.val (.ref a), .val (.ref b)] [.null, (.int (0 : Int32)), (.int (0 : Int32)), (.ref b), (.ref a)])) rfl (by rw [hml]; rfl) (Steps.refl _) (a := a) (argsL := [(.ref b), (.int (0 : Int32)), (.int (0 : Int32)), .null]) (rest := []) (lenOf pd_23 rfl) rfl (by show 2 * 0 + _ ≤ _; exact Nat.le_of_eq rfl) (hb hby d_jdk_42_method_3_code_6) (fun _ _ => ⟨rfl, e0, (by decide : 0 + 4 ≤ _), (by decide : 0 + 8 ≤ _)⟩)
  dsimp only [Pt.U, Pt.locs, Pt.cells, Pt.slots] at Xq4 hSq4 gq4 rq4 l4 y4 z4 st4 hQ4
  subst l4 y4 z4
  obtain ⟨X4, hS, hZ, hown⟩ := rebS hS (Nat.le_trans hk (Nat.le_of_eq (congrArg Array.size (e0 : s₁.heap = h0).symm))) Xq4 hSq4 gq4 hZ hown
  obtain ⟨rfl, N4q, K4q, T4q⟩ := hQ4
  have N4 := Fr.app N0 N4q
  have r5 : CHr Z own_EL s.vm h0 T4.vm T4.heap := rq4
  have R5 : CHr Z own_EL s.vm h0 T4.vm T4.heap := R0.trans r5
  have Z5 : n0 ≤ T4.heap.size := Nat.le_trans Z0 K4q.1
  have O5 : Old Z n0 T4.heap := O0.keep K4q (allS g_a all0)
  have K5 : Keep h0 T4.heap [a] := K0.trans K4q (allS (Or.inl (List.mem_of_getElem? (i := 0) rfl)) all0)
  refine gsW (fun _ k => st4.trans k) ?_
  show OwnGoW p e below s Z own_EL _ _ _ (T4.setTop (mkF m 9 #[.val (.ref a), .val (.ref b)] []))
  refine goutW (v := none) X4 hS (Nat.le_refl T4.heap.size) hZ (own_EW hw) hh rfl R5 Bd.notSynchronized (fun _ => rfl) (by decide) (by decide) ?_ (fun fs hr => X4.returnOut hx Bd.returns (hb hby d_jdk_42_method_3_code_9) hr)
  exact ⟨rfl, N4, K5, T4q⟩
theorem ef_25 (m : MethodId) (x0 : Int32) : entryFrame m #[(.int x0)] 1 = mkF m 0 #[.val (.int x0)] [] := by first | (simp [entryFrame, mkF, argsToLocals, Value.category]; done) | rfl
theorem d_method_2_code_0 : decode method_2_code 0 = .ok (.iload_n 0, 1) := by decide +kernel
theorem d_method_2_code_1 : decode method_2_code 1 = .ok (.sipush 256, 3) := by decide +kernel
theorem d_method_2_code_4 : decode method_2_code 4 = .ok (.iand, 1) := by decide +kernel
theorem d_method_2_code_5 : decode method_2_code 5 = .ok (.ifCond .eq 16, 3) := by decide +kernel
theorem d_method_2_code_21 : decode method_2_code 21 = .ok (.iload_n 0, 1) := by decide +kernel
theorem d_method_2_code_22 : decode method_2_code 22 = .ok (.sipush 255, 3) := by decide +kernel
theorem d_method_2_code_25 : decode method_2_code 25 = .ok (.iand, 1) := by decide +kernel
theorem d_method_2_code_26 : decode method_2_code 26 = .ok (.i2c, 1) := by decide +kernel
theorem d_method_2_code_27 : decode method_2_code 27 = .ok (.ireturn, 1) := by decide +kernel
theorem d_method_2_code_8 : decode method_2_code 8 = .ok (.ldc 7, 2) := by decide +kernel
theorem d_method_2_code_10 : decode method_2_code 10 = .ok (.iload_n 0, 1) := by decide +kernel
theorem d_method_2_code_11 : decode method_2_code 11 = .ok (.sipush 255, 3) := by decide +kernel
theorem d_method_2_code_14 : decode method_2_code 14 = .ok (.iand, 1) := by decide +kernel
theorem d_method_2_code_15 : decode method_2_code 15 = .ok (.iconst 5, 1) := by decide +kernel
theorem d_method_2_code_16 : decode method_2_code 16 = .ok (.irem, 1) := by decide +kernel
theorem d_method_2_code_17 : decode method_2_code 17 = .ok (.invokevirtual 9, 3) := by decide +kernel
theorem pd_42 : parseMethodDescriptor "(I)C" = some ⟨[.int], some .char⟩ := by decide +kernel
theorem d_method_2_code_20 : decode method_2_code 20 = .ok (.ireturn, 1) := by decide +kernel
theorem pn_44 : plainName "com/example/caddisfly/caddisfly/SyntaxIsHelpPinLaw" = true := by first | (simp [plainName, overriddenIn]; done) | decide +kernel
set_option maxRecDepth 65536 in
set_option maxHeartbeats 40000000 in
theorem rm_ch (l : Launch) (Z : State) (a0 : Array Value) (hw : ∀ d ∈ tables_1, d.before a0 Z = true) (ws : List Jvm.Cond) (p1 : Int32) (z : Int32) (fm : Value) (h0 : Heap) (n0 : Nat) (Z0 : n0 ≤ h0.size) (O0 : Old Z n0 h0) (S0 : Sta Z Z.heap "java/lang/String" "COMPACT_STRINGS" "Z" (.int z)) (hz : ¬ z = 0) (S4 : Sta Z Z.heap "jdk/internal/util/Preconditions" "SIOOBE_FORMATTER" "Ljava/util/function/BiFunction;" fm) (hfm : fm.isRef = true) :
    CtrW l Z own_EL (⟨"com/example/caddisfly/caddisfly/SyntaxIsHelpPinLaw", "ch", "(I)C"⟩ : MethodName) method_2_code 1 ((Option.some Jvm.ClassFile.FieldType.char)) ws ({ frames := 4, cells := 2, slots := 24, locals := 60 } : Room) #[(.int p1)] h0 (fun v h L => ∃ c : Int32, v = some (.int c) ∧ Fr n0 L ∧ Keep h0 h [] ∧ (¬ c < 0 ∧ ¬ (255 : Int32) < c)) := by
  refine CtrW.of (MetFree.of_bodySF (plainFor_of_name pn_44) hisR ?_)
  intro p e s m args below meth c s₁ Bd hml0 hP hK
  obtain ⟨rfl, hZ0, hh, hC⟩ := hP
  have hx := Bd.exec
  have hby := Bd.bytes
  have hml : c.maxLocals = 1 := hml0
  have hZ : Z.Warmed39 (s.setVm s.vm).vm := hZ0
  have hown : (s.setVm s.vm).vm.findClass "com/example/caddisfly/caddisfly/SyntaxIsHelpPinLaw" = some m.cls := findClass_of_methodNamed Bd.named
  have hnm := (name_of_methodNamed Bd.named Bd.method).1
  have X0 : Stand p l e ({ frames := 4, cells := 2, slots := 24, locals := 60 } : Room) (s.setVm s.vm) m #[(.int p1)] below meth c s₁ [] 0 0 := Stand.of_body Bd
  have e0 : s₁.heap = h0 := by rw [← hh, Bd.state]; rfl
  have N0 := Fr.nil n0
  have K0 : Keep h0 h0 [] := Keep.refl h0 []
  have hS : s.Since s.vm 0 := (State.WarmedH.refl s).since 0
  have hk : 0 ≤ h0.size := Nat.zero_le _
  have R0 : CHr Z own_EL s.vm h0 s.vm h0 := CHr.refl hC
  show OwnGoW p e below s Z own_EL (fun v h L => ∃ c : Int32, v = some (.int c) ∧ Fr n0 L ∧ Keep h0 h [] ∧ (¬ c < 0 ∧ ¬ (255 : Int32) < c)) ({ frames := 4, cells := 2, slots := 24, locals := 60 } : Room).cells ({ frames := 4, cells := 2, slots := 24, locals := 60 } : Room).slots _
  refine gsW (S' := s₁.setTop (mkF m 0 #[.val (.int p1)] [])) (fun tg kg => castTop (ef_25 m p1) kg) ?_
  have c1 : ∀ tg, Steps p.tables e below (s₁.setTop (mkF m 5 #[.val (.int p1)] [(.int (p1 &&& (256 : Int32)))])) tg → Steps p.tables e below (s₁.setTop (mkF m 0 #[.val (.int p1)] [])) tg := fun tg kg => by
    refine XS.iloadN X0.here hx rfl (hb hby d_method_2_code_0) rfl ?_
    show Steps p.tables e below (s₁.setTop (mkF m 1 #[.val (.int p1)] [(.int p1)])) tg
    refine XS.sipush X0.here hx rfl (hb hby d_method_2_code_1) ?_
    show Steps p.tables e below (s₁.setTop (mkF m 4 #[.val (.int p1)] [(.int (256 : Int32)), (.int p1)])) tg
    refine XS.iand X0.here hx rfl (hb hby d_method_2_code_4) rfl ?_
    show Steps p.tables e below (s₁.setTop (mkF m 5 #[.val (.int p1)] [(.int (p1 &&& (256 : Int32)))])) tg
    exact kg
  refine gsW c1 ?_
  by_cases hc2 : (p1 &&& (256 : Int32)) = (0 : Int32)
  · have c3 : ∀ tg, Steps p.tables e below (s₁.setTop (mkF m 27 #[.val (.int p1)] [(.int ((p1 &&& (255 : Int32)).toUInt32.toUInt16.toUInt32.toInt32))])) tg → Steps p.tables e below (s₁.setTop (mkF m 5 #[.val (.int p1)] [(.int (p1 &&& (256 : Int32)))])) tg := fun tg kg => by
      refine XS.ifYes X0.here hx rfl (pc0 := 5) (pc' := 21) rfl (hb hby d_method_2_code_5) rfl ((if0 _ _).trans (teq hc2).1) (by decide) (by decide) ?_
      show Steps p.tables e below (s₁.setTop (mkF m 21 #[.val (.int p1)] [])) tg
      refine XS.iloadN X0.here hx rfl (hb hby d_method_2_code_21) rfl ?_
      show Steps p.tables e below (s₁.setTop (mkF m 22 #[.val (.int p1)] [(.int p1)])) tg
      refine XS.sipush X0.here hx rfl (hb hby d_method_2_code_22) ?_
      show Steps p.tables e below (s₁.setTop (mkF m 25 #[.val (.int p1)] [(.int (255 : Int32)), (.int p1)])) tg
      refine XS.iand X0.here hx rfl (hb hby d_method_2_code_25) rfl ?_
      show Steps p.tables e below (s₁.setTop (mkF m 26 #[.val (.int p1)] [(.int (p1 &&& (255 : Int32)))])) tg
      refine XS.i2c X0.here hx rfl (hb hby d_method_2_code_26) rfl ?_
      show Steps p.tables e below (s₁.setTop (mkF m 27 #[.val (.int p1)] [(.int ((p1 &&& (255 : Int32)).toUInt32.toUInt16.toUInt32.toInt32))])) tg
      exact kg
    refine gsW c3 ?_
    refine goutW (v := some (.int (nar .char ((p1 &&& (255 : Int32)).toUInt32.toUInt16.toUInt32.toInt32)))) X0 hS hk hZ (own_EW hw) hh e0 R0 Bd.notSynchronized (fun h => by rw [Bd.returns] at h; cases h) (by decide) (by decide) ?_ (fun fs hr => retN X0 hx (t := .char) Bd.returns (by simp) (hb hby d_method_2_code_27) hr)
    exact ⟨_, rfl, N0, K0, own_and255 _⟩
  · have c4 : ∀ tg, Steps p.tables e below (s₁.setTop (mkF m 8 #[.val (.int p1)] [])) tg → Steps p.tables e below (s₁.setTop (mkF m 5 #[.val (.int p1)] [(.int (p1 &&& (256 : Int32)))])) tg := fun tg kg => by
      refine XS.ifNo X0.here hx rfl (hb hby d_method_2_code_5) rfl ((if0 _ _).trans (feq hc2).1) ?_
      show Steps p.tables e below (s₁.setTop (mkF m 8 #[.val (.int p1)] [])) tg
      exact kg
    refine gsW c4 ?_
    obtain ⟨a5, T5, h5, k5, t5, kb5, X5, e5, E5, hS, hk5, hZ, hown, g5e, g5c, g5v, g5a, -, -, r5x, -, ne5, st5⟩ := ldcCH X0 hx hZ hown (hw _ (List.mem_of_getElem? (i := 56) rfl)) (own_wS hw) e0 hS hk (own_EW hw) (List.mem_of_getElem? (i := 2) rfl) R0.1 (vs := ((([45, 104, 101, 108, 112] : List Int32).map (fun c => c.toInt8.toInt32)).map Value.int)) (z := (5 : Int32)) ⟨by decide, by rfl⟩ (by decide) rfl (g := (mkF m 8 #[.val (.int p1)] [])) rfl (hb hby d_method_2_code_8) (n := 20) (by decide) (by decide) (by decide) (by decide)
    have r6 : CHr Z own_EL s.vm h0 T5.vm h5 := r5x
    have R6 : CHr Z own_EL s.vm h0 T5.vm h5 := R0.trans r6
    have Z6 : n0 ≤ h5.size := Nat.le_trans Z0 E5.1
    have O6 : Old Z n0 h5 := O0.ext E5
    have K6 : Keep h0 h5 [] := K0.ext E5
    have T5q : Str Z h5 a5 ([45, 104, 101, 108, 112] : List Int32) := ⟨_, _, g5e, g5c, g5v, g5a⟩
    refine gsW st5 ?_
    show OwnGoW p e below s Z own_EL _ _ _ (T5.setTop (mkF m 10 #[.val (.int p1)] [(.ref a5)]))
    have c7 : ∀ tg, Steps p.tables e below (T5.setTop (mkF m 17 #[.val (.int p1)] [(.int ((p1 &&& (255 : Int32)) % (5 : Int32))), (.ref a5)])) tg → Steps p.tables e below (T5.setTop (mkF m 10 #[.val (.int p1)] [(.ref a5)])) tg := fun tg kg => by
      refine XS.iloadN X5.here hx rfl (hb hby d_method_2_code_10) rfl ?_
      show Steps p.tables e below (T5.setTop (mkF m 11 #[.val (.int p1)] [(.int p1), (.ref a5)])) tg
      refine XS.sipush X5.here hx rfl (hb hby d_method_2_code_11) ?_
      show Steps p.tables e below (T5.setTop (mkF m 14 #[.val (.int p1)] [(.int (255 : Int32)), (.int p1), (.ref a5)])) tg
      refine XS.iand X5.here hx rfl (hb hby d_method_2_code_14) rfl ?_
      show Steps p.tables e below (T5.setTop (mkF m 15 #[.val (.int p1)] [(.int (p1 &&& (255 : Int32))), (.ref a5)])) tg
      refine XS.iconst X5.here hx rfl (hb hby d_method_2_code_15) ?_
      show Steps p.tables e below (T5.setTop (mkF m 16 #[.val (.int p1)] [(.int (5 : Int32)), (.int (p1 &&& (255 : Int32))), (.ref a5)])) tg
      refine Jvm.RoadKit.iremM X5 hx (g := (mkF m 16 #[.val (.int p1)] [(.int (5 : Int32)), (.int (p1 &&& (255 : Int32))), (.ref a5)])) rfl (hb hby d_method_2_code_16) rfl (by decide) ?_
      show Steps p.tables e below (T5.setTop (mkF m 17 #[.val (.int p1)] [(.int ((p1 &&& (255 : Int32)) % (5 : Int32))), (.ref a5)])) tg
      exact kg
    refine gsW c7 ?_
    obtain ⟨ix, hix, ejx⟩ := own_m5 p1
    obtain ⟨cq8, kq8, q8a, q8b, q8c⟩ := isOf hZ e5 T5q.exa
    obtain ⟨_, _, ⟨T8, L8, k8, n8⟩, -, X8, ⟨Lc8, hQ8, l8, y8, z8⟩, st8⟩ := X5.virtualBack hx (y := (⟨"java/lang/String", "charAt", "(I)C"⟩ : MethodName)) (z := (⟨"java/lang/String", "charAt", "(I)C"⟩ : MethodName)) hown (mvT hZ (hw _ (List.mem_of_getElem? (i := 57) rfl))) (mvT hZ (hw _ (List.mem_of_getElem? (i := 58) rfl))) (notFace_of_selects (args := #[]) (mvT hZ (hw _ (List.mem_of_getElem? (i := 60) rfl)))) (mvT hZ (hw _ (List.mem_of_getElem? (i := 60) rfl))) (mvT hZ (hw _ (List.mem_of_getElem? (i := 59) rfl))) (by decide) (own_chB (W := 0) hZ hw T5q (by decide) (S0.ext O6.2) hz (S4.ext O6.2) hfm (by decide) (i := ix) hix ejx (by decide) (by decide)) q8a q8c (g := (mkF m 17 #[.val (.int p1)] [(.int ((p1 &&& (255 : Int32)) % (5 : Int32))), (.ref a5)])) rfl (by rw [hml]; rfl) (Steps.refl _) (argsL := [(.int ((p1 &&& (255 : Int32)) % (5 : Int32)))]) (rest := []) (lenOf pd_42 rfl) rfl (by show 2 * 0 + _ ≤ _; exact Nat.le_of_eq rfl) (hb hby d_method_2_code_17) (fun _ _ => ⟨rfl, e5, (by decide : 2 + 0 ≤ _), (by decide : 24 + 0 ≤ _)⟩)
    dsimp only [Pt.U, Pt.locs, Pt.cells, Pt.slots] at X8 l8 y8 z8 st8 hQ8
    subst l8 y8 z8
    obtain ⟨rfl, rfl, e8q⟩ := hQ8
    have N8 := Fr.app N0 (Fr.nil n0)
    refine gsW (fun _ k => st8.trans k) ?_
    show OwnGoW p e below s Z own_EL _ _ _ (T8.setTop (mkF m 20 #[.val (.int p1)] [(.int (([45, 104, 101, 108, 112] : List Int32).getD ix 0))]))
    refine goutW (v := some (.int (nar .char (([45, 104, 101, 108, 112] : List Int32).getD ix 0)))) X8 hS hk5 hZ (own_EW hw) hh e8q R6 Bd.notSynchronized (fun h => by rw [Bd.returns] at h; cases h) (by decide) (by decide) ?_ (fun fs hr => retN X8 hx (t := .char) Bd.returns (by simp) (hb hby d_method_2_code_20) hr)
    exact ⟨_, rfl, N8, K6, own_nb (own_getD (by decide) hix)⟩
theorem ef_45 (m : MethodId) (x0 : Int32) (x1 : Int32) (x2 : Int32) (x3 : Int32) (x4 : Int32) (x5 : Int32) (x6 : Int32) (x7 : Int32) : entryFrame m #[(.int x0), (.int x1), (.int x2), (.int x3), (.int x4), (.int x5), (.int x6), (.int x7)] 8 = mkF m 0 #[.val (.int x0), .val (.int x1), .val (.int x2), .val (.int x3), .val (.int x4), .val (.int x5), .val (.int x6), .val (.int x7)] [] := by first | (simp [entryFrame, mkF, argsToLocals, Value.category]; done) | rfl
theorem d_method_3_code_0 : decode method_3_code 0 = .ok (.iload_n 0, 1) := by decide +kernel
theorem d_method_3_code_1 : decode method_3_code 1 = .ok (.ifCond .ne 14, 3) := by decide +kernel
theorem d_method_3_code_4 : decode method_3_code 4 = .ok (.new 10, 3) := by decide +kernel
theorem d_method_3_code_7 : decode method_3_code 7 = .ok (.dup, 1) := by decide +kernel
theorem d_method_3_code_8 : decode method_3_code 8 = .ok (.iconst 0, 1) := by decide +kernel
theorem d_method_3_code_9 : decode method_3_code 9 = .ok (.newarray .char, 2) := by decide +kernel
theorem d_method_3_code_11 : decode method_3_code 11 = .ok (.invokespecial 15, 3) := by decide +kernel
theorem pd_53 : parseMethodDescriptor "([C)V" = some ⟨[(.array .char)], none⟩ := by decide +kernel
theorem d_method_3_code_14 : decode method_3_code 14 = .ok (.areturn, 1) := by decide +kernel
theorem d_method_3_code_15 : decode method_3_code 15 = .ok (.iload_n 0, 1) := by decide +kernel
theorem d_method_3_code_16 : decode method_3_code 16 = .ok (.iconst 1, 1) := by decide +kernel
theorem d_method_3_code_17 : decode method_3_code 17 = .ok (.if_icmp .ne 18, 3) := by decide +kernel
theorem d_method_3_code_20 : decode method_3_code 20 = .ok (.new 10, 3) := by decide +kernel
theorem d_method_3_code_23 : decode method_3_code 23 = .ok (.dup, 1) := by decide +kernel
theorem d_method_3_code_24 : decode method_3_code 24 = .ok (.iconst 1, 1) := by decide +kernel
theorem d_method_3_code_25 : decode method_3_code 25 = .ok (.newarray .char, 2) := by decide +kernel
theorem d_method_3_code_27 : decode method_3_code 27 = .ok (.dup, 1) := by decide +kernel
theorem d_method_3_code_28 : decode method_3_code 28 = .ok (.iconst 0, 1) := by decide +kernel
theorem d_method_3_code_29 : decode method_3_code 29 = .ok (.iload_n 1, 1) := by decide +kernel
theorem d_method_3_code_30 : decode method_3_code 30 = .ok (.castore, 1) := by decide +kernel
theorem d_method_3_code_31 : decode method_3_code 31 = .ok (.invokespecial 15, 3) := by decide +kernel
theorem d_method_3_code_34 : decode method_3_code 34 = .ok (.areturn, 1) := by decide +kernel
theorem d_method_3_code_35 : decode method_3_code 35 = .ok (.iload_n 0, 1) := by decide +kernel
theorem d_method_3_code_36 : decode method_3_code 36 = .ok (.iconst 2, 1) := by decide +kernel
theorem d_method_3_code_37 : decode method_3_code 37 = .ok (.if_icmp .ne 22, 3) := by decide +kernel
theorem d_method_3_code_40 : decode method_3_code 40 = .ok (.new 10, 3) := by decide +kernel
theorem d_method_3_code_43 : decode method_3_code 43 = .ok (.dup, 1) := by decide +kernel
theorem d_method_3_code_44 : decode method_3_code 44 = .ok (.iconst 2, 1) := by decide +kernel
theorem d_method_3_code_45 : decode method_3_code 45 = .ok (.newarray .char, 2) := by decide +kernel
theorem d_method_3_code_47 : decode method_3_code 47 = .ok (.dup, 1) := by decide +kernel
theorem d_method_3_code_48 : decode method_3_code 48 = .ok (.iconst 0, 1) := by decide +kernel
theorem d_method_3_code_49 : decode method_3_code 49 = .ok (.iload_n 1, 1) := by decide +kernel
theorem d_method_3_code_50 : decode method_3_code 50 = .ok (.castore, 1) := by decide +kernel
theorem d_method_3_code_51 : decode method_3_code 51 = .ok (.dup, 1) := by decide +kernel
theorem d_method_3_code_52 : decode method_3_code 52 = .ok (.iconst 1, 1) := by decide +kernel
theorem d_method_3_code_53 : decode method_3_code 53 = .ok (.iload_n 2, 1) := by decide +kernel
theorem d_method_3_code_54 : decode method_3_code 54 = .ok (.castore, 1) := by decide +kernel
theorem d_method_3_code_55 : decode method_3_code 55 = .ok (.invokespecial 15, 3) := by decide +kernel
theorem d_method_3_code_58 : decode method_3_code 58 = .ok (.areturn, 1) := by decide +kernel
theorem d_method_3_code_59 : decode method_3_code 59 = .ok (.iload_n 0, 1) := by decide +kernel
theorem d_method_3_code_60 : decode method_3_code 60 = .ok (.iconst 3, 1) := by decide +kernel
theorem d_method_3_code_61 : decode method_3_code 61 = .ok (.if_icmp .ne 26, 3) := by decide +kernel
theorem d_method_3_code_64 : decode method_3_code 64 = .ok (.new 10, 3) := by decide +kernel
theorem d_method_3_code_67 : decode method_3_code 67 = .ok (.dup, 1) := by decide +kernel
theorem d_method_3_code_68 : decode method_3_code 68 = .ok (.iconst 3, 1) := by decide +kernel
theorem d_method_3_code_69 : decode method_3_code 69 = .ok (.newarray .char, 2) := by decide +kernel
theorem d_method_3_code_71 : decode method_3_code 71 = .ok (.dup, 1) := by decide +kernel
theorem d_method_3_code_72 : decode method_3_code 72 = .ok (.iconst 0, 1) := by decide +kernel
theorem d_method_3_code_73 : decode method_3_code 73 = .ok (.iload_n 1, 1) := by decide +kernel
theorem d_method_3_code_74 : decode method_3_code 74 = .ok (.castore, 1) := by decide +kernel
theorem d_method_3_code_75 : decode method_3_code 75 = .ok (.dup, 1) := by decide +kernel
theorem d_method_3_code_76 : decode method_3_code 76 = .ok (.iconst 1, 1) := by decide +kernel
theorem d_method_3_code_77 : decode method_3_code 77 = .ok (.iload_n 2, 1) := by decide +kernel
theorem d_method_3_code_78 : decode method_3_code 78 = .ok (.castore, 1) := by decide +kernel
theorem d_method_3_code_79 : decode method_3_code 79 = .ok (.dup, 1) := by decide +kernel
theorem d_method_3_code_80 : decode method_3_code 80 = .ok (.iconst 2, 1) := by decide +kernel
theorem d_method_3_code_81 : decode method_3_code 81 = .ok (.iload_n 3, 1) := by decide +kernel
theorem d_method_3_code_82 : decode method_3_code 82 = .ok (.castore, 1) := by decide +kernel
theorem d_method_3_code_83 : decode method_3_code 83 = .ok (.invokespecial 15, 3) := by decide +kernel
theorem d_method_3_code_86 : decode method_3_code 86 = .ok (.areturn, 1) := by decide +kernel
theorem d_method_3_code_87 : decode method_3_code 87 = .ok (.iload_n 0, 1) := by decide +kernel
theorem d_method_3_code_88 : decode method_3_code 88 = .ok (.iconst 4, 1) := by decide +kernel
theorem d_method_3_code_89 : decode method_3_code 89 = .ok (.if_icmp .ne 31, 3) := by decide +kernel
theorem d_method_3_code_92 : decode method_3_code 92 = .ok (.new 10, 3) := by decide +kernel
theorem d_method_3_code_95 : decode method_3_code 95 = .ok (.dup, 1) := by decide +kernel
theorem d_method_3_code_96 : decode method_3_code 96 = .ok (.iconst 4, 1) := by decide +kernel
theorem d_method_3_code_97 : decode method_3_code 97 = .ok (.newarray .char, 2) := by decide +kernel
theorem d_method_3_code_99 : decode method_3_code 99 = .ok (.dup, 1) := by decide +kernel
theorem d_method_3_code_100 : decode method_3_code 100 = .ok (.iconst 0, 1) := by decide +kernel
theorem d_method_3_code_101 : decode method_3_code 101 = .ok (.iload_n 1, 1) := by decide +kernel
theorem d_method_3_code_102 : decode method_3_code 102 = .ok (.castore, 1) := by decide +kernel
theorem d_method_3_code_103 : decode method_3_code 103 = .ok (.dup, 1) := by decide +kernel
theorem d_method_3_code_104 : decode method_3_code 104 = .ok (.iconst 1, 1) := by decide +kernel
theorem d_method_3_code_105 : decode method_3_code 105 = .ok (.iload_n 2, 1) := by decide +kernel
theorem d_method_3_code_106 : decode method_3_code 106 = .ok (.castore, 1) := by decide +kernel
theorem d_method_3_code_107 : decode method_3_code 107 = .ok (.dup, 1) := by decide +kernel
theorem d_method_3_code_108 : decode method_3_code 108 = .ok (.iconst 2, 1) := by decide +kernel
theorem d_method_3_code_109 : decode method_3_code 109 = .ok (.iload_n 3, 1) := by decide +kernel
theorem d_method_3_code_110 : decode method_3_code 110 = .ok (.castore, 1) := by decide +kernel
theorem d_method_3_code_111 : decode method_3_code 111 = .ok (.dup, 1) := by decide +kernel
theorem d_method_3_code_112 : decode method_3_code 112 = .ok (.iconst 3, 1) := by decide +kernel
theorem d_method_3_code_113 : decode method_3_code 113 = .ok (.iload 4, 2) := by decide +kernel
theorem d_method_3_code_115 : decode method_3_code 115 = .ok (.castore, 1) := by decide +kernel
theorem d_method_3_code_116 : decode method_3_code 116 = .ok (.invokespecial 15, 3) := by decide +kernel
theorem d_method_3_code_119 : decode method_3_code 119 = .ok (.areturn, 1) := by decide +kernel
theorem d_method_3_code_120 : decode method_3_code 120 = .ok (.iload_n 0, 1) := by decide +kernel
theorem d_method_3_code_121 : decode method_3_code 121 = .ok (.iconst 5, 1) := by decide +kernel
theorem d_method_3_code_122 : decode method_3_code 122 = .ok (.if_icmp .ne 36, 3) := by decide +kernel
theorem d_method_3_code_125 : decode method_3_code 125 = .ok (.new 10, 3) := by decide +kernel
theorem d_method_3_code_128 : decode method_3_code 128 = .ok (.dup, 1) := by decide +kernel
theorem d_method_3_code_129 : decode method_3_code 129 = .ok (.iconst 5, 1) := by decide +kernel
theorem d_method_3_code_130 : decode method_3_code 130 = .ok (.newarray .char, 2) := by decide +kernel
theorem d_method_3_code_132 : decode method_3_code 132 = .ok (.dup, 1) := by decide +kernel
theorem d_method_3_code_133 : decode method_3_code 133 = .ok (.iconst 0, 1) := by decide +kernel
theorem d_method_3_code_134 : decode method_3_code 134 = .ok (.iload_n 1, 1) := by decide +kernel
theorem d_method_3_code_135 : decode method_3_code 135 = .ok (.castore, 1) := by decide +kernel
theorem d_method_3_code_136 : decode method_3_code 136 = .ok (.dup, 1) := by decide +kernel
theorem d_method_3_code_137 : decode method_3_code 137 = .ok (.iconst 1, 1) := by decide +kernel
theorem d_method_3_code_138 : decode method_3_code 138 = .ok (.iload_n 2, 1) := by decide +kernel
theorem d_method_3_code_139 : decode method_3_code 139 = .ok (.castore, 1) := by decide +kernel
theorem d_method_3_code_140 : decode method_3_code 140 = .ok (.dup, 1) := by decide +kernel
theorem d_method_3_code_141 : decode method_3_code 141 = .ok (.iconst 2, 1) := by decide +kernel
theorem d_method_3_code_142 : decode method_3_code 142 = .ok (.iload_n 3, 1) := by decide +kernel
theorem d_method_3_code_143 : decode method_3_code 143 = .ok (.castore, 1) := by decide +kernel
theorem d_method_3_code_144 : decode method_3_code 144 = .ok (.dup, 1) := by decide +kernel
theorem d_method_3_code_145 : decode method_3_code 145 = .ok (.iconst 3, 1) := by decide +kernel
theorem d_method_3_code_146 : decode method_3_code 146 = .ok (.iload 4, 2) := by decide +kernel
theorem d_method_3_code_148 : decode method_3_code 148 = .ok (.castore, 1) := by decide +kernel
theorem d_method_3_code_149 : decode method_3_code 149 = .ok (.dup, 1) := by decide +kernel
theorem d_method_3_code_150 : decode method_3_code 150 = .ok (.iconst 4, 1) := by decide +kernel
theorem d_method_3_code_151 : decode method_3_code 151 = .ok (.iload 5, 2) := by decide +kernel
theorem d_method_3_code_153 : decode method_3_code 153 = .ok (.castore, 1) := by decide +kernel
theorem d_method_3_code_154 : decode method_3_code 154 = .ok (.invokespecial 15, 3) := by decide +kernel
theorem d_method_3_code_157 : decode method_3_code 157 = .ok (.areturn, 1) := by decide +kernel
theorem d_method_3_code_158 : decode method_3_code 158 = .ok (.iload_n 0, 1) := by decide +kernel
theorem d_method_3_code_159 : decode method_3_code 159 = .ok (.bipush 6, 2) := by decide +kernel
theorem d_method_3_code_161 : decode method_3_code 161 = .ok (.if_icmp .ne 42, 3) := by decide +kernel
theorem d_method_3_code_164 : decode method_3_code 164 = .ok (.new 10, 3) := by decide +kernel
theorem d_method_3_code_167 : decode method_3_code 167 = .ok (.dup, 1) := by decide +kernel
theorem d_method_3_code_168 : decode method_3_code 168 = .ok (.bipush 6, 2) := by decide +kernel
theorem d_method_3_code_170 : decode method_3_code 170 = .ok (.newarray .char, 2) := by decide +kernel
theorem d_method_3_code_172 : decode method_3_code 172 = .ok (.dup, 1) := by decide +kernel
theorem d_method_3_code_173 : decode method_3_code 173 = .ok (.iconst 0, 1) := by decide +kernel
theorem d_method_3_code_174 : decode method_3_code 174 = .ok (.iload_n 1, 1) := by decide +kernel
theorem d_method_3_code_175 : decode method_3_code 175 = .ok (.castore, 1) := by decide +kernel
theorem d_method_3_code_176 : decode method_3_code 176 = .ok (.dup, 1) := by decide +kernel
theorem d_method_3_code_177 : decode method_3_code 177 = .ok (.iconst 1, 1) := by decide +kernel
theorem d_method_3_code_178 : decode method_3_code 178 = .ok (.iload_n 2, 1) := by decide +kernel
theorem d_method_3_code_179 : decode method_3_code 179 = .ok (.castore, 1) := by decide +kernel
theorem d_method_3_code_180 : decode method_3_code 180 = .ok (.dup, 1) := by decide +kernel
theorem d_method_3_code_181 : decode method_3_code 181 = .ok (.iconst 2, 1) := by decide +kernel
theorem d_method_3_code_182 : decode method_3_code 182 = .ok (.iload_n 3, 1) := by decide +kernel
theorem d_method_3_code_183 : decode method_3_code 183 = .ok (.castore, 1) := by decide +kernel
theorem d_method_3_code_184 : decode method_3_code 184 = .ok (.dup, 1) := by decide +kernel
theorem d_method_3_code_185 : decode method_3_code 185 = .ok (.iconst 3, 1) := by decide +kernel
theorem d_method_3_code_186 : decode method_3_code 186 = .ok (.iload 4, 2) := by decide +kernel
theorem d_method_3_code_188 : decode method_3_code 188 = .ok (.castore, 1) := by decide +kernel
theorem d_method_3_code_189 : decode method_3_code 189 = .ok (.dup, 1) := by decide +kernel
theorem d_method_3_code_190 : decode method_3_code 190 = .ok (.iconst 4, 1) := by decide +kernel
theorem d_method_3_code_191 : decode method_3_code 191 = .ok (.iload 5, 2) := by decide +kernel
theorem d_method_3_code_193 : decode method_3_code 193 = .ok (.castore, 1) := by decide +kernel
theorem d_method_3_code_194 : decode method_3_code 194 = .ok (.dup, 1) := by decide +kernel
theorem d_method_3_code_195 : decode method_3_code 195 = .ok (.iconst 5, 1) := by decide +kernel
theorem d_method_3_code_196 : decode method_3_code 196 = .ok (.iload 6, 2) := by decide +kernel
theorem d_method_3_code_198 : decode method_3_code 198 = .ok (.castore, 1) := by decide +kernel
theorem d_method_3_code_199 : decode method_3_code 199 = .ok (.invokespecial 15, 3) := by decide +kernel
theorem d_method_3_code_202 : decode method_3_code 202 = .ok (.areturn, 1) := by decide +kernel
theorem d_method_3_code_203 : decode method_3_code 203 = .ok (.new 10, 3) := by decide +kernel
theorem d_method_3_code_206 : decode method_3_code 206 = .ok (.dup, 1) := by decide +kernel
theorem d_method_3_code_207 : decode method_3_code 207 = .ok (.bipush 7, 2) := by decide +kernel
theorem d_method_3_code_209 : decode method_3_code 209 = .ok (.newarray .char, 2) := by decide +kernel
theorem d_method_3_code_211 : decode method_3_code 211 = .ok (.dup, 1) := by decide +kernel
theorem d_method_3_code_212 : decode method_3_code 212 = .ok (.iconst 0, 1) := by decide +kernel
theorem d_method_3_code_213 : decode method_3_code 213 = .ok (.iload_n 1, 1) := by decide +kernel
theorem d_method_3_code_214 : decode method_3_code 214 = .ok (.castore, 1) := by decide +kernel
theorem d_method_3_code_215 : decode method_3_code 215 = .ok (.dup, 1) := by decide +kernel
theorem d_method_3_code_216 : decode method_3_code 216 = .ok (.iconst 1, 1) := by decide +kernel
theorem d_method_3_code_217 : decode method_3_code 217 = .ok (.iload_n 2, 1) := by decide +kernel
theorem d_method_3_code_218 : decode method_3_code 218 = .ok (.castore, 1) := by decide +kernel
theorem d_method_3_code_219 : decode method_3_code 219 = .ok (.dup, 1) := by decide +kernel
theorem d_method_3_code_220 : decode method_3_code 220 = .ok (.iconst 2, 1) := by decide +kernel
theorem d_method_3_code_221 : decode method_3_code 221 = .ok (.iload_n 3, 1) := by decide +kernel
theorem d_method_3_code_222 : decode method_3_code 222 = .ok (.castore, 1) := by decide +kernel
theorem d_method_3_code_223 : decode method_3_code 223 = .ok (.dup, 1) := by decide +kernel
theorem d_method_3_code_224 : decode method_3_code 224 = .ok (.iconst 3, 1) := by decide +kernel
theorem d_method_3_code_225 : decode method_3_code 225 = .ok (.iload 4, 2) := by decide +kernel
theorem d_method_3_code_227 : decode method_3_code 227 = .ok (.castore, 1) := by decide +kernel
theorem d_method_3_code_228 : decode method_3_code 228 = .ok (.dup, 1) := by decide +kernel
theorem d_method_3_code_229 : decode method_3_code 229 = .ok (.iconst 4, 1) := by decide +kernel
theorem d_method_3_code_230 : decode method_3_code 230 = .ok (.iload 5, 2) := by decide +kernel
theorem d_method_3_code_232 : decode method_3_code 232 = .ok (.castore, 1) := by decide +kernel
theorem d_method_3_code_233 : decode method_3_code 233 = .ok (.dup, 1) := by decide +kernel
theorem d_method_3_code_234 : decode method_3_code 234 = .ok (.iconst 5, 1) := by decide +kernel
theorem d_method_3_code_235 : decode method_3_code 235 = .ok (.iload 6, 2) := by decide +kernel
theorem d_method_3_code_237 : decode method_3_code 237 = .ok (.castore, 1) := by decide +kernel
theorem d_method_3_code_238 : decode method_3_code 238 = .ok (.dup, 1) := by decide +kernel
theorem d_method_3_code_239 : decode method_3_code 239 = .ok (.bipush 6, 2) := by decide +kernel
theorem d_method_3_code_241 : decode method_3_code 241 = .ok (.iload 7, 2) := by decide +kernel
theorem d_method_3_code_243 : decode method_3_code 243 = .ok (.castore, 1) := by decide +kernel
theorem d_method_3_code_244 : decode method_3_code 244 = .ok (.invokespecial 15, 3) := by decide +kernel
theorem d_method_3_code_247 : decode method_3_code 247 = .ok (.areturn, 1) := by decide +kernel
set_option maxRecDepth 65536 in
set_option maxHeartbeats 40000000 in
theorem rm_mk (l : Launch) (Z : State) (a0 : Array Value) (hw : ∀ d ∈ tables_1, d.before a0 Z = true) (ws : List Jvm.Cond) (p0 : Int32) (p1 : Int32) (p2 : Int32) (p3 : Int32) (p4 : Int32) (p5 : Int32) (p6 : Int32) (p7 : Int32) (z : Int32) (h0 : Heap) (n0 : Nat) (Z0 : n0 ≤ h0.size) (O0 : Old Z n0 h0) (S0 : Sta Z Z.heap "java/lang/String" "COMPACT_STRINGS" "Z" (.int z)) (hz : ¬ z = 0) (b1 : ¬ p1 < 0 ∧ ¬ (255 : Int32) < p1) (b2 : ¬ p2 < 0 ∧ ¬ (255 : Int32) < p2) (b3 : ¬ p3 < 0 ∧ ¬ (255 : Int32) < p3) (b4 : ¬ p4 < 0 ∧ ¬ (255 : Int32) < p4) (b5 : ¬ p5 < 0 ∧ ¬ (255 : Int32) < p5) (b6 : ¬ p6 < 0 ∧ ¬ (255 : Int32) < p6) (b7 : ¬ p7 < 0 ∧ ¬ (255 : Int32) < p7) :
    CtrW l Z own_EL (⟨"com/example/caddisfly/caddisfly/SyntaxIsHelpPinLaw", "mk", "(ICCCCCCC)Ljava/lang/String;"⟩ : MethodName) method_3_code 8 ((Option.some (Jvm.ClassFile.FieldType.object "java/lang/String"))) ws ({ frames := 4, cells := 6, slots := 20, locals := 70 } : Room) #[(.int p0), (.int p1), (.int p2), (.int p3), (.int p4), (.int p5), (.int p6), (.int p7)] h0 (fun v h L => ∃ a : Addr, v = some (.ref a) ∧ Fr n0 L ∧ Keep h0 h [] ∧ Str Z h a (own_mk p0 p1 p2 p3 p4 p5 p6 p7)) := by
  refine CtrW.of (MetFree.of_bodySF (plainFor_of_name pn_44) hisR ?_)
  intro p e s m args below meth c s₁ Bd hml0 hP hK
  obtain ⟨rfl, hZ0, hh, hC⟩ := hP
  have hx := Bd.exec
  have hby := Bd.bytes
  have hml : c.maxLocals = 8 := hml0
  have hZ : Z.Warmed39 (s.setVm s.vm).vm := hZ0
  have hown : (s.setVm s.vm).vm.findClass "com/example/caddisfly/caddisfly/SyntaxIsHelpPinLaw" = some m.cls := findClass_of_methodNamed Bd.named
  have hnm := (name_of_methodNamed Bd.named Bd.method).1
  have X0 : Stand p l e ({ frames := 4, cells := 6, slots := 20, locals := 70 } : Room) (s.setVm s.vm) m #[(.int p0), (.int p1), (.int p2), (.int p3), (.int p4), (.int p5), (.int p6), (.int p7)] below meth c s₁ [] 0 0 := Stand.of_body Bd
  have e0 : s₁.heap = h0 := by rw [← hh, Bd.state]; rfl
  have N0 := Fr.nil n0
  have K0 : Keep h0 h0 [] := Keep.refl h0 []
  have hS : s.Since s.vm 0 := (State.WarmedH.refl s).since 0
  have hk : 0 ≤ h0.size := Nat.zero_le _
  have R0 : CHr Z own_EL s.vm h0 s.vm h0 := CHr.refl hC
  show OwnGoW p e below s Z own_EL (fun v h L => ∃ a : Addr, v = some (.ref a) ∧ Fr n0 L ∧ Keep h0 h [] ∧ Str Z h a (own_mk p0 p1 p2 p3 p4 p5 p6 p7)) ({ frames := 4, cells := 6, slots := 20, locals := 70 } : Room).cells ({ frames := 4, cells := 6, slots := 20, locals := 70 } : Room).slots _
  refine gsW (S' := s₁.setTop (mkF m 0 #[.val (.int p0), .val (.int p1), .val (.int p2), .val (.int p3), .val (.int p4), .val (.int p5), .val (.int p6), .val (.int p7)] [])) (fun tg kg => castTop (ef_45 m p0 p1 p2 p3 p4 p5 p6 p7) kg) ?_
  have hws : ∀ d ∈ StrChars.Road.words, d.before a0 Z = true := fun d hd => hw d ((by decide +kernel : ∀ d ∈ StrChars.Road.words, d ∈ tables_1) d hd)
  have c1 : ∀ tg, Steps p.tables e below (s₁.setTop (mkF m 1 #[.val (.int p0), .val (.int p1), .val (.int p2), .val (.int p3), .val (.int p4), .val (.int p5), .val (.int p6), .val (.int p7)] [(.int p0)])) tg → Steps p.tables e below (s₁.setTop (mkF m 0 #[.val (.int p0), .val (.int p1), .val (.int p2), .val (.int p3), .val (.int p4), .val (.int p5), .val (.int p6), .val (.int p7)] [])) tg := fun tg kg => by
    refine XS.iloadN X0.here hx rfl (hb hby d_method_3_code_0) rfl ?_
    show Steps p.tables e below (s₁.setTop (mkF m 1 #[.val (.int p0), .val (.int p1), .val (.int p2), .val (.int p3), .val (.int p4), .val (.int p5), .val (.int p6), .val (.int p7)] [(.int p0)])) tg
    exact kg
  refine gsW c1 ?_
  by_cases hc2 : p0 = (0 : Int32)
  · have c3 : ∀ tg, Steps p.tables e below (s₁.setTop (mkF m 4 #[.val (.int p0), .val (.int p1), .val (.int p2), .val (.int p3), .val (.int p4), .val (.int p5), .val (.int p6), .val (.int p7)] [])) tg → Steps p.tables e below (s₁.setTop (mkF m 1 #[.val (.int p0), .val (.int p1), .val (.int p2), .val (.int p3), .val (.int p4), .val (.int p5), .val (.int p6), .val (.int p7)] [(.int p0)])) tg := fun tg kg => by
      refine XS.ifNo X0.here hx rfl (hb hby d_method_3_code_1) rfl ((if0 _ _).trans (teq hc2).2) ?_
      show Steps p.tables e below (s₁.setTop (mkF m 4 #[.val (.int p0), .val (.int p1), .val (.int p2), .val (.int p3), .val (.int p4), .val (.int p5), .val (.int p6), .val (.int p7)] [])) tg
      exact kg
    refine gsW c3 ?_
    obtain ⟨T4, h4, X4, e4, E4, A4, D4, -, st4⟩ := newO X0 hx hZ hown (hw _ (List.mem_of_getElem? (i := 7) rfl)) (hw _ (List.mem_of_getElem? (i := 8) rfl)) (hw _ (List.mem_of_getElem? (i := 9) rfl)) e0 (g := (mkF m 4 #[.val (.int p0), .val (.int p1), .val (.int p2), .val (.int p3), .val (.int p4), .val (.int p5), .val (.int p6), .val (.int p7)] [])) rfl (hb hby d_method_3_code_4) (by decide) (by decide)
    obtain ⟨b4, q4⟩ : ∃ z, z = h0.size := ⟨_, rfl⟩
    rw [← q4] at A4 D4 st4
    have g_b4 : n0 ≤ b4 := Nat.le_trans Z0 (Nat.le_of_eq q4.symm)
    have sz_b4 : h0.size ≤ b4 := Nat.le_trans K0.1 (Nat.le_of_eq q4.symm)
    have sfa4 : Safe Z own_EL s.vm h0 b4 := Safe.new (Nat.le_of_eq q4.symm)
    have r5 : CHr Z own_EL s.vm h0 s.vm h4 := CHr.ext E4 R0.1
    have R5 : CHr Z own_EL s.vm h0 s.vm h4 := R0.trans r5
    have Z5 : n0 ≤ h4.size := Nat.le_trans Z0 E4.1
    have O5 : Old Z n0 h4 := O0.ext E4
    have K5 : Keep h0 h4 [] := K0.ext E4
    have sfb4 := Safe.ext E4 R0.1 sfa4
    have F_value_b4 : Fld Z h4 b4 "java/lang/String" "value" "[B" .null := D4 (Or.inr (hw _ (List.mem_of_getElem? (i := 23) rfl))) (ty := (.array .byte)) (by decide)
    have F_coder_b4 : Fld Z h4 b4 "java/lang/String" "coder" "B" (.int (0 : Int32)) := D4 (Or.inr (hw _ (List.mem_of_getElem? (i := 24) rfl))) (ty := .byte) (by decide)
    refine gsW st4 ?_
    show OwnGoW p e below s Z own_EL _ _ _ (T4.setTop (mkF m 7 #[.val (.int p0), .val (.int p1), .val (.int p2), .val (.int p3), .val (.int p4), .val (.int p5), .val (.int p6), .val (.int p7)] [(.ref b4)]))
    have c6 : ∀ tg, Steps p.tables e below (T4.setTop (mkF m 9 #[.val (.int p0), .val (.int p1), .val (.int p2), .val (.int p3), .val (.int p4), .val (.int p5), .val (.int p6), .val (.int p7)] [(.int (0 : Int32)), (.ref b4), (.ref b4)])) tg → Steps p.tables e below (T4.setTop (mkF m 7 #[.val (.int p0), .val (.int p1), .val (.int p2), .val (.int p3), .val (.int p4), .val (.int p5), .val (.int p6), .val (.int p7)] [(.ref b4)])) tg := fun tg kg => by
      refine XS.dup X4.here hx rfl (hb hby d_method_3_code_7) rfl rfl ?_
      show Steps p.tables e below (T4.setTop (mkF m 8 #[.val (.int p0), .val (.int p1), .val (.int p2), .val (.int p3), .val (.int p4), .val (.int p5), .val (.int p6), .val (.int p7)] [(.ref b4), (.ref b4)])) tg
      refine XS.iconst X4.here hx rfl (hb hby d_method_3_code_8) ?_
      show Steps p.tables e below (T4.setTop (mkF m 9 #[.val (.int p0), .val (.int p1), .val (.int p2), .val (.int p3), .val (.int p4), .val (.int p5), .val (.int p6), .val (.int p7)] [(.int (0 : Int32)), (.ref b4), (.ref b4)])) tg
      exact kg
    refine gsW c6 ?_
    obtain ⟨T7, h7, k7, X7, e7, E7, A7, st7⟩ := newP X4 hx hZ (hw _ (List.mem_of_getElem? (i := 10) rfl)) e4 (g := (mkF m 9 #[.val (.int p0), .val (.int p1), .val (.int p2), .val (.int p3), .val (.int p4), .val (.int p5), .val (.int p6), .val (.int p7)] [(.int (0 : Int32)), (.ref b4), (.ref b4)])) rfl (hb hby d_method_3_code_9) rfl (by decide) (cap := 0) (by decide) (by decide) (by decide) (by decide)
    obtain ⟨b7, q7⟩ : ∃ z, z = h4.size := ⟨_, rfl⟩
    rw [← q7] at A7 st7
    have g_b7 : n0 ≤ b7 := Nat.le_trans Z5 (Nat.le_of_eq q7.symm)
    have sz_b7 : h0.size ≤ b7 := Nat.le_trans K5.1 (Nat.le_of_eq q7.symm)
    have r8 : CHr Z own_EL s.vm h4 s.vm h7 := CHr.ext E7 R5.1
    have R8 : CHr Z own_EL s.vm h0 s.vm h7 := R5.trans r8
    have Z8 : n0 ≤ h7.size := Nat.le_trans Z5 E7.1
    have O8 : Old Z n0 h7 := O5.ext E7
    have K8 : Keep h0 h7 [] := K5.ext E7
    have V7 : Arv Z h7 b7 k7 .char (0 : Int32) [] (.int (0 : Int32)) := (Arv.new A7 (by decide)).pad (pad_rep [] (.int (0 : Int32)) 0)
    refine gsW st7 ?_
    show OwnGoW p e below s Z own_EL _ _ _ (T7.setTop (mkF m 11 #[.val (.int p0), .val (.int p1), .val (.int p2), .val (.int p3), .val (.int p4), .val (.int p5), .val (.int p6), .val (.int p7)] [(.ref b7), (.ref b4), (.ref b4)]))
    have f9 := (A4.ext E7)
    have f10 := (F_value_b4.ext E7)
    have f11 := (F_coder_b4.ext E7)
    obtain ⟨_, _, ⟨T12, L12, k12, n12⟩, -, Xq12, hSq12, gq12, ⟨Lc12, hQ12, l12, y12, z12, rq12⟩, st12⟩ := X7.specialBackS hx (y := (⟨"java/lang/String", "<init>", "([C)V"⟩ : MethodName)) rfl hown (mvT hZ (hw _ (List.mem_of_getElem? (i := 11) rfl))) (mvT hZ (hw _ (List.mem_of_getElem? (i := 12) rfl))) (mvT hZ (hw _ (List.mem_of_getElem? (i := 13) rfl))) (by decide) (backCW (W := 1) (rm_s0 l Z a0 hw [] b4 b7 k7 h7 n0 Z8 O8 f9 f10 f11 g_b4 V7) hZ (hw _ (List.mem_of_getElem? (i := 13) rfl)) (hw _ (List.mem_of_getElem? (i := 9) rfl)) (by decide) (by decide) (own_EW hw) R8.1) (g := (mkF m 11 #[.val (.int p0), .val (.int p1), .val (.int p2), .val (.int p3), .val (.int p4), .val (.int p5), .val (.int p6), .val (.int p7)] [(.ref b7), (.ref b4), (.ref b4)])) rfl (by rw [hml]; rfl) (Steps.refl _) (a := b4) (argsL := [(.ref b7)]) (rest := [(.ref b4)]) (lenOf pd_53 rfl) rfl (by show 2 * 0 + _ ≤ _; exact Nat.le_of_eq rfl) (hb hby d_method_3_code_11) (fun _ _ => ⟨rfl, e7, (by decide : 2 + 4 ≤ _), (by decide : 4 + 8 ≤ _)⟩)
    dsimp only [Pt.U, Pt.locs, Pt.cells, Pt.slots] at Xq12 hSq12 gq12 rq12 l12 y12 z12 st12 hQ12
    subst l12 y12 z12
    obtain ⟨X12, hS, hZ, hown⟩ := rebS hS (Nat.le_trans (Nat.le_trans hk (Nat.le_trans E4.1 E7.1)) (Nat.le_of_eq (congrArg Array.size (e7 : T7.heap = h7).symm))) Xq12 hSq12 gq12 hZ hown
    obtain ⟨rfl, N12q, K12q, T12q⟩ := hQ12
    have N12 := Fr.app N0 N12q
    have r13 : CHr Z own_EL s.vm h7 T12.vm T12.heap := rq12
    have R13 : CHr Z own_EL s.vm h0 T12.vm T12.heap := R8.trans r13
    have Z13 : n0 ≤ T12.heap.size := Nat.le_trans Z8 K12q.1
    have O13 : Old Z n0 T12.heap := O8.keep K12q (allS g_b4 all0)
    have K13 : Keep h0 T12.heap [] := K8.trans K12q (allS (Or.inr sz_b4) all0)
    refine gsW (fun _ k => st12.trans k) ?_
    show OwnGoW p e below s Z own_EL _ _ _ (T12.setTop (mkF m 14 #[.val (.int p0), .val (.int p1), .val (.int p2), .val (.int p3), .val (.int p4), .val (.int p5), .val (.int p6), .val (.int p7)] [(.ref b4)]))
    refine goutW (v := some (.ref b4)) X12 hS (Nat.le_refl T12.heap.size) hZ (own_EW hw) hh rfl R13 Bd.notSynchronized (fun h => by rw [Bd.returns] at h; cases h) (by decide) (by decide) ?_ (fun fs hr => retOut X12 hx Bd.returns rfl (Or.inr (Or.inr (Or.inr (Or.inr ⟨rfl, rfl, rfl⟩)))) (hb hby d_method_3_code_14) hr)
    exact ⟨_, rfl, N12, K13, by unfold own_mk; rw [if_pos hc2]; exact T12q⟩
  · have c14 : ∀ tg, Steps p.tables e below (s₁.setTop (mkF m 17 #[.val (.int p0), .val (.int p1), .val (.int p2), .val (.int p3), .val (.int p4), .val (.int p5), .val (.int p6), .val (.int p7)] [(.int (1 : Int32)), (.int p0)])) tg → Steps p.tables e below (s₁.setTop (mkF m 1 #[.val (.int p0), .val (.int p1), .val (.int p2), .val (.int p3), .val (.int p4), .val (.int p5), .val (.int p6), .val (.int p7)] [(.int p0)])) tg := fun tg kg => by
      refine XS.ifYes X0.here hx rfl (pc0 := 1) (pc' := 15) rfl (hb hby d_method_3_code_1) rfl ((if0 _ _).trans (feq hc2).2) (by decide) (by decide) ?_
      show Steps p.tables e below (s₁.setTop (mkF m 15 #[.val (.int p0), .val (.int p1), .val (.int p2), .val (.int p3), .val (.int p4), .val (.int p5), .val (.int p6), .val (.int p7)] [])) tg
      refine XS.iloadN X0.here hx rfl (hb hby d_method_3_code_15) rfl ?_
      show Steps p.tables e below (s₁.setTop (mkF m 16 #[.val (.int p0), .val (.int p1), .val (.int p2), .val (.int p3), .val (.int p4), .val (.int p5), .val (.int p6), .val (.int p7)] [(.int p0)])) tg
      refine XS.iconst X0.here hx rfl (hb hby d_method_3_code_16) ?_
      show Steps p.tables e below (s₁.setTop (mkF m 17 #[.val (.int p0), .val (.int p1), .val (.int p2), .val (.int p3), .val (.int p4), .val (.int p5), .val (.int p6), .val (.int p7)] [(.int (1 : Int32)), (.int p0)])) tg
      exact kg
    refine gsW c14 ?_
    by_cases hc15 : p0 = (1 : Int32)
    · have c16 : ∀ tg, Steps p.tables e below (s₁.setTop (mkF m 20 #[.val (.int p0), .val (.int p1), .val (.int p2), .val (.int p3), .val (.int p4), .val (.int p5), .val (.int p6), .val (.int p7)] [])) tg → Steps p.tables e below (s₁.setTop (mkF m 17 #[.val (.int p0), .val (.int p1), .val (.int p2), .val (.int p3), .val (.int p4), .val (.int p5), .val (.int p6), .val (.int p7)] [(.int (1 : Int32)), (.int p0)])) tg := fun tg kg => by
        refine XS.icmpNo X0.here hx rfl (hb hby d_method_3_code_17) rfl (teq hc15).2 ?_
        show Steps p.tables e below (s₁.setTop (mkF m 20 #[.val (.int p0), .val (.int p1), .val (.int p2), .val (.int p3), .val (.int p4), .val (.int p5), .val (.int p6), .val (.int p7)] [])) tg
        exact kg
      refine gsW c16 ?_
      obtain ⟨T17, h17, X17, e17, E17, A17, D17, -, st17⟩ := newO X0 hx hZ hown (hw _ (List.mem_of_getElem? (i := 7) rfl)) (hw _ (List.mem_of_getElem? (i := 8) rfl)) (hw _ (List.mem_of_getElem? (i := 9) rfl)) e0 (g := (mkF m 20 #[.val (.int p0), .val (.int p1), .val (.int p2), .val (.int p3), .val (.int p4), .val (.int p5), .val (.int p6), .val (.int p7)] [])) rfl (hb hby d_method_3_code_20) (by decide) (by decide)
      obtain ⟨b17, q17⟩ : ∃ z, z = h0.size := ⟨_, rfl⟩
      rw [← q17] at A17 D17 st17
      have g_b17 : n0 ≤ b17 := Nat.le_trans Z0 (Nat.le_of_eq q17.symm)
      have sz_b17 : h0.size ≤ b17 := Nat.le_trans K0.1 (Nat.le_of_eq q17.symm)
      have sfa17 : Safe Z own_EL s.vm h0 b17 := Safe.new (Nat.le_of_eq q17.symm)
      have r18 : CHr Z own_EL s.vm h0 s.vm h17 := CHr.ext E17 R0.1
      have R18 : CHr Z own_EL s.vm h0 s.vm h17 := R0.trans r18
      have Z18 : n0 ≤ h17.size := Nat.le_trans Z0 E17.1
      have O18 : Old Z n0 h17 := O0.ext E17
      have K18 : Keep h0 h17 [] := K0.ext E17
      have sfb17 := Safe.ext E17 R0.1 sfa17
      have F_value_b17 : Fld Z h17 b17 "java/lang/String" "value" "[B" .null := D17 (Or.inr (hw _ (List.mem_of_getElem? (i := 23) rfl))) (ty := (.array .byte)) (by decide)
      have F_coder_b17 : Fld Z h17 b17 "java/lang/String" "coder" "B" (.int (0 : Int32)) := D17 (Or.inr (hw _ (List.mem_of_getElem? (i := 24) rfl))) (ty := .byte) (by decide)
      refine gsW st17 ?_
      show OwnGoW p e below s Z own_EL _ _ _ (T17.setTop (mkF m 23 #[.val (.int p0), .val (.int p1), .val (.int p2), .val (.int p3), .val (.int p4), .val (.int p5), .val (.int p6), .val (.int p7)] [(.ref b17)]))
      have c19 : ∀ tg, Steps p.tables e below (T17.setTop (mkF m 25 #[.val (.int p0), .val (.int p1), .val (.int p2), .val (.int p3), .val (.int p4), .val (.int p5), .val (.int p6), .val (.int p7)] [(.int (1 : Int32)), (.ref b17), (.ref b17)])) tg → Steps p.tables e below (T17.setTop (mkF m 23 #[.val (.int p0), .val (.int p1), .val (.int p2), .val (.int p3), .val (.int p4), .val (.int p5), .val (.int p6), .val (.int p7)] [(.ref b17)])) tg := fun tg kg => by
        refine XS.dup X17.here hx rfl (hb hby d_method_3_code_23) rfl rfl ?_
        show Steps p.tables e below (T17.setTop (mkF m 24 #[.val (.int p0), .val (.int p1), .val (.int p2), .val (.int p3), .val (.int p4), .val (.int p5), .val (.int p6), .val (.int p7)] [(.ref b17), (.ref b17)])) tg
        refine XS.iconst X17.here hx rfl (hb hby d_method_3_code_24) ?_
        show Steps p.tables e below (T17.setTop (mkF m 25 #[.val (.int p0), .val (.int p1), .val (.int p2), .val (.int p3), .val (.int p4), .val (.int p5), .val (.int p6), .val (.int p7)] [(.int (1 : Int32)), (.ref b17), (.ref b17)])) tg
        exact kg
      refine gsW c19 ?_
      obtain ⟨T20, h20, k20, X20, e20, E20, A20, st20⟩ := newP X17 hx hZ (hw _ (List.mem_of_getElem? (i := 10) rfl)) e17 (g := (mkF m 25 #[.val (.int p0), .val (.int p1), .val (.int p2), .val (.int p3), .val (.int p4), .val (.int p5), .val (.int p6), .val (.int p7)] [(.int (1 : Int32)), (.ref b17), (.ref b17)])) rfl (hb hby d_method_3_code_25) rfl (by decide) (cap := 1) (by decide) (by decide) (by decide) (by decide)
      obtain ⟨b20, q20⟩ : ∃ z, z = h17.size := ⟨_, rfl⟩
      rw [← q20] at A20 st20
      have g_b20 : n0 ≤ b20 := Nat.le_trans Z18 (Nat.le_of_eq q20.symm)
      have sz_b20 : h0.size ≤ b20 := Nat.le_trans K18.1 (Nat.le_of_eq q20.symm)
      have r21 : CHr Z own_EL s.vm h17 s.vm h20 := CHr.ext E20 R18.1
      have R21 : CHr Z own_EL s.vm h0 s.vm h20 := R18.trans r21
      have Z21 : n0 ≤ h20.size := Nat.le_trans Z18 E20.1
      have O21 : Old Z n0 h20 := O18.ext E20
      have K21 : Keep h0 h20 [] := K18.ext E20
      have V20 : Arv Z h20 b20 k20 .char (1 : Int32) [(.int (0 : Int32))] (.int (0 : Int32)) := (Arv.new A20 (by decide)).pad (pad_rep [] (.int (0 : Int32)) 1)
      refine gsW st20 ?_
      show OwnGoW p e below s Z own_EL _ _ _ (T20.setTop (mkF m 27 #[.val (.int p0), .val (.int p1), .val (.int p2), .val (.int p3), .val (.int p4), .val (.int p5), .val (.int p6), .val (.int p7)] [(.ref b20), (.ref b17), (.ref b17)]))
      have c22 : ∀ tg, Steps p.tables e below (T20.setTop (mkF m 30 #[.val (.int p0), .val (.int p1), .val (.int p2), .val (.int p3), .val (.int p4), .val (.int p5), .val (.int p6), .val (.int p7)] [(.int p1), (.int (0 : Int32)), (.ref b20), (.ref b20), (.ref b17), (.ref b17)])) tg → Steps p.tables e below (T20.setTop (mkF m 27 #[.val (.int p0), .val (.int p1), .val (.int p2), .val (.int p3), .val (.int p4), .val (.int p5), .val (.int p6), .val (.int p7)] [(.ref b20), (.ref b17), (.ref b17)])) tg := fun tg kg => by
        refine XS.dup X20.here hx rfl (hb hby d_method_3_code_27) rfl rfl ?_
        show Steps p.tables e below (T20.setTop (mkF m 28 #[.val (.int p0), .val (.int p1), .val (.int p2), .val (.int p3), .val (.int p4), .val (.int p5), .val (.int p6), .val (.int p7)] [(.ref b20), (.ref b20), (.ref b17), (.ref b17)])) tg
        refine XS.iconst X20.here hx rfl (hb hby d_method_3_code_28) ?_
        show Steps p.tables e below (T20.setTop (mkF m 29 #[.val (.int p0), .val (.int p1), .val (.int p2), .val (.int p3), .val (.int p4), .val (.int p5), .val (.int p6), .val (.int p7)] [(.int (0 : Int32)), (.ref b20), (.ref b20), (.ref b17), (.ref b17)])) tg
        refine XS.iloadN X20.here hx rfl (hb hby d_method_3_code_29) rfl ?_
        show Steps p.tables e below (T20.setTop (mkF m 30 #[.val (.int p0), .val (.int p1), .val (.int p2), .val (.int p3), .val (.int p4), .val (.int p5), .val (.int p6), .val (.int p7)] [(.int p1), (.int (0 : Int32)), (.ref b20), (.ref b20), (.ref b17), (.ref b17)])) tg
        exact kg
      refine gsW c22 ?_
      obtain ⟨cl23, A23, a23q, a23S, a23N, a23H, a23G⟩ := id V20
      obtain ⟨T23, h23, X23, e23, W23, st23⟩ := stC X20 hx hZ e20 A23 (j := (0 : Int32)) (inb_of a23S ⟨by decide, by decide⟩) (g := (mkF m 30 #[.val (.int p0), .val (.int p1), .val (.int p2), .val (.int p3), .val (.int p4), .val (.int p5), .val (.int p6), .val (.int p7)] [(.int p1), (.int (0 : Int32)), (.ref b20), (.ref b20), (.ref b17), (.ref b17)])) rfl rfl (hb hby d_method_3_code_30)
      have V23 : Arv Z h23 b20 k20 .char (1 : Int32) [(.int (nar .char p1))] (.int (0 : Int32)) := Arv.set A23 a23q a23S a23N a23H a23G (fits_nar_char _) W23 0 rfl (Nat.le_of_ble_eq_true rfl)
      have N23 := Fr.snoc X23 N0 g_b20
      have r24 : CHr Z own_EL s.vm h20 s.vm h23 := CHr.wr W23 (Safe.arv hZ.alike V20 (by decide)) R21.1
      have R24 : CHr Z own_EL s.vm h0 s.vm h23 := R21.trans r24
      have Z24 : n0 ≤ h23.size := Nat.le_trans Z21 (Keep.of_wr W23).1
      have O24 : Old Z n0 h23 := O21.wr W23 g_b20
      have K24 : Keep h0 h23 [] := K21.wr W23 (Or.inr sz_b20)
      refine gsW st23 ?_
      show OwnGoW p e below s Z own_EL _ _ _ (T23.setTop (mkF m 31 #[.val (.int p0), .val (.int p1), .val (.int p2), .val (.int p3), .val (.int p4), .val (.int p5), .val (.int p6), .val (.int p7)] [(.ref b20), (.ref b17), (.ref b17)]))
      have hp25 : ∀ c ∈ ([(nar .char p1)] : List Int32), ¬ c < 0 ∧ ¬ (255 : Int32) < c := by
        intro c hc
        simp only [List.mem_cons, List.not_mem_nil, or_false] at hc
        rcases hc with rfl
        all_goals first | exact own_nb b1 | exact own_nb b2 | exact own_nb b3 | exact own_nb b4 | exact own_nb b5 | exact own_nb b6 | exact own_nb b7
      have f26 := ((A17.ext E20).wr W23)
      have f27 := ((F_value_b17.ext E20).other W23 (Or.inl (Nat.ne_of_lt (Nat.lt_of_lt_of_le (Nat.lt_of_lt_of_le A17.lt (Nat.le_refl _)) (Nat.le_of_eq q20.symm)))))
      have f28 := ((F_coder_b17.ext E20).other W23 (Or.inl (Nat.ne_of_lt (Nat.lt_of_lt_of_le (Nat.lt_of_lt_of_le A17.lt (Nat.le_refl _)) (Nat.le_of_eq q20.symm)))))
      obtain ⟨_, _, ⟨T29, L29, k29, n29⟩, -, X29, ⟨Lc29, hQ29, l29, y29, z29⟩, st29⟩ := X23.specialBack hx (y := (⟨"java/lang/String", "<init>", "([C)V"⟩ : MethodName)) rfl hown (mvT hZ (hw _ (List.mem_of_getElem? (i := 11) rfl))) (mvT hZ (hw _ (List.mem_of_getElem? (i := 12) rfl))) (mvT hZ (hw _ (List.mem_of_getElem? (i := 13) rfl))) (by decide) (StrChars.Road.backV (W := 1) hZ hws (kI := 4) (hw _ (List.mem_of_getElem? (i := 8) rfl)) (cs := ([(nar .char p1)] : List Int32)) (bs := ([(nar .char p1)] : List Int32).map (fun c => c.toInt8.toInt32)) (n := 1) g_b17 Z24 f26 f27 f28 V23 (S0.ext O24.2) hz rfl rfl (by decide) (by decide) hp25 rfl (by decide) (by decide)) (g := (mkF m 31 #[.val (.int p0), .val (.int p1), .val (.int p2), .val (.int p3), .val (.int p4), .val (.int p5), .val (.int p6), .val (.int p7)] [(.ref b20), (.ref b17), (.ref b17)])) rfl (by rw [hml]; rfl) (Steps.refl _) (a := b17) (argsL := [(.ref b20)]) (rest := [(.ref b17)]) (lenOf pd_53 rfl) rfl (by show 2 * 0 + _ ≤ _; exact Nat.le_of_eq rfl) (hb hby d_method_3_code_31) (fun _ _ => ⟨rfl, e23, (by decide : 2 + 1 ≤ _), (by decide : 5 + 1 ≤ _)⟩)
      dsimp only [Pt.U, Pt.locs, Pt.cells, Pt.slots] at X29 l29 y29 z29 st29 hQ29
      subst l29 y29 z29
      obtain ⟨rfl, N29q, K29q, g29e, g29c, t29, kb29, -, g29t, -, g29v, g29a⟩ := hQ29
      have N29 := Fr.app N23 N29q
      have g_t29 : n0 ≤ t29 := Nat.le_trans Z24 g29t
      have sz_t29 : h0.size ≤ t29 := Nat.le_trans K24.1 g29t
      have f31 := (r24.safe (Nat.lt_of_lt_of_le A17.lt E20.1) (r21.safe (Nat.lt_of_lt_of_le A17.lt (Nat.le_refl _)) sfb17))
      have r30 : CHr Z own_EL s.vm h23 s.vm T29.heap := CHr.keep K29q (sfS f31 sf0) R24.1
      have R30 : CHr Z own_EL s.vm h0 s.vm T29.heap := R24.trans r30
      have Z30 : n0 ≤ T29.heap.size := Nat.le_trans Z24 K29q.1
      have O30 : Old Z n0 T29.heap := O24.keep K29q (allS g_b17 all0)
      have K30 : Keep h0 T29.heap [] := K24.trans K29q (allS (Or.inr sz_b17) all0)
      refine gsW (fun _ k => st29.trans k) ?_
      show OwnGoW p e below s Z own_EL _ _ _ (T29.setTop (mkF m 34 #[.val (.int p0), .val (.int p1), .val (.int p2), .val (.int p3), .val (.int p4), .val (.int p5), .val (.int p6), .val (.int p7)] [(.ref b17)]))
      have T32 : Str Z T29.heap b17 ([(nar .char p1)] : List Int32) := ⟨_, _, g29e, g29c, g29v, g29a⟩
      simp only [own_nc b1, own_nc b2, own_nc b3, own_nc b4, own_nc b5, own_nc b6, own_nc b7] at T32
      refine goutW (v := some (.ref b17)) X29 hS (Nat.le_trans hk (Nat.le_trans (Nat.le_trans (Nat.le_trans E17.1 E20.1) (Keep.of_wr W23).1) K29q.1)) hZ (own_EW hw) hh rfl R30 Bd.notSynchronized (fun h => by rw [Bd.returns] at h; cases h) (by decide) (by decide) ?_ (fun fs hr => retOut X29 hx Bd.returns rfl (Or.inr (Or.inr (Or.inr (Or.inr ⟨rfl, rfl, rfl⟩)))) (hb hby d_method_3_code_34) hr)
      exact ⟨_, rfl, N29, K30, by unfold own_mk; rw [if_neg hc2, if_pos hc15]; exact T32⟩
    · have c33 : ∀ tg, Steps p.tables e below (s₁.setTop (mkF m 37 #[.val (.int p0), .val (.int p1), .val (.int p2), .val (.int p3), .val (.int p4), .val (.int p5), .val (.int p6), .val (.int p7)] [(.int (2 : Int32)), (.int p0)])) tg → Steps p.tables e below (s₁.setTop (mkF m 17 #[.val (.int p0), .val (.int p1), .val (.int p2), .val (.int p3), .val (.int p4), .val (.int p5), .val (.int p6), .val (.int p7)] [(.int (1 : Int32)), (.int p0)])) tg := fun tg kg => by
        refine XS.icmpYes X0.here hx rfl (pc0 := 17) (pc' := 35) rfl (hb hby d_method_3_code_17) rfl (feq hc15).2 (by decide) (by decide) ?_
        show Steps p.tables e below (s₁.setTop (mkF m 35 #[.val (.int p0), .val (.int p1), .val (.int p2), .val (.int p3), .val (.int p4), .val (.int p5), .val (.int p6), .val (.int p7)] [])) tg
        refine XS.iloadN X0.here hx rfl (hb hby d_method_3_code_35) rfl ?_
        show Steps p.tables e below (s₁.setTop (mkF m 36 #[.val (.int p0), .val (.int p1), .val (.int p2), .val (.int p3), .val (.int p4), .val (.int p5), .val (.int p6), .val (.int p7)] [(.int p0)])) tg
        refine XS.iconst X0.here hx rfl (hb hby d_method_3_code_36) ?_
        show Steps p.tables e below (s₁.setTop (mkF m 37 #[.val (.int p0), .val (.int p1), .val (.int p2), .val (.int p3), .val (.int p4), .val (.int p5), .val (.int p6), .val (.int p7)] [(.int (2 : Int32)), (.int p0)])) tg
        exact kg
      refine gsW c33 ?_
      by_cases hc34 : p0 = (2 : Int32)
      · have c35 : ∀ tg, Steps p.tables e below (s₁.setTop (mkF m 40 #[.val (.int p0), .val (.int p1), .val (.int p2), .val (.int p3), .val (.int p4), .val (.int p5), .val (.int p6), .val (.int p7)] [])) tg → Steps p.tables e below (s₁.setTop (mkF m 37 #[.val (.int p0), .val (.int p1), .val (.int p2), .val (.int p3), .val (.int p4), .val (.int p5), .val (.int p6), .val (.int p7)] [(.int (2 : Int32)), (.int p0)])) tg := fun tg kg => by
          refine XS.icmpNo X0.here hx rfl (hb hby d_method_3_code_37) rfl (teq hc34).2 ?_
          show Steps p.tables e below (s₁.setTop (mkF m 40 #[.val (.int p0), .val (.int p1), .val (.int p2), .val (.int p3), .val (.int p4), .val (.int p5), .val (.int p6), .val (.int p7)] [])) tg
          exact kg
        refine gsW c35 ?_
        obtain ⟨T36, h36, X36, e36, E36, A36, D36, -, st36⟩ := newO X0 hx hZ hown (hw _ (List.mem_of_getElem? (i := 7) rfl)) (hw _ (List.mem_of_getElem? (i := 8) rfl)) (hw _ (List.mem_of_getElem? (i := 9) rfl)) e0 (g := (mkF m 40 #[.val (.int p0), .val (.int p1), .val (.int p2), .val (.int p3), .val (.int p4), .val (.int p5), .val (.int p6), .val (.int p7)] [])) rfl (hb hby d_method_3_code_40) (by decide) (by decide)
        obtain ⟨b36, q36⟩ : ∃ z, z = h0.size := ⟨_, rfl⟩
        rw [← q36] at A36 D36 st36
        have g_b36 : n0 ≤ b36 := Nat.le_trans Z0 (Nat.le_of_eq q36.symm)
        have sz_b36 : h0.size ≤ b36 := Nat.le_trans K0.1 (Nat.le_of_eq q36.symm)
        have sfa36 : Safe Z own_EL s.vm h0 b36 := Safe.new (Nat.le_of_eq q36.symm)
        have r37 : CHr Z own_EL s.vm h0 s.vm h36 := CHr.ext E36 R0.1
        have R37 : CHr Z own_EL s.vm h0 s.vm h36 := R0.trans r37
        have Z37 : n0 ≤ h36.size := Nat.le_trans Z0 E36.1
        have O37 : Old Z n0 h36 := O0.ext E36
        have K37 : Keep h0 h36 [] := K0.ext E36
        have sfb36 := Safe.ext E36 R0.1 sfa36
        have F_value_b36 : Fld Z h36 b36 "java/lang/String" "value" "[B" .null := D36 (Or.inr (hw _ (List.mem_of_getElem? (i := 23) rfl))) (ty := (.array .byte)) (by decide)
        have F_coder_b36 : Fld Z h36 b36 "java/lang/String" "coder" "B" (.int (0 : Int32)) := D36 (Or.inr (hw _ (List.mem_of_getElem? (i := 24) rfl))) (ty := .byte) (by decide)
        refine gsW st36 ?_
        show OwnGoW p e below s Z own_EL _ _ _ (T36.setTop (mkF m 43 #[.val (.int p0), .val (.int p1), .val (.int p2), .val (.int p3), .val (.int p4), .val (.int p5), .val (.int p6), .val (.int p7)] [(.ref b36)]))
        have c38 : ∀ tg, Steps p.tables e below (T36.setTop (mkF m 45 #[.val (.int p0), .val (.int p1), .val (.int p2), .val (.int p3), .val (.int p4), .val (.int p5), .val (.int p6), .val (.int p7)] [(.int (2 : Int32)), (.ref b36), (.ref b36)])) tg → Steps p.tables e below (T36.setTop (mkF m 43 #[.val (.int p0), .val (.int p1), .val (.int p2), .val (.int p3), .val (.int p4), .val (.int p5), .val (.int p6), .val (.int p7)] [(.ref b36)])) tg := fun tg kg => by
          refine XS.dup X36.here hx rfl (hb hby d_method_3_code_43) rfl rfl ?_
          show Steps p.tables e below (T36.setTop (mkF m 44 #[.val (.int p0), .val (.int p1), .val (.int p2), .val (.int p3), .val (.int p4), .val (.int p5), .val (.int p6), .val (.int p7)] [(.ref b36), (.ref b36)])) tg
          refine XS.iconst X36.here hx rfl (hb hby d_method_3_code_44) ?_
          show Steps p.tables e below (T36.setTop (mkF m 45 #[.val (.int p0), .val (.int p1), .val (.int p2), .val (.int p3), .val (.int p4), .val (.int p5), .val (.int p6), .val (.int p7)] [(.int (2 : Int32)), (.ref b36), (.ref b36)])) tg
          exact kg
        refine gsW c38 ?_
        obtain ⟨T39, h39, k39, X39, e39, E39, A39, st39⟩ := newP X36 hx hZ (hw _ (List.mem_of_getElem? (i := 10) rfl)) e36 (g := (mkF m 45 #[.val (.int p0), .val (.int p1), .val (.int p2), .val (.int p3), .val (.int p4), .val (.int p5), .val (.int p6), .val (.int p7)] [(.int (2 : Int32)), (.ref b36), (.ref b36)])) rfl (hb hby d_method_3_code_45) rfl (by decide) (cap := 2) (by decide) (by decide) (by decide) (by decide)
        obtain ⟨b39, q39⟩ : ∃ z, z = h36.size := ⟨_, rfl⟩
        rw [← q39] at A39 st39
        have g_b39 : n0 ≤ b39 := Nat.le_trans Z37 (Nat.le_of_eq q39.symm)
        have sz_b39 : h0.size ≤ b39 := Nat.le_trans K37.1 (Nat.le_of_eq q39.symm)
        have r40 : CHr Z own_EL s.vm h36 s.vm h39 := CHr.ext E39 R37.1
        have R40 : CHr Z own_EL s.vm h0 s.vm h39 := R37.trans r40
        have Z40 : n0 ≤ h39.size := Nat.le_trans Z37 E39.1
        have O40 : Old Z n0 h39 := O37.ext E39
        have K40 : Keep h0 h39 [] := K37.ext E39
        have V39 : Arv Z h39 b39 k39 .char (2 : Int32) [(.int (0 : Int32)), (.int (0 : Int32))] (.int (0 : Int32)) := (Arv.new A39 (by decide)).pad (pad_rep [] (.int (0 : Int32)) 2)
        refine gsW st39 ?_
        show OwnGoW p e below s Z own_EL _ _ _ (T39.setTop (mkF m 47 #[.val (.int p0), .val (.int p1), .val (.int p2), .val (.int p3), .val (.int p4), .val (.int p5), .val (.int p6), .val (.int p7)] [(.ref b39), (.ref b36), (.ref b36)]))
        have c41 : ∀ tg, Steps p.tables e below (T39.setTop (mkF m 50 #[.val (.int p0), .val (.int p1), .val (.int p2), .val (.int p3), .val (.int p4), .val (.int p5), .val (.int p6), .val (.int p7)] [(.int p1), (.int (0 : Int32)), (.ref b39), (.ref b39), (.ref b36), (.ref b36)])) tg → Steps p.tables e below (T39.setTop (mkF m 47 #[.val (.int p0), .val (.int p1), .val (.int p2), .val (.int p3), .val (.int p4), .val (.int p5), .val (.int p6), .val (.int p7)] [(.ref b39), (.ref b36), (.ref b36)])) tg := fun tg kg => by
          refine XS.dup X39.here hx rfl (hb hby d_method_3_code_47) rfl rfl ?_
          show Steps p.tables e below (T39.setTop (mkF m 48 #[.val (.int p0), .val (.int p1), .val (.int p2), .val (.int p3), .val (.int p4), .val (.int p5), .val (.int p6), .val (.int p7)] [(.ref b39), (.ref b39), (.ref b36), (.ref b36)])) tg
          refine XS.iconst X39.here hx rfl (hb hby d_method_3_code_48) ?_
          show Steps p.tables e below (T39.setTop (mkF m 49 #[.val (.int p0), .val (.int p1), .val (.int p2), .val (.int p3), .val (.int p4), .val (.int p5), .val (.int p6), .val (.int p7)] [(.int (0 : Int32)), (.ref b39), (.ref b39), (.ref b36), (.ref b36)])) tg
          refine XS.iloadN X39.here hx rfl (hb hby d_method_3_code_49) rfl ?_
          show Steps p.tables e below (T39.setTop (mkF m 50 #[.val (.int p0), .val (.int p1), .val (.int p2), .val (.int p3), .val (.int p4), .val (.int p5), .val (.int p6), .val (.int p7)] [(.int p1), (.int (0 : Int32)), (.ref b39), (.ref b39), (.ref b36), (.ref b36)])) tg
          exact kg
        refine gsW c41 ?_
        obtain ⟨cl42, A42, a42q, a42S, a42N, a42H, a42G⟩ := id V39
        obtain ⟨T42, h42, X42, e42, W42, st42⟩ := stC X39 hx hZ e39 A42 (j := (0 : Int32)) (inb_of a42S ⟨by decide, by decide⟩) (g := (mkF m 50 #[.val (.int p0), .val (.int p1), .val (.int p2), .val (.int p3), .val (.int p4), .val (.int p5), .val (.int p6), .val (.int p7)] [(.int p1), (.int (0 : Int32)), (.ref b39), (.ref b39), (.ref b36), (.ref b36)])) rfl rfl (hb hby d_method_3_code_50)
        have V42 : Arv Z h42 b39 k39 .char (2 : Int32) [(.int (nar .char p1)), (.int (0 : Int32))] (.int (0 : Int32)) := Arv.set A42 a42q a42S a42N a42H a42G (fits_nar_char _) W42 0 rfl (Nat.le_of_ble_eq_true rfl)
        have N42 := Fr.snoc X42 N0 g_b39
        have r43 : CHr Z own_EL s.vm h39 s.vm h42 := CHr.wr W42 (Safe.arv hZ.alike V39 (by decide)) R40.1
        have R43 : CHr Z own_EL s.vm h0 s.vm h42 := R40.trans r43
        have Z43 : n0 ≤ h42.size := Nat.le_trans Z40 (Keep.of_wr W42).1
        have O43 : Old Z n0 h42 := O40.wr W42 g_b39
        have K43 : Keep h0 h42 [] := K40.wr W42 (Or.inr sz_b39)
        refine gsW st42 ?_
        show OwnGoW p e below s Z own_EL _ _ _ (T42.setTop (mkF m 51 #[.val (.int p0), .val (.int p1), .val (.int p2), .val (.int p3), .val (.int p4), .val (.int p5), .val (.int p6), .val (.int p7)] [(.ref b39), (.ref b36), (.ref b36)]))
        have c44 : ∀ tg, Steps p.tables e below (T42.setTop (mkF m 54 #[.val (.int p0), .val (.int p1), .val (.int p2), .val (.int p3), .val (.int p4), .val (.int p5), .val (.int p6), .val (.int p7)] [(.int p2), (.int (1 : Int32)), (.ref b39), (.ref b39), (.ref b36), (.ref b36)])) tg → Steps p.tables e below (T42.setTop (mkF m 51 #[.val (.int p0), .val (.int p1), .val (.int p2), .val (.int p3), .val (.int p4), .val (.int p5), .val (.int p6), .val (.int p7)] [(.ref b39), (.ref b36), (.ref b36)])) tg := fun tg kg => by
          refine XS.dup X42.here hx rfl (hb hby d_method_3_code_51) rfl rfl ?_
          show Steps p.tables e below (T42.setTop (mkF m 52 #[.val (.int p0), .val (.int p1), .val (.int p2), .val (.int p3), .val (.int p4), .val (.int p5), .val (.int p6), .val (.int p7)] [(.ref b39), (.ref b39), (.ref b36), (.ref b36)])) tg
          refine XS.iconst X42.here hx rfl (hb hby d_method_3_code_52) ?_
          show Steps p.tables e below (T42.setTop (mkF m 53 #[.val (.int p0), .val (.int p1), .val (.int p2), .val (.int p3), .val (.int p4), .val (.int p5), .val (.int p6), .val (.int p7)] [(.int (1 : Int32)), (.ref b39), (.ref b39), (.ref b36), (.ref b36)])) tg
          refine XS.iloadN X42.here hx rfl (hb hby d_method_3_code_53) rfl ?_
          show Steps p.tables e below (T42.setTop (mkF m 54 #[.val (.int p0), .val (.int p1), .val (.int p2), .val (.int p3), .val (.int p4), .val (.int p5), .val (.int p6), .val (.int p7)] [(.int p2), (.int (1 : Int32)), (.ref b39), (.ref b39), (.ref b36), (.ref b36)])) tg
          exact kg
        refine gsW c44 ?_
        obtain ⟨cl45, A45, a45q, a45S, a45N, a45H, a45G⟩ := id V42
        obtain ⟨T45, h45, X45, e45, W45, st45⟩ := stC X42 hx hZ e42 A45 (j := (1 : Int32)) (inb_of a45S ⟨by decide, by decide⟩) (g := (mkF m 54 #[.val (.int p0), .val (.int p1), .val (.int p2), .val (.int p3), .val (.int p4), .val (.int p5), .val (.int p6), .val (.int p7)] [(.int p2), (.int (1 : Int32)), (.ref b39), (.ref b39), (.ref b36), (.ref b36)])) rfl rfl (hb hby d_method_3_code_54)
        have V45 : Arv Z h45 b39 k39 .char (2 : Int32) [(.int (nar .char p1)), (.int (nar .char p2))] (.int (0 : Int32)) := Arv.set A45 a45q a45S a45N a45H a45G (fits_nar_char _) W45 1 rfl (Nat.le_of_ble_eq_true rfl)
        have N45 := Fr.snoc X45 N42 g_b39
        have r46 : CHr Z own_EL s.vm h42 s.vm h45 := CHr.wr W45 (Safe.arv hZ.alike V42 (by decide)) R43.1
        have R46 : CHr Z own_EL s.vm h0 s.vm h45 := R43.trans r46
        have Z46 : n0 ≤ h45.size := Nat.le_trans Z43 (Keep.of_wr W45).1
        have O46 : Old Z n0 h45 := O43.wr W45 g_b39
        have K46 : Keep h0 h45 [] := K43.wr W45 (Or.inr sz_b39)
        refine gsW st45 ?_
        show OwnGoW p e below s Z own_EL _ _ _ (T45.setTop (mkF m 55 #[.val (.int p0), .val (.int p1), .val (.int p2), .val (.int p3), .val (.int p4), .val (.int p5), .val (.int p6), .val (.int p7)] [(.ref b39), (.ref b36), (.ref b36)]))
        have hp47 : ∀ c ∈ ([(nar .char p1), (nar .char p2)] : List Int32), ¬ c < 0 ∧ ¬ (255 : Int32) < c := by
          intro c hc
          simp only [List.mem_cons, List.not_mem_nil, or_false] at hc
          rcases hc with rfl | rfl
          all_goals first | exact own_nb b1 | exact own_nb b2 | exact own_nb b3 | exact own_nb b4 | exact own_nb b5 | exact own_nb b6 | exact own_nb b7
        have f48 := (((A36.ext E39).wr W42).wr W45)
        have f49 := (((F_value_b36.ext E39).other W42 (Or.inl (Nat.ne_of_lt (Nat.lt_of_lt_of_le (Nat.lt_of_lt_of_le A36.lt (Nat.le_refl _)) (Nat.le_of_eq q39.symm))))).other W45 (Or.inl (Nat.ne_of_lt (Nat.lt_of_lt_of_le (Nat.lt_of_lt_of_le A36.lt (Nat.le_refl _)) (Nat.le_of_eq q39.symm)))))
        have f50 := (((F_coder_b36.ext E39).other W42 (Or.inl (Nat.ne_of_lt (Nat.lt_of_lt_of_le (Nat.lt_of_lt_of_le A36.lt (Nat.le_refl _)) (Nat.le_of_eq q39.symm))))).other W45 (Or.inl (Nat.ne_of_lt (Nat.lt_of_lt_of_le (Nat.lt_of_lt_of_le A36.lt (Nat.le_refl _)) (Nat.le_of_eq q39.symm)))))
        obtain ⟨_, _, ⟨T51, L51, k51, n51⟩, -, X51, ⟨Lc51, hQ51, l51, y51, z51⟩, st51⟩ := X45.specialBack hx (y := (⟨"java/lang/String", "<init>", "([C)V"⟩ : MethodName)) rfl hown (mvT hZ (hw _ (List.mem_of_getElem? (i := 11) rfl))) (mvT hZ (hw _ (List.mem_of_getElem? (i := 12) rfl))) (mvT hZ (hw _ (List.mem_of_getElem? (i := 13) rfl))) (by decide) (StrChars.Road.backV (W := 1) hZ hws (kI := 4) (hw _ (List.mem_of_getElem? (i := 8) rfl)) (cs := ([(nar .char p1), (nar .char p2)] : List Int32)) (bs := ([(nar .char p1), (nar .char p2)] : List Int32).map (fun c => c.toInt8.toInt32)) (n := 2) g_b36 Z46 f48 f49 f50 V45 (S0.ext O46.2) hz rfl rfl (by decide) (by decide) hp47 rfl (by decide) (by decide)) (g := (mkF m 55 #[.val (.int p0), .val (.int p1), .val (.int p2), .val (.int p3), .val (.int p4), .val (.int p5), .val (.int p6), .val (.int p7)] [(.ref b39), (.ref b36), (.ref b36)])) rfl (by rw [hml]; rfl) (Steps.refl _) (a := b36) (argsL := [(.ref b39)]) (rest := [(.ref b36)]) (lenOf pd_53 rfl) rfl (by show 2 * 0 + _ ≤ _; exact Nat.le_of_eq rfl) (hb hby d_method_3_code_55) (fun _ _ => ⟨rfl, e45, (by decide : 2 + 1 ≤ _), (by decide : 6 + 2 ≤ _)⟩)
        dsimp only [Pt.U, Pt.locs, Pt.cells, Pt.slots] at X51 l51 y51 z51 st51 hQ51
        subst l51 y51 z51
        obtain ⟨rfl, N51q, K51q, g51e, g51c, t51, kb51, -, g51t, -, g51v, g51a⟩ := hQ51
        have N51 := Fr.app N45 N51q
        have g_t51 : n0 ≤ t51 := Nat.le_trans Z46 g51t
        have sz_t51 : h0.size ≤ t51 := Nat.le_trans K46.1 g51t
        have f53 := (r46.safe (Nat.lt_of_lt_of_le A36.lt (Nat.le_trans E39.1 (Keep.of_wr W42).1)) (r43.safe (Nat.lt_of_lt_of_le A36.lt E39.1) (r40.safe (Nat.lt_of_lt_of_le A36.lt (Nat.le_refl _)) sfb36)))
        have r52 : CHr Z own_EL s.vm h45 s.vm T51.heap := CHr.keep K51q (sfS f53 sf0) R46.1
        have R52 : CHr Z own_EL s.vm h0 s.vm T51.heap := R46.trans r52
        have Z52 : n0 ≤ T51.heap.size := Nat.le_trans Z46 K51q.1
        have O52 : Old Z n0 T51.heap := O46.keep K51q (allS g_b36 all0)
        have K52 : Keep h0 T51.heap [] := K46.trans K51q (allS (Or.inr sz_b36) all0)
        refine gsW (fun _ k => st51.trans k) ?_
        show OwnGoW p e below s Z own_EL _ _ _ (T51.setTop (mkF m 58 #[.val (.int p0), .val (.int p1), .val (.int p2), .val (.int p3), .val (.int p4), .val (.int p5), .val (.int p6), .val (.int p7)] [(.ref b36)]))
        have T54 : Str Z T51.heap b36 ([(nar .char p1), (nar .char p2)] : List Int32) := ⟨_, _, g51e, g51c, g51v, g51a⟩
        simp only [own_nc b1, own_nc b2, own_nc b3, own_nc b4, own_nc b5, own_nc b6, own_nc b7] at T54
        refine goutW (v := some (.ref b36)) X51 hS (Nat.le_trans hk (Nat.le_trans (Nat.le_trans (Nat.le_trans (Nat.le_trans E36.1 E39.1) (Keep.of_wr W42).1) (Keep.of_wr W45).1) K51q.1)) hZ (own_EW hw) hh rfl R52 Bd.notSynchronized (fun h => by rw [Bd.returns] at h; cases h) (by decide) (by decide) ?_ (fun fs hr => retOut X51 hx Bd.returns rfl (Or.inr (Or.inr (Or.inr (Or.inr ⟨rfl, rfl, rfl⟩)))) (hb hby d_method_3_code_58) hr)
        exact ⟨_, rfl, N51, K52, by unfold own_mk; rw [if_neg hc2, if_neg hc15, if_pos hc34]; exact T54⟩
      · have c55 : ∀ tg, Steps p.tables e below (s₁.setTop (mkF m 61 #[.val (.int p0), .val (.int p1), .val (.int p2), .val (.int p3), .val (.int p4), .val (.int p5), .val (.int p6), .val (.int p7)] [(.int (3 : Int32)), (.int p0)])) tg → Steps p.tables e below (s₁.setTop (mkF m 37 #[.val (.int p0), .val (.int p1), .val (.int p2), .val (.int p3), .val (.int p4), .val (.int p5), .val (.int p6), .val (.int p7)] [(.int (2 : Int32)), (.int p0)])) tg := fun tg kg => by
          refine XS.icmpYes X0.here hx rfl (pc0 := 37) (pc' := 59) rfl (hb hby d_method_3_code_37) rfl (feq hc34).2 (by decide) (by decide) ?_
          show Steps p.tables e below (s₁.setTop (mkF m 59 #[.val (.int p0), .val (.int p1), .val (.int p2), .val (.int p3), .val (.int p4), .val (.int p5), .val (.int p6), .val (.int p7)] [])) tg
          refine XS.iloadN X0.here hx rfl (hb hby d_method_3_code_59) rfl ?_
          show Steps p.tables e below (s₁.setTop (mkF m 60 #[.val (.int p0), .val (.int p1), .val (.int p2), .val (.int p3), .val (.int p4), .val (.int p5), .val (.int p6), .val (.int p7)] [(.int p0)])) tg
          refine XS.iconst X0.here hx rfl (hb hby d_method_3_code_60) ?_
          show Steps p.tables e below (s₁.setTop (mkF m 61 #[.val (.int p0), .val (.int p1), .val (.int p2), .val (.int p3), .val (.int p4), .val (.int p5), .val (.int p6), .val (.int p7)] [(.int (3 : Int32)), (.int p0)])) tg
          exact kg
        refine gsW c55 ?_
        by_cases hc56 : p0 = (3 : Int32)
        · have c57 : ∀ tg, Steps p.tables e below (s₁.setTop (mkF m 64 #[.val (.int p0), .val (.int p1), .val (.int p2), .val (.int p3), .val (.int p4), .val (.int p5), .val (.int p6), .val (.int p7)] [])) tg → Steps p.tables e below (s₁.setTop (mkF m 61 #[.val (.int p0), .val (.int p1), .val (.int p2), .val (.int p3), .val (.int p4), .val (.int p5), .val (.int p6), .val (.int p7)] [(.int (3 : Int32)), (.int p0)])) tg := fun tg kg => by
            refine XS.icmpNo X0.here hx rfl (hb hby d_method_3_code_61) rfl (teq hc56).2 ?_
            show Steps p.tables e below (s₁.setTop (mkF m 64 #[.val (.int p0), .val (.int p1), .val (.int p2), .val (.int p3), .val (.int p4), .val (.int p5), .val (.int p6), .val (.int p7)] [])) tg
            exact kg
          refine gsW c57 ?_
          obtain ⟨T58, h58, X58, e58, E58, A58, D58, -, st58⟩ := newO X0 hx hZ hown (hw _ (List.mem_of_getElem? (i := 7) rfl)) (hw _ (List.mem_of_getElem? (i := 8) rfl)) (hw _ (List.mem_of_getElem? (i := 9) rfl)) e0 (g := (mkF m 64 #[.val (.int p0), .val (.int p1), .val (.int p2), .val (.int p3), .val (.int p4), .val (.int p5), .val (.int p6), .val (.int p7)] [])) rfl (hb hby d_method_3_code_64) (by decide) (by decide)
          obtain ⟨b58, q58⟩ : ∃ z, z = h0.size := ⟨_, rfl⟩
          rw [← q58] at A58 D58 st58
          have g_b58 : n0 ≤ b58 := Nat.le_trans Z0 (Nat.le_of_eq q58.symm)
          have sz_b58 : h0.size ≤ b58 := Nat.le_trans K0.1 (Nat.le_of_eq q58.symm)
          have sfa58 : Safe Z own_EL s.vm h0 b58 := Safe.new (Nat.le_of_eq q58.symm)
          have r59 : CHr Z own_EL s.vm h0 s.vm h58 := CHr.ext E58 R0.1
          have R59 : CHr Z own_EL s.vm h0 s.vm h58 := R0.trans r59
          have Z59 : n0 ≤ h58.size := Nat.le_trans Z0 E58.1
          have O59 : Old Z n0 h58 := O0.ext E58
          have K59 : Keep h0 h58 [] := K0.ext E58
          have sfb58 := Safe.ext E58 R0.1 sfa58
          have F_value_b58 : Fld Z h58 b58 "java/lang/String" "value" "[B" .null := D58 (Or.inr (hw _ (List.mem_of_getElem? (i := 23) rfl))) (ty := (.array .byte)) (by decide)
          have F_coder_b58 : Fld Z h58 b58 "java/lang/String" "coder" "B" (.int (0 : Int32)) := D58 (Or.inr (hw _ (List.mem_of_getElem? (i := 24) rfl))) (ty := .byte) (by decide)
          refine gsW st58 ?_
          show OwnGoW p e below s Z own_EL _ _ _ (T58.setTop (mkF m 67 #[.val (.int p0), .val (.int p1), .val (.int p2), .val (.int p3), .val (.int p4), .val (.int p5), .val (.int p6), .val (.int p7)] [(.ref b58)]))
          have c60 : ∀ tg, Steps p.tables e below (T58.setTop (mkF m 69 #[.val (.int p0), .val (.int p1), .val (.int p2), .val (.int p3), .val (.int p4), .val (.int p5), .val (.int p6), .val (.int p7)] [(.int (3 : Int32)), (.ref b58), (.ref b58)])) tg → Steps p.tables e below (T58.setTop (mkF m 67 #[.val (.int p0), .val (.int p1), .val (.int p2), .val (.int p3), .val (.int p4), .val (.int p5), .val (.int p6), .val (.int p7)] [(.ref b58)])) tg := fun tg kg => by
            refine XS.dup X58.here hx rfl (hb hby d_method_3_code_67) rfl rfl ?_
            show Steps p.tables e below (T58.setTop (mkF m 68 #[.val (.int p0), .val (.int p1), .val (.int p2), .val (.int p3), .val (.int p4), .val (.int p5), .val (.int p6), .val (.int p7)] [(.ref b58), (.ref b58)])) tg
            refine XS.iconst X58.here hx rfl (hb hby d_method_3_code_68) ?_
            show Steps p.tables e below (T58.setTop (mkF m 69 #[.val (.int p0), .val (.int p1), .val (.int p2), .val (.int p3), .val (.int p4), .val (.int p5), .val (.int p6), .val (.int p7)] [(.int (3 : Int32)), (.ref b58), (.ref b58)])) tg
            exact kg
          refine gsW c60 ?_
          obtain ⟨T61, h61, k61, X61, e61, E61, A61, st61⟩ := newP X58 hx hZ (hw _ (List.mem_of_getElem? (i := 10) rfl)) e58 (g := (mkF m 69 #[.val (.int p0), .val (.int p1), .val (.int p2), .val (.int p3), .val (.int p4), .val (.int p5), .val (.int p6), .val (.int p7)] [(.int (3 : Int32)), (.ref b58), (.ref b58)])) rfl (hb hby d_method_3_code_69) rfl (by decide) (cap := 3) (by decide) (by decide) (by decide) (by decide)
          obtain ⟨b61, q61⟩ : ∃ z, z = h58.size := ⟨_, rfl⟩
          rw [← q61] at A61 st61
          have g_b61 : n0 ≤ b61 := Nat.le_trans Z59 (Nat.le_of_eq q61.symm)
          have sz_b61 : h0.size ≤ b61 := Nat.le_trans K59.1 (Nat.le_of_eq q61.symm)
          have r62 : CHr Z own_EL s.vm h58 s.vm h61 := CHr.ext E61 R59.1
          have R62 : CHr Z own_EL s.vm h0 s.vm h61 := R59.trans r62
          have Z62 : n0 ≤ h61.size := Nat.le_trans Z59 E61.1
          have O62 : Old Z n0 h61 := O59.ext E61
          have K62 : Keep h0 h61 [] := K59.ext E61
          have V61 : Arv Z h61 b61 k61 .char (3 : Int32) [(.int (0 : Int32)), (.int (0 : Int32)), (.int (0 : Int32))] (.int (0 : Int32)) := (Arv.new A61 (by decide)).pad (pad_rep [] (.int (0 : Int32)) 3)
          refine gsW st61 ?_
          show OwnGoW p e below s Z own_EL _ _ _ (T61.setTop (mkF m 71 #[.val (.int p0), .val (.int p1), .val (.int p2), .val (.int p3), .val (.int p4), .val (.int p5), .val (.int p6), .val (.int p7)] [(.ref b61), (.ref b58), (.ref b58)]))
          have c63 : ∀ tg, Steps p.tables e below (T61.setTop (mkF m 74 #[.val (.int p0), .val (.int p1), .val (.int p2), .val (.int p3), .val (.int p4), .val (.int p5), .val (.int p6), .val (.int p7)] [(.int p1), (.int (0 : Int32)), (.ref b61), (.ref b61), (.ref b58), (.ref b58)])) tg → Steps p.tables e below (T61.setTop (mkF m 71 #[.val (.int p0), .val (.int p1), .val (.int p2), .val (.int p3), .val (.int p4), .val (.int p5), .val (.int p6), .val (.int p7)] [(.ref b61), (.ref b58), (.ref b58)])) tg := fun tg kg => by
            refine XS.dup X61.here hx rfl (hb hby d_method_3_code_71) rfl rfl ?_
            show Steps p.tables e below (T61.setTop (mkF m 72 #[.val (.int p0), .val (.int p1), .val (.int p2), .val (.int p3), .val (.int p4), .val (.int p5), .val (.int p6), .val (.int p7)] [(.ref b61), (.ref b61), (.ref b58), (.ref b58)])) tg
            refine XS.iconst X61.here hx rfl (hb hby d_method_3_code_72) ?_
            show Steps p.tables e below (T61.setTop (mkF m 73 #[.val (.int p0), .val (.int p1), .val (.int p2), .val (.int p3), .val (.int p4), .val (.int p5), .val (.int p6), .val (.int p7)] [(.int (0 : Int32)), (.ref b61), (.ref b61), (.ref b58), (.ref b58)])) tg
            refine XS.iloadN X61.here hx rfl (hb hby d_method_3_code_73) rfl ?_
            show Steps p.tables e below (T61.setTop (mkF m 74 #[.val (.int p0), .val (.int p1), .val (.int p2), .val (.int p3), .val (.int p4), .val (.int p5), .val (.int p6), .val (.int p7)] [(.int p1), (.int (0 : Int32)), (.ref b61), (.ref b61), (.ref b58), (.ref b58)])) tg
            exact kg
          refine gsW c63 ?_
          obtain ⟨cl64, A64, a64q, a64S, a64N, a64H, a64G⟩ := id V61
          obtain ⟨T64, h64, X64, e64, W64, st64⟩ := stC X61 hx hZ e61 A64 (j := (0 : Int32)) (inb_of a64S ⟨by decide, by decide⟩) (g := (mkF m 74 #[.val (.int p0), .val (.int p1), .val (.int p2), .val (.int p3), .val (.int p4), .val (.int p5), .val (.int p6), .val (.int p7)] [(.int p1), (.int (0 : Int32)), (.ref b61), (.ref b61), (.ref b58), (.ref b58)])) rfl rfl (hb hby d_method_3_code_74)
          have V64 : Arv Z h64 b61 k61 .char (3 : Int32) [(.int (nar .char p1)), (.int (0 : Int32)), (.int (0 : Int32))] (.int (0 : Int32)) := Arv.set A64 a64q a64S a64N a64H a64G (fits_nar_char _) W64 0 rfl (Nat.le_of_ble_eq_true rfl)
          have N64 := Fr.snoc X64 N0 g_b61
          have r65 : CHr Z own_EL s.vm h61 s.vm h64 := CHr.wr W64 (Safe.arv hZ.alike V61 (by decide)) R62.1
          have R65 : CHr Z own_EL s.vm h0 s.vm h64 := R62.trans r65
          have Z65 : n0 ≤ h64.size := Nat.le_trans Z62 (Keep.of_wr W64).1
          have O65 : Old Z n0 h64 := O62.wr W64 g_b61
          have K65 : Keep h0 h64 [] := K62.wr W64 (Or.inr sz_b61)
          refine gsW st64 ?_
          show OwnGoW p e below s Z own_EL _ _ _ (T64.setTop (mkF m 75 #[.val (.int p0), .val (.int p1), .val (.int p2), .val (.int p3), .val (.int p4), .val (.int p5), .val (.int p6), .val (.int p7)] [(.ref b61), (.ref b58), (.ref b58)]))
          have c66 : ∀ tg, Steps p.tables e below (T64.setTop (mkF m 78 #[.val (.int p0), .val (.int p1), .val (.int p2), .val (.int p3), .val (.int p4), .val (.int p5), .val (.int p6), .val (.int p7)] [(.int p2), (.int (1 : Int32)), (.ref b61), (.ref b61), (.ref b58), (.ref b58)])) tg → Steps p.tables e below (T64.setTop (mkF m 75 #[.val (.int p0), .val (.int p1), .val (.int p2), .val (.int p3), .val (.int p4), .val (.int p5), .val (.int p6), .val (.int p7)] [(.ref b61), (.ref b58), (.ref b58)])) tg := fun tg kg => by
            refine XS.dup X64.here hx rfl (hb hby d_method_3_code_75) rfl rfl ?_
            show Steps p.tables e below (T64.setTop (mkF m 76 #[.val (.int p0), .val (.int p1), .val (.int p2), .val (.int p3), .val (.int p4), .val (.int p5), .val (.int p6), .val (.int p7)] [(.ref b61), (.ref b61), (.ref b58), (.ref b58)])) tg
            refine XS.iconst X64.here hx rfl (hb hby d_method_3_code_76) ?_
            show Steps p.tables e below (T64.setTop (mkF m 77 #[.val (.int p0), .val (.int p1), .val (.int p2), .val (.int p3), .val (.int p4), .val (.int p5), .val (.int p6), .val (.int p7)] [(.int (1 : Int32)), (.ref b61), (.ref b61), (.ref b58), (.ref b58)])) tg
            refine XS.iloadN X64.here hx rfl (hb hby d_method_3_code_77) rfl ?_
            show Steps p.tables e below (T64.setTop (mkF m 78 #[.val (.int p0), .val (.int p1), .val (.int p2), .val (.int p3), .val (.int p4), .val (.int p5), .val (.int p6), .val (.int p7)] [(.int p2), (.int (1 : Int32)), (.ref b61), (.ref b61), (.ref b58), (.ref b58)])) tg
            exact kg
          refine gsW c66 ?_
          obtain ⟨cl67, A67, a67q, a67S, a67N, a67H, a67G⟩ := id V64
          obtain ⟨T67, h67, X67, e67, W67, st67⟩ := stC X64 hx hZ e64 A67 (j := (1 : Int32)) (inb_of a67S ⟨by decide, by decide⟩) (g := (mkF m 78 #[.val (.int p0), .val (.int p1), .val (.int p2), .val (.int p3), .val (.int p4), .val (.int p5), .val (.int p6), .val (.int p7)] [(.int p2), (.int (1 : Int32)), (.ref b61), (.ref b61), (.ref b58), (.ref b58)])) rfl rfl (hb hby d_method_3_code_78)
          have V67 : Arv Z h67 b61 k61 .char (3 : Int32) [(.int (nar .char p1)), (.int (nar .char p2)), (.int (0 : Int32))] (.int (0 : Int32)) := Arv.set A67 a67q a67S a67N a67H a67G (fits_nar_char _) W67 1 rfl (Nat.le_of_ble_eq_true rfl)
          have N67 := Fr.snoc X67 N64 g_b61
          have r68 : CHr Z own_EL s.vm h64 s.vm h67 := CHr.wr W67 (Safe.arv hZ.alike V64 (by decide)) R65.1
          have R68 : CHr Z own_EL s.vm h0 s.vm h67 := R65.trans r68
          have Z68 : n0 ≤ h67.size := Nat.le_trans Z65 (Keep.of_wr W67).1
          have O68 : Old Z n0 h67 := O65.wr W67 g_b61
          have K68 : Keep h0 h67 [] := K65.wr W67 (Or.inr sz_b61)
          refine gsW st67 ?_
          show OwnGoW p e below s Z own_EL _ _ _ (T67.setTop (mkF m 79 #[.val (.int p0), .val (.int p1), .val (.int p2), .val (.int p3), .val (.int p4), .val (.int p5), .val (.int p6), .val (.int p7)] [(.ref b61), (.ref b58), (.ref b58)]))
          have c69 : ∀ tg, Steps p.tables e below (T67.setTop (mkF m 82 #[.val (.int p0), .val (.int p1), .val (.int p2), .val (.int p3), .val (.int p4), .val (.int p5), .val (.int p6), .val (.int p7)] [(.int p3), (.int (2 : Int32)), (.ref b61), (.ref b61), (.ref b58), (.ref b58)])) tg → Steps p.tables e below (T67.setTop (mkF m 79 #[.val (.int p0), .val (.int p1), .val (.int p2), .val (.int p3), .val (.int p4), .val (.int p5), .val (.int p6), .val (.int p7)] [(.ref b61), (.ref b58), (.ref b58)])) tg := fun tg kg => by
            refine XS.dup X67.here hx rfl (hb hby d_method_3_code_79) rfl rfl ?_
            show Steps p.tables e below (T67.setTop (mkF m 80 #[.val (.int p0), .val (.int p1), .val (.int p2), .val (.int p3), .val (.int p4), .val (.int p5), .val (.int p6), .val (.int p7)] [(.ref b61), (.ref b61), (.ref b58), (.ref b58)])) tg
            refine XS.iconst X67.here hx rfl (hb hby d_method_3_code_80) ?_
            show Steps p.tables e below (T67.setTop (mkF m 81 #[.val (.int p0), .val (.int p1), .val (.int p2), .val (.int p3), .val (.int p4), .val (.int p5), .val (.int p6), .val (.int p7)] [(.int (2 : Int32)), (.ref b61), (.ref b61), (.ref b58), (.ref b58)])) tg
            refine XS.iloadN X67.here hx rfl (hb hby d_method_3_code_81) rfl ?_
            show Steps p.tables e below (T67.setTop (mkF m 82 #[.val (.int p0), .val (.int p1), .val (.int p2), .val (.int p3), .val (.int p4), .val (.int p5), .val (.int p6), .val (.int p7)] [(.int p3), (.int (2 : Int32)), (.ref b61), (.ref b61), (.ref b58), (.ref b58)])) tg
            exact kg
          refine gsW c69 ?_
          obtain ⟨cl70, A70, a70q, a70S, a70N, a70H, a70G⟩ := id V67
          obtain ⟨T70, h70, X70, e70, W70, st70⟩ := stC X67 hx hZ e67 A70 (j := (2 : Int32)) (inb_of a70S ⟨by decide, by decide⟩) (g := (mkF m 82 #[.val (.int p0), .val (.int p1), .val (.int p2), .val (.int p3), .val (.int p4), .val (.int p5), .val (.int p6), .val (.int p7)] [(.int p3), (.int (2 : Int32)), (.ref b61), (.ref b61), (.ref b58), (.ref b58)])) rfl rfl (hb hby d_method_3_code_82)
          have V70 : Arv Z h70 b61 k61 .char (3 : Int32) [(.int (nar .char p1)), (.int (nar .char p2)), (.int (nar .char p3))] (.int (0 : Int32)) := Arv.set A70 a70q a70S a70N a70H a70G (fits_nar_char _) W70 2 rfl (Nat.le_of_ble_eq_true rfl)
          have N70 := Fr.snoc X70 N67 g_b61
          have r71 : CHr Z own_EL s.vm h67 s.vm h70 := CHr.wr W70 (Safe.arv hZ.alike V67 (by decide)) R68.1
          have R71 : CHr Z own_EL s.vm h0 s.vm h70 := R68.trans r71
          have Z71 : n0 ≤ h70.size := Nat.le_trans Z68 (Keep.of_wr W70).1
          have O71 : Old Z n0 h70 := O68.wr W70 g_b61
          have K71 : Keep h0 h70 [] := K68.wr W70 (Or.inr sz_b61)
          refine gsW st70 ?_
          show OwnGoW p e below s Z own_EL _ _ _ (T70.setTop (mkF m 83 #[.val (.int p0), .val (.int p1), .val (.int p2), .val (.int p3), .val (.int p4), .val (.int p5), .val (.int p6), .val (.int p7)] [(.ref b61), (.ref b58), (.ref b58)]))
          have hp72 : ∀ c ∈ ([(nar .char p1), (nar .char p2), (nar .char p3)] : List Int32), ¬ c < 0 ∧ ¬ (255 : Int32) < c := by
            intro c hc
            simp only [List.mem_cons, List.not_mem_nil, or_false] at hc
            rcases hc with rfl | rfl | rfl
            all_goals first | exact own_nb b1 | exact own_nb b2 | exact own_nb b3 | exact own_nb b4 | exact own_nb b5 | exact own_nb b6 | exact own_nb b7
          have f73 := ((((A58.ext E61).wr W64).wr W67).wr W70)
          have f74 := ((((F_value_b58.ext E61).other W64 (Or.inl (Nat.ne_of_lt (Nat.lt_of_lt_of_le (Nat.lt_of_lt_of_le A58.lt (Nat.le_refl _)) (Nat.le_of_eq q61.symm))))).other W67 (Or.inl (Nat.ne_of_lt (Nat.lt_of_lt_of_le (Nat.lt_of_lt_of_le A58.lt (Nat.le_refl _)) (Nat.le_of_eq q61.symm))))).other W70 (Or.inl (Nat.ne_of_lt (Nat.lt_of_lt_of_le (Nat.lt_of_lt_of_le A58.lt (Nat.le_refl _)) (Nat.le_of_eq q61.symm)))))
          have f75 := ((((F_coder_b58.ext E61).other W64 (Or.inl (Nat.ne_of_lt (Nat.lt_of_lt_of_le (Nat.lt_of_lt_of_le A58.lt (Nat.le_refl _)) (Nat.le_of_eq q61.symm))))).other W67 (Or.inl (Nat.ne_of_lt (Nat.lt_of_lt_of_le (Nat.lt_of_lt_of_le A58.lt (Nat.le_refl _)) (Nat.le_of_eq q61.symm))))).other W70 (Or.inl (Nat.ne_of_lt (Nat.lt_of_lt_of_le (Nat.lt_of_lt_of_le A58.lt (Nat.le_refl _)) (Nat.le_of_eq q61.symm)))))
          obtain ⟨_, _, ⟨T76, L76, k76, n76⟩, -, X76, ⟨Lc76, hQ76, l76, y76, z76⟩, st76⟩ := X70.specialBack hx (y := (⟨"java/lang/String", "<init>", "([C)V"⟩ : MethodName)) rfl hown (mvT hZ (hw _ (List.mem_of_getElem? (i := 11) rfl))) (mvT hZ (hw _ (List.mem_of_getElem? (i := 12) rfl))) (mvT hZ (hw _ (List.mem_of_getElem? (i := 13) rfl))) (by decide) (StrChars.Road.backV (W := 1) hZ hws (kI := 4) (hw _ (List.mem_of_getElem? (i := 8) rfl)) (cs := ([(nar .char p1), (nar .char p2), (nar .char p3)] : List Int32)) (bs := ([(nar .char p1), (nar .char p2), (nar .char p3)] : List Int32).map (fun c => c.toInt8.toInt32)) (n := 3) g_b58 Z71 f73 f74 f75 V70 (S0.ext O71.2) hz rfl rfl (by decide) (by decide) hp72 rfl (by decide) (by decide)) (g := (mkF m 83 #[.val (.int p0), .val (.int p1), .val (.int p2), .val (.int p3), .val (.int p4), .val (.int p5), .val (.int p6), .val (.int p7)] [(.ref b61), (.ref b58), (.ref b58)])) rfl (by rw [hml]; rfl) (Steps.refl _) (a := b58) (argsL := [(.ref b61)]) (rest := [(.ref b58)]) (lenOf pd_53 rfl) rfl (by show 2 * 0 + _ ≤ _; exact Nat.le_of_eq rfl) (hb hby d_method_3_code_83) (fun _ _ => ⟨rfl, e70, (by decide : 2 + 1 ≤ _), (by decide : 7 + 3 ≤ _)⟩)
          dsimp only [Pt.U, Pt.locs, Pt.cells, Pt.slots] at X76 l76 y76 z76 st76 hQ76
          subst l76 y76 z76
          obtain ⟨rfl, N76q, K76q, g76e, g76c, t76, kb76, -, g76t, -, g76v, g76a⟩ := hQ76
          have N76 := Fr.app N70 N76q
          have g_t76 : n0 ≤ t76 := Nat.le_trans Z71 g76t
          have sz_t76 : h0.size ≤ t76 := Nat.le_trans K71.1 g76t
          have f78 := (r71.safe (Nat.lt_of_lt_of_le A58.lt (Nat.le_trans (Nat.le_trans E61.1 (Keep.of_wr W64).1) (Keep.of_wr W67).1)) (r68.safe (Nat.lt_of_lt_of_le A58.lt (Nat.le_trans E61.1 (Keep.of_wr W64).1)) (r65.safe (Nat.lt_of_lt_of_le A58.lt E61.1) (r62.safe (Nat.lt_of_lt_of_le A58.lt (Nat.le_refl _)) sfb58))))
          have r77 : CHr Z own_EL s.vm h70 s.vm T76.heap := CHr.keep K76q (sfS f78 sf0) R71.1
          have R77 : CHr Z own_EL s.vm h0 s.vm T76.heap := R71.trans r77
          have Z77 : n0 ≤ T76.heap.size := Nat.le_trans Z71 K76q.1
          have O77 : Old Z n0 T76.heap := O71.keep K76q (allS g_b58 all0)
          have K77 : Keep h0 T76.heap [] := K71.trans K76q (allS (Or.inr sz_b58) all0)
          refine gsW (fun _ k => st76.trans k) ?_
          show OwnGoW p e below s Z own_EL _ _ _ (T76.setTop (mkF m 86 #[.val (.int p0), .val (.int p1), .val (.int p2), .val (.int p3), .val (.int p4), .val (.int p5), .val (.int p6), .val (.int p7)] [(.ref b58)]))
          have T79 : Str Z T76.heap b58 ([(nar .char p1), (nar .char p2), (nar .char p3)] : List Int32) := ⟨_, _, g76e, g76c, g76v, g76a⟩
          simp only [own_nc b1, own_nc b2, own_nc b3, own_nc b4, own_nc b5, own_nc b6, own_nc b7] at T79
          refine goutW (v := some (.ref b58)) X76 hS (Nat.le_trans hk (Nat.le_trans (Nat.le_trans (Nat.le_trans (Nat.le_trans (Nat.le_trans E58.1 E61.1) (Keep.of_wr W64).1) (Keep.of_wr W67).1) (Keep.of_wr W70).1) K76q.1)) hZ (own_EW hw) hh rfl R77 Bd.notSynchronized (fun h => by rw [Bd.returns] at h; cases h) (by decide) (by decide) ?_ (fun fs hr => retOut X76 hx Bd.returns rfl (Or.inr (Or.inr (Or.inr (Or.inr ⟨rfl, rfl, rfl⟩)))) (hb hby d_method_3_code_86) hr)
          exact ⟨_, rfl, N76, K77, by unfold own_mk; rw [if_neg hc2, if_neg hc15, if_neg hc34, if_pos hc56]; exact T79⟩
        · have c80 : ∀ tg, Steps p.tables e below (s₁.setTop (mkF m 89 #[.val (.int p0), .val (.int p1), .val (.int p2), .val (.int p3), .val (.int p4), .val (.int p5), .val (.int p6), .val (.int p7)] [(.int (4 : Int32)), (.int p0)])) tg → Steps p.tables e below (s₁.setTop (mkF m 61 #[.val (.int p0), .val (.int p1), .val (.int p2), .val (.int p3), .val (.int p4), .val (.int p5), .val (.int p6), .val (.int p7)] [(.int (3 : Int32)), (.int p0)])) tg := fun tg kg => by
            refine XS.icmpYes X0.here hx rfl (pc0 := 61) (pc' := 87) rfl (hb hby d_method_3_code_61) rfl (feq hc56).2 (by decide) (by decide) ?_
            show Steps p.tables e below (s₁.setTop (mkF m 87 #[.val (.int p0), .val (.int p1), .val (.int p2), .val (.int p3), .val (.int p4), .val (.int p5), .val (.int p6), .val (.int p7)] [])) tg
            refine XS.iloadN X0.here hx rfl (hb hby d_method_3_code_87) rfl ?_
            show Steps p.tables e below (s₁.setTop (mkF m 88 #[.val (.int p0), .val (.int p1), .val (.int p2), .val (.int p3), .val (.int p4), .val (.int p5), .val (.int p6), .val (.int p7)] [(.int p0)])) tg
            refine XS.iconst X0.here hx rfl (hb hby d_method_3_code_88) ?_
            show Steps p.tables e below (s₁.setTop (mkF m 89 #[.val (.int p0), .val (.int p1), .val (.int p2), .val (.int p3), .val (.int p4), .val (.int p5), .val (.int p6), .val (.int p7)] [(.int (4 : Int32)), (.int p0)])) tg
            exact kg
          refine gsW c80 ?_
          by_cases hc81 : p0 = (4 : Int32)
          · have c82 : ∀ tg, Steps p.tables e below (s₁.setTop (mkF m 92 #[.val (.int p0), .val (.int p1), .val (.int p2), .val (.int p3), .val (.int p4), .val (.int p5), .val (.int p6), .val (.int p7)] [])) tg → Steps p.tables e below (s₁.setTop (mkF m 89 #[.val (.int p0), .val (.int p1), .val (.int p2), .val (.int p3), .val (.int p4), .val (.int p5), .val (.int p6), .val (.int p7)] [(.int (4 : Int32)), (.int p0)])) tg := fun tg kg => by
              refine XS.icmpNo X0.here hx rfl (hb hby d_method_3_code_89) rfl (teq hc81).2 ?_
              show Steps p.tables e below (s₁.setTop (mkF m 92 #[.val (.int p0), .val (.int p1), .val (.int p2), .val (.int p3), .val (.int p4), .val (.int p5), .val (.int p6), .val (.int p7)] [])) tg
              exact kg
            refine gsW c82 ?_
            obtain ⟨T83, h83, X83, e83, E83, A83, D83, -, st83⟩ := newO X0 hx hZ hown (hw _ (List.mem_of_getElem? (i := 7) rfl)) (hw _ (List.mem_of_getElem? (i := 8) rfl)) (hw _ (List.mem_of_getElem? (i := 9) rfl)) e0 (g := (mkF m 92 #[.val (.int p0), .val (.int p1), .val (.int p2), .val (.int p3), .val (.int p4), .val (.int p5), .val (.int p6), .val (.int p7)] [])) rfl (hb hby d_method_3_code_92) (by decide) (by decide)
            obtain ⟨b83, q83⟩ : ∃ z, z = h0.size := ⟨_, rfl⟩
            rw [← q83] at A83 D83 st83
            have g_b83 : n0 ≤ b83 := Nat.le_trans Z0 (Nat.le_of_eq q83.symm)
            have sz_b83 : h0.size ≤ b83 := Nat.le_trans K0.1 (Nat.le_of_eq q83.symm)
            have sfa83 : Safe Z own_EL s.vm h0 b83 := Safe.new (Nat.le_of_eq q83.symm)
            have r84 : CHr Z own_EL s.vm h0 s.vm h83 := CHr.ext E83 R0.1
            have R84 : CHr Z own_EL s.vm h0 s.vm h83 := R0.trans r84
            have Z84 : n0 ≤ h83.size := Nat.le_trans Z0 E83.1
            have O84 : Old Z n0 h83 := O0.ext E83
            have K84 : Keep h0 h83 [] := K0.ext E83
            have sfb83 := Safe.ext E83 R0.1 sfa83
            have F_value_b83 : Fld Z h83 b83 "java/lang/String" "value" "[B" .null := D83 (Or.inr (hw _ (List.mem_of_getElem? (i := 23) rfl))) (ty := (.array .byte)) (by decide)
            have F_coder_b83 : Fld Z h83 b83 "java/lang/String" "coder" "B" (.int (0 : Int32)) := D83 (Or.inr (hw _ (List.mem_of_getElem? (i := 24) rfl))) (ty := .byte) (by decide)
            refine gsW st83 ?_
            show OwnGoW p e below s Z own_EL _ _ _ (T83.setTop (mkF m 95 #[.val (.int p0), .val (.int p1), .val (.int p2), .val (.int p3), .val (.int p4), .val (.int p5), .val (.int p6), .val (.int p7)] [(.ref b83)]))
            have c85 : ∀ tg, Steps p.tables e below (T83.setTop (mkF m 97 #[.val (.int p0), .val (.int p1), .val (.int p2), .val (.int p3), .val (.int p4), .val (.int p5), .val (.int p6), .val (.int p7)] [(.int (4 : Int32)), (.ref b83), (.ref b83)])) tg → Steps p.tables e below (T83.setTop (mkF m 95 #[.val (.int p0), .val (.int p1), .val (.int p2), .val (.int p3), .val (.int p4), .val (.int p5), .val (.int p6), .val (.int p7)] [(.ref b83)])) tg := fun tg kg => by
              refine XS.dup X83.here hx rfl (hb hby d_method_3_code_95) rfl rfl ?_
              show Steps p.tables e below (T83.setTop (mkF m 96 #[.val (.int p0), .val (.int p1), .val (.int p2), .val (.int p3), .val (.int p4), .val (.int p5), .val (.int p6), .val (.int p7)] [(.ref b83), (.ref b83)])) tg
              refine XS.iconst X83.here hx rfl (hb hby d_method_3_code_96) ?_
              show Steps p.tables e below (T83.setTop (mkF m 97 #[.val (.int p0), .val (.int p1), .val (.int p2), .val (.int p3), .val (.int p4), .val (.int p5), .val (.int p6), .val (.int p7)] [(.int (4 : Int32)), (.ref b83), (.ref b83)])) tg
              exact kg
            refine gsW c85 ?_
            obtain ⟨T86, h86, k86, X86, e86, E86, A86, st86⟩ := newP X83 hx hZ (hw _ (List.mem_of_getElem? (i := 10) rfl)) e83 (g := (mkF m 97 #[.val (.int p0), .val (.int p1), .val (.int p2), .val (.int p3), .val (.int p4), .val (.int p5), .val (.int p6), .val (.int p7)] [(.int (4 : Int32)), (.ref b83), (.ref b83)])) rfl (hb hby d_method_3_code_97) rfl (by decide) (cap := 4) (by decide) (by decide) (by decide) (by decide)
            obtain ⟨b86, q86⟩ : ∃ z, z = h83.size := ⟨_, rfl⟩
            rw [← q86] at A86 st86
            have g_b86 : n0 ≤ b86 := Nat.le_trans Z84 (Nat.le_of_eq q86.symm)
            have sz_b86 : h0.size ≤ b86 := Nat.le_trans K84.1 (Nat.le_of_eq q86.symm)
            have r87 : CHr Z own_EL s.vm h83 s.vm h86 := CHr.ext E86 R84.1
            have R87 : CHr Z own_EL s.vm h0 s.vm h86 := R84.trans r87
            have Z87 : n0 ≤ h86.size := Nat.le_trans Z84 E86.1
            have O87 : Old Z n0 h86 := O84.ext E86
            have K87 : Keep h0 h86 [] := K84.ext E86
            have V86 : Arv Z h86 b86 k86 .char (4 : Int32) [(.int (0 : Int32)), (.int (0 : Int32)), (.int (0 : Int32)), (.int (0 : Int32))] (.int (0 : Int32)) := (Arv.new A86 (by decide)).pad (pad_rep [] (.int (0 : Int32)) 4)
            refine gsW st86 ?_
            show OwnGoW p e below s Z own_EL _ _ _ (T86.setTop (mkF m 99 #[.val (.int p0), .val (.int p1), .val (.int p2), .val (.int p3), .val (.int p4), .val (.int p5), .val (.int p6), .val (.int p7)] [(.ref b86), (.ref b83), (.ref b83)]))
            have c88 : ∀ tg, Steps p.tables e below (T86.setTop (mkF m 102 #[.val (.int p0), .val (.int p1), .val (.int p2), .val (.int p3), .val (.int p4), .val (.int p5), .val (.int p6), .val (.int p7)] [(.int p1), (.int (0 : Int32)), (.ref b86), (.ref b86), (.ref b83), (.ref b83)])) tg → Steps p.tables e below (T86.setTop (mkF m 99 #[.val (.int p0), .val (.int p1), .val (.int p2), .val (.int p3), .val (.int p4), .val (.int p5), .val (.int p6), .val (.int p7)] [(.ref b86), (.ref b83), (.ref b83)])) tg := fun tg kg => by
              refine XS.dup X86.here hx rfl (hb hby d_method_3_code_99) rfl rfl ?_
              show Steps p.tables e below (T86.setTop (mkF m 100 #[.val (.int p0), .val (.int p1), .val (.int p2), .val (.int p3), .val (.int p4), .val (.int p5), .val (.int p6), .val (.int p7)] [(.ref b86), (.ref b86), (.ref b83), (.ref b83)])) tg
              refine XS.iconst X86.here hx rfl (hb hby d_method_3_code_100) ?_
              show Steps p.tables e below (T86.setTop (mkF m 101 #[.val (.int p0), .val (.int p1), .val (.int p2), .val (.int p3), .val (.int p4), .val (.int p5), .val (.int p6), .val (.int p7)] [(.int (0 : Int32)), (.ref b86), (.ref b86), (.ref b83), (.ref b83)])) tg
              refine XS.iloadN X86.here hx rfl (hb hby d_method_3_code_101) rfl ?_
              show Steps p.tables e below (T86.setTop (mkF m 102 #[.val (.int p0), .val (.int p1), .val (.int p2), .val (.int p3), .val (.int p4), .val (.int p5), .val (.int p6), .val (.int p7)] [(.int p1), (.int (0 : Int32)), (.ref b86), (.ref b86), (.ref b83), (.ref b83)])) tg
              exact kg
            refine gsW c88 ?_
            obtain ⟨cl89, A89, a89q, a89S, a89N, a89H, a89G⟩ := id V86
            obtain ⟨T89, h89, X89, e89, W89, st89⟩ := stC X86 hx hZ e86 A89 (j := (0 : Int32)) (inb_of a89S ⟨by decide, by decide⟩) (g := (mkF m 102 #[.val (.int p0), .val (.int p1), .val (.int p2), .val (.int p3), .val (.int p4), .val (.int p5), .val (.int p6), .val (.int p7)] [(.int p1), (.int (0 : Int32)), (.ref b86), (.ref b86), (.ref b83), (.ref b83)])) rfl rfl (hb hby d_method_3_code_102)
            have V89 : Arv Z h89 b86 k86 .char (4 : Int32) [(.int (nar .char p1)), (.int (0 : Int32)), (.int (0 : Int32)), (.int (0 : Int32))] (.int (0 : Int32)) := Arv.set A89 a89q a89S a89N a89H a89G (fits_nar_char _) W89 0 rfl (Nat.le_of_ble_eq_true rfl)
            have N89 := Fr.snoc X89 N0 g_b86
            have r90 : CHr Z own_EL s.vm h86 s.vm h89 := CHr.wr W89 (Safe.arv hZ.alike V86 (by decide)) R87.1
            have R90 : CHr Z own_EL s.vm h0 s.vm h89 := R87.trans r90
            have Z90 : n0 ≤ h89.size := Nat.le_trans Z87 (Keep.of_wr W89).1
            have O90 : Old Z n0 h89 := O87.wr W89 g_b86
            have K90 : Keep h0 h89 [] := K87.wr W89 (Or.inr sz_b86)
            refine gsW st89 ?_
            show OwnGoW p e below s Z own_EL _ _ _ (T89.setTop (mkF m 103 #[.val (.int p0), .val (.int p1), .val (.int p2), .val (.int p3), .val (.int p4), .val (.int p5), .val (.int p6), .val (.int p7)] [(.ref b86), (.ref b83), (.ref b83)]))
            have c91 : ∀ tg, Steps p.tables e below (T89.setTop (mkF m 106 #[.val (.int p0), .val (.int p1), .val (.int p2), .val (.int p3), .val (.int p4), .val (.int p5), .val (.int p6), .val (.int p7)] [(.int p2), (.int (1 : Int32)), (.ref b86), (.ref b86), (.ref b83), (.ref b83)])) tg → Steps p.tables e below (T89.setTop (mkF m 103 #[.val (.int p0), .val (.int p1), .val (.int p2), .val (.int p3), .val (.int p4), .val (.int p5), .val (.int p6), .val (.int p7)] [(.ref b86), (.ref b83), (.ref b83)])) tg := fun tg kg => by
              refine XS.dup X89.here hx rfl (hb hby d_method_3_code_103) rfl rfl ?_
              show Steps p.tables e below (T89.setTop (mkF m 104 #[.val (.int p0), .val (.int p1), .val (.int p2), .val (.int p3), .val (.int p4), .val (.int p5), .val (.int p6), .val (.int p7)] [(.ref b86), (.ref b86), (.ref b83), (.ref b83)])) tg
              refine XS.iconst X89.here hx rfl (hb hby d_method_3_code_104) ?_
              show Steps p.tables e below (T89.setTop (mkF m 105 #[.val (.int p0), .val (.int p1), .val (.int p2), .val (.int p3), .val (.int p4), .val (.int p5), .val (.int p6), .val (.int p7)] [(.int (1 : Int32)), (.ref b86), (.ref b86), (.ref b83), (.ref b83)])) tg
              refine XS.iloadN X89.here hx rfl (hb hby d_method_3_code_105) rfl ?_
              show Steps p.tables e below (T89.setTop (mkF m 106 #[.val (.int p0), .val (.int p1), .val (.int p2), .val (.int p3), .val (.int p4), .val (.int p5), .val (.int p6), .val (.int p7)] [(.int p2), (.int (1 : Int32)), (.ref b86), (.ref b86), (.ref b83), (.ref b83)])) tg
              exact kg
            refine gsW c91 ?_
            obtain ⟨cl92, A92, a92q, a92S, a92N, a92H, a92G⟩ := id V89
            obtain ⟨T92, h92, X92, e92, W92, st92⟩ := stC X89 hx hZ e89 A92 (j := (1 : Int32)) (inb_of a92S ⟨by decide, by decide⟩) (g := (mkF m 106 #[.val (.int p0), .val (.int p1), .val (.int p2), .val (.int p3), .val (.int p4), .val (.int p5), .val (.int p6), .val (.int p7)] [(.int p2), (.int (1 : Int32)), (.ref b86), (.ref b86), (.ref b83), (.ref b83)])) rfl rfl (hb hby d_method_3_code_106)
            have V92 : Arv Z h92 b86 k86 .char (4 : Int32) [(.int (nar .char p1)), (.int (nar .char p2)), (.int (0 : Int32)), (.int (0 : Int32))] (.int (0 : Int32)) := Arv.set A92 a92q a92S a92N a92H a92G (fits_nar_char _) W92 1 rfl (Nat.le_of_ble_eq_true rfl)
            have N92 := Fr.snoc X92 N89 g_b86
            have r93 : CHr Z own_EL s.vm h89 s.vm h92 := CHr.wr W92 (Safe.arv hZ.alike V89 (by decide)) R90.1
            have R93 : CHr Z own_EL s.vm h0 s.vm h92 := R90.trans r93
            have Z93 : n0 ≤ h92.size := Nat.le_trans Z90 (Keep.of_wr W92).1
            have O93 : Old Z n0 h92 := O90.wr W92 g_b86
            have K93 : Keep h0 h92 [] := K90.wr W92 (Or.inr sz_b86)
            refine gsW st92 ?_
            show OwnGoW p e below s Z own_EL _ _ _ (T92.setTop (mkF m 107 #[.val (.int p0), .val (.int p1), .val (.int p2), .val (.int p3), .val (.int p4), .val (.int p5), .val (.int p6), .val (.int p7)] [(.ref b86), (.ref b83), (.ref b83)]))
            have c94 : ∀ tg, Steps p.tables e below (T92.setTop (mkF m 110 #[.val (.int p0), .val (.int p1), .val (.int p2), .val (.int p3), .val (.int p4), .val (.int p5), .val (.int p6), .val (.int p7)] [(.int p3), (.int (2 : Int32)), (.ref b86), (.ref b86), (.ref b83), (.ref b83)])) tg → Steps p.tables e below (T92.setTop (mkF m 107 #[.val (.int p0), .val (.int p1), .val (.int p2), .val (.int p3), .val (.int p4), .val (.int p5), .val (.int p6), .val (.int p7)] [(.ref b86), (.ref b83), (.ref b83)])) tg := fun tg kg => by
              refine XS.dup X92.here hx rfl (hb hby d_method_3_code_107) rfl rfl ?_
              show Steps p.tables e below (T92.setTop (mkF m 108 #[.val (.int p0), .val (.int p1), .val (.int p2), .val (.int p3), .val (.int p4), .val (.int p5), .val (.int p6), .val (.int p7)] [(.ref b86), (.ref b86), (.ref b83), (.ref b83)])) tg
              refine XS.iconst X92.here hx rfl (hb hby d_method_3_code_108) ?_
              show Steps p.tables e below (T92.setTop (mkF m 109 #[.val (.int p0), .val (.int p1), .val (.int p2), .val (.int p3), .val (.int p4), .val (.int p5), .val (.int p6), .val (.int p7)] [(.int (2 : Int32)), (.ref b86), (.ref b86), (.ref b83), (.ref b83)])) tg
              refine XS.iloadN X92.here hx rfl (hb hby d_method_3_code_109) rfl ?_
              show Steps p.tables e below (T92.setTop (mkF m 110 #[.val (.int p0), .val (.int p1), .val (.int p2), .val (.int p3), .val (.int p4), .val (.int p5), .val (.int p6), .val (.int p7)] [(.int p3), (.int (2 : Int32)), (.ref b86), (.ref b86), (.ref b83), (.ref b83)])) tg
              exact kg
            refine gsW c94 ?_
            obtain ⟨cl95, A95, a95q, a95S, a95N, a95H, a95G⟩ := id V92
            obtain ⟨T95, h95, X95, e95, W95, st95⟩ := stC X92 hx hZ e92 A95 (j := (2 : Int32)) (inb_of a95S ⟨by decide, by decide⟩) (g := (mkF m 110 #[.val (.int p0), .val (.int p1), .val (.int p2), .val (.int p3), .val (.int p4), .val (.int p5), .val (.int p6), .val (.int p7)] [(.int p3), (.int (2 : Int32)), (.ref b86), (.ref b86), (.ref b83), (.ref b83)])) rfl rfl (hb hby d_method_3_code_110)
            have V95 : Arv Z h95 b86 k86 .char (4 : Int32) [(.int (nar .char p1)), (.int (nar .char p2)), (.int (nar .char p3)), (.int (0 : Int32))] (.int (0 : Int32)) := Arv.set A95 a95q a95S a95N a95H a95G (fits_nar_char _) W95 2 rfl (Nat.le_of_ble_eq_true rfl)
            have N95 := Fr.snoc X95 N92 g_b86
            have r96 : CHr Z own_EL s.vm h92 s.vm h95 := CHr.wr W95 (Safe.arv hZ.alike V92 (by decide)) R93.1
            have R96 : CHr Z own_EL s.vm h0 s.vm h95 := R93.trans r96
            have Z96 : n0 ≤ h95.size := Nat.le_trans Z93 (Keep.of_wr W95).1
            have O96 : Old Z n0 h95 := O93.wr W95 g_b86
            have K96 : Keep h0 h95 [] := K93.wr W95 (Or.inr sz_b86)
            refine gsW st95 ?_
            show OwnGoW p e below s Z own_EL _ _ _ (T95.setTop (mkF m 111 #[.val (.int p0), .val (.int p1), .val (.int p2), .val (.int p3), .val (.int p4), .val (.int p5), .val (.int p6), .val (.int p7)] [(.ref b86), (.ref b83), (.ref b83)]))
            have c97 : ∀ tg, Steps p.tables e below (T95.setTop (mkF m 115 #[.val (.int p0), .val (.int p1), .val (.int p2), .val (.int p3), .val (.int p4), .val (.int p5), .val (.int p6), .val (.int p7)] [(.int p4), (.int (3 : Int32)), (.ref b86), (.ref b86), (.ref b83), (.ref b83)])) tg → Steps p.tables e below (T95.setTop (mkF m 111 #[.val (.int p0), .val (.int p1), .val (.int p2), .val (.int p3), .val (.int p4), .val (.int p5), .val (.int p6), .val (.int p7)] [(.ref b86), (.ref b83), (.ref b83)])) tg := fun tg kg => by
              refine XS.dup X95.here hx rfl (hb hby d_method_3_code_111) rfl rfl ?_
              show Steps p.tables e below (T95.setTop (mkF m 112 #[.val (.int p0), .val (.int p1), .val (.int p2), .val (.int p3), .val (.int p4), .val (.int p5), .val (.int p6), .val (.int p7)] [(.ref b86), (.ref b86), (.ref b83), (.ref b83)])) tg
              refine XS.iconst X95.here hx rfl (hb hby d_method_3_code_112) ?_
              show Steps p.tables e below (T95.setTop (mkF m 113 #[.val (.int p0), .val (.int p1), .val (.int p2), .val (.int p3), .val (.int p4), .val (.int p5), .val (.int p6), .val (.int p7)] [(.int (3 : Int32)), (.ref b86), (.ref b86), (.ref b83), (.ref b83)])) tg
              refine XS.iload X95.here hx rfl (hb hby d_method_3_code_113) rfl ?_
              show Steps p.tables e below (T95.setTop (mkF m 115 #[.val (.int p0), .val (.int p1), .val (.int p2), .val (.int p3), .val (.int p4), .val (.int p5), .val (.int p6), .val (.int p7)] [(.int p4), (.int (3 : Int32)), (.ref b86), (.ref b86), (.ref b83), (.ref b83)])) tg
              exact kg
            refine gsW c97 ?_
            obtain ⟨cl98, A98, a98q, a98S, a98N, a98H, a98G⟩ := id V95
            obtain ⟨T98, h98, X98, e98, W98, st98⟩ := stC X95 hx hZ e95 A98 (j := (3 : Int32)) (inb_of a98S ⟨by decide, by decide⟩) (g := (mkF m 115 #[.val (.int p0), .val (.int p1), .val (.int p2), .val (.int p3), .val (.int p4), .val (.int p5), .val (.int p6), .val (.int p7)] [(.int p4), (.int (3 : Int32)), (.ref b86), (.ref b86), (.ref b83), (.ref b83)])) rfl rfl (hb hby d_method_3_code_115)
            have V98 : Arv Z h98 b86 k86 .char (4 : Int32) [(.int (nar .char p1)), (.int (nar .char p2)), (.int (nar .char p3)), (.int (nar .char p4))] (.int (0 : Int32)) := Arv.set A98 a98q a98S a98N a98H a98G (fits_nar_char _) W98 3 rfl (Nat.le_of_ble_eq_true rfl)
            have N98 := Fr.snoc X98 N95 g_b86
            have r99 : CHr Z own_EL s.vm h95 s.vm h98 := CHr.wr W98 (Safe.arv hZ.alike V95 (by decide)) R96.1
            have R99 : CHr Z own_EL s.vm h0 s.vm h98 := R96.trans r99
            have Z99 : n0 ≤ h98.size := Nat.le_trans Z96 (Keep.of_wr W98).1
            have O99 : Old Z n0 h98 := O96.wr W98 g_b86
            have K99 : Keep h0 h98 [] := K96.wr W98 (Or.inr sz_b86)
            refine gsW st98 ?_
            show OwnGoW p e below s Z own_EL _ _ _ (T98.setTop (mkF m 116 #[.val (.int p0), .val (.int p1), .val (.int p2), .val (.int p3), .val (.int p4), .val (.int p5), .val (.int p6), .val (.int p7)] [(.ref b86), (.ref b83), (.ref b83)]))
            have hp100 : ∀ c ∈ ([(nar .char p1), (nar .char p2), (nar .char p3), (nar .char p4)] : List Int32), ¬ c < 0 ∧ ¬ (255 : Int32) < c := by
              intro c hc
              simp only [List.mem_cons, List.not_mem_nil, or_false] at hc
              rcases hc with rfl | rfl | rfl | rfl
              all_goals first | exact own_nb b1 | exact own_nb b2 | exact own_nb b3 | exact own_nb b4 | exact own_nb b5 | exact own_nb b6 | exact own_nb b7
            have f101 := (((((A83.ext E86).wr W89).wr W92).wr W95).wr W98)
            have f102 := (((((F_value_b83.ext E86).other W89 (Or.inl (Nat.ne_of_lt (Nat.lt_of_lt_of_le (Nat.lt_of_lt_of_le A83.lt (Nat.le_refl _)) (Nat.le_of_eq q86.symm))))).other W92 (Or.inl (Nat.ne_of_lt (Nat.lt_of_lt_of_le (Nat.lt_of_lt_of_le A83.lt (Nat.le_refl _)) (Nat.le_of_eq q86.symm))))).other W95 (Or.inl (Nat.ne_of_lt (Nat.lt_of_lt_of_le (Nat.lt_of_lt_of_le A83.lt (Nat.le_refl _)) (Nat.le_of_eq q86.symm))))).other W98 (Or.inl (Nat.ne_of_lt (Nat.lt_of_lt_of_le (Nat.lt_of_lt_of_le A83.lt (Nat.le_refl _)) (Nat.le_of_eq q86.symm)))))
            have f103 := (((((F_coder_b83.ext E86).other W89 (Or.inl (Nat.ne_of_lt (Nat.lt_of_lt_of_le (Nat.lt_of_lt_of_le A83.lt (Nat.le_refl _)) (Nat.le_of_eq q86.symm))))).other W92 (Or.inl (Nat.ne_of_lt (Nat.lt_of_lt_of_le (Nat.lt_of_lt_of_le A83.lt (Nat.le_refl _)) (Nat.le_of_eq q86.symm))))).other W95 (Or.inl (Nat.ne_of_lt (Nat.lt_of_lt_of_le (Nat.lt_of_lt_of_le A83.lt (Nat.le_refl _)) (Nat.le_of_eq q86.symm))))).other W98 (Or.inl (Nat.ne_of_lt (Nat.lt_of_lt_of_le (Nat.lt_of_lt_of_le A83.lt (Nat.le_refl _)) (Nat.le_of_eq q86.symm)))))
            obtain ⟨_, _, ⟨T104, L104, k104, n104⟩, -, X104, ⟨Lc104, hQ104, l104, y104, z104⟩, st104⟩ := X98.specialBack hx (y := (⟨"java/lang/String", "<init>", "([C)V"⟩ : MethodName)) rfl hown (mvT hZ (hw _ (List.mem_of_getElem? (i := 11) rfl))) (mvT hZ (hw _ (List.mem_of_getElem? (i := 12) rfl))) (mvT hZ (hw _ (List.mem_of_getElem? (i := 13) rfl))) (by decide) (StrChars.Road.backV (W := 1) hZ hws (kI := 4) (hw _ (List.mem_of_getElem? (i := 8) rfl)) (cs := ([(nar .char p1), (nar .char p2), (nar .char p3), (nar .char p4)] : List Int32)) (bs := ([(nar .char p1), (nar .char p2), (nar .char p3), (nar .char p4)] : List Int32).map (fun c => c.toInt8.toInt32)) (n := 4) g_b83 Z99 f101 f102 f103 V98 (S0.ext O99.2) hz rfl rfl (by decide) (by decide) hp100 rfl (by decide) (by decide)) (g := (mkF m 116 #[.val (.int p0), .val (.int p1), .val (.int p2), .val (.int p3), .val (.int p4), .val (.int p5), .val (.int p6), .val (.int p7)] [(.ref b86), (.ref b83), (.ref b83)])) rfl (by rw [hml]; rfl) (Steps.refl _) (a := b83) (argsL := [(.ref b86)]) (rest := [(.ref b83)]) (lenOf pd_53 rfl) rfl (by show 2 * 0 + _ ≤ _; exact Nat.le_of_eq rfl) (hb hby d_method_3_code_116) (fun _ _ => ⟨rfl, e98, (by decide : 2 + 1 ≤ _), (by decide : 8 + 4 ≤ _)⟩)
            dsimp only [Pt.U, Pt.locs, Pt.cells, Pt.slots] at X104 l104 y104 z104 st104 hQ104
            subst l104 y104 z104
            obtain ⟨rfl, N104q, K104q, g104e, g104c, t104, kb104, -, g104t, -, g104v, g104a⟩ := hQ104
            have N104 := Fr.app N98 N104q
            have g_t104 : n0 ≤ t104 := Nat.le_trans Z99 g104t
            have sz_t104 : h0.size ≤ t104 := Nat.le_trans K99.1 g104t
            have f106 := (r99.safe (Nat.lt_of_lt_of_le A83.lt (Nat.le_trans (Nat.le_trans (Nat.le_trans E86.1 (Keep.of_wr W89).1) (Keep.of_wr W92).1) (Keep.of_wr W95).1)) (r96.safe (Nat.lt_of_lt_of_le A83.lt (Nat.le_trans (Nat.le_trans E86.1 (Keep.of_wr W89).1) (Keep.of_wr W92).1)) (r93.safe (Nat.lt_of_lt_of_le A83.lt (Nat.le_trans E86.1 (Keep.of_wr W89).1)) (r90.safe (Nat.lt_of_lt_of_le A83.lt E86.1) (r87.safe (Nat.lt_of_lt_of_le A83.lt (Nat.le_refl _)) sfb83)))))
            have r105 : CHr Z own_EL s.vm h98 s.vm T104.heap := CHr.keep K104q (sfS f106 sf0) R99.1
            have R105 : CHr Z own_EL s.vm h0 s.vm T104.heap := R99.trans r105
            have Z105 : n0 ≤ T104.heap.size := Nat.le_trans Z99 K104q.1
            have O105 : Old Z n0 T104.heap := O99.keep K104q (allS g_b83 all0)
            have K105 : Keep h0 T104.heap [] := K99.trans K104q (allS (Or.inr sz_b83) all0)
            refine gsW (fun _ k => st104.trans k) ?_
            show OwnGoW p e below s Z own_EL _ _ _ (T104.setTop (mkF m 119 #[.val (.int p0), .val (.int p1), .val (.int p2), .val (.int p3), .val (.int p4), .val (.int p5), .val (.int p6), .val (.int p7)] [(.ref b83)]))
            have T107 : Str Z T104.heap b83 ([(nar .char p1), (nar .char p2), (nar .char p3), (nar .char p4)] : List Int32) := ⟨_, _, g104e, g104c, g104v, g104a⟩
            simp only [own_nc b1, own_nc b2, own_nc b3, own_nc b4, own_nc b5, own_nc b6, own_nc b7] at T107
            refine goutW (v := some (.ref b83)) X104 hS (Nat.le_trans hk (Nat.le_trans (Nat.le_trans (Nat.le_trans (Nat.le_trans (Nat.le_trans (Nat.le_trans E83.1 E86.1) (Keep.of_wr W89).1) (Keep.of_wr W92).1) (Keep.of_wr W95).1) (Keep.of_wr W98).1) K104q.1)) hZ (own_EW hw) hh rfl R105 Bd.notSynchronized (fun h => by rw [Bd.returns] at h; cases h) (by decide) (by decide) ?_ (fun fs hr => retOut X104 hx Bd.returns rfl (Or.inr (Or.inr (Or.inr (Or.inr ⟨rfl, rfl, rfl⟩)))) (hb hby d_method_3_code_119) hr)
            exact ⟨_, rfl, N104, K105, by unfold own_mk; rw [if_neg hc2, if_neg hc15, if_neg hc34, if_neg hc56, if_pos hc81]; exact T107⟩
          · have c108 : ∀ tg, Steps p.tables e below (s₁.setTop (mkF m 122 #[.val (.int p0), .val (.int p1), .val (.int p2), .val (.int p3), .val (.int p4), .val (.int p5), .val (.int p6), .val (.int p7)] [(.int (5 : Int32)), (.int p0)])) tg → Steps p.tables e below (s₁.setTop (mkF m 89 #[.val (.int p0), .val (.int p1), .val (.int p2), .val (.int p3), .val (.int p4), .val (.int p5), .val (.int p6), .val (.int p7)] [(.int (4 : Int32)), (.int p0)])) tg := fun tg kg => by
              refine XS.icmpYes X0.here hx rfl (pc0 := 89) (pc' := 120) rfl (hb hby d_method_3_code_89) rfl (feq hc81).2 (by decide) (by decide) ?_
              show Steps p.tables e below (s₁.setTop (mkF m 120 #[.val (.int p0), .val (.int p1), .val (.int p2), .val (.int p3), .val (.int p4), .val (.int p5), .val (.int p6), .val (.int p7)] [])) tg
              refine XS.iloadN X0.here hx rfl (hb hby d_method_3_code_120) rfl ?_
              show Steps p.tables e below (s₁.setTop (mkF m 121 #[.val (.int p0), .val (.int p1), .val (.int p2), .val (.int p3), .val (.int p4), .val (.int p5), .val (.int p6), .val (.int p7)] [(.int p0)])) tg
              refine XS.iconst X0.here hx rfl (hb hby d_method_3_code_121) ?_
              show Steps p.tables e below (s₁.setTop (mkF m 122 #[.val (.int p0), .val (.int p1), .val (.int p2), .val (.int p3), .val (.int p4), .val (.int p5), .val (.int p6), .val (.int p7)] [(.int (5 : Int32)), (.int p0)])) tg
              exact kg
            refine gsW c108 ?_
            by_cases hc109 : p0 = (5 : Int32)
            · have c110 : ∀ tg, Steps p.tables e below (s₁.setTop (mkF m 125 #[.val (.int p0), .val (.int p1), .val (.int p2), .val (.int p3), .val (.int p4), .val (.int p5), .val (.int p6), .val (.int p7)] [])) tg → Steps p.tables e below (s₁.setTop (mkF m 122 #[.val (.int p0), .val (.int p1), .val (.int p2), .val (.int p3), .val (.int p4), .val (.int p5), .val (.int p6), .val (.int p7)] [(.int (5 : Int32)), (.int p0)])) tg := fun tg kg => by
                refine XS.icmpNo X0.here hx rfl (hb hby d_method_3_code_122) rfl (teq hc109).2 ?_
                show Steps p.tables e below (s₁.setTop (mkF m 125 #[.val (.int p0), .val (.int p1), .val (.int p2), .val (.int p3), .val (.int p4), .val (.int p5), .val (.int p6), .val (.int p7)] [])) tg
                exact kg
              refine gsW c110 ?_
              obtain ⟨T111, h111, X111, e111, E111, A111, D111, -, st111⟩ := newO X0 hx hZ hown (hw _ (List.mem_of_getElem? (i := 7) rfl)) (hw _ (List.mem_of_getElem? (i := 8) rfl)) (hw _ (List.mem_of_getElem? (i := 9) rfl)) e0 (g := (mkF m 125 #[.val (.int p0), .val (.int p1), .val (.int p2), .val (.int p3), .val (.int p4), .val (.int p5), .val (.int p6), .val (.int p7)] [])) rfl (hb hby d_method_3_code_125) (by decide) (by decide)
              obtain ⟨b111, q111⟩ : ∃ z, z = h0.size := ⟨_, rfl⟩
              rw [← q111] at A111 D111 st111
              have g_b111 : n0 ≤ b111 := Nat.le_trans Z0 (Nat.le_of_eq q111.symm)
              have sz_b111 : h0.size ≤ b111 := Nat.le_trans K0.1 (Nat.le_of_eq q111.symm)
              have sfa111 : Safe Z own_EL s.vm h0 b111 := Safe.new (Nat.le_of_eq q111.symm)
              have r112 : CHr Z own_EL s.vm h0 s.vm h111 := CHr.ext E111 R0.1
              have R112 : CHr Z own_EL s.vm h0 s.vm h111 := R0.trans r112
              have Z112 : n0 ≤ h111.size := Nat.le_trans Z0 E111.1
              have O112 : Old Z n0 h111 := O0.ext E111
              have K112 : Keep h0 h111 [] := K0.ext E111
              have sfb111 := Safe.ext E111 R0.1 sfa111
              have F_value_b111 : Fld Z h111 b111 "java/lang/String" "value" "[B" .null := D111 (Or.inr (hw _ (List.mem_of_getElem? (i := 23) rfl))) (ty := (.array .byte)) (by decide)
              have F_coder_b111 : Fld Z h111 b111 "java/lang/String" "coder" "B" (.int (0 : Int32)) := D111 (Or.inr (hw _ (List.mem_of_getElem? (i := 24) rfl))) (ty := .byte) (by decide)
              refine gsW st111 ?_
              show OwnGoW p e below s Z own_EL _ _ _ (T111.setTop (mkF m 128 #[.val (.int p0), .val (.int p1), .val (.int p2), .val (.int p3), .val (.int p4), .val (.int p5), .val (.int p6), .val (.int p7)] [(.ref b111)]))
              have c113 : ∀ tg, Steps p.tables e below (T111.setTop (mkF m 130 #[.val (.int p0), .val (.int p1), .val (.int p2), .val (.int p3), .val (.int p4), .val (.int p5), .val (.int p6), .val (.int p7)] [(.int (5 : Int32)), (.ref b111), (.ref b111)])) tg → Steps p.tables e below (T111.setTop (mkF m 128 #[.val (.int p0), .val (.int p1), .val (.int p2), .val (.int p3), .val (.int p4), .val (.int p5), .val (.int p6), .val (.int p7)] [(.ref b111)])) tg := fun tg kg => by
                refine XS.dup X111.here hx rfl (hb hby d_method_3_code_128) rfl rfl ?_
                show Steps p.tables e below (T111.setTop (mkF m 129 #[.val (.int p0), .val (.int p1), .val (.int p2), .val (.int p3), .val (.int p4), .val (.int p5), .val (.int p6), .val (.int p7)] [(.ref b111), (.ref b111)])) tg
                refine XS.iconst X111.here hx rfl (hb hby d_method_3_code_129) ?_
                show Steps p.tables e below (T111.setTop (mkF m 130 #[.val (.int p0), .val (.int p1), .val (.int p2), .val (.int p3), .val (.int p4), .val (.int p5), .val (.int p6), .val (.int p7)] [(.int (5 : Int32)), (.ref b111), (.ref b111)])) tg
                exact kg
              refine gsW c113 ?_
              obtain ⟨T114, h114, k114, X114, e114, E114, A114, st114⟩ := newP X111 hx hZ (hw _ (List.mem_of_getElem? (i := 10) rfl)) e111 (g := (mkF m 130 #[.val (.int p0), .val (.int p1), .val (.int p2), .val (.int p3), .val (.int p4), .val (.int p5), .val (.int p6), .val (.int p7)] [(.int (5 : Int32)), (.ref b111), (.ref b111)])) rfl (hb hby d_method_3_code_130) rfl (by decide) (cap := 5) (by decide) (by decide) (by decide) (by decide)
              obtain ⟨b114, q114⟩ : ∃ z, z = h111.size := ⟨_, rfl⟩
              rw [← q114] at A114 st114
              have g_b114 : n0 ≤ b114 := Nat.le_trans Z112 (Nat.le_of_eq q114.symm)
              have sz_b114 : h0.size ≤ b114 := Nat.le_trans K112.1 (Nat.le_of_eq q114.symm)
              have r115 : CHr Z own_EL s.vm h111 s.vm h114 := CHr.ext E114 R112.1
              have R115 : CHr Z own_EL s.vm h0 s.vm h114 := R112.trans r115
              have Z115 : n0 ≤ h114.size := Nat.le_trans Z112 E114.1
              have O115 : Old Z n0 h114 := O112.ext E114
              have K115 : Keep h0 h114 [] := K112.ext E114
              have V114 : Arv Z h114 b114 k114 .char (5 : Int32) [(.int (0 : Int32)), (.int (0 : Int32)), (.int (0 : Int32)), (.int (0 : Int32)), (.int (0 : Int32))] (.int (0 : Int32)) := (Arv.new A114 (by decide)).pad (pad_rep [] (.int (0 : Int32)) 5)
              refine gsW st114 ?_
              show OwnGoW p e below s Z own_EL _ _ _ (T114.setTop (mkF m 132 #[.val (.int p0), .val (.int p1), .val (.int p2), .val (.int p3), .val (.int p4), .val (.int p5), .val (.int p6), .val (.int p7)] [(.ref b114), (.ref b111), (.ref b111)]))
              have c116 : ∀ tg, Steps p.tables e below (T114.setTop (mkF m 135 #[.val (.int p0), .val (.int p1), .val (.int p2), .val (.int p3), .val (.int p4), .val (.int p5), .val (.int p6), .val (.int p7)] [(.int p1), (.int (0 : Int32)), (.ref b114), (.ref b114), (.ref b111), (.ref b111)])) tg → Steps p.tables e below (T114.setTop (mkF m 132 #[.val (.int p0), .val (.int p1), .val (.int p2), .val (.int p3), .val (.int p4), .val (.int p5), .val (.int p6), .val (.int p7)] [(.ref b114), (.ref b111), (.ref b111)])) tg := fun tg kg => by
                refine XS.dup X114.here hx rfl (hb hby d_method_3_code_132) rfl rfl ?_
                show Steps p.tables e below (T114.setTop (mkF m 133 #[.val (.int p0), .val (.int p1), .val (.int p2), .val (.int p3), .val (.int p4), .val (.int p5), .val (.int p6), .val (.int p7)] [(.ref b114), (.ref b114), (.ref b111), (.ref b111)])) tg
                refine XS.iconst X114.here hx rfl (hb hby d_method_3_code_133) ?_
                show Steps p.tables e below (T114.setTop (mkF m 134 #[.val (.int p0), .val (.int p1), .val (.int p2), .val (.int p3), .val (.int p4), .val (.int p5), .val (.int p6), .val (.int p7)] [(.int (0 : Int32)), (.ref b114), (.ref b114), (.ref b111), (.ref b111)])) tg
                refine XS.iloadN X114.here hx rfl (hb hby d_method_3_code_134) rfl ?_
                show Steps p.tables e below (T114.setTop (mkF m 135 #[.val (.int p0), .val (.int p1), .val (.int p2), .val (.int p3), .val (.int p4), .val (.int p5), .val (.int p6), .val (.int p7)] [(.int p1), (.int (0 : Int32)), (.ref b114), (.ref b114), (.ref b111), (.ref b111)])) tg
                exact kg
              refine gsW c116 ?_
              obtain ⟨cl117, A117, a117q, a117S, a117N, a117H, a117G⟩ := id V114
              obtain ⟨T117, h117, X117, e117, W117, st117⟩ := stC X114 hx hZ e114 A117 (j := (0 : Int32)) (inb_of a117S ⟨by decide, by decide⟩) (g := (mkF m 135 #[.val (.int p0), .val (.int p1), .val (.int p2), .val (.int p3), .val (.int p4), .val (.int p5), .val (.int p6), .val (.int p7)] [(.int p1), (.int (0 : Int32)), (.ref b114), (.ref b114), (.ref b111), (.ref b111)])) rfl rfl (hb hby d_method_3_code_135)
              have V117 : Arv Z h117 b114 k114 .char (5 : Int32) [(.int (nar .char p1)), (.int (0 : Int32)), (.int (0 : Int32)), (.int (0 : Int32)), (.int (0 : Int32))] (.int (0 : Int32)) := Arv.set A117 a117q a117S a117N a117H a117G (fits_nar_char _) W117 0 rfl (Nat.le_of_ble_eq_true rfl)
              have N117 := Fr.snoc X117 N0 g_b114
              have r118 : CHr Z own_EL s.vm h114 s.vm h117 := CHr.wr W117 (Safe.arv hZ.alike V114 (by decide)) R115.1
              have R118 : CHr Z own_EL s.vm h0 s.vm h117 := R115.trans r118
              have Z118 : n0 ≤ h117.size := Nat.le_trans Z115 (Keep.of_wr W117).1
              have O118 : Old Z n0 h117 := O115.wr W117 g_b114
              have K118 : Keep h0 h117 [] := K115.wr W117 (Or.inr sz_b114)
              refine gsW st117 ?_
              show OwnGoW p e below s Z own_EL _ _ _ (T117.setTop (mkF m 136 #[.val (.int p0), .val (.int p1), .val (.int p2), .val (.int p3), .val (.int p4), .val (.int p5), .val (.int p6), .val (.int p7)] [(.ref b114), (.ref b111), (.ref b111)]))
              have c119 : ∀ tg, Steps p.tables e below (T117.setTop (mkF m 139 #[.val (.int p0), .val (.int p1), .val (.int p2), .val (.int p3), .val (.int p4), .val (.int p5), .val (.int p6), .val (.int p7)] [(.int p2), (.int (1 : Int32)), (.ref b114), (.ref b114), (.ref b111), (.ref b111)])) tg → Steps p.tables e below (T117.setTop (mkF m 136 #[.val (.int p0), .val (.int p1), .val (.int p2), .val (.int p3), .val (.int p4), .val (.int p5), .val (.int p6), .val (.int p7)] [(.ref b114), (.ref b111), (.ref b111)])) tg := fun tg kg => by
                refine XS.dup X117.here hx rfl (hb hby d_method_3_code_136) rfl rfl ?_
                show Steps p.tables e below (T117.setTop (mkF m 137 #[.val (.int p0), .val (.int p1), .val (.int p2), .val (.int p3), .val (.int p4), .val (.int p5), .val (.int p6), .val (.int p7)] [(.ref b114), (.ref b114), (.ref b111), (.ref b111)])) tg
                refine XS.iconst X117.here hx rfl (hb hby d_method_3_code_137) ?_
                show Steps p.tables e below (T117.setTop (mkF m 138 #[.val (.int p0), .val (.int p1), .val (.int p2), .val (.int p3), .val (.int p4), .val (.int p5), .val (.int p6), .val (.int p7)] [(.int (1 : Int32)), (.ref b114), (.ref b114), (.ref b111), (.ref b111)])) tg
                refine XS.iloadN X117.here hx rfl (hb hby d_method_3_code_138) rfl ?_
                show Steps p.tables e below (T117.setTop (mkF m 139 #[.val (.int p0), .val (.int p1), .val (.int p2), .val (.int p3), .val (.int p4), .val (.int p5), .val (.int p6), .val (.int p7)] [(.int p2), (.int (1 : Int32)), (.ref b114), (.ref b114), (.ref b111), (.ref b111)])) tg
                exact kg
              refine gsW c119 ?_
              obtain ⟨cl120, A120, a120q, a120S, a120N, a120H, a120G⟩ := id V117
              obtain ⟨T120, h120, X120, e120, W120, st120⟩ := stC X117 hx hZ e117 A120 (j := (1 : Int32)) (inb_of a120S ⟨by decide, by decide⟩) (g := (mkF m 139 #[.val (.int p0), .val (.int p1), .val (.int p2), .val (.int p3), .val (.int p4), .val (.int p5), .val (.int p6), .val (.int p7)] [(.int p2), (.int (1 : Int32)), (.ref b114), (.ref b114), (.ref b111), (.ref b111)])) rfl rfl (hb hby d_method_3_code_139)
              have V120 : Arv Z h120 b114 k114 .char (5 : Int32) [(.int (nar .char p1)), (.int (nar .char p2)), (.int (0 : Int32)), (.int (0 : Int32)), (.int (0 : Int32))] (.int (0 : Int32)) := Arv.set A120 a120q a120S a120N a120H a120G (fits_nar_char _) W120 1 rfl (Nat.le_of_ble_eq_true rfl)
              have N120 := Fr.snoc X120 N117 g_b114
              have r121 : CHr Z own_EL s.vm h117 s.vm h120 := CHr.wr W120 (Safe.arv hZ.alike V117 (by decide)) R118.1
              have R121 : CHr Z own_EL s.vm h0 s.vm h120 := R118.trans r121
              have Z121 : n0 ≤ h120.size := Nat.le_trans Z118 (Keep.of_wr W120).1
              have O121 : Old Z n0 h120 := O118.wr W120 g_b114
              have K121 : Keep h0 h120 [] := K118.wr W120 (Or.inr sz_b114)
              refine gsW st120 ?_
              show OwnGoW p e below s Z own_EL _ _ _ (T120.setTop (mkF m 140 #[.val (.int p0), .val (.int p1), .val (.int p2), .val (.int p3), .val (.int p4), .val (.int p5), .val (.int p6), .val (.int p7)] [(.ref b114), (.ref b111), (.ref b111)]))
              have c122 : ∀ tg, Steps p.tables e below (T120.setTop (mkF m 143 #[.val (.int p0), .val (.int p1), .val (.int p2), .val (.int p3), .val (.int p4), .val (.int p5), .val (.int p6), .val (.int p7)] [(.int p3), (.int (2 : Int32)), (.ref b114), (.ref b114), (.ref b111), (.ref b111)])) tg → Steps p.tables e below (T120.setTop (mkF m 140 #[.val (.int p0), .val (.int p1), .val (.int p2), .val (.int p3), .val (.int p4), .val (.int p5), .val (.int p6), .val (.int p7)] [(.ref b114), (.ref b111), (.ref b111)])) tg := fun tg kg => by
                refine XS.dup X120.here hx rfl (hb hby d_method_3_code_140) rfl rfl ?_
                show Steps p.tables e below (T120.setTop (mkF m 141 #[.val (.int p0), .val (.int p1), .val (.int p2), .val (.int p3), .val (.int p4), .val (.int p5), .val (.int p6), .val (.int p7)] [(.ref b114), (.ref b114), (.ref b111), (.ref b111)])) tg
                refine XS.iconst X120.here hx rfl (hb hby d_method_3_code_141) ?_
                show Steps p.tables e below (T120.setTop (mkF m 142 #[.val (.int p0), .val (.int p1), .val (.int p2), .val (.int p3), .val (.int p4), .val (.int p5), .val (.int p6), .val (.int p7)] [(.int (2 : Int32)), (.ref b114), (.ref b114), (.ref b111), (.ref b111)])) tg
                refine XS.iloadN X120.here hx rfl (hb hby d_method_3_code_142) rfl ?_
                show Steps p.tables e below (T120.setTop (mkF m 143 #[.val (.int p0), .val (.int p1), .val (.int p2), .val (.int p3), .val (.int p4), .val (.int p5), .val (.int p6), .val (.int p7)] [(.int p3), (.int (2 : Int32)), (.ref b114), (.ref b114), (.ref b111), (.ref b111)])) tg
                exact kg
              refine gsW c122 ?_
              obtain ⟨cl123, A123, a123q, a123S, a123N, a123H, a123G⟩ := id V120
              obtain ⟨T123, h123, X123, e123, W123, st123⟩ := stC X120 hx hZ e120 A123 (j := (2 : Int32)) (inb_of a123S ⟨by decide, by decide⟩) (g := (mkF m 143 #[.val (.int p0), .val (.int p1), .val (.int p2), .val (.int p3), .val (.int p4), .val (.int p5), .val (.int p6), .val (.int p7)] [(.int p3), (.int (2 : Int32)), (.ref b114), (.ref b114), (.ref b111), (.ref b111)])) rfl rfl (hb hby d_method_3_code_143)
              have V123 : Arv Z h123 b114 k114 .char (5 : Int32) [(.int (nar .char p1)), (.int (nar .char p2)), (.int (nar .char p3)), (.int (0 : Int32)), (.int (0 : Int32))] (.int (0 : Int32)) := Arv.set A123 a123q a123S a123N a123H a123G (fits_nar_char _) W123 2 rfl (Nat.le_of_ble_eq_true rfl)
              have N123 := Fr.snoc X123 N120 g_b114
              have r124 : CHr Z own_EL s.vm h120 s.vm h123 := CHr.wr W123 (Safe.arv hZ.alike V120 (by decide)) R121.1
              have R124 : CHr Z own_EL s.vm h0 s.vm h123 := R121.trans r124
              have Z124 : n0 ≤ h123.size := Nat.le_trans Z121 (Keep.of_wr W123).1
              have O124 : Old Z n0 h123 := O121.wr W123 g_b114
              have K124 : Keep h0 h123 [] := K121.wr W123 (Or.inr sz_b114)
              refine gsW st123 ?_
              show OwnGoW p e below s Z own_EL _ _ _ (T123.setTop (mkF m 144 #[.val (.int p0), .val (.int p1), .val (.int p2), .val (.int p3), .val (.int p4), .val (.int p5), .val (.int p6), .val (.int p7)] [(.ref b114), (.ref b111), (.ref b111)]))
              have c125 : ∀ tg, Steps p.tables e below (T123.setTop (mkF m 148 #[.val (.int p0), .val (.int p1), .val (.int p2), .val (.int p3), .val (.int p4), .val (.int p5), .val (.int p6), .val (.int p7)] [(.int p4), (.int (3 : Int32)), (.ref b114), (.ref b114), (.ref b111), (.ref b111)])) tg → Steps p.tables e below (T123.setTop (mkF m 144 #[.val (.int p0), .val (.int p1), .val (.int p2), .val (.int p3), .val (.int p4), .val (.int p5), .val (.int p6), .val (.int p7)] [(.ref b114), (.ref b111), (.ref b111)])) tg := fun tg kg => by
                refine XS.dup X123.here hx rfl (hb hby d_method_3_code_144) rfl rfl ?_
                show Steps p.tables e below (T123.setTop (mkF m 145 #[.val (.int p0), .val (.int p1), .val (.int p2), .val (.int p3), .val (.int p4), .val (.int p5), .val (.int p6), .val (.int p7)] [(.ref b114), (.ref b114), (.ref b111), (.ref b111)])) tg
                refine XS.iconst X123.here hx rfl (hb hby d_method_3_code_145) ?_
                show Steps p.tables e below (T123.setTop (mkF m 146 #[.val (.int p0), .val (.int p1), .val (.int p2), .val (.int p3), .val (.int p4), .val (.int p5), .val (.int p6), .val (.int p7)] [(.int (3 : Int32)), (.ref b114), (.ref b114), (.ref b111), (.ref b111)])) tg
                refine XS.iload X123.here hx rfl (hb hby d_method_3_code_146) rfl ?_
                show Steps p.tables e below (T123.setTop (mkF m 148 #[.val (.int p0), .val (.int p1), .val (.int p2), .val (.int p3), .val (.int p4), .val (.int p5), .val (.int p6), .val (.int p7)] [(.int p4), (.int (3 : Int32)), (.ref b114), (.ref b114), (.ref b111), (.ref b111)])) tg
                exact kg
              refine gsW c125 ?_
              obtain ⟨cl126, A126, a126q, a126S, a126N, a126H, a126G⟩ := id V123
              obtain ⟨T126, h126, X126, e126, W126, st126⟩ := stC X123 hx hZ e123 A126 (j := (3 : Int32)) (inb_of a126S ⟨by decide, by decide⟩) (g := (mkF m 148 #[.val (.int p0), .val (.int p1), .val (.int p2), .val (.int p3), .val (.int p4), .val (.int p5), .val (.int p6), .val (.int p7)] [(.int p4), (.int (3 : Int32)), (.ref b114), (.ref b114), (.ref b111), (.ref b111)])) rfl rfl (hb hby d_method_3_code_148)
              have V126 : Arv Z h126 b114 k114 .char (5 : Int32) [(.int (nar .char p1)), (.int (nar .char p2)), (.int (nar .char p3)), (.int (nar .char p4)), (.int (0 : Int32))] (.int (0 : Int32)) := Arv.set A126 a126q a126S a126N a126H a126G (fits_nar_char _) W126 3 rfl (Nat.le_of_ble_eq_true rfl)
              have N126 := Fr.snoc X126 N123 g_b114
              have r127 : CHr Z own_EL s.vm h123 s.vm h126 := CHr.wr W126 (Safe.arv hZ.alike V123 (by decide)) R124.1
              have R127 : CHr Z own_EL s.vm h0 s.vm h126 := R124.trans r127
              have Z127 : n0 ≤ h126.size := Nat.le_trans Z124 (Keep.of_wr W126).1
              have O127 : Old Z n0 h126 := O124.wr W126 g_b114
              have K127 : Keep h0 h126 [] := K124.wr W126 (Or.inr sz_b114)
              refine gsW st126 ?_
              show OwnGoW p e below s Z own_EL _ _ _ (T126.setTop (mkF m 149 #[.val (.int p0), .val (.int p1), .val (.int p2), .val (.int p3), .val (.int p4), .val (.int p5), .val (.int p6), .val (.int p7)] [(.ref b114), (.ref b111), (.ref b111)]))
              have c128 : ∀ tg, Steps p.tables e below (T126.setTop (mkF m 153 #[.val (.int p0), .val (.int p1), .val (.int p2), .val (.int p3), .val (.int p4), .val (.int p5), .val (.int p6), .val (.int p7)] [(.int p5), (.int (4 : Int32)), (.ref b114), (.ref b114), (.ref b111), (.ref b111)])) tg → Steps p.tables e below (T126.setTop (mkF m 149 #[.val (.int p0), .val (.int p1), .val (.int p2), .val (.int p3), .val (.int p4), .val (.int p5), .val (.int p6), .val (.int p7)] [(.ref b114), (.ref b111), (.ref b111)])) tg := fun tg kg => by
                refine XS.dup X126.here hx rfl (hb hby d_method_3_code_149) rfl rfl ?_
                show Steps p.tables e below (T126.setTop (mkF m 150 #[.val (.int p0), .val (.int p1), .val (.int p2), .val (.int p3), .val (.int p4), .val (.int p5), .val (.int p6), .val (.int p7)] [(.ref b114), (.ref b114), (.ref b111), (.ref b111)])) tg
                refine XS.iconst X126.here hx rfl (hb hby d_method_3_code_150) ?_
                show Steps p.tables e below (T126.setTop (mkF m 151 #[.val (.int p0), .val (.int p1), .val (.int p2), .val (.int p3), .val (.int p4), .val (.int p5), .val (.int p6), .val (.int p7)] [(.int (4 : Int32)), (.ref b114), (.ref b114), (.ref b111), (.ref b111)])) tg
                refine XS.iload X126.here hx rfl (hb hby d_method_3_code_151) rfl ?_
                show Steps p.tables e below (T126.setTop (mkF m 153 #[.val (.int p0), .val (.int p1), .val (.int p2), .val (.int p3), .val (.int p4), .val (.int p5), .val (.int p6), .val (.int p7)] [(.int p5), (.int (4 : Int32)), (.ref b114), (.ref b114), (.ref b111), (.ref b111)])) tg
                exact kg
              refine gsW c128 ?_
              obtain ⟨cl129, A129, a129q, a129S, a129N, a129H, a129G⟩ := id V126
              obtain ⟨T129, h129, X129, e129, W129, st129⟩ := stC X126 hx hZ e126 A129 (j := (4 : Int32)) (inb_of a129S ⟨by decide, by decide⟩) (g := (mkF m 153 #[.val (.int p0), .val (.int p1), .val (.int p2), .val (.int p3), .val (.int p4), .val (.int p5), .val (.int p6), .val (.int p7)] [(.int p5), (.int (4 : Int32)), (.ref b114), (.ref b114), (.ref b111), (.ref b111)])) rfl rfl (hb hby d_method_3_code_153)
              have V129 : Arv Z h129 b114 k114 .char (5 : Int32) [(.int (nar .char p1)), (.int (nar .char p2)), (.int (nar .char p3)), (.int (nar .char p4)), (.int (nar .char p5))] (.int (0 : Int32)) := Arv.set A129 a129q a129S a129N a129H a129G (fits_nar_char _) W129 4 rfl (Nat.le_of_ble_eq_true rfl)
              have N129 := Fr.snoc X129 N126 g_b114
              have r130 : CHr Z own_EL s.vm h126 s.vm h129 := CHr.wr W129 (Safe.arv hZ.alike V126 (by decide)) R127.1
              have R130 : CHr Z own_EL s.vm h0 s.vm h129 := R127.trans r130
              have Z130 : n0 ≤ h129.size := Nat.le_trans Z127 (Keep.of_wr W129).1
              have O130 : Old Z n0 h129 := O127.wr W129 g_b114
              have K130 : Keep h0 h129 [] := K127.wr W129 (Or.inr sz_b114)
              refine gsW st129 ?_
              show OwnGoW p e below s Z own_EL _ _ _ (T129.setTop (mkF m 154 #[.val (.int p0), .val (.int p1), .val (.int p2), .val (.int p3), .val (.int p4), .val (.int p5), .val (.int p6), .val (.int p7)] [(.ref b114), (.ref b111), (.ref b111)]))
              have hp131 : ∀ c ∈ ([(nar .char p1), (nar .char p2), (nar .char p3), (nar .char p4), (nar .char p5)] : List Int32), ¬ c < 0 ∧ ¬ (255 : Int32) < c := by
                intro c hc
                simp only [List.mem_cons, List.not_mem_nil, or_false] at hc
                rcases hc with rfl | rfl | rfl | rfl | rfl
                all_goals first | exact own_nb b1 | exact own_nb b2 | exact own_nb b3 | exact own_nb b4 | exact own_nb b5 | exact own_nb b6 | exact own_nb b7
              have f132 := ((((((A111.ext E114).wr W117).wr W120).wr W123).wr W126).wr W129)
              have f133 := ((((((F_value_b111.ext E114).other W117 (Or.inl (Nat.ne_of_lt (Nat.lt_of_lt_of_le (Nat.lt_of_lt_of_le A111.lt (Nat.le_refl _)) (Nat.le_of_eq q114.symm))))).other W120 (Or.inl (Nat.ne_of_lt (Nat.lt_of_lt_of_le (Nat.lt_of_lt_of_le A111.lt (Nat.le_refl _)) (Nat.le_of_eq q114.symm))))).other W123 (Or.inl (Nat.ne_of_lt (Nat.lt_of_lt_of_le (Nat.lt_of_lt_of_le A111.lt (Nat.le_refl _)) (Nat.le_of_eq q114.symm))))).other W126 (Or.inl (Nat.ne_of_lt (Nat.lt_of_lt_of_le (Nat.lt_of_lt_of_le A111.lt (Nat.le_refl _)) (Nat.le_of_eq q114.symm))))).other W129 (Or.inl (Nat.ne_of_lt (Nat.lt_of_lt_of_le (Nat.lt_of_lt_of_le A111.lt (Nat.le_refl _)) (Nat.le_of_eq q114.symm)))))
              have f134 := ((((((F_coder_b111.ext E114).other W117 (Or.inl (Nat.ne_of_lt (Nat.lt_of_lt_of_le (Nat.lt_of_lt_of_le A111.lt (Nat.le_refl _)) (Nat.le_of_eq q114.symm))))).other W120 (Or.inl (Nat.ne_of_lt (Nat.lt_of_lt_of_le (Nat.lt_of_lt_of_le A111.lt (Nat.le_refl _)) (Nat.le_of_eq q114.symm))))).other W123 (Or.inl (Nat.ne_of_lt (Nat.lt_of_lt_of_le (Nat.lt_of_lt_of_le A111.lt (Nat.le_refl _)) (Nat.le_of_eq q114.symm))))).other W126 (Or.inl (Nat.ne_of_lt (Nat.lt_of_lt_of_le (Nat.lt_of_lt_of_le A111.lt (Nat.le_refl _)) (Nat.le_of_eq q114.symm))))).other W129 (Or.inl (Nat.ne_of_lt (Nat.lt_of_lt_of_le (Nat.lt_of_lt_of_le A111.lt (Nat.le_refl _)) (Nat.le_of_eq q114.symm)))))
              obtain ⟨_, _, ⟨T135, L135, k135, n135⟩, -, X135, ⟨Lc135, hQ135, l135, y135, z135⟩, st135⟩ := X129.specialBack hx (y := (⟨"java/lang/String", "<init>", "([C)V"⟩ : MethodName)) rfl hown (mvT hZ (hw _ (List.mem_of_getElem? (i := 11) rfl))) (mvT hZ (hw _ (List.mem_of_getElem? (i := 12) rfl))) (mvT hZ (hw _ (List.mem_of_getElem? (i := 13) rfl))) (by decide) (StrChars.Road.backV (W := 1) hZ hws (kI := 4) (hw _ (List.mem_of_getElem? (i := 8) rfl)) (cs := ([(nar .char p1), (nar .char p2), (nar .char p3), (nar .char p4), (nar .char p5)] : List Int32)) (bs := ([(nar .char p1), (nar .char p2), (nar .char p3), (nar .char p4), (nar .char p5)] : List Int32).map (fun c => c.toInt8.toInt32)) (n := 5) g_b111 Z130 f132 f133 f134 V129 (S0.ext O130.2) hz rfl rfl (by decide) (by decide) hp131 rfl (by decide) (by decide)) (g := (mkF m 154 #[.val (.int p0), .val (.int p1), .val (.int p2), .val (.int p3), .val (.int p4), .val (.int p5), .val (.int p6), .val (.int p7)] [(.ref b114), (.ref b111), (.ref b111)])) rfl (by rw [hml]; rfl) (Steps.refl _) (a := b111) (argsL := [(.ref b114)]) (rest := [(.ref b111)]) (lenOf pd_53 rfl) rfl (by show 2 * 0 + _ ≤ _; exact Nat.le_of_eq rfl) (hb hby d_method_3_code_154) (fun _ _ => ⟨rfl, e129, (by decide : 2 + 1 ≤ _), (by decide : 9 + 5 ≤ _)⟩)
              dsimp only [Pt.U, Pt.locs, Pt.cells, Pt.slots] at X135 l135 y135 z135 st135 hQ135
              subst l135 y135 z135
              obtain ⟨rfl, N135q, K135q, g135e, g135c, t135, kb135, -, g135t, -, g135v, g135a⟩ := hQ135
              have N135 := Fr.app N129 N135q
              have g_t135 : n0 ≤ t135 := Nat.le_trans Z130 g135t
              have sz_t135 : h0.size ≤ t135 := Nat.le_trans K130.1 g135t
              have f137 := (r130.safe (Nat.lt_of_lt_of_le A111.lt (Nat.le_trans (Nat.le_trans (Nat.le_trans (Nat.le_trans E114.1 (Keep.of_wr W117).1) (Keep.of_wr W120).1) (Keep.of_wr W123).1) (Keep.of_wr W126).1)) (r127.safe (Nat.lt_of_lt_of_le A111.lt (Nat.le_trans (Nat.le_trans (Nat.le_trans E114.1 (Keep.of_wr W117).1) (Keep.of_wr W120).1) (Keep.of_wr W123).1)) (r124.safe (Nat.lt_of_lt_of_le A111.lt (Nat.le_trans (Nat.le_trans E114.1 (Keep.of_wr W117).1) (Keep.of_wr W120).1)) (r121.safe (Nat.lt_of_lt_of_le A111.lt (Nat.le_trans E114.1 (Keep.of_wr W117).1)) (r118.safe (Nat.lt_of_lt_of_le A111.lt E114.1) (r115.safe (Nat.lt_of_lt_of_le A111.lt (Nat.le_refl _)) sfb111))))))
              have r136 : CHr Z own_EL s.vm h129 s.vm T135.heap := CHr.keep K135q (sfS f137 sf0) R130.1
              have R136 : CHr Z own_EL s.vm h0 s.vm T135.heap := R130.trans r136
              have Z136 : n0 ≤ T135.heap.size := Nat.le_trans Z130 K135q.1
              have O136 : Old Z n0 T135.heap := O130.keep K135q (allS g_b111 all0)
              have K136 : Keep h0 T135.heap [] := K130.trans K135q (allS (Or.inr sz_b111) all0)
              refine gsW (fun _ k => st135.trans k) ?_
              show OwnGoW p e below s Z own_EL _ _ _ (T135.setTop (mkF m 157 #[.val (.int p0), .val (.int p1), .val (.int p2), .val (.int p3), .val (.int p4), .val (.int p5), .val (.int p6), .val (.int p7)] [(.ref b111)]))
              have T138 : Str Z T135.heap b111 ([(nar .char p1), (nar .char p2), (nar .char p3), (nar .char p4), (nar .char p5)] : List Int32) := ⟨_, _, g135e, g135c, g135v, g135a⟩
              simp only [own_nc b1, own_nc b2, own_nc b3, own_nc b4, own_nc b5, own_nc b6, own_nc b7] at T138
              refine goutW (v := some (.ref b111)) X135 hS (Nat.le_trans hk (Nat.le_trans (Nat.le_trans (Nat.le_trans (Nat.le_trans (Nat.le_trans (Nat.le_trans (Nat.le_trans E111.1 E114.1) (Keep.of_wr W117).1) (Keep.of_wr W120).1) (Keep.of_wr W123).1) (Keep.of_wr W126).1) (Keep.of_wr W129).1) K135q.1)) hZ (own_EW hw) hh rfl R136 Bd.notSynchronized (fun h => by rw [Bd.returns] at h; cases h) (by decide) (by decide) ?_ (fun fs hr => retOut X135 hx Bd.returns rfl (Or.inr (Or.inr (Or.inr (Or.inr ⟨rfl, rfl, rfl⟩)))) (hb hby d_method_3_code_157) hr)
              exact ⟨_, rfl, N135, K136, by unfold own_mk; rw [if_neg hc2, if_neg hc15, if_neg hc34, if_neg hc56, if_neg hc81, if_pos hc109]; exact T138⟩
            · have c139 : ∀ tg, Steps p.tables e below (s₁.setTop (mkF m 161 #[.val (.int p0), .val (.int p1), .val (.int p2), .val (.int p3), .val (.int p4), .val (.int p5), .val (.int p6), .val (.int p7)] [(.int (6 : Int32)), (.int p0)])) tg → Steps p.tables e below (s₁.setTop (mkF m 122 #[.val (.int p0), .val (.int p1), .val (.int p2), .val (.int p3), .val (.int p4), .val (.int p5), .val (.int p6), .val (.int p7)] [(.int (5 : Int32)), (.int p0)])) tg := fun tg kg => by
                refine XS.icmpYes X0.here hx rfl (pc0 := 122) (pc' := 158) rfl (hb hby d_method_3_code_122) rfl (feq hc109).2 (by decide) (by decide) ?_
                show Steps p.tables e below (s₁.setTop (mkF m 158 #[.val (.int p0), .val (.int p1), .val (.int p2), .val (.int p3), .val (.int p4), .val (.int p5), .val (.int p6), .val (.int p7)] [])) tg
                refine XS.iloadN X0.here hx rfl (hb hby d_method_3_code_158) rfl ?_
                show Steps p.tables e below (s₁.setTop (mkF m 159 #[.val (.int p0), .val (.int p1), .val (.int p2), .val (.int p3), .val (.int p4), .val (.int p5), .val (.int p6), .val (.int p7)] [(.int p0)])) tg
                refine XS.bipush X0.here hx rfl (hb hby d_method_3_code_159) ?_
                show Steps p.tables e below (s₁.setTop (mkF m 161 #[.val (.int p0), .val (.int p1), .val (.int p2), .val (.int p3), .val (.int p4), .val (.int p5), .val (.int p6), .val (.int p7)] [(.int (6 : Int32)), (.int p0)])) tg
                exact kg
              refine gsW c139 ?_
              by_cases hc140 : p0 = (6 : Int32)
              · have c141 : ∀ tg, Steps p.tables e below (s₁.setTop (mkF m 164 #[.val (.int p0), .val (.int p1), .val (.int p2), .val (.int p3), .val (.int p4), .val (.int p5), .val (.int p6), .val (.int p7)] [])) tg → Steps p.tables e below (s₁.setTop (mkF m 161 #[.val (.int p0), .val (.int p1), .val (.int p2), .val (.int p3), .val (.int p4), .val (.int p5), .val (.int p6), .val (.int p7)] [(.int (6 : Int32)), (.int p0)])) tg := fun tg kg => by
                  refine XS.icmpNo X0.here hx rfl (hb hby d_method_3_code_161) rfl (teq hc140).2 ?_
                  show Steps p.tables e below (s₁.setTop (mkF m 164 #[.val (.int p0), .val (.int p1), .val (.int p2), .val (.int p3), .val (.int p4), .val (.int p5), .val (.int p6), .val (.int p7)] [])) tg
                  exact kg
                refine gsW c141 ?_
                obtain ⟨T142, h142, X142, e142, E142, A142, D142, -, st142⟩ := newO X0 hx hZ hown (hw _ (List.mem_of_getElem? (i := 7) rfl)) (hw _ (List.mem_of_getElem? (i := 8) rfl)) (hw _ (List.mem_of_getElem? (i := 9) rfl)) e0 (g := (mkF m 164 #[.val (.int p0), .val (.int p1), .val (.int p2), .val (.int p3), .val (.int p4), .val (.int p5), .val (.int p6), .val (.int p7)] [])) rfl (hb hby d_method_3_code_164) (by decide) (by decide)
                obtain ⟨b142, q142⟩ : ∃ z, z = h0.size := ⟨_, rfl⟩
                rw [← q142] at A142 D142 st142
                have g_b142 : n0 ≤ b142 := Nat.le_trans Z0 (Nat.le_of_eq q142.symm)
                have sz_b142 : h0.size ≤ b142 := Nat.le_trans K0.1 (Nat.le_of_eq q142.symm)
                have sfa142 : Safe Z own_EL s.vm h0 b142 := Safe.new (Nat.le_of_eq q142.symm)
                have r143 : CHr Z own_EL s.vm h0 s.vm h142 := CHr.ext E142 R0.1
                have R143 : CHr Z own_EL s.vm h0 s.vm h142 := R0.trans r143
                have Z143 : n0 ≤ h142.size := Nat.le_trans Z0 E142.1
                have O143 : Old Z n0 h142 := O0.ext E142
                have K143 : Keep h0 h142 [] := K0.ext E142
                have sfb142 := Safe.ext E142 R0.1 sfa142
                have F_value_b142 : Fld Z h142 b142 "java/lang/String" "value" "[B" .null := D142 (Or.inr (hw _ (List.mem_of_getElem? (i := 23) rfl))) (ty := (.array .byte)) (by decide)
                have F_coder_b142 : Fld Z h142 b142 "java/lang/String" "coder" "B" (.int (0 : Int32)) := D142 (Or.inr (hw _ (List.mem_of_getElem? (i := 24) rfl))) (ty := .byte) (by decide)
                refine gsW st142 ?_
                show OwnGoW p e below s Z own_EL _ _ _ (T142.setTop (mkF m 167 #[.val (.int p0), .val (.int p1), .val (.int p2), .val (.int p3), .val (.int p4), .val (.int p5), .val (.int p6), .val (.int p7)] [(.ref b142)]))
                have c144 : ∀ tg, Steps p.tables e below (T142.setTop (mkF m 170 #[.val (.int p0), .val (.int p1), .val (.int p2), .val (.int p3), .val (.int p4), .val (.int p5), .val (.int p6), .val (.int p7)] [(.int (6 : Int32)), (.ref b142), (.ref b142)])) tg → Steps p.tables e below (T142.setTop (mkF m 167 #[.val (.int p0), .val (.int p1), .val (.int p2), .val (.int p3), .val (.int p4), .val (.int p5), .val (.int p6), .val (.int p7)] [(.ref b142)])) tg := fun tg kg => by
                  refine XS.dup X142.here hx rfl (hb hby d_method_3_code_167) rfl rfl ?_
                  show Steps p.tables e below (T142.setTop (mkF m 168 #[.val (.int p0), .val (.int p1), .val (.int p2), .val (.int p3), .val (.int p4), .val (.int p5), .val (.int p6), .val (.int p7)] [(.ref b142), (.ref b142)])) tg
                  refine XS.bipush X142.here hx rfl (hb hby d_method_3_code_168) ?_
                  show Steps p.tables e below (T142.setTop (mkF m 170 #[.val (.int p0), .val (.int p1), .val (.int p2), .val (.int p3), .val (.int p4), .val (.int p5), .val (.int p6), .val (.int p7)] [(.int (6 : Int32)), (.ref b142), (.ref b142)])) tg
                  exact kg
                refine gsW c144 ?_
                obtain ⟨T145, h145, k145, X145, e145, E145, A145, st145⟩ := newP X142 hx hZ (hw _ (List.mem_of_getElem? (i := 10) rfl)) e142 (g := (mkF m 170 #[.val (.int p0), .val (.int p1), .val (.int p2), .val (.int p3), .val (.int p4), .val (.int p5), .val (.int p6), .val (.int p7)] [(.int (6 : Int32)), (.ref b142), (.ref b142)])) rfl (hb hby d_method_3_code_170) rfl (by decide) (cap := 6) (by decide) (by decide) (by decide) (by decide)
                obtain ⟨b145, q145⟩ : ∃ z, z = h142.size := ⟨_, rfl⟩
                rw [← q145] at A145 st145
                have g_b145 : n0 ≤ b145 := Nat.le_trans Z143 (Nat.le_of_eq q145.symm)
                have sz_b145 : h0.size ≤ b145 := Nat.le_trans K143.1 (Nat.le_of_eq q145.symm)
                have r146 : CHr Z own_EL s.vm h142 s.vm h145 := CHr.ext E145 R143.1
                have R146 : CHr Z own_EL s.vm h0 s.vm h145 := R143.trans r146
                have Z146 : n0 ≤ h145.size := Nat.le_trans Z143 E145.1
                have O146 : Old Z n0 h145 := O143.ext E145
                have K146 : Keep h0 h145 [] := K143.ext E145
                have V145 : Arv Z h145 b145 k145 .char (6 : Int32) [(.int (0 : Int32)), (.int (0 : Int32)), (.int (0 : Int32)), (.int (0 : Int32)), (.int (0 : Int32)), (.int (0 : Int32))] (.int (0 : Int32)) := (Arv.new A145 (by decide)).pad (pad_rep [] (.int (0 : Int32)) 6)
                refine gsW st145 ?_
                show OwnGoW p e below s Z own_EL _ _ _ (T145.setTop (mkF m 172 #[.val (.int p0), .val (.int p1), .val (.int p2), .val (.int p3), .val (.int p4), .val (.int p5), .val (.int p6), .val (.int p7)] [(.ref b145), (.ref b142), (.ref b142)]))
                have c147 : ∀ tg, Steps p.tables e below (T145.setTop (mkF m 175 #[.val (.int p0), .val (.int p1), .val (.int p2), .val (.int p3), .val (.int p4), .val (.int p5), .val (.int p6), .val (.int p7)] [(.int p1), (.int (0 : Int32)), (.ref b145), (.ref b145), (.ref b142), (.ref b142)])) tg → Steps p.tables e below (T145.setTop (mkF m 172 #[.val (.int p0), .val (.int p1), .val (.int p2), .val (.int p3), .val (.int p4), .val (.int p5), .val (.int p6), .val (.int p7)] [(.ref b145), (.ref b142), (.ref b142)])) tg := fun tg kg => by
                  refine XS.dup X145.here hx rfl (hb hby d_method_3_code_172) rfl rfl ?_
                  show Steps p.tables e below (T145.setTop (mkF m 173 #[.val (.int p0), .val (.int p1), .val (.int p2), .val (.int p3), .val (.int p4), .val (.int p5), .val (.int p6), .val (.int p7)] [(.ref b145), (.ref b145), (.ref b142), (.ref b142)])) tg
                  refine XS.iconst X145.here hx rfl (hb hby d_method_3_code_173) ?_
                  show Steps p.tables e below (T145.setTop (mkF m 174 #[.val (.int p0), .val (.int p1), .val (.int p2), .val (.int p3), .val (.int p4), .val (.int p5), .val (.int p6), .val (.int p7)] [(.int (0 : Int32)), (.ref b145), (.ref b145), (.ref b142), (.ref b142)])) tg
                  refine XS.iloadN X145.here hx rfl (hb hby d_method_3_code_174) rfl ?_
                  show Steps p.tables e below (T145.setTop (mkF m 175 #[.val (.int p0), .val (.int p1), .val (.int p2), .val (.int p3), .val (.int p4), .val (.int p5), .val (.int p6), .val (.int p7)] [(.int p1), (.int (0 : Int32)), (.ref b145), (.ref b145), (.ref b142), (.ref b142)])) tg
                  exact kg
                refine gsW c147 ?_
                obtain ⟨cl148, A148, a148q, a148S, a148N, a148H, a148G⟩ := id V145
                obtain ⟨T148, h148, X148, e148, W148, st148⟩ := stC X145 hx hZ e145 A148 (j := (0 : Int32)) (inb_of a148S ⟨by decide, by decide⟩) (g := (mkF m 175 #[.val (.int p0), .val (.int p1), .val (.int p2), .val (.int p3), .val (.int p4), .val (.int p5), .val (.int p6), .val (.int p7)] [(.int p1), (.int (0 : Int32)), (.ref b145), (.ref b145), (.ref b142), (.ref b142)])) rfl rfl (hb hby d_method_3_code_175)
                have V148 : Arv Z h148 b145 k145 .char (6 : Int32) [(.int (nar .char p1)), (.int (0 : Int32)), (.int (0 : Int32)), (.int (0 : Int32)), (.int (0 : Int32)), (.int (0 : Int32))] (.int (0 : Int32)) := Arv.set A148 a148q a148S a148N a148H a148G (fits_nar_char _) W148 0 rfl (Nat.le_of_ble_eq_true rfl)
                have N148 := Fr.snoc X148 N0 g_b145
                have r149 : CHr Z own_EL s.vm h145 s.vm h148 := CHr.wr W148 (Safe.arv hZ.alike V145 (by decide)) R146.1
                have R149 : CHr Z own_EL s.vm h0 s.vm h148 := R146.trans r149
                have Z149 : n0 ≤ h148.size := Nat.le_trans Z146 (Keep.of_wr W148).1
                have O149 : Old Z n0 h148 := O146.wr W148 g_b145
                have K149 : Keep h0 h148 [] := K146.wr W148 (Or.inr sz_b145)
                refine gsW st148 ?_
                show OwnGoW p e below s Z own_EL _ _ _ (T148.setTop (mkF m 176 #[.val (.int p0), .val (.int p1), .val (.int p2), .val (.int p3), .val (.int p4), .val (.int p5), .val (.int p6), .val (.int p7)] [(.ref b145), (.ref b142), (.ref b142)]))
                have c150 : ∀ tg, Steps p.tables e below (T148.setTop (mkF m 179 #[.val (.int p0), .val (.int p1), .val (.int p2), .val (.int p3), .val (.int p4), .val (.int p5), .val (.int p6), .val (.int p7)] [(.int p2), (.int (1 : Int32)), (.ref b145), (.ref b145), (.ref b142), (.ref b142)])) tg → Steps p.tables e below (T148.setTop (mkF m 176 #[.val (.int p0), .val (.int p1), .val (.int p2), .val (.int p3), .val (.int p4), .val (.int p5), .val (.int p6), .val (.int p7)] [(.ref b145), (.ref b142), (.ref b142)])) tg := fun tg kg => by
                  refine XS.dup X148.here hx rfl (hb hby d_method_3_code_176) rfl rfl ?_
                  show Steps p.tables e below (T148.setTop (mkF m 177 #[.val (.int p0), .val (.int p1), .val (.int p2), .val (.int p3), .val (.int p4), .val (.int p5), .val (.int p6), .val (.int p7)] [(.ref b145), (.ref b145), (.ref b142), (.ref b142)])) tg
                  refine XS.iconst X148.here hx rfl (hb hby d_method_3_code_177) ?_
                  show Steps p.tables e below (T148.setTop (mkF m 178 #[.val (.int p0), .val (.int p1), .val (.int p2), .val (.int p3), .val (.int p4), .val (.int p5), .val (.int p6), .val (.int p7)] [(.int (1 : Int32)), (.ref b145), (.ref b145), (.ref b142), (.ref b142)])) tg
                  refine XS.iloadN X148.here hx rfl (hb hby d_method_3_code_178) rfl ?_
                  show Steps p.tables e below (T148.setTop (mkF m 179 #[.val (.int p0), .val (.int p1), .val (.int p2), .val (.int p3), .val (.int p4), .val (.int p5), .val (.int p6), .val (.int p7)] [(.int p2), (.int (1 : Int32)), (.ref b145), (.ref b145), (.ref b142), (.ref b142)])) tg
                  exact kg
                refine gsW c150 ?_
                obtain ⟨cl151, A151, a151q, a151S, a151N, a151H, a151G⟩ := id V148
                obtain ⟨T151, h151, X151, e151, W151, st151⟩ := stC X148 hx hZ e148 A151 (j := (1 : Int32)) (inb_of a151S ⟨by decide, by decide⟩) (g := (mkF m 179 #[.val (.int p0), .val (.int p1), .val (.int p2), .val (.int p3), .val (.int p4), .val (.int p5), .val (.int p6), .val (.int p7)] [(.int p2), (.int (1 : Int32)), (.ref b145), (.ref b145), (.ref b142), (.ref b142)])) rfl rfl (hb hby d_method_3_code_179)
                have V151 : Arv Z h151 b145 k145 .char (6 : Int32) [(.int (nar .char p1)), (.int (nar .char p2)), (.int (0 : Int32)), (.int (0 : Int32)), (.int (0 : Int32)), (.int (0 : Int32))] (.int (0 : Int32)) := Arv.set A151 a151q a151S a151N a151H a151G (fits_nar_char _) W151 1 rfl (Nat.le_of_ble_eq_true rfl)
                have N151 := Fr.snoc X151 N148 g_b145
                have r152 : CHr Z own_EL s.vm h148 s.vm h151 := CHr.wr W151 (Safe.arv hZ.alike V148 (by decide)) R149.1
                have R152 : CHr Z own_EL s.vm h0 s.vm h151 := R149.trans r152
                have Z152 : n0 ≤ h151.size := Nat.le_trans Z149 (Keep.of_wr W151).1
                have O152 : Old Z n0 h151 := O149.wr W151 g_b145
                have K152 : Keep h0 h151 [] := K149.wr W151 (Or.inr sz_b145)
                refine gsW st151 ?_
                show OwnGoW p e below s Z own_EL _ _ _ (T151.setTop (mkF m 180 #[.val (.int p0), .val (.int p1), .val (.int p2), .val (.int p3), .val (.int p4), .val (.int p5), .val (.int p6), .val (.int p7)] [(.ref b145), (.ref b142), (.ref b142)]))
                have c153 : ∀ tg, Steps p.tables e below (T151.setTop (mkF m 183 #[.val (.int p0), .val (.int p1), .val (.int p2), .val (.int p3), .val (.int p4), .val (.int p5), .val (.int p6), .val (.int p7)] [(.int p3), (.int (2 : Int32)), (.ref b145), (.ref b145), (.ref b142), (.ref b142)])) tg → Steps p.tables e below (T151.setTop (mkF m 180 #[.val (.int p0), .val (.int p1), .val (.int p2), .val (.int p3), .val (.int p4), .val (.int p5), .val (.int p6), .val (.int p7)] [(.ref b145), (.ref b142), (.ref b142)])) tg := fun tg kg => by
                  refine XS.dup X151.here hx rfl (hb hby d_method_3_code_180) rfl rfl ?_
                  show Steps p.tables e below (T151.setTop (mkF m 181 #[.val (.int p0), .val (.int p1), .val (.int p2), .val (.int p3), .val (.int p4), .val (.int p5), .val (.int p6), .val (.int p7)] [(.ref b145), (.ref b145), (.ref b142), (.ref b142)])) tg
                  refine XS.iconst X151.here hx rfl (hb hby d_method_3_code_181) ?_
                  show Steps p.tables e below (T151.setTop (mkF m 182 #[.val (.int p0), .val (.int p1), .val (.int p2), .val (.int p3), .val (.int p4), .val (.int p5), .val (.int p6), .val (.int p7)] [(.int (2 : Int32)), (.ref b145), (.ref b145), (.ref b142), (.ref b142)])) tg
                  refine XS.iloadN X151.here hx rfl (hb hby d_method_3_code_182) rfl ?_
                  show Steps p.tables e below (T151.setTop (mkF m 183 #[.val (.int p0), .val (.int p1), .val (.int p2), .val (.int p3), .val (.int p4), .val (.int p5), .val (.int p6), .val (.int p7)] [(.int p3), (.int (2 : Int32)), (.ref b145), (.ref b145), (.ref b142), (.ref b142)])) tg
                  exact kg
                refine gsW c153 ?_
                obtain ⟨cl154, A154, a154q, a154S, a154N, a154H, a154G⟩ := id V151
                obtain ⟨T154, h154, X154, e154, W154, st154⟩ := stC X151 hx hZ e151 A154 (j := (2 : Int32)) (inb_of a154S ⟨by decide, by decide⟩) (g := (mkF m 183 #[.val (.int p0), .val (.int p1), .val (.int p2), .val (.int p3), .val (.int p4), .val (.int p5), .val (.int p6), .val (.int p7)] [(.int p3), (.int (2 : Int32)), (.ref b145), (.ref b145), (.ref b142), (.ref b142)])) rfl rfl (hb hby d_method_3_code_183)
                have V154 : Arv Z h154 b145 k145 .char (6 : Int32) [(.int (nar .char p1)), (.int (nar .char p2)), (.int (nar .char p3)), (.int (0 : Int32)), (.int (0 : Int32)), (.int (0 : Int32))] (.int (0 : Int32)) := Arv.set A154 a154q a154S a154N a154H a154G (fits_nar_char _) W154 2 rfl (Nat.le_of_ble_eq_true rfl)
                have N154 := Fr.snoc X154 N151 g_b145
                have r155 : CHr Z own_EL s.vm h151 s.vm h154 := CHr.wr W154 (Safe.arv hZ.alike V151 (by decide)) R152.1
                have R155 : CHr Z own_EL s.vm h0 s.vm h154 := R152.trans r155
                have Z155 : n0 ≤ h154.size := Nat.le_trans Z152 (Keep.of_wr W154).1
                have O155 : Old Z n0 h154 := O152.wr W154 g_b145
                have K155 : Keep h0 h154 [] := K152.wr W154 (Or.inr sz_b145)
                refine gsW st154 ?_
                show OwnGoW p e below s Z own_EL _ _ _ (T154.setTop (mkF m 184 #[.val (.int p0), .val (.int p1), .val (.int p2), .val (.int p3), .val (.int p4), .val (.int p5), .val (.int p6), .val (.int p7)] [(.ref b145), (.ref b142), (.ref b142)]))
                have c156 : ∀ tg, Steps p.tables e below (T154.setTop (mkF m 188 #[.val (.int p0), .val (.int p1), .val (.int p2), .val (.int p3), .val (.int p4), .val (.int p5), .val (.int p6), .val (.int p7)] [(.int p4), (.int (3 : Int32)), (.ref b145), (.ref b145), (.ref b142), (.ref b142)])) tg → Steps p.tables e below (T154.setTop (mkF m 184 #[.val (.int p0), .val (.int p1), .val (.int p2), .val (.int p3), .val (.int p4), .val (.int p5), .val (.int p6), .val (.int p7)] [(.ref b145), (.ref b142), (.ref b142)])) tg := fun tg kg => by
                  refine XS.dup X154.here hx rfl (hb hby d_method_3_code_184) rfl rfl ?_
                  show Steps p.tables e below (T154.setTop (mkF m 185 #[.val (.int p0), .val (.int p1), .val (.int p2), .val (.int p3), .val (.int p4), .val (.int p5), .val (.int p6), .val (.int p7)] [(.ref b145), (.ref b145), (.ref b142), (.ref b142)])) tg
                  refine XS.iconst X154.here hx rfl (hb hby d_method_3_code_185) ?_
                  show Steps p.tables e below (T154.setTop (mkF m 186 #[.val (.int p0), .val (.int p1), .val (.int p2), .val (.int p3), .val (.int p4), .val (.int p5), .val (.int p6), .val (.int p7)] [(.int (3 : Int32)), (.ref b145), (.ref b145), (.ref b142), (.ref b142)])) tg
                  refine XS.iload X154.here hx rfl (hb hby d_method_3_code_186) rfl ?_
                  show Steps p.tables e below (T154.setTop (mkF m 188 #[.val (.int p0), .val (.int p1), .val (.int p2), .val (.int p3), .val (.int p4), .val (.int p5), .val (.int p6), .val (.int p7)] [(.int p4), (.int (3 : Int32)), (.ref b145), (.ref b145), (.ref b142), (.ref b142)])) tg
                  exact kg
                refine gsW c156 ?_
                obtain ⟨cl157, A157, a157q, a157S, a157N, a157H, a157G⟩ := id V154
                obtain ⟨T157, h157, X157, e157, W157, st157⟩ := stC X154 hx hZ e154 A157 (j := (3 : Int32)) (inb_of a157S ⟨by decide, by decide⟩) (g := (mkF m 188 #[.val (.int p0), .val (.int p1), .val (.int p2), .val (.int p3), .val (.int p4), .val (.int p5), .val (.int p6), .val (.int p7)] [(.int p4), (.int (3 : Int32)), (.ref b145), (.ref b145), (.ref b142), (.ref b142)])) rfl rfl (hb hby d_method_3_code_188)
                have V157 : Arv Z h157 b145 k145 .char (6 : Int32) [(.int (nar .char p1)), (.int (nar .char p2)), (.int (nar .char p3)), (.int (nar .char p4)), (.int (0 : Int32)), (.int (0 : Int32))] (.int (0 : Int32)) := Arv.set A157 a157q a157S a157N a157H a157G (fits_nar_char _) W157 3 rfl (Nat.le_of_ble_eq_true rfl)
                have N157 := Fr.snoc X157 N154 g_b145
                have r158 : CHr Z own_EL s.vm h154 s.vm h157 := CHr.wr W157 (Safe.arv hZ.alike V154 (by decide)) R155.1
                have R158 : CHr Z own_EL s.vm h0 s.vm h157 := R155.trans r158
                have Z158 : n0 ≤ h157.size := Nat.le_trans Z155 (Keep.of_wr W157).1
                have O158 : Old Z n0 h157 := O155.wr W157 g_b145
                have K158 : Keep h0 h157 [] := K155.wr W157 (Or.inr sz_b145)
                refine gsW st157 ?_
                show OwnGoW p e below s Z own_EL _ _ _ (T157.setTop (mkF m 189 #[.val (.int p0), .val (.int p1), .val (.int p2), .val (.int p3), .val (.int p4), .val (.int p5), .val (.int p6), .val (.int p7)] [(.ref b145), (.ref b142), (.ref b142)]))
                have c159 : ∀ tg, Steps p.tables e below (T157.setTop (mkF m 193 #[.val (.int p0), .val (.int p1), .val (.int p2), .val (.int p3), .val (.int p4), .val (.int p5), .val (.int p6), .val (.int p7)] [(.int p5), (.int (4 : Int32)), (.ref b145), (.ref b145), (.ref b142), (.ref b142)])) tg → Steps p.tables e below (T157.setTop (mkF m 189 #[.val (.int p0), .val (.int p1), .val (.int p2), .val (.int p3), .val (.int p4), .val (.int p5), .val (.int p6), .val (.int p7)] [(.ref b145), (.ref b142), (.ref b142)])) tg := fun tg kg => by
                  refine XS.dup X157.here hx rfl (hb hby d_method_3_code_189) rfl rfl ?_
                  show Steps p.tables e below (T157.setTop (mkF m 190 #[.val (.int p0), .val (.int p1), .val (.int p2), .val (.int p3), .val (.int p4), .val (.int p5), .val (.int p6), .val (.int p7)] [(.ref b145), (.ref b145), (.ref b142), (.ref b142)])) tg
                  refine XS.iconst X157.here hx rfl (hb hby d_method_3_code_190) ?_
                  show Steps p.tables e below (T157.setTop (mkF m 191 #[.val (.int p0), .val (.int p1), .val (.int p2), .val (.int p3), .val (.int p4), .val (.int p5), .val (.int p6), .val (.int p7)] [(.int (4 : Int32)), (.ref b145), (.ref b145), (.ref b142), (.ref b142)])) tg
                  refine XS.iload X157.here hx rfl (hb hby d_method_3_code_191) rfl ?_
                  show Steps p.tables e below (T157.setTop (mkF m 193 #[.val (.int p0), .val (.int p1), .val (.int p2), .val (.int p3), .val (.int p4), .val (.int p5), .val (.int p6), .val (.int p7)] [(.int p5), (.int (4 : Int32)), (.ref b145), (.ref b145), (.ref b142), (.ref b142)])) tg
                  exact kg
                refine gsW c159 ?_
                obtain ⟨cl160, A160, a160q, a160S, a160N, a160H, a160G⟩ := id V157
                obtain ⟨T160, h160, X160, e160, W160, st160⟩ := stC X157 hx hZ e157 A160 (j := (4 : Int32)) (inb_of a160S ⟨by decide, by decide⟩) (g := (mkF m 193 #[.val (.int p0), .val (.int p1), .val (.int p2), .val (.int p3), .val (.int p4), .val (.int p5), .val (.int p6), .val (.int p7)] [(.int p5), (.int (4 : Int32)), (.ref b145), (.ref b145), (.ref b142), (.ref b142)])) rfl rfl (hb hby d_method_3_code_193)
                have V160 : Arv Z h160 b145 k145 .char (6 : Int32) [(.int (nar .char p1)), (.int (nar .char p2)), (.int (nar .char p3)), (.int (nar .char p4)), (.int (nar .char p5)), (.int (0 : Int32))] (.int (0 : Int32)) := Arv.set A160 a160q a160S a160N a160H a160G (fits_nar_char _) W160 4 rfl (Nat.le_of_ble_eq_true rfl)
                have N160 := Fr.snoc X160 N157 g_b145
                have r161 : CHr Z own_EL s.vm h157 s.vm h160 := CHr.wr W160 (Safe.arv hZ.alike V157 (by decide)) R158.1
                have R161 : CHr Z own_EL s.vm h0 s.vm h160 := R158.trans r161
                have Z161 : n0 ≤ h160.size := Nat.le_trans Z158 (Keep.of_wr W160).1
                have O161 : Old Z n0 h160 := O158.wr W160 g_b145
                have K161 : Keep h0 h160 [] := K158.wr W160 (Or.inr sz_b145)
                refine gsW st160 ?_
                show OwnGoW p e below s Z own_EL _ _ _ (T160.setTop (mkF m 194 #[.val (.int p0), .val (.int p1), .val (.int p2), .val (.int p3), .val (.int p4), .val (.int p5), .val (.int p6), .val (.int p7)] [(.ref b145), (.ref b142), (.ref b142)]))
                have c162 : ∀ tg, Steps p.tables e below (T160.setTop (mkF m 198 #[.val (.int p0), .val (.int p1), .val (.int p2), .val (.int p3), .val (.int p4), .val (.int p5), .val (.int p6), .val (.int p7)] [(.int p6), (.int (5 : Int32)), (.ref b145), (.ref b145), (.ref b142), (.ref b142)])) tg → Steps p.tables e below (T160.setTop (mkF m 194 #[.val (.int p0), .val (.int p1), .val (.int p2), .val (.int p3), .val (.int p4), .val (.int p5), .val (.int p6), .val (.int p7)] [(.ref b145), (.ref b142), (.ref b142)])) tg := fun tg kg => by
                  refine XS.dup X160.here hx rfl (hb hby d_method_3_code_194) rfl rfl ?_
                  show Steps p.tables e below (T160.setTop (mkF m 195 #[.val (.int p0), .val (.int p1), .val (.int p2), .val (.int p3), .val (.int p4), .val (.int p5), .val (.int p6), .val (.int p7)] [(.ref b145), (.ref b145), (.ref b142), (.ref b142)])) tg
                  refine XS.iconst X160.here hx rfl (hb hby d_method_3_code_195) ?_
                  show Steps p.tables e below (T160.setTop (mkF m 196 #[.val (.int p0), .val (.int p1), .val (.int p2), .val (.int p3), .val (.int p4), .val (.int p5), .val (.int p6), .val (.int p7)] [(.int (5 : Int32)), (.ref b145), (.ref b145), (.ref b142), (.ref b142)])) tg
                  refine XS.iload X160.here hx rfl (hb hby d_method_3_code_196) rfl ?_
                  show Steps p.tables e below (T160.setTop (mkF m 198 #[.val (.int p0), .val (.int p1), .val (.int p2), .val (.int p3), .val (.int p4), .val (.int p5), .val (.int p6), .val (.int p7)] [(.int p6), (.int (5 : Int32)), (.ref b145), (.ref b145), (.ref b142), (.ref b142)])) tg
                  exact kg
                refine gsW c162 ?_
                obtain ⟨cl163, A163, a163q, a163S, a163N, a163H, a163G⟩ := id V160
                obtain ⟨T163, h163, X163, e163, W163, st163⟩ := stC X160 hx hZ e160 A163 (j := (5 : Int32)) (inb_of a163S ⟨by decide, by decide⟩) (g := (mkF m 198 #[.val (.int p0), .val (.int p1), .val (.int p2), .val (.int p3), .val (.int p4), .val (.int p5), .val (.int p6), .val (.int p7)] [(.int p6), (.int (5 : Int32)), (.ref b145), (.ref b145), (.ref b142), (.ref b142)])) rfl rfl (hb hby d_method_3_code_198)
                have V163 : Arv Z h163 b145 k145 .char (6 : Int32) [(.int (nar .char p1)), (.int (nar .char p2)), (.int (nar .char p3)), (.int (nar .char p4)), (.int (nar .char p5)), (.int (nar .char p6))] (.int (0 : Int32)) := Arv.set A163 a163q a163S a163N a163H a163G (fits_nar_char _) W163 5 rfl (Nat.le_of_ble_eq_true rfl)
                have N163 := Fr.snoc X163 N160 g_b145
                have r164 : CHr Z own_EL s.vm h160 s.vm h163 := CHr.wr W163 (Safe.arv hZ.alike V160 (by decide)) R161.1
                have R164 : CHr Z own_EL s.vm h0 s.vm h163 := R161.trans r164
                have Z164 : n0 ≤ h163.size := Nat.le_trans Z161 (Keep.of_wr W163).1
                have O164 : Old Z n0 h163 := O161.wr W163 g_b145
                have K164 : Keep h0 h163 [] := K161.wr W163 (Or.inr sz_b145)
                refine gsW st163 ?_
                show OwnGoW p e below s Z own_EL _ _ _ (T163.setTop (mkF m 199 #[.val (.int p0), .val (.int p1), .val (.int p2), .val (.int p3), .val (.int p4), .val (.int p5), .val (.int p6), .val (.int p7)] [(.ref b145), (.ref b142), (.ref b142)]))
                have hp165 : ∀ c ∈ ([(nar .char p1), (nar .char p2), (nar .char p3), (nar .char p4), (nar .char p5), (nar .char p6)] : List Int32), ¬ c < 0 ∧ ¬ (255 : Int32) < c := by
                  intro c hc
                  simp only [List.mem_cons, List.not_mem_nil, or_false] at hc
                  rcases hc with rfl | rfl | rfl | rfl | rfl | rfl
                  all_goals first | exact own_nb b1 | exact own_nb b2 | exact own_nb b3 | exact own_nb b4 | exact own_nb b5 | exact own_nb b6 | exact own_nb b7
                have f166 := (((((((A142.ext E145).wr W148).wr W151).wr W154).wr W157).wr W160).wr W163)
                have f167 := (((((((F_value_b142.ext E145).other W148 (Or.inl (Nat.ne_of_lt (Nat.lt_of_lt_of_le (Nat.lt_of_lt_of_le A142.lt (Nat.le_refl _)) (Nat.le_of_eq q145.symm))))).other W151 (Or.inl (Nat.ne_of_lt (Nat.lt_of_lt_of_le (Nat.lt_of_lt_of_le A142.lt (Nat.le_refl _)) (Nat.le_of_eq q145.symm))))).other W154 (Or.inl (Nat.ne_of_lt (Nat.lt_of_lt_of_le (Nat.lt_of_lt_of_le A142.lt (Nat.le_refl _)) (Nat.le_of_eq q145.symm))))).other W157 (Or.inl (Nat.ne_of_lt (Nat.lt_of_lt_of_le (Nat.lt_of_lt_of_le A142.lt (Nat.le_refl _)) (Nat.le_of_eq q145.symm))))).other W160 (Or.inl (Nat.ne_of_lt (Nat.lt_of_lt_of_le (Nat.lt_of_lt_of_le A142.lt (Nat.le_refl _)) (Nat.le_of_eq q145.symm))))).other W163 (Or.inl (Nat.ne_of_lt (Nat.lt_of_lt_of_le (Nat.lt_of_lt_of_le A142.lt (Nat.le_refl _)) (Nat.le_of_eq q145.symm)))))
                have f168 := (((((((F_coder_b142.ext E145).other W148 (Or.inl (Nat.ne_of_lt (Nat.lt_of_lt_of_le (Nat.lt_of_lt_of_le A142.lt (Nat.le_refl _)) (Nat.le_of_eq q145.symm))))).other W151 (Or.inl (Nat.ne_of_lt (Nat.lt_of_lt_of_le (Nat.lt_of_lt_of_le A142.lt (Nat.le_refl _)) (Nat.le_of_eq q145.symm))))).other W154 (Or.inl (Nat.ne_of_lt (Nat.lt_of_lt_of_le (Nat.lt_of_lt_of_le A142.lt (Nat.le_refl _)) (Nat.le_of_eq q145.symm))))).other W157 (Or.inl (Nat.ne_of_lt (Nat.lt_of_lt_of_le (Nat.lt_of_lt_of_le A142.lt (Nat.le_refl _)) (Nat.le_of_eq q145.symm))))).other W160 (Or.inl (Nat.ne_of_lt (Nat.lt_of_lt_of_le (Nat.lt_of_lt_of_le A142.lt (Nat.le_refl _)) (Nat.le_of_eq q145.symm))))).other W163 (Or.inl (Nat.ne_of_lt (Nat.lt_of_lt_of_le (Nat.lt_of_lt_of_le A142.lt (Nat.le_refl _)) (Nat.le_of_eq q145.symm)))))
                obtain ⟨_, _, ⟨T169, L169, k169, n169⟩, -, X169, ⟨Lc169, hQ169, l169, y169, z169⟩, st169⟩ := X163.specialBack hx (y := (⟨"java/lang/String", "<init>", "([C)V"⟩ : MethodName)) rfl hown (mvT hZ (hw _ (List.mem_of_getElem? (i := 11) rfl))) (mvT hZ (hw _ (List.mem_of_getElem? (i := 12) rfl))) (mvT hZ (hw _ (List.mem_of_getElem? (i := 13) rfl))) (by decide) (StrChars.Road.backV (W := 1) hZ hws (kI := 4) (hw _ (List.mem_of_getElem? (i := 8) rfl)) (cs := ([(nar .char p1), (nar .char p2), (nar .char p3), (nar .char p4), (nar .char p5), (nar .char p6)] : List Int32)) (bs := ([(nar .char p1), (nar .char p2), (nar .char p3), (nar .char p4), (nar .char p5), (nar .char p6)] : List Int32).map (fun c => c.toInt8.toInt32)) (n := 6) g_b142 Z164 f166 f167 f168 V163 (S0.ext O164.2) hz rfl rfl (by decide) (by decide) hp165 rfl (by decide) (by decide)) (g := (mkF m 199 #[.val (.int p0), .val (.int p1), .val (.int p2), .val (.int p3), .val (.int p4), .val (.int p5), .val (.int p6), .val (.int p7)] [(.ref b145), (.ref b142), (.ref b142)])) rfl (by rw [hml]; rfl) (Steps.refl _) (a := b142) (argsL := [(.ref b145)]) (rest := [(.ref b142)]) (lenOf pd_53 rfl) rfl (by show 2 * 0 + _ ≤ _; exact Nat.le_of_eq rfl) (hb hby d_method_3_code_199) (fun _ _ => ⟨rfl, e163, (by decide : 2 + 1 ≤ _), (by decide : 10 + 6 ≤ _)⟩)
                dsimp only [Pt.U, Pt.locs, Pt.cells, Pt.slots] at X169 l169 y169 z169 st169 hQ169
                subst l169 y169 z169
                obtain ⟨rfl, N169q, K169q, g169e, g169c, t169, kb169, -, g169t, -, g169v, g169a⟩ := hQ169
                have N169 := Fr.app N163 N169q
                have g_t169 : n0 ≤ t169 := Nat.le_trans Z164 g169t
                have sz_t169 : h0.size ≤ t169 := Nat.le_trans K164.1 g169t
                have f171 := (r164.safe (Nat.lt_of_lt_of_le A142.lt (Nat.le_trans (Nat.le_trans (Nat.le_trans (Nat.le_trans (Nat.le_trans E145.1 (Keep.of_wr W148).1) (Keep.of_wr W151).1) (Keep.of_wr W154).1) (Keep.of_wr W157).1) (Keep.of_wr W160).1)) (r161.safe (Nat.lt_of_lt_of_le A142.lt (Nat.le_trans (Nat.le_trans (Nat.le_trans (Nat.le_trans E145.1 (Keep.of_wr W148).1) (Keep.of_wr W151).1) (Keep.of_wr W154).1) (Keep.of_wr W157).1)) (r158.safe (Nat.lt_of_lt_of_le A142.lt (Nat.le_trans (Nat.le_trans (Nat.le_trans E145.1 (Keep.of_wr W148).1) (Keep.of_wr W151).1) (Keep.of_wr W154).1)) (r155.safe (Nat.lt_of_lt_of_le A142.lt (Nat.le_trans (Nat.le_trans E145.1 (Keep.of_wr W148).1) (Keep.of_wr W151).1)) (r152.safe (Nat.lt_of_lt_of_le A142.lt (Nat.le_trans E145.1 (Keep.of_wr W148).1)) (r149.safe (Nat.lt_of_lt_of_le A142.lt E145.1) (r146.safe (Nat.lt_of_lt_of_le A142.lt (Nat.le_refl _)) sfb142)))))))
                have r170 : CHr Z own_EL s.vm h163 s.vm T169.heap := CHr.keep K169q (sfS f171 sf0) R164.1
                have R170 : CHr Z own_EL s.vm h0 s.vm T169.heap := R164.trans r170
                have Z170 : n0 ≤ T169.heap.size := Nat.le_trans Z164 K169q.1
                have O170 : Old Z n0 T169.heap := O164.keep K169q (allS g_b142 all0)
                have K170 : Keep h0 T169.heap [] := K164.trans K169q (allS (Or.inr sz_b142) all0)
                refine gsW (fun _ k => st169.trans k) ?_
                show OwnGoW p e below s Z own_EL _ _ _ (T169.setTop (mkF m 202 #[.val (.int p0), .val (.int p1), .val (.int p2), .val (.int p3), .val (.int p4), .val (.int p5), .val (.int p6), .val (.int p7)] [(.ref b142)]))
                have T172 : Str Z T169.heap b142 ([(nar .char p1), (nar .char p2), (nar .char p3), (nar .char p4), (nar .char p5), (nar .char p6)] : List Int32) := ⟨_, _, g169e, g169c, g169v, g169a⟩
                simp only [own_nc b1, own_nc b2, own_nc b3, own_nc b4, own_nc b5, own_nc b6, own_nc b7] at T172
                refine goutW (v := some (.ref b142)) X169 hS (Nat.le_trans hk (Nat.le_trans (Nat.le_trans (Nat.le_trans (Nat.le_trans (Nat.le_trans (Nat.le_trans (Nat.le_trans (Nat.le_trans E142.1 E145.1) (Keep.of_wr W148).1) (Keep.of_wr W151).1) (Keep.of_wr W154).1) (Keep.of_wr W157).1) (Keep.of_wr W160).1) (Keep.of_wr W163).1) K169q.1)) hZ (own_EW hw) hh rfl R170 Bd.notSynchronized (fun h => by rw [Bd.returns] at h; cases h) (by decide) (by decide) ?_ (fun fs hr => retOut X169 hx Bd.returns rfl (Or.inr (Or.inr (Or.inr (Or.inr ⟨rfl, rfl, rfl⟩)))) (hb hby d_method_3_code_202) hr)
                exact ⟨_, rfl, N169, K170, by unfold own_mk; rw [if_neg hc2, if_neg hc15, if_neg hc34, if_neg hc56, if_neg hc81, if_neg hc109, if_pos hc140]; exact T172⟩
              · have c173 : ∀ tg, Steps p.tables e below (s₁.setTop (mkF m 203 #[.val (.int p0), .val (.int p1), .val (.int p2), .val (.int p3), .val (.int p4), .val (.int p5), .val (.int p6), .val (.int p7)] [])) tg → Steps p.tables e below (s₁.setTop (mkF m 161 #[.val (.int p0), .val (.int p1), .val (.int p2), .val (.int p3), .val (.int p4), .val (.int p5), .val (.int p6), .val (.int p7)] [(.int (6 : Int32)), (.int p0)])) tg := fun tg kg => by
                  refine XS.icmpYes X0.here hx rfl (pc0 := 161) (pc' := 203) rfl (hb hby d_method_3_code_161) rfl (feq hc140).2 (by decide) (by decide) ?_
                  show Steps p.tables e below (s₁.setTop (mkF m 203 #[.val (.int p0), .val (.int p1), .val (.int p2), .val (.int p3), .val (.int p4), .val (.int p5), .val (.int p6), .val (.int p7)] [])) tg
                  exact kg
                refine gsW c173 ?_
                obtain ⟨T174, h174, X174, e174, E174, A174, D174, -, st174⟩ := newO X0 hx hZ hown (hw _ (List.mem_of_getElem? (i := 7) rfl)) (hw _ (List.mem_of_getElem? (i := 8) rfl)) (hw _ (List.mem_of_getElem? (i := 9) rfl)) e0 (g := (mkF m 203 #[.val (.int p0), .val (.int p1), .val (.int p2), .val (.int p3), .val (.int p4), .val (.int p5), .val (.int p6), .val (.int p7)] [])) rfl (hb hby d_method_3_code_203) (by decide) (by decide)
                obtain ⟨b174, q174⟩ : ∃ z, z = h0.size := ⟨_, rfl⟩
                rw [← q174] at A174 D174 st174
                have g_b174 : n0 ≤ b174 := Nat.le_trans Z0 (Nat.le_of_eq q174.symm)
                have sz_b174 : h0.size ≤ b174 := Nat.le_trans K0.1 (Nat.le_of_eq q174.symm)
                have sfa174 : Safe Z own_EL s.vm h0 b174 := Safe.new (Nat.le_of_eq q174.symm)
                have r175 : CHr Z own_EL s.vm h0 s.vm h174 := CHr.ext E174 R0.1
                have R175 : CHr Z own_EL s.vm h0 s.vm h174 := R0.trans r175
                have Z175 : n0 ≤ h174.size := Nat.le_trans Z0 E174.1
                have O175 : Old Z n0 h174 := O0.ext E174
                have K175 : Keep h0 h174 [] := K0.ext E174
                have sfb174 := Safe.ext E174 R0.1 sfa174
                have F_value_b174 : Fld Z h174 b174 "java/lang/String" "value" "[B" .null := D174 (Or.inr (hw _ (List.mem_of_getElem? (i := 23) rfl))) (ty := (.array .byte)) (by decide)
                have F_coder_b174 : Fld Z h174 b174 "java/lang/String" "coder" "B" (.int (0 : Int32)) := D174 (Or.inr (hw _ (List.mem_of_getElem? (i := 24) rfl))) (ty := .byte) (by decide)
                refine gsW st174 ?_
                show OwnGoW p e below s Z own_EL _ _ _ (T174.setTop (mkF m 206 #[.val (.int p0), .val (.int p1), .val (.int p2), .val (.int p3), .val (.int p4), .val (.int p5), .val (.int p6), .val (.int p7)] [(.ref b174)]))
                have c176 : ∀ tg, Steps p.tables e below (T174.setTop (mkF m 209 #[.val (.int p0), .val (.int p1), .val (.int p2), .val (.int p3), .val (.int p4), .val (.int p5), .val (.int p6), .val (.int p7)] [(.int (7 : Int32)), (.ref b174), (.ref b174)])) tg → Steps p.tables e below (T174.setTop (mkF m 206 #[.val (.int p0), .val (.int p1), .val (.int p2), .val (.int p3), .val (.int p4), .val (.int p5), .val (.int p6), .val (.int p7)] [(.ref b174)])) tg := fun tg kg => by
                  refine XS.dup X174.here hx rfl (hb hby d_method_3_code_206) rfl rfl ?_
                  show Steps p.tables e below (T174.setTop (mkF m 207 #[.val (.int p0), .val (.int p1), .val (.int p2), .val (.int p3), .val (.int p4), .val (.int p5), .val (.int p6), .val (.int p7)] [(.ref b174), (.ref b174)])) tg
                  refine XS.bipush X174.here hx rfl (hb hby d_method_3_code_207) ?_
                  show Steps p.tables e below (T174.setTop (mkF m 209 #[.val (.int p0), .val (.int p1), .val (.int p2), .val (.int p3), .val (.int p4), .val (.int p5), .val (.int p6), .val (.int p7)] [(.int (7 : Int32)), (.ref b174), (.ref b174)])) tg
                  exact kg
                refine gsW c176 ?_
                obtain ⟨T177, h177, k177, X177, e177, E177, A177, st177⟩ := newP X174 hx hZ (hw _ (List.mem_of_getElem? (i := 10) rfl)) e174 (g := (mkF m 209 #[.val (.int p0), .val (.int p1), .val (.int p2), .val (.int p3), .val (.int p4), .val (.int p5), .val (.int p6), .val (.int p7)] [(.int (7 : Int32)), (.ref b174), (.ref b174)])) rfl (hb hby d_method_3_code_209) rfl (by decide) (cap := 7) (by decide) (by decide) (by decide) (by decide)
                obtain ⟨b177, q177⟩ : ∃ z, z = h174.size := ⟨_, rfl⟩
                rw [← q177] at A177 st177
                have g_b177 : n0 ≤ b177 := Nat.le_trans Z175 (Nat.le_of_eq q177.symm)
                have sz_b177 : h0.size ≤ b177 := Nat.le_trans K175.1 (Nat.le_of_eq q177.symm)
                have r178 : CHr Z own_EL s.vm h174 s.vm h177 := CHr.ext E177 R175.1
                have R178 : CHr Z own_EL s.vm h0 s.vm h177 := R175.trans r178
                have Z178 : n0 ≤ h177.size := Nat.le_trans Z175 E177.1
                have O178 : Old Z n0 h177 := O175.ext E177
                have K178 : Keep h0 h177 [] := K175.ext E177
                have V177 : Arv Z h177 b177 k177 .char (7 : Int32) [(.int (0 : Int32)), (.int (0 : Int32)), (.int (0 : Int32)), (.int (0 : Int32)), (.int (0 : Int32)), (.int (0 : Int32)), (.int (0 : Int32))] (.int (0 : Int32)) := (Arv.new A177 (by decide)).pad (pad_rep [] (.int (0 : Int32)) 7)
                refine gsW st177 ?_
                show OwnGoW p e below s Z own_EL _ _ _ (T177.setTop (mkF m 211 #[.val (.int p0), .val (.int p1), .val (.int p2), .val (.int p3), .val (.int p4), .val (.int p5), .val (.int p6), .val (.int p7)] [(.ref b177), (.ref b174), (.ref b174)]))
                have c179 : ∀ tg, Steps p.tables e below (T177.setTop (mkF m 214 #[.val (.int p0), .val (.int p1), .val (.int p2), .val (.int p3), .val (.int p4), .val (.int p5), .val (.int p6), .val (.int p7)] [(.int p1), (.int (0 : Int32)), (.ref b177), (.ref b177), (.ref b174), (.ref b174)])) tg → Steps p.tables e below (T177.setTop (mkF m 211 #[.val (.int p0), .val (.int p1), .val (.int p2), .val (.int p3), .val (.int p4), .val (.int p5), .val (.int p6), .val (.int p7)] [(.ref b177), (.ref b174), (.ref b174)])) tg := fun tg kg => by
                  refine XS.dup X177.here hx rfl (hb hby d_method_3_code_211) rfl rfl ?_
                  show Steps p.tables e below (T177.setTop (mkF m 212 #[.val (.int p0), .val (.int p1), .val (.int p2), .val (.int p3), .val (.int p4), .val (.int p5), .val (.int p6), .val (.int p7)] [(.ref b177), (.ref b177), (.ref b174), (.ref b174)])) tg
                  refine XS.iconst X177.here hx rfl (hb hby d_method_3_code_212) ?_
                  show Steps p.tables e below (T177.setTop (mkF m 213 #[.val (.int p0), .val (.int p1), .val (.int p2), .val (.int p3), .val (.int p4), .val (.int p5), .val (.int p6), .val (.int p7)] [(.int (0 : Int32)), (.ref b177), (.ref b177), (.ref b174), (.ref b174)])) tg
                  refine XS.iloadN X177.here hx rfl (hb hby d_method_3_code_213) rfl ?_
                  show Steps p.tables e below (T177.setTop (mkF m 214 #[.val (.int p0), .val (.int p1), .val (.int p2), .val (.int p3), .val (.int p4), .val (.int p5), .val (.int p6), .val (.int p7)] [(.int p1), (.int (0 : Int32)), (.ref b177), (.ref b177), (.ref b174), (.ref b174)])) tg
                  exact kg
                refine gsW c179 ?_
                obtain ⟨cl180, A180, a180q, a180S, a180N, a180H, a180G⟩ := id V177
                obtain ⟨T180, h180, X180, e180, W180, st180⟩ := stC X177 hx hZ e177 A180 (j := (0 : Int32)) (inb_of a180S ⟨by decide, by decide⟩) (g := (mkF m 214 #[.val (.int p0), .val (.int p1), .val (.int p2), .val (.int p3), .val (.int p4), .val (.int p5), .val (.int p6), .val (.int p7)] [(.int p1), (.int (0 : Int32)), (.ref b177), (.ref b177), (.ref b174), (.ref b174)])) rfl rfl (hb hby d_method_3_code_214)
                have V180 : Arv Z h180 b177 k177 .char (7 : Int32) [(.int (nar .char p1)), (.int (0 : Int32)), (.int (0 : Int32)), (.int (0 : Int32)), (.int (0 : Int32)), (.int (0 : Int32)), (.int (0 : Int32))] (.int (0 : Int32)) := Arv.set A180 a180q a180S a180N a180H a180G (fits_nar_char _) W180 0 rfl (Nat.le_of_ble_eq_true rfl)
                have N180 := Fr.snoc X180 N0 g_b177
                have r181 : CHr Z own_EL s.vm h177 s.vm h180 := CHr.wr W180 (Safe.arv hZ.alike V177 (by decide)) R178.1
                have R181 : CHr Z own_EL s.vm h0 s.vm h180 := R178.trans r181
                have Z181 : n0 ≤ h180.size := Nat.le_trans Z178 (Keep.of_wr W180).1
                have O181 : Old Z n0 h180 := O178.wr W180 g_b177
                have K181 : Keep h0 h180 [] := K178.wr W180 (Or.inr sz_b177)
                refine gsW st180 ?_
                show OwnGoW p e below s Z own_EL _ _ _ (T180.setTop (mkF m 215 #[.val (.int p0), .val (.int p1), .val (.int p2), .val (.int p3), .val (.int p4), .val (.int p5), .val (.int p6), .val (.int p7)] [(.ref b177), (.ref b174), (.ref b174)]))
                have c182 : ∀ tg, Steps p.tables e below (T180.setTop (mkF m 218 #[.val (.int p0), .val (.int p1), .val (.int p2), .val (.int p3), .val (.int p4), .val (.int p5), .val (.int p6), .val (.int p7)] [(.int p2), (.int (1 : Int32)), (.ref b177), (.ref b177), (.ref b174), (.ref b174)])) tg → Steps p.tables e below (T180.setTop (mkF m 215 #[.val (.int p0), .val (.int p1), .val (.int p2), .val (.int p3), .val (.int p4), .val (.int p5), .val (.int p6), .val (.int p7)] [(.ref b177), (.ref b174), (.ref b174)])) tg := fun tg kg => by
                  refine XS.dup X180.here hx rfl (hb hby d_method_3_code_215) rfl rfl ?_
                  show Steps p.tables e below (T180.setTop (mkF m 216 #[.val (.int p0), .val (.int p1), .val (.int p2), .val (.int p3), .val (.int p4), .val (.int p5), .val (.int p6), .val (.int p7)] [(.ref b177), (.ref b177), (.ref b174), (.ref b174)])) tg
                  refine XS.iconst X180.here hx rfl (hb hby d_method_3_code_216) ?_
                  show Steps p.tables e below (T180.setTop (mkF m 217 #[.val (.int p0), .val (.int p1), .val (.int p2), .val (.int p3), .val (.int p4), .val (.int p5), .val (.int p6), .val (.int p7)] [(.int (1 : Int32)), (.ref b177), (.ref b177), (.ref b174), (.ref b174)])) tg
                  refine XS.iloadN X180.here hx rfl (hb hby d_method_3_code_217) rfl ?_
                  show Steps p.tables e below (T180.setTop (mkF m 218 #[.val (.int p0), .val (.int p1), .val (.int p2), .val (.int p3), .val (.int p4), .val (.int p5), .val (.int p6), .val (.int p7)] [(.int p2), (.int (1 : Int32)), (.ref b177), (.ref b177), (.ref b174), (.ref b174)])) tg
                  exact kg
                refine gsW c182 ?_
                obtain ⟨cl183, A183, a183q, a183S, a183N, a183H, a183G⟩ := id V180
                obtain ⟨T183, h183, X183, e183, W183, st183⟩ := stC X180 hx hZ e180 A183 (j := (1 : Int32)) (inb_of a183S ⟨by decide, by decide⟩) (g := (mkF m 218 #[.val (.int p0), .val (.int p1), .val (.int p2), .val (.int p3), .val (.int p4), .val (.int p5), .val (.int p6), .val (.int p7)] [(.int p2), (.int (1 : Int32)), (.ref b177), (.ref b177), (.ref b174), (.ref b174)])) rfl rfl (hb hby d_method_3_code_218)
                have V183 : Arv Z h183 b177 k177 .char (7 : Int32) [(.int (nar .char p1)), (.int (nar .char p2)), (.int (0 : Int32)), (.int (0 : Int32)), (.int (0 : Int32)), (.int (0 : Int32)), (.int (0 : Int32))] (.int (0 : Int32)) := Arv.set A183 a183q a183S a183N a183H a183G (fits_nar_char _) W183 1 rfl (Nat.le_of_ble_eq_true rfl)
                have N183 := Fr.snoc X183 N180 g_b177
                have r184 : CHr Z own_EL s.vm h180 s.vm h183 := CHr.wr W183 (Safe.arv hZ.alike V180 (by decide)) R181.1
                have R184 : CHr Z own_EL s.vm h0 s.vm h183 := R181.trans r184
                have Z184 : n0 ≤ h183.size := Nat.le_trans Z181 (Keep.of_wr W183).1
                have O184 : Old Z n0 h183 := O181.wr W183 g_b177
                have K184 : Keep h0 h183 [] := K181.wr W183 (Or.inr sz_b177)
                refine gsW st183 ?_
                show OwnGoW p e below s Z own_EL _ _ _ (T183.setTop (mkF m 219 #[.val (.int p0), .val (.int p1), .val (.int p2), .val (.int p3), .val (.int p4), .val (.int p5), .val (.int p6), .val (.int p7)] [(.ref b177), (.ref b174), (.ref b174)]))
                have c185 : ∀ tg, Steps p.tables e below (T183.setTop (mkF m 222 #[.val (.int p0), .val (.int p1), .val (.int p2), .val (.int p3), .val (.int p4), .val (.int p5), .val (.int p6), .val (.int p7)] [(.int p3), (.int (2 : Int32)), (.ref b177), (.ref b177), (.ref b174), (.ref b174)])) tg → Steps p.tables e below (T183.setTop (mkF m 219 #[.val (.int p0), .val (.int p1), .val (.int p2), .val (.int p3), .val (.int p4), .val (.int p5), .val (.int p6), .val (.int p7)] [(.ref b177), (.ref b174), (.ref b174)])) tg := fun tg kg => by
                  refine XS.dup X183.here hx rfl (hb hby d_method_3_code_219) rfl rfl ?_
                  show Steps p.tables e below (T183.setTop (mkF m 220 #[.val (.int p0), .val (.int p1), .val (.int p2), .val (.int p3), .val (.int p4), .val (.int p5), .val (.int p6), .val (.int p7)] [(.ref b177), (.ref b177), (.ref b174), (.ref b174)])) tg
                  refine XS.iconst X183.here hx rfl (hb hby d_method_3_code_220) ?_
                  show Steps p.tables e below (T183.setTop (mkF m 221 #[.val (.int p0), .val (.int p1), .val (.int p2), .val (.int p3), .val (.int p4), .val (.int p5), .val (.int p6), .val (.int p7)] [(.int (2 : Int32)), (.ref b177), (.ref b177), (.ref b174), (.ref b174)])) tg
                  refine XS.iloadN X183.here hx rfl (hb hby d_method_3_code_221) rfl ?_
                  show Steps p.tables e below (T183.setTop (mkF m 222 #[.val (.int p0), .val (.int p1), .val (.int p2), .val (.int p3), .val (.int p4), .val (.int p5), .val (.int p6), .val (.int p7)] [(.int p3), (.int (2 : Int32)), (.ref b177), (.ref b177), (.ref b174), (.ref b174)])) tg
                  exact kg
                refine gsW c185 ?_
                obtain ⟨cl186, A186, a186q, a186S, a186N, a186H, a186G⟩ := id V183
                obtain ⟨T186, h186, X186, e186, W186, st186⟩ := stC X183 hx hZ e183 A186 (j := (2 : Int32)) (inb_of a186S ⟨by decide, by decide⟩) (g := (mkF m 222 #[.val (.int p0), .val (.int p1), .val (.int p2), .val (.int p3), .val (.int p4), .val (.int p5), .val (.int p6), .val (.int p7)] [(.int p3), (.int (2 : Int32)), (.ref b177), (.ref b177), (.ref b174), (.ref b174)])) rfl rfl (hb hby d_method_3_code_222)
                have V186 : Arv Z h186 b177 k177 .char (7 : Int32) [(.int (nar .char p1)), (.int (nar .char p2)), (.int (nar .char p3)), (.int (0 : Int32)), (.int (0 : Int32)), (.int (0 : Int32)), (.int (0 : Int32))] (.int (0 : Int32)) := Arv.set A186 a186q a186S a186N a186H a186G (fits_nar_char _) W186 2 rfl (Nat.le_of_ble_eq_true rfl)
                have N186 := Fr.snoc X186 N183 g_b177
                have r187 : CHr Z own_EL s.vm h183 s.vm h186 := CHr.wr W186 (Safe.arv hZ.alike V183 (by decide)) R184.1
                have R187 : CHr Z own_EL s.vm h0 s.vm h186 := R184.trans r187
                have Z187 : n0 ≤ h186.size := Nat.le_trans Z184 (Keep.of_wr W186).1
                have O187 : Old Z n0 h186 := O184.wr W186 g_b177
                have K187 : Keep h0 h186 [] := K184.wr W186 (Or.inr sz_b177)
                refine gsW st186 ?_
                show OwnGoW p e below s Z own_EL _ _ _ (T186.setTop (mkF m 223 #[.val (.int p0), .val (.int p1), .val (.int p2), .val (.int p3), .val (.int p4), .val (.int p5), .val (.int p6), .val (.int p7)] [(.ref b177), (.ref b174), (.ref b174)]))
                have c188 : ∀ tg, Steps p.tables e below (T186.setTop (mkF m 227 #[.val (.int p0), .val (.int p1), .val (.int p2), .val (.int p3), .val (.int p4), .val (.int p5), .val (.int p6), .val (.int p7)] [(.int p4), (.int (3 : Int32)), (.ref b177), (.ref b177), (.ref b174), (.ref b174)])) tg → Steps p.tables e below (T186.setTop (mkF m 223 #[.val (.int p0), .val (.int p1), .val (.int p2), .val (.int p3), .val (.int p4), .val (.int p5), .val (.int p6), .val (.int p7)] [(.ref b177), (.ref b174), (.ref b174)])) tg := fun tg kg => by
                  refine XS.dup X186.here hx rfl (hb hby d_method_3_code_223) rfl rfl ?_
                  show Steps p.tables e below (T186.setTop (mkF m 224 #[.val (.int p0), .val (.int p1), .val (.int p2), .val (.int p3), .val (.int p4), .val (.int p5), .val (.int p6), .val (.int p7)] [(.ref b177), (.ref b177), (.ref b174), (.ref b174)])) tg
                  refine XS.iconst X186.here hx rfl (hb hby d_method_3_code_224) ?_
                  show Steps p.tables e below (T186.setTop (mkF m 225 #[.val (.int p0), .val (.int p1), .val (.int p2), .val (.int p3), .val (.int p4), .val (.int p5), .val (.int p6), .val (.int p7)] [(.int (3 : Int32)), (.ref b177), (.ref b177), (.ref b174), (.ref b174)])) tg
                  refine XS.iload X186.here hx rfl (hb hby d_method_3_code_225) rfl ?_
                  show Steps p.tables e below (T186.setTop (mkF m 227 #[.val (.int p0), .val (.int p1), .val (.int p2), .val (.int p3), .val (.int p4), .val (.int p5), .val (.int p6), .val (.int p7)] [(.int p4), (.int (3 : Int32)), (.ref b177), (.ref b177), (.ref b174), (.ref b174)])) tg
                  exact kg
                refine gsW c188 ?_
                obtain ⟨cl189, A189, a189q, a189S, a189N, a189H, a189G⟩ := id V186
                obtain ⟨T189, h189, X189, e189, W189, st189⟩ := stC X186 hx hZ e186 A189 (j := (3 : Int32)) (inb_of a189S ⟨by decide, by decide⟩) (g := (mkF m 227 #[.val (.int p0), .val (.int p1), .val (.int p2), .val (.int p3), .val (.int p4), .val (.int p5), .val (.int p6), .val (.int p7)] [(.int p4), (.int (3 : Int32)), (.ref b177), (.ref b177), (.ref b174), (.ref b174)])) rfl rfl (hb hby d_method_3_code_227)
                have V189 : Arv Z h189 b177 k177 .char (7 : Int32) [(.int (nar .char p1)), (.int (nar .char p2)), (.int (nar .char p3)), (.int (nar .char p4)), (.int (0 : Int32)), (.int (0 : Int32)), (.int (0 : Int32))] (.int (0 : Int32)) := Arv.set A189 a189q a189S a189N a189H a189G (fits_nar_char _) W189 3 rfl (Nat.le_of_ble_eq_true rfl)
                have N189 := Fr.snoc X189 N186 g_b177
                have r190 : CHr Z own_EL s.vm h186 s.vm h189 := CHr.wr W189 (Safe.arv hZ.alike V186 (by decide)) R187.1
                have R190 : CHr Z own_EL s.vm h0 s.vm h189 := R187.trans r190
                have Z190 : n0 ≤ h189.size := Nat.le_trans Z187 (Keep.of_wr W189).1
                have O190 : Old Z n0 h189 := O187.wr W189 g_b177
                have K190 : Keep h0 h189 [] := K187.wr W189 (Or.inr sz_b177)
                refine gsW st189 ?_
                show OwnGoW p e below s Z own_EL _ _ _ (T189.setTop (mkF m 228 #[.val (.int p0), .val (.int p1), .val (.int p2), .val (.int p3), .val (.int p4), .val (.int p5), .val (.int p6), .val (.int p7)] [(.ref b177), (.ref b174), (.ref b174)]))
                have c191 : ∀ tg, Steps p.tables e below (T189.setTop (mkF m 232 #[.val (.int p0), .val (.int p1), .val (.int p2), .val (.int p3), .val (.int p4), .val (.int p5), .val (.int p6), .val (.int p7)] [(.int p5), (.int (4 : Int32)), (.ref b177), (.ref b177), (.ref b174), (.ref b174)])) tg → Steps p.tables e below (T189.setTop (mkF m 228 #[.val (.int p0), .val (.int p1), .val (.int p2), .val (.int p3), .val (.int p4), .val (.int p5), .val (.int p6), .val (.int p7)] [(.ref b177), (.ref b174), (.ref b174)])) tg := fun tg kg => by
                  refine XS.dup X189.here hx rfl (hb hby d_method_3_code_228) rfl rfl ?_
                  show Steps p.tables e below (T189.setTop (mkF m 229 #[.val (.int p0), .val (.int p1), .val (.int p2), .val (.int p3), .val (.int p4), .val (.int p5), .val (.int p6), .val (.int p7)] [(.ref b177), (.ref b177), (.ref b174), (.ref b174)])) tg
                  refine XS.iconst X189.here hx rfl (hb hby d_method_3_code_229) ?_
                  show Steps p.tables e below (T189.setTop (mkF m 230 #[.val (.int p0), .val (.int p1), .val (.int p2), .val (.int p3), .val (.int p4), .val (.int p5), .val (.int p6), .val (.int p7)] [(.int (4 : Int32)), (.ref b177), (.ref b177), (.ref b174), (.ref b174)])) tg
                  refine XS.iload X189.here hx rfl (hb hby d_method_3_code_230) rfl ?_
                  show Steps p.tables e below (T189.setTop (mkF m 232 #[.val (.int p0), .val (.int p1), .val (.int p2), .val (.int p3), .val (.int p4), .val (.int p5), .val (.int p6), .val (.int p7)] [(.int p5), (.int (4 : Int32)), (.ref b177), (.ref b177), (.ref b174), (.ref b174)])) tg
                  exact kg
                refine gsW c191 ?_
                obtain ⟨cl192, A192, a192q, a192S, a192N, a192H, a192G⟩ := id V189
                obtain ⟨T192, h192, X192, e192, W192, st192⟩ := stC X189 hx hZ e189 A192 (j := (4 : Int32)) (inb_of a192S ⟨by decide, by decide⟩) (g := (mkF m 232 #[.val (.int p0), .val (.int p1), .val (.int p2), .val (.int p3), .val (.int p4), .val (.int p5), .val (.int p6), .val (.int p7)] [(.int p5), (.int (4 : Int32)), (.ref b177), (.ref b177), (.ref b174), (.ref b174)])) rfl rfl (hb hby d_method_3_code_232)
                have V192 : Arv Z h192 b177 k177 .char (7 : Int32) [(.int (nar .char p1)), (.int (nar .char p2)), (.int (nar .char p3)), (.int (nar .char p4)), (.int (nar .char p5)), (.int (0 : Int32)), (.int (0 : Int32))] (.int (0 : Int32)) := Arv.set A192 a192q a192S a192N a192H a192G (fits_nar_char _) W192 4 rfl (Nat.le_of_ble_eq_true rfl)
                have N192 := Fr.snoc X192 N189 g_b177
                have r193 : CHr Z own_EL s.vm h189 s.vm h192 := CHr.wr W192 (Safe.arv hZ.alike V189 (by decide)) R190.1
                have R193 : CHr Z own_EL s.vm h0 s.vm h192 := R190.trans r193
                have Z193 : n0 ≤ h192.size := Nat.le_trans Z190 (Keep.of_wr W192).1
                have O193 : Old Z n0 h192 := O190.wr W192 g_b177
                have K193 : Keep h0 h192 [] := K190.wr W192 (Or.inr sz_b177)
                refine gsW st192 ?_
                show OwnGoW p e below s Z own_EL _ _ _ (T192.setTop (mkF m 233 #[.val (.int p0), .val (.int p1), .val (.int p2), .val (.int p3), .val (.int p4), .val (.int p5), .val (.int p6), .val (.int p7)] [(.ref b177), (.ref b174), (.ref b174)]))
                have c194 : ∀ tg, Steps p.tables e below (T192.setTop (mkF m 237 #[.val (.int p0), .val (.int p1), .val (.int p2), .val (.int p3), .val (.int p4), .val (.int p5), .val (.int p6), .val (.int p7)] [(.int p6), (.int (5 : Int32)), (.ref b177), (.ref b177), (.ref b174), (.ref b174)])) tg → Steps p.tables e below (T192.setTop (mkF m 233 #[.val (.int p0), .val (.int p1), .val (.int p2), .val (.int p3), .val (.int p4), .val (.int p5), .val (.int p6), .val (.int p7)] [(.ref b177), (.ref b174), (.ref b174)])) tg := fun tg kg => by
                  refine XS.dup X192.here hx rfl (hb hby d_method_3_code_233) rfl rfl ?_
                  show Steps p.tables e below (T192.setTop (mkF m 234 #[.val (.int p0), .val (.int p1), .val (.int p2), .val (.int p3), .val (.int p4), .val (.int p5), .val (.int p6), .val (.int p7)] [(.ref b177), (.ref b177), (.ref b174), (.ref b174)])) tg
                  refine XS.iconst X192.here hx rfl (hb hby d_method_3_code_234) ?_
                  show Steps p.tables e below (T192.setTop (mkF m 235 #[.val (.int p0), .val (.int p1), .val (.int p2), .val (.int p3), .val (.int p4), .val (.int p5), .val (.int p6), .val (.int p7)] [(.int (5 : Int32)), (.ref b177), (.ref b177), (.ref b174), (.ref b174)])) tg
                  refine XS.iload X192.here hx rfl (hb hby d_method_3_code_235) rfl ?_
                  show Steps p.tables e below (T192.setTop (mkF m 237 #[.val (.int p0), .val (.int p1), .val (.int p2), .val (.int p3), .val (.int p4), .val (.int p5), .val (.int p6), .val (.int p7)] [(.int p6), (.int (5 : Int32)), (.ref b177), (.ref b177), (.ref b174), (.ref b174)])) tg
                  exact kg
                refine gsW c194 ?_
                obtain ⟨cl195, A195, a195q, a195S, a195N, a195H, a195G⟩ := id V192
                obtain ⟨T195, h195, X195, e195, W195, st195⟩ := stC X192 hx hZ e192 A195 (j := (5 : Int32)) (inb_of a195S ⟨by decide, by decide⟩) (g := (mkF m 237 #[.val (.int p0), .val (.int p1), .val (.int p2), .val (.int p3), .val (.int p4), .val (.int p5), .val (.int p6), .val (.int p7)] [(.int p6), (.int (5 : Int32)), (.ref b177), (.ref b177), (.ref b174), (.ref b174)])) rfl rfl (hb hby d_method_3_code_237)
                have V195 : Arv Z h195 b177 k177 .char (7 : Int32) [(.int (nar .char p1)), (.int (nar .char p2)), (.int (nar .char p3)), (.int (nar .char p4)), (.int (nar .char p5)), (.int (nar .char p6)), (.int (0 : Int32))] (.int (0 : Int32)) := Arv.set A195 a195q a195S a195N a195H a195G (fits_nar_char _) W195 5 rfl (Nat.le_of_ble_eq_true rfl)
                have N195 := Fr.snoc X195 N192 g_b177
                have r196 : CHr Z own_EL s.vm h192 s.vm h195 := CHr.wr W195 (Safe.arv hZ.alike V192 (by decide)) R193.1
                have R196 : CHr Z own_EL s.vm h0 s.vm h195 := R193.trans r196
                have Z196 : n0 ≤ h195.size := Nat.le_trans Z193 (Keep.of_wr W195).1
                have O196 : Old Z n0 h195 := O193.wr W195 g_b177
                have K196 : Keep h0 h195 [] := K193.wr W195 (Or.inr sz_b177)
                refine gsW st195 ?_
                show OwnGoW p e below s Z own_EL _ _ _ (T195.setTop (mkF m 238 #[.val (.int p0), .val (.int p1), .val (.int p2), .val (.int p3), .val (.int p4), .val (.int p5), .val (.int p6), .val (.int p7)] [(.ref b177), (.ref b174), (.ref b174)]))
                have c197 : ∀ tg, Steps p.tables e below (T195.setTop (mkF m 243 #[.val (.int p0), .val (.int p1), .val (.int p2), .val (.int p3), .val (.int p4), .val (.int p5), .val (.int p6), .val (.int p7)] [(.int p7), (.int (6 : Int32)), (.ref b177), (.ref b177), (.ref b174), (.ref b174)])) tg → Steps p.tables e below (T195.setTop (mkF m 238 #[.val (.int p0), .val (.int p1), .val (.int p2), .val (.int p3), .val (.int p4), .val (.int p5), .val (.int p6), .val (.int p7)] [(.ref b177), (.ref b174), (.ref b174)])) tg := fun tg kg => by
                  refine XS.dup X195.here hx rfl (hb hby d_method_3_code_238) rfl rfl ?_
                  show Steps p.tables e below (T195.setTop (mkF m 239 #[.val (.int p0), .val (.int p1), .val (.int p2), .val (.int p3), .val (.int p4), .val (.int p5), .val (.int p6), .val (.int p7)] [(.ref b177), (.ref b177), (.ref b174), (.ref b174)])) tg
                  refine XS.bipush X195.here hx rfl (hb hby d_method_3_code_239) ?_
                  show Steps p.tables e below (T195.setTop (mkF m 241 #[.val (.int p0), .val (.int p1), .val (.int p2), .val (.int p3), .val (.int p4), .val (.int p5), .val (.int p6), .val (.int p7)] [(.int (6 : Int32)), (.ref b177), (.ref b177), (.ref b174), (.ref b174)])) tg
                  refine XS.iload X195.here hx rfl (hb hby d_method_3_code_241) rfl ?_
                  show Steps p.tables e below (T195.setTop (mkF m 243 #[.val (.int p0), .val (.int p1), .val (.int p2), .val (.int p3), .val (.int p4), .val (.int p5), .val (.int p6), .val (.int p7)] [(.int p7), (.int (6 : Int32)), (.ref b177), (.ref b177), (.ref b174), (.ref b174)])) tg
                  exact kg
                refine gsW c197 ?_
                obtain ⟨cl198, A198, a198q, a198S, a198N, a198H, a198G⟩ := id V195
                obtain ⟨T198, h198, X198, e198, W198, st198⟩ := stC X195 hx hZ e195 A198 (j := (6 : Int32)) (inb_of a198S ⟨by decide, by decide⟩) (g := (mkF m 243 #[.val (.int p0), .val (.int p1), .val (.int p2), .val (.int p3), .val (.int p4), .val (.int p5), .val (.int p6), .val (.int p7)] [(.int p7), (.int (6 : Int32)), (.ref b177), (.ref b177), (.ref b174), (.ref b174)])) rfl rfl (hb hby d_method_3_code_243)
                have V198 : Arv Z h198 b177 k177 .char (7 : Int32) [(.int (nar .char p1)), (.int (nar .char p2)), (.int (nar .char p3)), (.int (nar .char p4)), (.int (nar .char p5)), (.int (nar .char p6)), (.int (nar .char p7))] (.int (0 : Int32)) := Arv.set A198 a198q a198S a198N a198H a198G (fits_nar_char _) W198 6 rfl (Nat.le_of_ble_eq_true rfl)
                have N198 := Fr.snoc X198 N195 g_b177
                have r199 : CHr Z own_EL s.vm h195 s.vm h198 := CHr.wr W198 (Safe.arv hZ.alike V195 (by decide)) R196.1
                have R199 : CHr Z own_EL s.vm h0 s.vm h198 := R196.trans r199
                have Z199 : n0 ≤ h198.size := Nat.le_trans Z196 (Keep.of_wr W198).1
                have O199 : Old Z n0 h198 := O196.wr W198 g_b177
                have K199 : Keep h0 h198 [] := K196.wr W198 (Or.inr sz_b177)
                refine gsW st198 ?_
                show OwnGoW p e below s Z own_EL _ _ _ (T198.setTop (mkF m 244 #[.val (.int p0), .val (.int p1), .val (.int p2), .val (.int p3), .val (.int p4), .val (.int p5), .val (.int p6), .val (.int p7)] [(.ref b177), (.ref b174), (.ref b174)]))
                have hp200 : ∀ c ∈ ([(nar .char p1), (nar .char p2), (nar .char p3), (nar .char p4), (nar .char p5), (nar .char p6), (nar .char p7)] : List Int32), ¬ c < 0 ∧ ¬ (255 : Int32) < c := by
                  intro c hc
                  simp only [List.mem_cons, List.not_mem_nil, or_false] at hc
                  rcases hc with rfl | rfl | rfl | rfl | rfl | rfl | rfl
                  all_goals first | exact own_nb b1 | exact own_nb b2 | exact own_nb b3 | exact own_nb b4 | exact own_nb b5 | exact own_nb b6 | exact own_nb b7
                have f201 := ((((((((A174.ext E177).wr W180).wr W183).wr W186).wr W189).wr W192).wr W195).wr W198)
                have f202 := ((((((((F_value_b174.ext E177).other W180 (Or.inl (Nat.ne_of_lt (Nat.lt_of_lt_of_le (Nat.lt_of_lt_of_le A174.lt (Nat.le_refl _)) (Nat.le_of_eq q177.symm))))).other W183 (Or.inl (Nat.ne_of_lt (Nat.lt_of_lt_of_le (Nat.lt_of_lt_of_le A174.lt (Nat.le_refl _)) (Nat.le_of_eq q177.symm))))).other W186 (Or.inl (Nat.ne_of_lt (Nat.lt_of_lt_of_le (Nat.lt_of_lt_of_le A174.lt (Nat.le_refl _)) (Nat.le_of_eq q177.symm))))).other W189 (Or.inl (Nat.ne_of_lt (Nat.lt_of_lt_of_le (Nat.lt_of_lt_of_le A174.lt (Nat.le_refl _)) (Nat.le_of_eq q177.symm))))).other W192 (Or.inl (Nat.ne_of_lt (Nat.lt_of_lt_of_le (Nat.lt_of_lt_of_le A174.lt (Nat.le_refl _)) (Nat.le_of_eq q177.symm))))).other W195 (Or.inl (Nat.ne_of_lt (Nat.lt_of_lt_of_le (Nat.lt_of_lt_of_le A174.lt (Nat.le_refl _)) (Nat.le_of_eq q177.symm))))).other W198 (Or.inl (Nat.ne_of_lt (Nat.lt_of_lt_of_le (Nat.lt_of_lt_of_le A174.lt (Nat.le_refl _)) (Nat.le_of_eq q177.symm)))))
                have f203 := ((((((((F_coder_b174.ext E177).other W180 (Or.inl (Nat.ne_of_lt (Nat.lt_of_lt_of_le (Nat.lt_of_lt_of_le A174.lt (Nat.le_refl _)) (Nat.le_of_eq q177.symm))))).other W183 (Or.inl (Nat.ne_of_lt (Nat.lt_of_lt_of_le (Nat.lt_of_lt_of_le A174.lt (Nat.le_refl _)) (Nat.le_of_eq q177.symm))))).other W186 (Or.inl (Nat.ne_of_lt (Nat.lt_of_lt_of_le (Nat.lt_of_lt_of_le A174.lt (Nat.le_refl _)) (Nat.le_of_eq q177.symm))))).other W189 (Or.inl (Nat.ne_of_lt (Nat.lt_of_lt_of_le (Nat.lt_of_lt_of_le A174.lt (Nat.le_refl _)) (Nat.le_of_eq q177.symm))))).other W192 (Or.inl (Nat.ne_of_lt (Nat.lt_of_lt_of_le (Nat.lt_of_lt_of_le A174.lt (Nat.le_refl _)) (Nat.le_of_eq q177.symm))))).other W195 (Or.inl (Nat.ne_of_lt (Nat.lt_of_lt_of_le (Nat.lt_of_lt_of_le A174.lt (Nat.le_refl _)) (Nat.le_of_eq q177.symm))))).other W198 (Or.inl (Nat.ne_of_lt (Nat.lt_of_lt_of_le (Nat.lt_of_lt_of_le A174.lt (Nat.le_refl _)) (Nat.le_of_eq q177.symm)))))
                obtain ⟨_, _, ⟨T204, L204, k204, n204⟩, -, X204, ⟨Lc204, hQ204, l204, y204, z204⟩, st204⟩ := X198.specialBack hx (y := (⟨"java/lang/String", "<init>", "([C)V"⟩ : MethodName)) rfl hown (mvT hZ (hw _ (List.mem_of_getElem? (i := 11) rfl))) (mvT hZ (hw _ (List.mem_of_getElem? (i := 12) rfl))) (mvT hZ (hw _ (List.mem_of_getElem? (i := 13) rfl))) (by decide) (StrChars.Road.backV (W := 1) hZ hws (kI := 4) (hw _ (List.mem_of_getElem? (i := 8) rfl)) (cs := ([(nar .char p1), (nar .char p2), (nar .char p3), (nar .char p4), (nar .char p5), (nar .char p6), (nar .char p7)] : List Int32)) (bs := ([(nar .char p1), (nar .char p2), (nar .char p3), (nar .char p4), (nar .char p5), (nar .char p6), (nar .char p7)] : List Int32).map (fun c => c.toInt8.toInt32)) (n := 7) g_b174 Z199 f201 f202 f203 V198 (S0.ext O199.2) hz rfl rfl (by decide) (by decide) hp200 rfl (by decide) (by decide)) (g := (mkF m 244 #[.val (.int p0), .val (.int p1), .val (.int p2), .val (.int p3), .val (.int p4), .val (.int p5), .val (.int p6), .val (.int p7)] [(.ref b177), (.ref b174), (.ref b174)])) rfl (by rw [hml]; rfl) (Steps.refl _) (a := b174) (argsL := [(.ref b177)]) (rest := [(.ref b174)]) (lenOf pd_53 rfl) rfl (by show 2 * 0 + _ ≤ _; exact Nat.le_of_eq rfl) (hb hby d_method_3_code_244) (fun _ _ => ⟨rfl, e198, (by decide : 2 + 1 ≤ _), (by decide : 11 + 7 ≤ _)⟩)
                dsimp only [Pt.U, Pt.locs, Pt.cells, Pt.slots] at X204 l204 y204 z204 st204 hQ204
                subst l204 y204 z204
                obtain ⟨rfl, N204q, K204q, g204e, g204c, t204, kb204, -, g204t, -, g204v, g204a⟩ := hQ204
                have N204 := Fr.app N198 N204q
                have g_t204 : n0 ≤ t204 := Nat.le_trans Z199 g204t
                have sz_t204 : h0.size ≤ t204 := Nat.le_trans K199.1 g204t
                have f206 := (r199.safe (Nat.lt_of_lt_of_le A174.lt (Nat.le_trans (Nat.le_trans (Nat.le_trans (Nat.le_trans (Nat.le_trans (Nat.le_trans E177.1 (Keep.of_wr W180).1) (Keep.of_wr W183).1) (Keep.of_wr W186).1) (Keep.of_wr W189).1) (Keep.of_wr W192).1) (Keep.of_wr W195).1)) (r196.safe (Nat.lt_of_lt_of_le A174.lt (Nat.le_trans (Nat.le_trans (Nat.le_trans (Nat.le_trans (Nat.le_trans E177.1 (Keep.of_wr W180).1) (Keep.of_wr W183).1) (Keep.of_wr W186).1) (Keep.of_wr W189).1) (Keep.of_wr W192).1)) (r193.safe (Nat.lt_of_lt_of_le A174.lt (Nat.le_trans (Nat.le_trans (Nat.le_trans (Nat.le_trans E177.1 (Keep.of_wr W180).1) (Keep.of_wr W183).1) (Keep.of_wr W186).1) (Keep.of_wr W189).1)) (r190.safe (Nat.lt_of_lt_of_le A174.lt (Nat.le_trans (Nat.le_trans (Nat.le_trans E177.1 (Keep.of_wr W180).1) (Keep.of_wr W183).1) (Keep.of_wr W186).1)) (r187.safe (Nat.lt_of_lt_of_le A174.lt (Nat.le_trans (Nat.le_trans E177.1 (Keep.of_wr W180).1) (Keep.of_wr W183).1)) (r184.safe (Nat.lt_of_lt_of_le A174.lt (Nat.le_trans E177.1 (Keep.of_wr W180).1)) (r181.safe (Nat.lt_of_lt_of_le A174.lt E177.1) (r178.safe (Nat.lt_of_lt_of_le A174.lt (Nat.le_refl _)) sfb174))))))))
                have r205 : CHr Z own_EL s.vm h198 s.vm T204.heap := CHr.keep K204q (sfS f206 sf0) R199.1
                have R205 : CHr Z own_EL s.vm h0 s.vm T204.heap := R199.trans r205
                have Z205 : n0 ≤ T204.heap.size := Nat.le_trans Z199 K204q.1
                have O205 : Old Z n0 T204.heap := O199.keep K204q (allS g_b174 all0)
                have K205 : Keep h0 T204.heap [] := K199.trans K204q (allS (Or.inr sz_b174) all0)
                refine gsW (fun _ k => st204.trans k) ?_
                show OwnGoW p e below s Z own_EL _ _ _ (T204.setTop (mkF m 247 #[.val (.int p0), .val (.int p1), .val (.int p2), .val (.int p3), .val (.int p4), .val (.int p5), .val (.int p6), .val (.int p7)] [(.ref b174)]))
                have T207 : Str Z T204.heap b174 ([(nar .char p1), (nar .char p2), (nar .char p3), (nar .char p4), (nar .char p5), (nar .char p6), (nar .char p7)] : List Int32) := ⟨_, _, g204e, g204c, g204v, g204a⟩
                simp only [own_nc b1, own_nc b2, own_nc b3, own_nc b4, own_nc b5, own_nc b6, own_nc b7] at T207
                refine goutW (v := some (.ref b174)) X204 hS (Nat.le_trans hk (Nat.le_trans (Nat.le_trans (Nat.le_trans (Nat.le_trans (Nat.le_trans (Nat.le_trans (Nat.le_trans (Nat.le_trans (Nat.le_trans E174.1 E177.1) (Keep.of_wr W180).1) (Keep.of_wr W183).1) (Keep.of_wr W186).1) (Keep.of_wr W189).1) (Keep.of_wr W192).1) (Keep.of_wr W195).1) (Keep.of_wr W198).1) K204q.1)) hZ (own_EW hw) hh rfl R205 Bd.notSynchronized (fun h => by rw [Bd.returns] at h; cases h) (by decide) (by decide) ?_ (fun fs hr => retOut X204 hx Bd.returns rfl (Or.inr (Or.inr (Or.inr (Or.inr ⟨rfl, rfl, rfl⟩)))) (hb hby d_method_3_code_247) hr)
                exact ⟨_, rfl, N204, K205, by unfold own_mk; rw [if_neg hc2, if_neg hc15, if_neg hc34, if_neg hc56, if_neg hc81, if_neg hc109, if_neg hc140]; exact T207⟩
theorem ef_227 (m : MethodId) (x0 : Addr) : entryFrame m #[(.ref x0)] 1 = mkF m 0 #[.val (.ref x0)] [] := by first | (simp [entryFrame, mkF, argsToLocals, Value.category]; done) | rfl
theorem d_prog_11_method_5_code_0 : decode prog_11_method_5_code 0 = .ok (.aload_n 0, 1) := by decide +kernel
theorem d_prog_11_method_5_code_1 : decode prog_11_method_5_code 1 = .ok (.ldc 193, 2) := by decide +kernel
theorem d_prog_11_method_5_code_3 : decode prog_11_method_5_code 3 = .ok (.invokevirtual 51, 3) := by decide +kernel
theorem pd_231 : parseMethodDescriptor "(Ljava/lang/Object;)Z" = some ⟨[(.object "java/lang/Object")], some .boolean⟩ := by decide +kernel
theorem d_prog_11_method_5_code_6 : decode prog_11_method_5_code 6 = .ok (.ifCond .ne 12, 3) := by decide +kernel
theorem d_prog_11_method_5_code_18 : decode prog_11_method_5_code 18 = .ok (.iconst 1, 1) := by decide +kernel
theorem d_prog_11_method_5_code_19 : decode prog_11_method_5_code 19 = .ok (.goto 4, 3) := by decide +kernel
theorem d_prog_11_method_5_code_23 : decode prog_11_method_5_code 23 = .ok (.ireturn, 1) := by decide +kernel
theorem pn_236 : plainName "com/example/caddisfly/caddisfly/Syntax" = true := by first | (simp [plainName, overriddenIn]; done) | decide +kernel
set_option maxRecDepth 65536 in
set_option maxHeartbeats 40000000 in
theorem rm_ih_h (l : Launch) (Z : State) (a0 : Array Value) (hw : ∀ d ∈ tables_1, d.before a0 Z = true) (ws : List Jvm.Cond) (a : Addr) (cs : List Int32) (z : Int32) (h0 : Heap) (n0 : Nat) (Z0 : n0 ≤ h0.size) (O0 : Old Z n0 h0) (S0 : Sta Z Z.heap "java/lang/String" "COMPACT_STRINGS" "Z" (.int z)) (hz : ¬ z = 0) (T_a : Str Z h0 a cs) (hbd : ∀ c ∈ cs, ¬ c < 0 ∧ ¬ (255 : Int32) < c) (hl : cs.length ≤ 4000) (q1 : cs = ([45, 104] : List Int32)) :
    CtrW l Z own_EL (⟨"com/example/caddisfly/caddisfly/Syntax", "isHelp", "(Ljava/lang/String;)Z"⟩ : MethodName) prog_11_method_5_code 1 ((Option.some Jvm.ClassFile.FieldType.boolean)) ws ({ frames := 2, cells := 4, slots := 40, locals := 40 } : Room) #[(.ref a)] h0 (fun v h L => v = some (.int 1) ∧ Fr n0 L ∧ Keep h0 h []) := by
  refine CtrW.of (MetFree.of_bodySF (plainFor_of_name pn_236) hisR ?_)
  intro p e s m args below meth c s₁ Bd hml0 hP hK
  obtain ⟨rfl, hZ0, hh, hC⟩ := hP
  have hx := Bd.exec
  have hby := Bd.bytes
  have hml : c.maxLocals = 1 := hml0
  have hZ : Z.Warmed39 (s.setVm s.vm).vm := hZ0
  have hown : (s.setVm s.vm).vm.findClass "com/example/caddisfly/caddisfly/Syntax" = some m.cls := findClass_of_methodNamed Bd.named
  have hnm := (name_of_methodNamed Bd.named Bd.method).1
  have X0 : Stand p l e ({ frames := 2, cells := 4, slots := 40, locals := 40 } : Room) (s.setVm s.vm) m #[(.ref a)] below meth c s₁ [] 0 0 := Stand.of_body Bd
  have e0 : s₁.heap = h0 := by rw [← hh, Bd.state]; rfl
  have N0 := Fr.nil n0
  have K0 : Keep h0 h0 [] := Keep.refl h0 []
  have hS : s.Since s.vm 0 := (State.WarmedH.refl s).since 0
  have hk : 0 ≤ h0.size := Nat.zero_le _
  have R0 : CHr Z own_EL s.vm h0 s.vm h0 := CHr.refl hC
  show OwnGoW p e below s Z own_EL (fun v h L => v = some (.int 1) ∧ Fr n0 L ∧ Keep h0 h []) ({ frames := 2, cells := 4, slots := 40, locals := 40 } : Room).cells ({ frames := 2, cells := 4, slots := 40, locals := 40 } : Room).slots _
  refine gsW (S' := s₁.setTop (mkF m 0 #[.val (.ref a)] [])) (fun tg kg => castTop (ef_227 m a) kg) ?_
  have c1 : ∀ tg, Steps p.tables e below (s₁.setTop (mkF m 1 #[.val (.ref a)] [(.ref a)])) tg → Steps p.tables e below (s₁.setTop (mkF m 0 #[.val (.ref a)] [])) tg := fun tg kg => by
    refine XS.aloadN X0.here hx rfl (hb hby d_prog_11_method_5_code_0) rfl rfl ?_
    show Steps p.tables e below (s₁.setTop (mkF m 1 #[.val (.ref a)] [(.ref a)])) tg
    exact kg
  refine gsW c1 ?_
  obtain ⟨a2, T2, h2, k2, t2, kb2, X2, e2, E2, hS, hk2, hZ, hown, g2e, g2c, g2v, g2a, -, -, r2x, -, ne2, st2⟩ := ldcCH X0 hx hZ hown (hw _ (List.mem_of_getElem? (i := 33) rfl)) (own_wS hw) e0 hS hk (own_EW hw) (List.mem_of_getElem? (i := 0) rfl) R0.1 (vs := ((([45, 104] : List Int32).map (fun c => c.toInt8.toInt32)).map Value.int)) (z := (2 : Int32)) ⟨by decide, by rfl⟩ (by decide) rfl (g := (mkF m 1 #[.val (.ref a)] [(.ref a)])) rfl (hb hby d_prog_11_method_5_code_1) (n := 8) (by decide) (by decide) (by decide) (by decide)
  have r3 : CHr Z own_EL s.vm h0 T2.vm h2 := r2x
  have R3 : CHr Z own_EL s.vm h0 T2.vm h2 := R0.trans r3
  have Z3 : n0 ≤ h2.size := Nat.le_trans Z0 E2.1
  have O3 : Old Z n0 h2 := O0.ext E2
  have K3 : Keep h0 h2 [] := K0.ext E2
  have T2q : Str Z h2 a2 ([45, 104] : List Int32) := ⟨_, _, g2e, g2c, g2v, g2a⟩
  refine gsW st2 ?_
  show OwnGoW p e below s Z own_EL _ _ _ (T2.setTop (mkF m 3 #[.val (.ref a)] [(.ref a2), (.ref a)]))
  have f4 := (T_a.ext E2)
  obtain ⟨cq5, kq5, q5a, q5b, q5c⟩ := isOf hZ e2 f4.exa
  obtain ⟨_, _, ⟨T5, L5, k5, n5⟩, -, X5, ⟨Lc5, hQ5, l5, y5, z5⟩, st5⟩ := X2.virtualBack hx (y := (⟨"java/lang/String", "equals", "(Ljava/lang/Object;)Z"⟩ : MethodName)) (z := (⟨"java/lang/String", "equals", "(Ljava/lang/Object;)Z"⟩ : MethodName)) hown (mvT hZ (hw _ (List.mem_of_getElem? (i := 34) rfl))) (mvT hZ (hw _ (List.mem_of_getElem? (i := 35) rfl))) (notFace_of_selects (args := #[]) (mvT hZ (hw _ (List.mem_of_getElem? (i := 37) rfl)))) (mvT hZ (hw _ (List.mem_of_getElem? (i := 37) rfl))) (mvT hZ (hw _ (List.mem_of_getElem? (i := 36) rfl))) (by decide) (own_eqB (W := 0) hZ hw f4 hbd hl T2q (by decide) (by decide) (S0.ext O3.2) hz (by decide) (by decide)) q5a q5c (g := (mkF m 3 #[.val (.ref a)] [(.ref a2), (.ref a)])) rfl (by rw [hml]; rfl) (Steps.refl _) (argsL := [(.ref a2)]) (rest := []) (lenOf pd_231 rfl) rfl (by show 2 * 0 + _ ≤ _; exact Nat.le_of_eq rfl) (hb hby d_prog_11_method_5_code_3) (fun _ _ => ⟨rfl, e2, (by decide : 2 + 0 ≤ _), (by decide : 12 + 0 ≤ _)⟩)
  dsimp only [Pt.U, Pt.locs, Pt.cells, Pt.slots] at X5 l5 y5 z5 st5 hQ5
  subst l5 y5 z5
  replace hQ5 := (show _ ∧ _ ∧ _ from by rcases hQ5 with ⟨⟨u1, u2⟩ | ⟨u1, u2⟩, u3, u4⟩; exact ⟨u1, u3, u4⟩; exact absurd q1 u2)
  obtain ⟨rfl, rfl, e5q⟩ := hQ5
  have N5 := Fr.app N0 (Fr.nil n0)
  refine gsW (fun _ k => st5.trans k) ?_
  show OwnGoW p e below s Z own_EL _ _ _ (T5.setTop (mkF m 6 #[.val (.ref a)] [(.int (1 : Int32))]))
  have c6 : ∀ tg, Steps p.tables e below (T5.setTop (mkF m 23 #[.val (.ref a)] [(.int (1 : Int32))])) tg → Steps p.tables e below (T5.setTop (mkF m 6 #[.val (.ref a)] [(.int (1 : Int32))])) tg := fun tg kg => by
    refine XS.ifYes X5.here hx rfl (pc0 := 6) (pc' := 18) rfl (hb hby d_prog_11_method_5_code_6) rfl ((if0 _ _).trans (feq (by decide : ¬ ((1 : Int32) = (0 : Int32)))).2) (by decide) (by decide) ?_
    show Steps p.tables e below (T5.setTop (mkF m 18 #[.val (.ref a)] [])) tg
    refine XS.iconst X5.here hx rfl (hb hby d_prog_11_method_5_code_18) ?_
    show Steps p.tables e below (T5.setTop (mkF m 19 #[.val (.ref a)] [(.int (1 : Int32))])) tg
    refine XS.goto X5.here hx rfl (pc0 := 19) (pc' := 23) rfl (hb hby d_prog_11_method_5_code_19) (by decide) (by decide) ?_
    show Steps p.tables e below (T5.setTop (mkF m 23 #[.val (.ref a)] [(.int (1 : Int32))])) tg
    exact kg
  refine gsW c6 ?_
  refine goutW (v := some (.int (1 : Int32))) X5 hS hk2 hZ (own_EW hw) hh e5q R3 Bd.notSynchronized (fun h => by rw [Bd.returns] at h; cases h) (by decide) (by decide) ?_ (fun fs hr => retN X5 hx (t := .boolean) Bd.returns (by simp) (hb hby d_prog_11_method_5_code_23) hr)
  exact ⟨rfl, N5, K3⟩
theorem ef_237 (m : MethodId) (x0 : Addr) : entryFrame m #[(.ref x0)] 1 = mkF m 0 #[.val (.ref x0)] [] := by first | (simp [entryFrame, mkF, argsToLocals, Value.category]; done) | rfl
theorem d_prog_11_method_5_code_9 : decode prog_11_method_5_code 9 = .ok (.aload_n 0, 1) := by decide +kernel
theorem d_prog_11_method_5_code_10 : decode prog_11_method_5_code 10 = .ok (.ldc 195, 2) := by decide +kernel
theorem d_prog_11_method_5_code_12 : decode prog_11_method_5_code 12 = .ok (.invokevirtual 51, 3) := by decide +kernel
theorem d_prog_11_method_5_code_15 : decode prog_11_method_5_code 15 = .ok (.ifCond .eq 7, 3) := by decide +kernel
set_option maxRecDepth 65536 in
set_option maxHeartbeats 40000000 in
theorem rm_ih_help (l : Launch) (Z : State) (a0 : Array Value) (hw : ∀ d ∈ tables_1, d.before a0 Z = true) (ws : List Jvm.Cond) (a : Addr) (cs : List Int32) (z : Int32) (h0 : Heap) (n0 : Nat) (Z0 : n0 ≤ h0.size) (O0 : Old Z n0 h0) (S0 : Sta Z Z.heap "java/lang/String" "COMPACT_STRINGS" "Z" (.int z)) (hz : ¬ z = 0) (T_a : Str Z h0 a cs) (hbd : ∀ c ∈ cs, ¬ c < 0 ∧ ¬ (255 : Int32) < c) (hl : cs.length ≤ 4000) (q1 : ¬ cs = ([45, 104] : List Int32)) (q2 : cs = ([45, 45, 104, 101, 108, 112] : List Int32)) :
    CtrW l Z own_EL (⟨"com/example/caddisfly/caddisfly/Syntax", "isHelp", "(Ljava/lang/String;)Z"⟩ : MethodName) prog_11_method_5_code 1 ((Option.some Jvm.ClassFile.FieldType.boolean)) ws ({ frames := 2, cells := 4, slots := 40, locals := 40 } : Room) #[(.ref a)] h0 (fun v h L => v = some (.int 1) ∧ Fr n0 L ∧ Keep h0 h []) := by
  refine CtrW.of (MetFree.of_bodySF (plainFor_of_name pn_236) hisR ?_)
  intro p e s m args below meth c s₁ Bd hml0 hP hK
  obtain ⟨rfl, hZ0, hh, hC⟩ := hP
  have hx := Bd.exec
  have hby := Bd.bytes
  have hml : c.maxLocals = 1 := hml0
  have hZ : Z.Warmed39 (s.setVm s.vm).vm := hZ0
  have hown : (s.setVm s.vm).vm.findClass "com/example/caddisfly/caddisfly/Syntax" = some m.cls := findClass_of_methodNamed Bd.named
  have hnm := (name_of_methodNamed Bd.named Bd.method).1
  have X0 : Stand p l e ({ frames := 2, cells := 4, slots := 40, locals := 40 } : Room) (s.setVm s.vm) m #[(.ref a)] below meth c s₁ [] 0 0 := Stand.of_body Bd
  have e0 : s₁.heap = h0 := by rw [← hh, Bd.state]; rfl
  have N0 := Fr.nil n0
  have K0 : Keep h0 h0 [] := Keep.refl h0 []
  have hS : s.Since s.vm 0 := (State.WarmedH.refl s).since 0
  have hk : 0 ≤ h0.size := Nat.zero_le _
  have R0 : CHr Z own_EL s.vm h0 s.vm h0 := CHr.refl hC
  show OwnGoW p e below s Z own_EL (fun v h L => v = some (.int 1) ∧ Fr n0 L ∧ Keep h0 h []) ({ frames := 2, cells := 4, slots := 40, locals := 40 } : Room).cells ({ frames := 2, cells := 4, slots := 40, locals := 40 } : Room).slots _
  refine gsW (S' := s₁.setTop (mkF m 0 #[.val (.ref a)] [])) (fun tg kg => castTop (ef_237 m a) kg) ?_
  have c1 : ∀ tg, Steps p.tables e below (s₁.setTop (mkF m 1 #[.val (.ref a)] [(.ref a)])) tg → Steps p.tables e below (s₁.setTop (mkF m 0 #[.val (.ref a)] [])) tg := fun tg kg => by
    refine XS.aloadN X0.here hx rfl (hb hby d_prog_11_method_5_code_0) rfl rfl ?_
    show Steps p.tables e below (s₁.setTop (mkF m 1 #[.val (.ref a)] [(.ref a)])) tg
    exact kg
  refine gsW c1 ?_
  obtain ⟨a2, T2, h2, k2, t2, kb2, X2, e2, E2, hS, hk2, hZ, hown, g2e, g2c, g2v, g2a, -, -, r2x, -, ne2, st2⟩ := ldcCH X0 hx hZ hown (hw _ (List.mem_of_getElem? (i := 33) rfl)) (own_wS hw) e0 hS hk (own_EW hw) (List.mem_of_getElem? (i := 0) rfl) R0.1 (vs := ((([45, 104] : List Int32).map (fun c => c.toInt8.toInt32)).map Value.int)) (z := (2 : Int32)) ⟨by decide, by rfl⟩ (by decide) rfl (g := (mkF m 1 #[.val (.ref a)] [(.ref a)])) rfl (hb hby d_prog_11_method_5_code_1) (n := 8) (by decide) (by decide) (by decide) (by decide)
  have r3 : CHr Z own_EL s.vm h0 T2.vm h2 := r2x
  have R3 : CHr Z own_EL s.vm h0 T2.vm h2 := R0.trans r3
  have Z3 : n0 ≤ h2.size := Nat.le_trans Z0 E2.1
  have O3 : Old Z n0 h2 := O0.ext E2
  have K3 : Keep h0 h2 [] := K0.ext E2
  have T2q : Str Z h2 a2 ([45, 104] : List Int32) := ⟨_, _, g2e, g2c, g2v, g2a⟩
  refine gsW st2 ?_
  show OwnGoW p e below s Z own_EL _ _ _ (T2.setTop (mkF m 3 #[.val (.ref a)] [(.ref a2), (.ref a)]))
  have f4 := (T_a.ext E2)
  obtain ⟨cq5, kq5, q5a, q5b, q5c⟩ := isOf hZ e2 f4.exa
  obtain ⟨_, _, ⟨T5, L5, k5, n5⟩, -, X5, ⟨Lc5, hQ5, l5, y5, z5⟩, st5⟩ := X2.virtualBack hx (y := (⟨"java/lang/String", "equals", "(Ljava/lang/Object;)Z"⟩ : MethodName)) (z := (⟨"java/lang/String", "equals", "(Ljava/lang/Object;)Z"⟩ : MethodName)) hown (mvT hZ (hw _ (List.mem_of_getElem? (i := 34) rfl))) (mvT hZ (hw _ (List.mem_of_getElem? (i := 35) rfl))) (notFace_of_selects (args := #[]) (mvT hZ (hw _ (List.mem_of_getElem? (i := 37) rfl)))) (mvT hZ (hw _ (List.mem_of_getElem? (i := 37) rfl))) (mvT hZ (hw _ (List.mem_of_getElem? (i := 36) rfl))) (by decide) (own_eqB (W := 0) hZ hw f4 hbd hl T2q (by decide) (by decide) (S0.ext O3.2) hz (by decide) (by decide)) q5a q5c (g := (mkF m 3 #[.val (.ref a)] [(.ref a2), (.ref a)])) rfl (by rw [hml]; rfl) (Steps.refl _) (argsL := [(.ref a2)]) (rest := []) (lenOf pd_231 rfl) rfl (by show 2 * 0 + _ ≤ _; exact Nat.le_of_eq rfl) (hb hby d_prog_11_method_5_code_3) (fun _ _ => ⟨rfl, e2, (by decide : 2 + 0 ≤ _), (by decide : 12 + 0 ≤ _)⟩)
  dsimp only [Pt.U, Pt.locs, Pt.cells, Pt.slots] at X5 l5 y5 z5 st5 hQ5
  subst l5 y5 z5
  replace hQ5 := (show _ ∧ _ ∧ _ from by rcases hQ5 with ⟨⟨u1, u2⟩ | ⟨u1, u2⟩, u3, u4⟩; exact absurd u2 q1; exact ⟨u1, u3, u4⟩)
  obtain ⟨rfl, rfl, e5q⟩ := hQ5
  have N5 := Fr.app N0 (Fr.nil n0)
  refine gsW (fun _ k => st5.trans k) ?_
  show OwnGoW p e below s Z own_EL _ _ _ (T5.setTop (mkF m 6 #[.val (.ref a)] [(.int (0 : Int32))]))
  have c6 : ∀ tg, Steps p.tables e below (T5.setTop (mkF m 10 #[.val (.ref a)] [(.ref a)])) tg → Steps p.tables e below (T5.setTop (mkF m 6 #[.val (.ref a)] [(.int (0 : Int32))])) tg := fun tg kg => by
    refine XS.ifNo X5.here hx rfl (hb hby d_prog_11_method_5_code_6) rfl ((if0 _ _).trans (teq (by decide : (0 : Int32) = (0 : Int32))).2) ?_
    show Steps p.tables e below (T5.setTop (mkF m 9 #[.val (.ref a)] [])) tg
    refine XS.aloadN X5.here hx rfl (hb hby d_prog_11_method_5_code_9) rfl rfl ?_
    show Steps p.tables e below (T5.setTop (mkF m 10 #[.val (.ref a)] [(.ref a)])) tg
    exact kg
  refine gsW c6 ?_
  obtain ⟨a7, T7, h7, k7, t7, kb7, X7, e7, E7, hS, hk7, hZ, hown, g7e, g7c, g7v, g7a, -, -, r7x, -, ne7, st7⟩ := ldcCH X5 hx hZ hown (hw _ (List.mem_of_getElem? (i := 45) rfl)) (own_wS hw) e5q hS hk2 (own_EW hw) (List.mem_of_getElem? (i := 1) rfl) R3.1 (vs := ((([45, 45, 104, 101, 108, 112] : List Int32).map (fun c => c.toInt8.toInt32)).map Value.int)) (z := (6 : Int32)) ⟨by decide, by rfl⟩ (by decide) rfl (g := (mkF m 10 #[.val (.ref a)] [(.ref a)])) rfl (hb hby d_prog_11_method_5_code_10) (n := 24) (by decide) (by decide) (by decide) (by decide)
  have r8 : CHr Z own_EL T2.vm h2 T7.vm h7 := r7x
  have R8 : CHr Z own_EL s.vm h0 T7.vm h7 := R3.trans r8
  have Z8 : n0 ≤ h7.size := Nat.le_trans Z3 E7.1
  have O8 : Old Z n0 h7 := O3.ext E7
  have K8 : Keep h0 h7 [] := K3.ext E7
  have T7q : Str Z h7 a7 ([45, 45, 104, 101, 108, 112] : List Int32) := ⟨_, _, g7e, g7c, g7v, g7a⟩
  refine gsW st7 ?_
  show OwnGoW p e below s Z own_EL _ _ _ (T7.setTop (mkF m 12 #[.val (.ref a)] [(.ref a7), (.ref a)]))
  have f9 := (f4.ext E7)
  obtain ⟨cq10, kq10, q10a, q10b, q10c⟩ := isOf hZ e7 f9.exa
  obtain ⟨_, _, ⟨T10, L10, k10, n10⟩, -, X10, ⟨Lc10, hQ10, l10, y10, z10⟩, st10⟩ := X7.virtualBack hx (y := (⟨"java/lang/String", "equals", "(Ljava/lang/Object;)Z"⟩ : MethodName)) (z := (⟨"java/lang/String", "equals", "(Ljava/lang/Object;)Z"⟩ : MethodName)) hown (mvT hZ (hw _ (List.mem_of_getElem? (i := 34) rfl))) (mvT hZ (hw _ (List.mem_of_getElem? (i := 35) rfl))) (notFace_of_selects (args := #[]) (mvT hZ (hw _ (List.mem_of_getElem? (i := 37) rfl)))) (mvT hZ (hw _ (List.mem_of_getElem? (i := 37) rfl))) (mvT hZ (hw _ (List.mem_of_getElem? (i := 36) rfl))) (by decide) (own_eqB (W := 0) hZ hw f9 hbd hl T7q (by decide) (by decide) (S0.ext O8.2) hz (by decide) (by decide)) q10a q10c (g := (mkF m 12 #[.val (.ref a)] [(.ref a7), (.ref a)])) rfl (by rw [hml]; rfl) (Steps.refl _) (argsL := [(.ref a7)]) (rest := []) (lenOf pd_231 rfl) rfl (by show 2 * 0 + _ ≤ _; exact Nat.le_of_eq rfl) (hb hby d_prog_11_method_5_code_12) (fun _ _ => ⟨rfl, e7, (by decide : 4 + 0 ≤ _), (by decide : 40 + 0 ≤ _)⟩)
  dsimp only [Pt.U, Pt.locs, Pt.cells, Pt.slots] at X10 l10 y10 z10 st10 hQ10
  subst l10 y10 z10
  replace hQ10 := (show _ ∧ _ ∧ _ from by rcases hQ10 with ⟨⟨u1, u2⟩ | ⟨u1, u2⟩, u3, u4⟩; exact ⟨u1, u3, u4⟩; exact absurd q2 u2)
  obtain ⟨rfl, rfl, e10q⟩ := hQ10
  have N10 := Fr.app N5 (Fr.nil n0)
  refine gsW (fun _ k => st10.trans k) ?_
  show OwnGoW p e below s Z own_EL _ _ _ (T10.setTop (mkF m 15 #[.val (.ref a)] [(.int (1 : Int32))]))
  have c11 : ∀ tg, Steps p.tables e below (T10.setTop (mkF m 23 #[.val (.ref a)] [(.int (1 : Int32))])) tg → Steps p.tables e below (T10.setTop (mkF m 15 #[.val (.ref a)] [(.int (1 : Int32))])) tg := fun tg kg => by
    refine XS.ifNo X10.here hx rfl (hb hby d_prog_11_method_5_code_15) rfl ((if0 _ _).trans (feq (by decide : ¬ ((1 : Int32) = (0 : Int32)))).1) ?_
    show Steps p.tables e below (T10.setTop (mkF m 18 #[.val (.ref a)] [])) tg
    refine XS.iconst X10.here hx rfl (hb hby d_prog_11_method_5_code_18) ?_
    show Steps p.tables e below (T10.setTop (mkF m 19 #[.val (.ref a)] [(.int (1 : Int32))])) tg
    refine XS.goto X10.here hx rfl (pc0 := 19) (pc' := 23) rfl (hb hby d_prog_11_method_5_code_19) (by decide) (by decide) ?_
    show Steps p.tables e below (T10.setTop (mkF m 23 #[.val (.ref a)] [(.int (1 : Int32))])) tg
    exact kg
  refine gsW c11 ?_
  refine goutW (v := some (.int (1 : Int32))) X10 hS hk7 hZ (own_EW hw) hh e10q R8 Bd.notSynchronized (fun h => by rw [Bd.returns] at h; cases h) (by decide) (by decide) ?_ (fun fs hr => retN X10 hx (t := .boolean) Bd.returns (by simp) (hb hby d_prog_11_method_5_code_23) hr)
  exact ⟨rfl, N10, K8⟩
theorem ef_242 (m : MethodId) (x0 : Addr) : entryFrame m #[(.ref x0)] 1 = mkF m 0 #[.val (.ref x0)] [] := by first | (simp [entryFrame, mkF, argsToLocals, Value.category]; done) | rfl
theorem d_prog_11_method_5_code_22 : decode prog_11_method_5_code 22 = .ok (.iconst 0, 1) := by decide +kernel
set_option maxRecDepth 65536 in
set_option maxHeartbeats 40000000 in
theorem rm_ih_no (l : Launch) (Z : State) (a0 : Array Value) (hw : ∀ d ∈ tables_1, d.before a0 Z = true) (ws : List Jvm.Cond) (a : Addr) (cs : List Int32) (z : Int32) (h0 : Heap) (n0 : Nat) (Z0 : n0 ≤ h0.size) (O0 : Old Z n0 h0) (S0 : Sta Z Z.heap "java/lang/String" "COMPACT_STRINGS" "Z" (.int z)) (hz : ¬ z = 0) (T_a : Str Z h0 a cs) (hbd : ∀ c ∈ cs, ¬ c < 0 ∧ ¬ (255 : Int32) < c) (hl : cs.length ≤ 4000) (q1 : ¬ cs = ([45, 104] : List Int32)) (q2 : ¬ cs = ([45, 45, 104, 101, 108, 112] : List Int32)) :
    CtrW l Z own_EL (⟨"com/example/caddisfly/caddisfly/Syntax", "isHelp", "(Ljava/lang/String;)Z"⟩ : MethodName) prog_11_method_5_code 1 ((Option.some Jvm.ClassFile.FieldType.boolean)) ws ({ frames := 2, cells := 4, slots := 40, locals := 40 } : Room) #[(.ref a)] h0 (fun v h L => v = some (.int 0) ∧ Fr n0 L ∧ Keep h0 h []) := by
  refine CtrW.of (MetFree.of_bodySF (plainFor_of_name pn_236) hisR ?_)
  intro p e s m args below meth c s₁ Bd hml0 hP hK
  obtain ⟨rfl, hZ0, hh, hC⟩ := hP
  have hx := Bd.exec
  have hby := Bd.bytes
  have hml : c.maxLocals = 1 := hml0
  have hZ : Z.Warmed39 (s.setVm s.vm).vm := hZ0
  have hown : (s.setVm s.vm).vm.findClass "com/example/caddisfly/caddisfly/Syntax" = some m.cls := findClass_of_methodNamed Bd.named
  have hnm := (name_of_methodNamed Bd.named Bd.method).1
  have X0 : Stand p l e ({ frames := 2, cells := 4, slots := 40, locals := 40 } : Room) (s.setVm s.vm) m #[(.ref a)] below meth c s₁ [] 0 0 := Stand.of_body Bd
  have e0 : s₁.heap = h0 := by rw [← hh, Bd.state]; rfl
  have N0 := Fr.nil n0
  have K0 : Keep h0 h0 [] := Keep.refl h0 []
  have hS : s.Since s.vm 0 := (State.WarmedH.refl s).since 0
  have hk : 0 ≤ h0.size := Nat.zero_le _
  have R0 : CHr Z own_EL s.vm h0 s.vm h0 := CHr.refl hC
  show OwnGoW p e below s Z own_EL (fun v h L => v = some (.int 0) ∧ Fr n0 L ∧ Keep h0 h []) ({ frames := 2, cells := 4, slots := 40, locals := 40 } : Room).cells ({ frames := 2, cells := 4, slots := 40, locals := 40 } : Room).slots _
  refine gsW (S' := s₁.setTop (mkF m 0 #[.val (.ref a)] [])) (fun tg kg => castTop (ef_242 m a) kg) ?_
  have c1 : ∀ tg, Steps p.tables e below (s₁.setTop (mkF m 1 #[.val (.ref a)] [(.ref a)])) tg → Steps p.tables e below (s₁.setTop (mkF m 0 #[.val (.ref a)] [])) tg := fun tg kg => by
    refine XS.aloadN X0.here hx rfl (hb hby d_prog_11_method_5_code_0) rfl rfl ?_
    show Steps p.tables e below (s₁.setTop (mkF m 1 #[.val (.ref a)] [(.ref a)])) tg
    exact kg
  refine gsW c1 ?_
  obtain ⟨a2, T2, h2, k2, t2, kb2, X2, e2, E2, hS, hk2, hZ, hown, g2e, g2c, g2v, g2a, -, -, r2x, -, ne2, st2⟩ := ldcCH X0 hx hZ hown (hw _ (List.mem_of_getElem? (i := 33) rfl)) (own_wS hw) e0 hS hk (own_EW hw) (List.mem_of_getElem? (i := 0) rfl) R0.1 (vs := ((([45, 104] : List Int32).map (fun c => c.toInt8.toInt32)).map Value.int)) (z := (2 : Int32)) ⟨by decide, by rfl⟩ (by decide) rfl (g := (mkF m 1 #[.val (.ref a)] [(.ref a)])) rfl (hb hby d_prog_11_method_5_code_1) (n := 8) (by decide) (by decide) (by decide) (by decide)
  have r3 : CHr Z own_EL s.vm h0 T2.vm h2 := r2x
  have R3 : CHr Z own_EL s.vm h0 T2.vm h2 := R0.trans r3
  have Z3 : n0 ≤ h2.size := Nat.le_trans Z0 E2.1
  have O3 : Old Z n0 h2 := O0.ext E2
  have K3 : Keep h0 h2 [] := K0.ext E2
  have T2q : Str Z h2 a2 ([45, 104] : List Int32) := ⟨_, _, g2e, g2c, g2v, g2a⟩
  refine gsW st2 ?_
  show OwnGoW p e below s Z own_EL _ _ _ (T2.setTop (mkF m 3 #[.val (.ref a)] [(.ref a2), (.ref a)]))
  have f4 := (T_a.ext E2)
  obtain ⟨cq5, kq5, q5a, q5b, q5c⟩ := isOf hZ e2 f4.exa
  obtain ⟨_, _, ⟨T5, L5, k5, n5⟩, -, X5, ⟨Lc5, hQ5, l5, y5, z5⟩, st5⟩ := X2.virtualBack hx (y := (⟨"java/lang/String", "equals", "(Ljava/lang/Object;)Z"⟩ : MethodName)) (z := (⟨"java/lang/String", "equals", "(Ljava/lang/Object;)Z"⟩ : MethodName)) hown (mvT hZ (hw _ (List.mem_of_getElem? (i := 34) rfl))) (mvT hZ (hw _ (List.mem_of_getElem? (i := 35) rfl))) (notFace_of_selects (args := #[]) (mvT hZ (hw _ (List.mem_of_getElem? (i := 37) rfl)))) (mvT hZ (hw _ (List.mem_of_getElem? (i := 37) rfl))) (mvT hZ (hw _ (List.mem_of_getElem? (i := 36) rfl))) (by decide) (own_eqB (W := 0) hZ hw f4 hbd hl T2q (by decide) (by decide) (S0.ext O3.2) hz (by decide) (by decide)) q5a q5c (g := (mkF m 3 #[.val (.ref a)] [(.ref a2), (.ref a)])) rfl (by rw [hml]; rfl) (Steps.refl _) (argsL := [(.ref a2)]) (rest := []) (lenOf pd_231 rfl) rfl (by show 2 * 0 + _ ≤ _; exact Nat.le_of_eq rfl) (hb hby d_prog_11_method_5_code_3) (fun _ _ => ⟨rfl, e2, (by decide : 2 + 0 ≤ _), (by decide : 12 + 0 ≤ _)⟩)
  dsimp only [Pt.U, Pt.locs, Pt.cells, Pt.slots] at X5 l5 y5 z5 st5 hQ5
  subst l5 y5 z5
  replace hQ5 := (show _ ∧ _ ∧ _ from by rcases hQ5 with ⟨⟨u1, u2⟩ | ⟨u1, u2⟩, u3, u4⟩; exact absurd u2 q1; exact ⟨u1, u3, u4⟩)
  obtain ⟨rfl, rfl, e5q⟩ := hQ5
  have N5 := Fr.app N0 (Fr.nil n0)
  refine gsW (fun _ k => st5.trans k) ?_
  show OwnGoW p e below s Z own_EL _ _ _ (T5.setTop (mkF m 6 #[.val (.ref a)] [(.int (0 : Int32))]))
  have c6 : ∀ tg, Steps p.tables e below (T5.setTop (mkF m 10 #[.val (.ref a)] [(.ref a)])) tg → Steps p.tables e below (T5.setTop (mkF m 6 #[.val (.ref a)] [(.int (0 : Int32))])) tg := fun tg kg => by
    refine XS.ifNo X5.here hx rfl (hb hby d_prog_11_method_5_code_6) rfl ((if0 _ _).trans (teq (by decide : (0 : Int32) = (0 : Int32))).2) ?_
    show Steps p.tables e below (T5.setTop (mkF m 9 #[.val (.ref a)] [])) tg
    refine XS.aloadN X5.here hx rfl (hb hby d_prog_11_method_5_code_9) rfl rfl ?_
    show Steps p.tables e below (T5.setTop (mkF m 10 #[.val (.ref a)] [(.ref a)])) tg
    exact kg
  refine gsW c6 ?_
  obtain ⟨a7, T7, h7, k7, t7, kb7, X7, e7, E7, hS, hk7, hZ, hown, g7e, g7c, g7v, g7a, -, -, r7x, -, ne7, st7⟩ := ldcCH X5 hx hZ hown (hw _ (List.mem_of_getElem? (i := 45) rfl)) (own_wS hw) e5q hS hk2 (own_EW hw) (List.mem_of_getElem? (i := 1) rfl) R3.1 (vs := ((([45, 45, 104, 101, 108, 112] : List Int32).map (fun c => c.toInt8.toInt32)).map Value.int)) (z := (6 : Int32)) ⟨by decide, by rfl⟩ (by decide) rfl (g := (mkF m 10 #[.val (.ref a)] [(.ref a)])) rfl (hb hby d_prog_11_method_5_code_10) (n := 24) (by decide) (by decide) (by decide) (by decide)
  have r8 : CHr Z own_EL T2.vm h2 T7.vm h7 := r7x
  have R8 : CHr Z own_EL s.vm h0 T7.vm h7 := R3.trans r8
  have Z8 : n0 ≤ h7.size := Nat.le_trans Z3 E7.1
  have O8 : Old Z n0 h7 := O3.ext E7
  have K8 : Keep h0 h7 [] := K3.ext E7
  have T7q : Str Z h7 a7 ([45, 45, 104, 101, 108, 112] : List Int32) := ⟨_, _, g7e, g7c, g7v, g7a⟩
  refine gsW st7 ?_
  show OwnGoW p e below s Z own_EL _ _ _ (T7.setTop (mkF m 12 #[.val (.ref a)] [(.ref a7), (.ref a)]))
  have f9 := (f4.ext E7)
  obtain ⟨cq10, kq10, q10a, q10b, q10c⟩ := isOf hZ e7 f9.exa
  obtain ⟨_, _, ⟨T10, L10, k10, n10⟩, -, X10, ⟨Lc10, hQ10, l10, y10, z10⟩, st10⟩ := X7.virtualBack hx (y := (⟨"java/lang/String", "equals", "(Ljava/lang/Object;)Z"⟩ : MethodName)) (z := (⟨"java/lang/String", "equals", "(Ljava/lang/Object;)Z"⟩ : MethodName)) hown (mvT hZ (hw _ (List.mem_of_getElem? (i := 34) rfl))) (mvT hZ (hw _ (List.mem_of_getElem? (i := 35) rfl))) (notFace_of_selects (args := #[]) (mvT hZ (hw _ (List.mem_of_getElem? (i := 37) rfl)))) (mvT hZ (hw _ (List.mem_of_getElem? (i := 37) rfl))) (mvT hZ (hw _ (List.mem_of_getElem? (i := 36) rfl))) (by decide) (own_eqB (W := 0) hZ hw f9 hbd hl T7q (by decide) (by decide) (S0.ext O8.2) hz (by decide) (by decide)) q10a q10c (g := (mkF m 12 #[.val (.ref a)] [(.ref a7), (.ref a)])) rfl (by rw [hml]; rfl) (Steps.refl _) (argsL := [(.ref a7)]) (rest := []) (lenOf pd_231 rfl) rfl (by show 2 * 0 + _ ≤ _; exact Nat.le_of_eq rfl) (hb hby d_prog_11_method_5_code_12) (fun _ _ => ⟨rfl, e7, (by decide : 4 + 0 ≤ _), (by decide : 40 + 0 ≤ _)⟩)
  dsimp only [Pt.U, Pt.locs, Pt.cells, Pt.slots] at X10 l10 y10 z10 st10 hQ10
  subst l10 y10 z10
  replace hQ10 := (show _ ∧ _ ∧ _ from by rcases hQ10 with ⟨⟨u1, u2⟩ | ⟨u1, u2⟩, u3, u4⟩; exact absurd u2 q2; exact ⟨u1, u3, u4⟩)
  obtain ⟨rfl, rfl, e10q⟩ := hQ10
  have N10 := Fr.app N5 (Fr.nil n0)
  refine gsW (fun _ k => st10.trans k) ?_
  show OwnGoW p e below s Z own_EL _ _ _ (T10.setTop (mkF m 15 #[.val (.ref a)] [(.int (0 : Int32))]))
  have c11 : ∀ tg, Steps p.tables e below (T10.setTop (mkF m 23 #[.val (.ref a)] [(.int (0 : Int32))])) tg → Steps p.tables e below (T10.setTop (mkF m 15 #[.val (.ref a)] [(.int (0 : Int32))])) tg := fun tg kg => by
    refine XS.ifYes X10.here hx rfl (pc0 := 15) (pc' := 22) rfl (hb hby d_prog_11_method_5_code_15) rfl ((if0 _ _).trans (teq (by decide : (0 : Int32) = (0 : Int32))).1) (by decide) (by decide) ?_
    show Steps p.tables e below (T10.setTop (mkF m 22 #[.val (.ref a)] [])) tg
    refine XS.iconst X10.here hx rfl (hb hby d_prog_11_method_5_code_22) ?_
    show Steps p.tables e below (T10.setTop (mkF m 23 #[.val (.ref a)] [(.int (0 : Int32))])) tg
    exact kg
  refine gsW c11 ?_
  refine goutW (v := some (.int (0 : Int32))) X10 hS hk7 hZ (own_EW hw) hh e10q R8 Bd.notSynchronized (fun h => by rw [Bd.returns] at h; cases h) (by decide) (by decide) ?_ (fun fs hr => retN X10 hx (t := .boolean) Bd.returns (by simp) (hb hby d_prog_11_method_5_code_23) hr)
  exact ⟨rfl, N10, K8⟩
theorem ef_244 (m : MethodId) (x0 : Int32) (x1 : Int32) (x2 : Int32) (x3 : Int32) (x4 : Int32) : entryFrame m #[(.int x0), (.int x1), (.int x2), (.int x3), (.int x4)] maxLocals = mkF m 0 #[.val (.int x0), .val (.int x1), .val (.int x2), .val (.int x3), .val (.int x4), .unset, .unset, .unset, .unset, .unset, .unset, .unset, .unset, .unset, .unset] [] := by first | (simp [entryFrame, mkF, argsToLocals, Value.category, maxLocals]; done) | rfl
theorem pd_245 : parseMethodDescriptor "(ICCCCCCC)Ljava/lang/String;" = some ⟨[.int, .char, .char, .char, .char, .char, .char, .char], some (.object "java/lang/String")⟩ := by decide +kernel
theorem pd_246 : parseMethodDescriptor "(Ljava/lang/String;)Z" = some ⟨[(.object "java/lang/String")], some .boolean⟩ := by decide +kernel
set_option maxRecDepth 65536 in
set_option maxHeartbeats 40000000 in
theorem rm_law (l : Launch) (Z : State) (a0 : Array Value) (hw : ∀ d ∈ tables_1, d.before a0 Z = true) (ws : List Jvm.Cond) (i0 : Int32) (i1 : Int32) (i2 : Int32) (i3 : Int32) (i4 : Int32) (z : Int32) (fm : Value) (h0 : Heap) (n0 : Nat) (Z0 : n0 ≤ h0.size) (O0 : Old Z n0 h0) (S0 : Sta Z Z.heap "java/lang/String" "COMPACT_STRINGS" "Z" (.int z)) (hz : ¬ z = 0) (S4 : Sta Z Z.heap "jdk/internal/util/Preconditions" "SIOOBE_FORMATTER" "Ljava/util/function/BiFunction;" fm) (hfm : fm.isRef = true) :
    CtrW l Z own_EL x code maxLocals ret ws room_1 #[(.int i0), (.int i1), (.int i2), (.int i3), (.int i4)] h0 (fun v h L => v = some (.int 1) ∧ Fr n0 L) := by
  refine CtrW.of (MetFree.of_bodySF (plainFor_of_name pn_44) hisR ?_)
  intro p e s m args below meth c s₁ Bd hml0 hP hK
  obtain ⟨rfl, hZ0, hh, hC⟩ := hP
  have hx := Bd.exec
  have hby := Bd.bytes
  have hml : c.maxLocals = 15 := hml0
  have hZ : Z.Warmed39 (s.setVm s.vm).vm := hZ0
  have hown : (s.setVm s.vm).vm.findClass "com/example/caddisfly/caddisfly/SyntaxIsHelpPinLaw" = some m.cls := findClass_of_methodNamed Bd.named
  have hnm := (name_of_methodNamed Bd.named Bd.method).1
  have X0 : Stand p l e room_1 (s.setVm s.vm) m #[(.int i0), (.int i1), (.int i2), (.int i3), (.int i4)] below meth c s₁ [] 0 0 := Stand.of_body Bd
  have e0 : s₁.heap = h0 := by rw [← hh, Bd.state]; rfl
  have N0 := Fr.nil n0
  have K0 : Keep h0 h0 [] := Keep.refl h0 []
  have hS : s.Since s.vm 0 := (State.WarmedH.refl s).since 0
  have hk : 0 ≤ h0.size := Nat.zero_le _
  have R0 : CHr Z own_EL s.vm h0 s.vm h0 := CHr.refl hC
  show OwnGoW p e below s Z own_EL (fun v h L => v = some (.int 1) ∧ Fr n0 L) room_1.cells room_1.slots _
  refine gsW (S' := s₁.setTop (mkF m 0 #[.val (.int i0), .val (.int i1), .val (.int i2), .val (.int i3), .val (.int i4), .unset, .unset, .unset, .unset, .unset, .unset, .unset, .unset, .unset, .unset] [])) (fun tg kg => castTop (ef_244 m i0 i1 i2 i3 i4) kg) ?_
  have c1 : ∀ tg, Steps p.tables e below (s₁.setTop (mkF m 7 #[.val (.int i0), .val (.int i1), .val (.int i2), .val (.int i3), .val (.int i4), .val (.int (i0 &&& (7 : Int32))), .unset, .unset, .unset, .unset, .unset, .unset, .unset, .unset, .unset] [(.int i1)])) tg → Steps p.tables e below (s₁.setTop (mkF m 0 #[.val (.int i0), .val (.int i1), .val (.int i2), .val (.int i3), .val (.int i4), .unset, .unset, .unset, .unset, .unset, .unset, .unset, .unset, .unset, .unset] [])) tg := fun tg kg => by
    refine XS.iloadN X0.here hx rfl (hb hby at_0) rfl ?_
    show Steps p.tables e below (s₁.setTop (mkF m 1 #[.val (.int i0), .val (.int i1), .val (.int i2), .val (.int i3), .val (.int i4), .unset, .unset, .unset, .unset, .unset, .unset, .unset, .unset, .unset, .unset] [(.int i0)])) tg
    refine XS.bipush X0.here hx rfl (hb hby at_1) ?_
    show Steps p.tables e below (s₁.setTop (mkF m 3 #[.val (.int i0), .val (.int i1), .val (.int i2), .val (.int i3), .val (.int i4), .unset, .unset, .unset, .unset, .unset, .unset, .unset, .unset, .unset, .unset] [(.int (7 : Int32)), (.int i0)])) tg
    refine XS.iand X0.here hx rfl (hb hby at_3) rfl ?_
    show Steps p.tables e below (s₁.setTop (mkF m 4 #[.val (.int i0), .val (.int i1), .val (.int i2), .val (.int i3), .val (.int i4), .unset, .unset, .unset, .unset, .unset, .unset, .unset, .unset, .unset, .unset] [(.int (i0 &&& (7 : Int32)))])) tg
    refine XS.istore X0.here hx rfl (hb hby at_4) rfl (l' := #[.val (.int i0), .val (.int i1), .val (.int i2), .val (.int i3), .val (.int i4), .val (.int (i0 &&& (7 : Int32))), .unset, .unset, .unset, .unset, .unset, .unset, .unset, .unset, .unset]) rfl ?_
    show Steps p.tables e below (s₁.setTop (mkF m 6 #[.val (.int i0), .val (.int i1), .val (.int i2), .val (.int i3), .val (.int i4), .val (.int (i0 &&& (7 : Int32))), .unset, .unset, .unset, .unset, .unset, .unset, .unset, .unset, .unset] [])) tg
    refine XS.iloadN X0.here hx rfl (hb hby at_6) rfl ?_
    show Steps p.tables e below (s₁.setTop (mkF m 7 #[.val (.int i0), .val (.int i1), .val (.int i2), .val (.int i3), .val (.int i4), .val (.int (i0 &&& (7 : Int32))), .unset, .unset, .unset, .unset, .unset, .unset, .unset, .unset, .unset] [(.int i1)])) tg
    exact kg
  refine gsW c1 ?_
  obtain ⟨_, _, ⟨T2, L2, k2, n2⟩, -, Xq2, hSq2, gq2, ⟨Lc2, hQ2, l2, y2, z2, rq2⟩, st2⟩ := callSS X0 hx (y := (⟨"com/example/caddisfly/caddisfly/SyntaxIsHelpPinLaw", "ch", "(I)C"⟩ : MethodName)) hown (mvT hZ (hw _ (List.mem_of_getElem? (i := 0) rfl))) (mvT hZ (hw _ (List.mem_of_getElem? (i := 1) rfl))) (mvT hZ (hw _ (List.mem_of_getElem? (i := 2) rfl))) (mvT hZ (hw _ (List.mem_of_getElem? (i := 3) rfl))) (by decide) (backCW (W := 0) (rm_ch l Z a0 hw [] i1 z fm h0 n0 Z0 O0 S0 hz S4 hfm) hZ (hw _ (List.mem_of_getElem? (i := 3) rfl)) (hw _ (List.mem_of_getElem? (i := 2) rfl)) (by decide) (by decide) (own_EW hw) R0.1) (g := (mkF m 7 #[.val (.int i0), .val (.int i1), .val (.int i2), .val (.int i3), .val (.int i4), .val (.int (i0 &&& (7 : Int32))), .unset, .unset, .unset, .unset, .unset, .unset, .unset, .unset, .unset] [(.int i1)])) rfl (by rw [hml]; rfl) (argsL := [(.int i1)]) (rest := []) (lenOf pd_42 rfl) rfl (by show 2 * 0 + _ ≤ _; exact Nat.le_of_eq rfl) (hb hby at_7) (fun _ _ => ⟨rfl, e0, (by decide : 0 + 2 ≤ _), (by decide : 0 + 24 ≤ _)⟩)
  dsimp only [Pt.U, Pt.locs, Pt.cells, Pt.slots] at Xq2 hSq2 gq2 rq2 l2 y2 z2 st2 hQ2
  subst l2 y2 z2
  obtain ⟨X2, hS, hZ, hown⟩ := rebS hS (Nat.le_trans hk (Nat.le_of_eq (congrArg Array.size (e0 : s₁.heap = h0).symm))) Xq2 hSq2 gq2 hZ hown
  obtain ⟨c2, rfl, N2q, K2q, b2q⟩ := hQ2
  have N2 := Fr.app N0 N2q
  have r3 : CHr Z own_EL s.vm h0 T2.vm T2.heap := rq2
  have R3 : CHr Z own_EL s.vm h0 T2.vm T2.heap := R0.trans r3
  have Z3 : n0 ≤ T2.heap.size := Nat.le_trans Z0 K2q.1
  have O3 : Old Z n0 T2.heap := O0.keep K2q all0
  have K3 : Keep h0 T2.heap [] := K0.trans K2q all0
  refine gsW (fun _ k => st2.trans k) ?_
  show OwnGoW p e below s Z own_EL _ _ _ (T2.setTop (mkF m 10 #[.val (.int i0), .val (.int i1), .val (.int i2), .val (.int i3), .val (.int i4), .val (.int (i0 &&& (7 : Int32))), .unset, .unset, .unset, .unset, .unset, .unset, .unset, .unset, .unset] [(.int c2)]))
  have c4 : ∀ tg, Steps p.tables e below (T2.setTop (mkF m 16 #[.val (.int i0), .val (.int i1), .val (.int i2), .val (.int i3), .val (.int i4), .val (.int (i0 &&& (7 : Int32))), .val (.int c2), .unset, .unset, .unset, .unset, .unset, .unset, .unset, .unset] [(.int ((i1.toUInt32 >>> ((16 : Int32) &&& 31).toUInt32).toInt32))])) tg → Steps p.tables e below (T2.setTop (mkF m 10 #[.val (.int i0), .val (.int i1), .val (.int i2), .val (.int i3), .val (.int i4), .val (.int (i0 &&& (7 : Int32))), .unset, .unset, .unset, .unset, .unset, .unset, .unset, .unset, .unset] [(.int c2)])) tg := fun tg kg => by
    refine XS.istore X2.here hx rfl (hb hby at_10) rfl (l' := #[.val (.int i0), .val (.int i1), .val (.int i2), .val (.int i3), .val (.int i4), .val (.int (i0 &&& (7 : Int32))), .val (.int c2), .unset, .unset, .unset, .unset, .unset, .unset, .unset, .unset]) rfl ?_
    show Steps p.tables e below (T2.setTop (mkF m 12 #[.val (.int i0), .val (.int i1), .val (.int i2), .val (.int i3), .val (.int i4), .val (.int (i0 &&& (7 : Int32))), .val (.int c2), .unset, .unset, .unset, .unset, .unset, .unset, .unset, .unset] [])) tg
    refine XS.iloadN X2.here hx rfl (hb hby at_12) rfl ?_
    show Steps p.tables e below (T2.setTop (mkF m 13 #[.val (.int i0), .val (.int i1), .val (.int i2), .val (.int i3), .val (.int i4), .val (.int (i0 &&& (7 : Int32))), .val (.int c2), .unset, .unset, .unset, .unset, .unset, .unset, .unset, .unset] [(.int i1)])) tg
    refine XS.bipush X2.here hx rfl (hb hby at_13) ?_
    show Steps p.tables e below (T2.setTop (mkF m 15 #[.val (.int i0), .val (.int i1), .val (.int i2), .val (.int i3), .val (.int i4), .val (.int (i0 &&& (7 : Int32))), .val (.int c2), .unset, .unset, .unset, .unset, .unset, .unset, .unset, .unset] [(.int (16 : Int32)), (.int i1)])) tg
    refine XS.iushr X2.here hx rfl (hb hby at_15) rfl ?_
    show Steps p.tables e below (T2.setTop (mkF m 16 #[.val (.int i0), .val (.int i1), .val (.int i2), .val (.int i3), .val (.int i4), .val (.int (i0 &&& (7 : Int32))), .val (.int c2), .unset, .unset, .unset, .unset, .unset, .unset, .unset, .unset] [(.int ((i1.toUInt32 >>> ((16 : Int32) &&& 31).toUInt32).toInt32))])) tg
    exact kg
  refine gsW c4 ?_
  obtain ⟨_, _, ⟨T5, L5, k5, n5⟩, -, Xq5, hSq5, gq5, ⟨Lc5, hQ5, l5, y5, z5, rq5⟩, st5⟩ := callSS X2 hx (y := (⟨"com/example/caddisfly/caddisfly/SyntaxIsHelpPinLaw", "ch", "(I)C"⟩ : MethodName)) hown (mvT hZ (hw _ (List.mem_of_getElem? (i := 0) rfl))) (mvT hZ (hw _ (List.mem_of_getElem? (i := 1) rfl))) (mvT hZ (hw _ (List.mem_of_getElem? (i := 2) rfl))) (mvT hZ (hw _ (List.mem_of_getElem? (i := 3) rfl))) (by decide) (backCW (W := 0) (rm_ch l Z a0 hw [] ((i1.toUInt32 >>> ((16 : Int32) &&& 31).toUInt32).toInt32) z fm T2.heap n0 Z3 O3 S0 hz S4 hfm) hZ (hw _ (List.mem_of_getElem? (i := 3) rfl)) (hw _ (List.mem_of_getElem? (i := 2) rfl)) (by decide) (by decide) (own_EW hw) R3.1) (g := (mkF m 16 #[.val (.int i0), .val (.int i1), .val (.int i2), .val (.int i3), .val (.int i4), .val (.int (i0 &&& (7 : Int32))), .val (.int c2), .unset, .unset, .unset, .unset, .unset, .unset, .unset, .unset] [(.int ((i1.toUInt32 >>> ((16 : Int32) &&& 31).toUInt32).toInt32))])) rfl (by rw [hml]; rfl) (argsL := [(.int ((i1.toUInt32 >>> ((16 : Int32) &&& 31).toUInt32).toInt32))]) (rest := []) (lenOf pd_42 rfl) rfl (by show 2 * 0 + _ ≤ _; exact Nat.le_of_eq rfl) (hb hby at_16) (fun _ _ => ⟨rfl, rfl, (by decide : 2 + 2 ≤ _), (by decide : 24 + 24 ≤ _)⟩)
  dsimp only [Pt.U, Pt.locs, Pt.cells, Pt.slots] at Xq5 hSq5 gq5 rq5 l5 y5 z5 st5 hQ5
  subst l5 y5 z5
  obtain ⟨X5, hS, hZ, hown⟩ := rebS hS (Nat.le_trans (Nat.le_refl T2.heap.size) (Nat.le_of_eq (congrArg Array.size (rfl : T2.heap = T2.heap).symm))) Xq5 hSq5 gq5 hZ hown
  obtain ⟨c5, rfl, N5q, K5q, b5q⟩ := hQ5
  have N5 := Fr.app N2 N5q
  have r6 : CHr Z own_EL T2.vm T2.heap T5.vm T5.heap := rq5
  have R6 : CHr Z own_EL s.vm h0 T5.vm T5.heap := R3.trans r6
  have Z6 : n0 ≤ T5.heap.size := Nat.le_trans Z3 K5q.1
  have O6 : Old Z n0 T5.heap := O3.keep K5q all0
  have K6 : Keep h0 T5.heap [] := K3.trans K5q all0
  refine gsW (fun _ k => st5.trans k) ?_
  show OwnGoW p e below s Z own_EL _ _ _ (T5.setTop (mkF m 19 #[.val (.int i0), .val (.int i1), .val (.int i2), .val (.int i3), .val (.int i4), .val (.int (i0 &&& (7 : Int32))), .val (.int c2), .unset, .unset, .unset, .unset, .unset, .unset, .unset, .unset] [(.int c5)]))
  have c7 : ∀ tg, Steps p.tables e below (T5.setTop (mkF m 22 #[.val (.int i0), .val (.int i1), .val (.int i2), .val (.int i3), .val (.int i4), .val (.int (i0 &&& (7 : Int32))), .val (.int c2), .val (.int c5), .unset, .unset, .unset, .unset, .unset, .unset, .unset] [(.int i2)])) tg → Steps p.tables e below (T5.setTop (mkF m 19 #[.val (.int i0), .val (.int i1), .val (.int i2), .val (.int i3), .val (.int i4), .val (.int (i0 &&& (7 : Int32))), .val (.int c2), .unset, .unset, .unset, .unset, .unset, .unset, .unset, .unset] [(.int c5)])) tg := fun tg kg => by
    refine XS.istore X5.here hx rfl (hb hby at_19) rfl (l' := #[.val (.int i0), .val (.int i1), .val (.int i2), .val (.int i3), .val (.int i4), .val (.int (i0 &&& (7 : Int32))), .val (.int c2), .val (.int c5), .unset, .unset, .unset, .unset, .unset, .unset, .unset]) rfl ?_
    show Steps p.tables e below (T5.setTop (mkF m 21 #[.val (.int i0), .val (.int i1), .val (.int i2), .val (.int i3), .val (.int i4), .val (.int (i0 &&& (7 : Int32))), .val (.int c2), .val (.int c5), .unset, .unset, .unset, .unset, .unset, .unset, .unset] [])) tg
    refine XS.iloadN X5.here hx rfl (hb hby at_21) rfl ?_
    show Steps p.tables e below (T5.setTop (mkF m 22 #[.val (.int i0), .val (.int i1), .val (.int i2), .val (.int i3), .val (.int i4), .val (.int (i0 &&& (7 : Int32))), .val (.int c2), .val (.int c5), .unset, .unset, .unset, .unset, .unset, .unset, .unset] [(.int i2)])) tg
    exact kg
  refine gsW c7 ?_
  obtain ⟨_, _, ⟨T8, L8, k8, n8⟩, -, Xq8, hSq8, gq8, ⟨Lc8, hQ8, l8, y8, z8, rq8⟩, st8⟩ := callSS X5 hx (y := (⟨"com/example/caddisfly/caddisfly/SyntaxIsHelpPinLaw", "ch", "(I)C"⟩ : MethodName)) hown (mvT hZ (hw _ (List.mem_of_getElem? (i := 0) rfl))) (mvT hZ (hw _ (List.mem_of_getElem? (i := 1) rfl))) (mvT hZ (hw _ (List.mem_of_getElem? (i := 2) rfl))) (mvT hZ (hw _ (List.mem_of_getElem? (i := 3) rfl))) (by decide) (backCW (W := 0) (rm_ch l Z a0 hw [] i2 z fm T5.heap n0 Z6 O6 S0 hz S4 hfm) hZ (hw _ (List.mem_of_getElem? (i := 3) rfl)) (hw _ (List.mem_of_getElem? (i := 2) rfl)) (by decide) (by decide) (own_EW hw) R6.1) (g := (mkF m 22 #[.val (.int i0), .val (.int i1), .val (.int i2), .val (.int i3), .val (.int i4), .val (.int (i0 &&& (7 : Int32))), .val (.int c2), .val (.int c5), .unset, .unset, .unset, .unset, .unset, .unset, .unset] [(.int i2)])) rfl (by rw [hml]; rfl) (argsL := [(.int i2)]) (rest := []) (lenOf pd_42 rfl) rfl (by show 2 * 0 + _ ≤ _; exact Nat.le_of_eq rfl) (hb hby at_22) (fun _ _ => ⟨rfl, rfl, (by decide : 4 + 2 ≤ _), (by decide : 48 + 24 ≤ _)⟩)
  dsimp only [Pt.U, Pt.locs, Pt.cells, Pt.slots] at Xq8 hSq8 gq8 rq8 l8 y8 z8 st8 hQ8
  subst l8 y8 z8
  obtain ⟨X8, hS, hZ, hown⟩ := rebS hS (Nat.le_trans (Nat.le_refl T5.heap.size) (Nat.le_of_eq (congrArg Array.size (rfl : T5.heap = T5.heap).symm))) Xq8 hSq8 gq8 hZ hown
  obtain ⟨c8, rfl, N8q, K8q, b8q⟩ := hQ8
  have N8 := Fr.app N5 N8q
  have r9 : CHr Z own_EL T5.vm T5.heap T8.vm T8.heap := rq8
  have R9 : CHr Z own_EL s.vm h0 T8.vm T8.heap := R6.trans r9
  have Z9 : n0 ≤ T8.heap.size := Nat.le_trans Z6 K8q.1
  have O9 : Old Z n0 T8.heap := O6.keep K8q all0
  have K9 : Keep h0 T8.heap [] := K6.trans K8q all0
  refine gsW (fun _ k => st8.trans k) ?_
  show OwnGoW p e below s Z own_EL _ _ _ (T8.setTop (mkF m 25 #[.val (.int i0), .val (.int i1), .val (.int i2), .val (.int i3), .val (.int i4), .val (.int (i0 &&& (7 : Int32))), .val (.int c2), .val (.int c5), .unset, .unset, .unset, .unset, .unset, .unset, .unset] [(.int c8)]))
  have c10 : ∀ tg, Steps p.tables e below (T8.setTop (mkF m 31 #[.val (.int i0), .val (.int i1), .val (.int i2), .val (.int i3), .val (.int i4), .val (.int (i0 &&& (7 : Int32))), .val (.int c2), .val (.int c5), .val (.int c8), .unset, .unset, .unset, .unset, .unset, .unset] [(.int ((i2.toUInt32 >>> ((16 : Int32) &&& 31).toUInt32).toInt32))])) tg → Steps p.tables e below (T8.setTop (mkF m 25 #[.val (.int i0), .val (.int i1), .val (.int i2), .val (.int i3), .val (.int i4), .val (.int (i0 &&& (7 : Int32))), .val (.int c2), .val (.int c5), .unset, .unset, .unset, .unset, .unset, .unset, .unset] [(.int c8)])) tg := fun tg kg => by
    refine XS.istore X8.here hx rfl (hb hby at_25) rfl (l' := #[.val (.int i0), .val (.int i1), .val (.int i2), .val (.int i3), .val (.int i4), .val (.int (i0 &&& (7 : Int32))), .val (.int c2), .val (.int c5), .val (.int c8), .unset, .unset, .unset, .unset, .unset, .unset]) rfl ?_
    show Steps p.tables e below (T8.setTop (mkF m 27 #[.val (.int i0), .val (.int i1), .val (.int i2), .val (.int i3), .val (.int i4), .val (.int (i0 &&& (7 : Int32))), .val (.int c2), .val (.int c5), .val (.int c8), .unset, .unset, .unset, .unset, .unset, .unset] [])) tg
    refine XS.iloadN X8.here hx rfl (hb hby at_27) rfl ?_
    show Steps p.tables e below (T8.setTop (mkF m 28 #[.val (.int i0), .val (.int i1), .val (.int i2), .val (.int i3), .val (.int i4), .val (.int (i0 &&& (7 : Int32))), .val (.int c2), .val (.int c5), .val (.int c8), .unset, .unset, .unset, .unset, .unset, .unset] [(.int i2)])) tg
    refine XS.bipush X8.here hx rfl (hb hby at_28) ?_
    show Steps p.tables e below (T8.setTop (mkF m 30 #[.val (.int i0), .val (.int i1), .val (.int i2), .val (.int i3), .val (.int i4), .val (.int (i0 &&& (7 : Int32))), .val (.int c2), .val (.int c5), .val (.int c8), .unset, .unset, .unset, .unset, .unset, .unset] [(.int (16 : Int32)), (.int i2)])) tg
    refine XS.iushr X8.here hx rfl (hb hby at_30) rfl ?_
    show Steps p.tables e below (T8.setTop (mkF m 31 #[.val (.int i0), .val (.int i1), .val (.int i2), .val (.int i3), .val (.int i4), .val (.int (i0 &&& (7 : Int32))), .val (.int c2), .val (.int c5), .val (.int c8), .unset, .unset, .unset, .unset, .unset, .unset] [(.int ((i2.toUInt32 >>> ((16 : Int32) &&& 31).toUInt32).toInt32))])) tg
    exact kg
  refine gsW c10 ?_
  obtain ⟨_, _, ⟨T11, L11, k11, n11⟩, -, Xq11, hSq11, gq11, ⟨Lc11, hQ11, l11, y11, z11, rq11⟩, st11⟩ := callSS X8 hx (y := (⟨"com/example/caddisfly/caddisfly/SyntaxIsHelpPinLaw", "ch", "(I)C"⟩ : MethodName)) hown (mvT hZ (hw _ (List.mem_of_getElem? (i := 0) rfl))) (mvT hZ (hw _ (List.mem_of_getElem? (i := 1) rfl))) (mvT hZ (hw _ (List.mem_of_getElem? (i := 2) rfl))) (mvT hZ (hw _ (List.mem_of_getElem? (i := 3) rfl))) (by decide) (backCW (W := 0) (rm_ch l Z a0 hw [] ((i2.toUInt32 >>> ((16 : Int32) &&& 31).toUInt32).toInt32) z fm T8.heap n0 Z9 O9 S0 hz S4 hfm) hZ (hw _ (List.mem_of_getElem? (i := 3) rfl)) (hw _ (List.mem_of_getElem? (i := 2) rfl)) (by decide) (by decide) (own_EW hw) R9.1) (g := (mkF m 31 #[.val (.int i0), .val (.int i1), .val (.int i2), .val (.int i3), .val (.int i4), .val (.int (i0 &&& (7 : Int32))), .val (.int c2), .val (.int c5), .val (.int c8), .unset, .unset, .unset, .unset, .unset, .unset] [(.int ((i2.toUInt32 >>> ((16 : Int32) &&& 31).toUInt32).toInt32))])) rfl (by rw [hml]; rfl) (argsL := [(.int ((i2.toUInt32 >>> ((16 : Int32) &&& 31).toUInt32).toInt32))]) (rest := []) (lenOf pd_42 rfl) rfl (by show 2 * 0 + _ ≤ _; exact Nat.le_of_eq rfl) (hb hby at_31) (fun _ _ => ⟨rfl, rfl, (by decide : 6 + 2 ≤ _), (by decide : 72 + 24 ≤ _)⟩)
  dsimp only [Pt.U, Pt.locs, Pt.cells, Pt.slots] at Xq11 hSq11 gq11 rq11 l11 y11 z11 st11 hQ11
  subst l11 y11 z11
  obtain ⟨X11, hS, hZ, hown⟩ := rebS hS (Nat.le_trans (Nat.le_refl T8.heap.size) (Nat.le_of_eq (congrArg Array.size (rfl : T8.heap = T8.heap).symm))) Xq11 hSq11 gq11 hZ hown
  obtain ⟨c11, rfl, N11q, K11q, b11q⟩ := hQ11
  have N11 := Fr.app N8 N11q
  have r12 : CHr Z own_EL T8.vm T8.heap T11.vm T11.heap := rq11
  have R12 : CHr Z own_EL s.vm h0 T11.vm T11.heap := R9.trans r12
  have Z12 : n0 ≤ T11.heap.size := Nat.le_trans Z9 K11q.1
  have O12 : Old Z n0 T11.heap := O9.keep K11q all0
  have K12 : Keep h0 T11.heap [] := K9.trans K11q all0
  refine gsW (fun _ k => st11.trans k) ?_
  show OwnGoW p e below s Z own_EL _ _ _ (T11.setTop (mkF m 34 #[.val (.int i0), .val (.int i1), .val (.int i2), .val (.int i3), .val (.int i4), .val (.int (i0 &&& (7 : Int32))), .val (.int c2), .val (.int c5), .val (.int c8), .unset, .unset, .unset, .unset, .unset, .unset] [(.int c11)]))
  have c13 : ∀ tg, Steps p.tables e below (T11.setTop (mkF m 37 #[.val (.int i0), .val (.int i1), .val (.int i2), .val (.int i3), .val (.int i4), .val (.int (i0 &&& (7 : Int32))), .val (.int c2), .val (.int c5), .val (.int c8), .val (.int c11), .unset, .unset, .unset, .unset, .unset] [(.int i3)])) tg → Steps p.tables e below (T11.setTop (mkF m 34 #[.val (.int i0), .val (.int i1), .val (.int i2), .val (.int i3), .val (.int i4), .val (.int (i0 &&& (7 : Int32))), .val (.int c2), .val (.int c5), .val (.int c8), .unset, .unset, .unset, .unset, .unset, .unset] [(.int c11)])) tg := fun tg kg => by
    refine XS.istore X11.here hx rfl (hb hby at_34) rfl (l' := #[.val (.int i0), .val (.int i1), .val (.int i2), .val (.int i3), .val (.int i4), .val (.int (i0 &&& (7 : Int32))), .val (.int c2), .val (.int c5), .val (.int c8), .val (.int c11), .unset, .unset, .unset, .unset, .unset]) rfl ?_
    show Steps p.tables e below (T11.setTop (mkF m 36 #[.val (.int i0), .val (.int i1), .val (.int i2), .val (.int i3), .val (.int i4), .val (.int (i0 &&& (7 : Int32))), .val (.int c2), .val (.int c5), .val (.int c8), .val (.int c11), .unset, .unset, .unset, .unset, .unset] [])) tg
    refine XS.iloadN X11.here hx rfl (hb hby at_36) rfl ?_
    show Steps p.tables e below (T11.setTop (mkF m 37 #[.val (.int i0), .val (.int i1), .val (.int i2), .val (.int i3), .val (.int i4), .val (.int (i0 &&& (7 : Int32))), .val (.int c2), .val (.int c5), .val (.int c8), .val (.int c11), .unset, .unset, .unset, .unset, .unset] [(.int i3)])) tg
    exact kg
  refine gsW c13 ?_
  obtain ⟨_, _, ⟨T14, L14, k14, n14⟩, -, Xq14, hSq14, gq14, ⟨Lc14, hQ14, l14, y14, z14, rq14⟩, st14⟩ := callSS X11 hx (y := (⟨"com/example/caddisfly/caddisfly/SyntaxIsHelpPinLaw", "ch", "(I)C"⟩ : MethodName)) hown (mvT hZ (hw _ (List.mem_of_getElem? (i := 0) rfl))) (mvT hZ (hw _ (List.mem_of_getElem? (i := 1) rfl))) (mvT hZ (hw _ (List.mem_of_getElem? (i := 2) rfl))) (mvT hZ (hw _ (List.mem_of_getElem? (i := 3) rfl))) (by decide) (backCW (W := 0) (rm_ch l Z a0 hw [] i3 z fm T11.heap n0 Z12 O12 S0 hz S4 hfm) hZ (hw _ (List.mem_of_getElem? (i := 3) rfl)) (hw _ (List.mem_of_getElem? (i := 2) rfl)) (by decide) (by decide) (own_EW hw) R12.1) (g := (mkF m 37 #[.val (.int i0), .val (.int i1), .val (.int i2), .val (.int i3), .val (.int i4), .val (.int (i0 &&& (7 : Int32))), .val (.int c2), .val (.int c5), .val (.int c8), .val (.int c11), .unset, .unset, .unset, .unset, .unset] [(.int i3)])) rfl (by rw [hml]; rfl) (argsL := [(.int i3)]) (rest := []) (lenOf pd_42 rfl) rfl (by show 2 * 0 + _ ≤ _; exact Nat.le_of_eq rfl) (hb hby at_37) (fun _ _ => ⟨rfl, rfl, (by decide : 8 + 2 ≤ _), (by decide : 96 + 24 ≤ _)⟩)
  dsimp only [Pt.U, Pt.locs, Pt.cells, Pt.slots] at Xq14 hSq14 gq14 rq14 l14 y14 z14 st14 hQ14
  subst l14 y14 z14
  obtain ⟨X14, hS, hZ, hown⟩ := rebS hS (Nat.le_trans (Nat.le_refl T11.heap.size) (Nat.le_of_eq (congrArg Array.size (rfl : T11.heap = T11.heap).symm))) Xq14 hSq14 gq14 hZ hown
  obtain ⟨c14, rfl, N14q, K14q, b14q⟩ := hQ14
  have N14 := Fr.app N11 N14q
  have r15 : CHr Z own_EL T11.vm T11.heap T14.vm T14.heap := rq14
  have R15 : CHr Z own_EL s.vm h0 T14.vm T14.heap := R12.trans r15
  have Z15 : n0 ≤ T14.heap.size := Nat.le_trans Z12 K14q.1
  have O15 : Old Z n0 T14.heap := O12.keep K14q all0
  have K15 : Keep h0 T14.heap [] := K12.trans K14q all0
  refine gsW (fun _ k => st14.trans k) ?_
  show OwnGoW p e below s Z own_EL _ _ _ (T14.setTop (mkF m 40 #[.val (.int i0), .val (.int i1), .val (.int i2), .val (.int i3), .val (.int i4), .val (.int (i0 &&& (7 : Int32))), .val (.int c2), .val (.int c5), .val (.int c8), .val (.int c11), .unset, .unset, .unset, .unset, .unset] [(.int c14)]))
  have c16 : ∀ tg, Steps p.tables e below (T14.setTop (mkF m 46 #[.val (.int i0), .val (.int i1), .val (.int i2), .val (.int i3), .val (.int i4), .val (.int (i0 &&& (7 : Int32))), .val (.int c2), .val (.int c5), .val (.int c8), .val (.int c11), .val (.int c14), .unset, .unset, .unset, .unset] [(.int ((i3.toUInt32 >>> ((16 : Int32) &&& 31).toUInt32).toInt32))])) tg → Steps p.tables e below (T14.setTop (mkF m 40 #[.val (.int i0), .val (.int i1), .val (.int i2), .val (.int i3), .val (.int i4), .val (.int (i0 &&& (7 : Int32))), .val (.int c2), .val (.int c5), .val (.int c8), .val (.int c11), .unset, .unset, .unset, .unset, .unset] [(.int c14)])) tg := fun tg kg => by
    refine XS.istore X14.here hx rfl (hb hby at_40) rfl (l' := #[.val (.int i0), .val (.int i1), .val (.int i2), .val (.int i3), .val (.int i4), .val (.int (i0 &&& (7 : Int32))), .val (.int c2), .val (.int c5), .val (.int c8), .val (.int c11), .val (.int c14), .unset, .unset, .unset, .unset]) rfl ?_
    show Steps p.tables e below (T14.setTop (mkF m 42 #[.val (.int i0), .val (.int i1), .val (.int i2), .val (.int i3), .val (.int i4), .val (.int (i0 &&& (7 : Int32))), .val (.int c2), .val (.int c5), .val (.int c8), .val (.int c11), .val (.int c14), .unset, .unset, .unset, .unset] [])) tg
    refine XS.iloadN X14.here hx rfl (hb hby at_42) rfl ?_
    show Steps p.tables e below (T14.setTop (mkF m 43 #[.val (.int i0), .val (.int i1), .val (.int i2), .val (.int i3), .val (.int i4), .val (.int (i0 &&& (7 : Int32))), .val (.int c2), .val (.int c5), .val (.int c8), .val (.int c11), .val (.int c14), .unset, .unset, .unset, .unset] [(.int i3)])) tg
    refine XS.bipush X14.here hx rfl (hb hby at_43) ?_
    show Steps p.tables e below (T14.setTop (mkF m 45 #[.val (.int i0), .val (.int i1), .val (.int i2), .val (.int i3), .val (.int i4), .val (.int (i0 &&& (7 : Int32))), .val (.int c2), .val (.int c5), .val (.int c8), .val (.int c11), .val (.int c14), .unset, .unset, .unset, .unset] [(.int (16 : Int32)), (.int i3)])) tg
    refine XS.iushr X14.here hx rfl (hb hby at_45) rfl ?_
    show Steps p.tables e below (T14.setTop (mkF m 46 #[.val (.int i0), .val (.int i1), .val (.int i2), .val (.int i3), .val (.int i4), .val (.int (i0 &&& (7 : Int32))), .val (.int c2), .val (.int c5), .val (.int c8), .val (.int c11), .val (.int c14), .unset, .unset, .unset, .unset] [(.int ((i3.toUInt32 >>> ((16 : Int32) &&& 31).toUInt32).toInt32))])) tg
    exact kg
  refine gsW c16 ?_
  obtain ⟨_, _, ⟨T17, L17, k17, n17⟩, -, Xq17, hSq17, gq17, ⟨Lc17, hQ17, l17, y17, z17, rq17⟩, st17⟩ := callSS X14 hx (y := (⟨"com/example/caddisfly/caddisfly/SyntaxIsHelpPinLaw", "ch", "(I)C"⟩ : MethodName)) hown (mvT hZ (hw _ (List.mem_of_getElem? (i := 0) rfl))) (mvT hZ (hw _ (List.mem_of_getElem? (i := 1) rfl))) (mvT hZ (hw _ (List.mem_of_getElem? (i := 2) rfl))) (mvT hZ (hw _ (List.mem_of_getElem? (i := 3) rfl))) (by decide) (backCW (W := 0) (rm_ch l Z a0 hw [] ((i3.toUInt32 >>> ((16 : Int32) &&& 31).toUInt32).toInt32) z fm T14.heap n0 Z15 O15 S0 hz S4 hfm) hZ (hw _ (List.mem_of_getElem? (i := 3) rfl)) (hw _ (List.mem_of_getElem? (i := 2) rfl)) (by decide) (by decide) (own_EW hw) R15.1) (g := (mkF m 46 #[.val (.int i0), .val (.int i1), .val (.int i2), .val (.int i3), .val (.int i4), .val (.int (i0 &&& (7 : Int32))), .val (.int c2), .val (.int c5), .val (.int c8), .val (.int c11), .val (.int c14), .unset, .unset, .unset, .unset] [(.int ((i3.toUInt32 >>> ((16 : Int32) &&& 31).toUInt32).toInt32))])) rfl (by rw [hml]; rfl) (argsL := [(.int ((i3.toUInt32 >>> ((16 : Int32) &&& 31).toUInt32).toInt32))]) (rest := []) (lenOf pd_42 rfl) rfl (by show 2 * 0 + _ ≤ _; exact Nat.le_of_eq rfl) (hb hby at_46) (fun _ _ => ⟨rfl, rfl, (by decide : 10 + 2 ≤ _), (by decide : 120 + 24 ≤ _)⟩)
  dsimp only [Pt.U, Pt.locs, Pt.cells, Pt.slots] at Xq17 hSq17 gq17 rq17 l17 y17 z17 st17 hQ17
  subst l17 y17 z17
  obtain ⟨X17, hS, hZ, hown⟩ := rebS hS (Nat.le_trans (Nat.le_refl T14.heap.size) (Nat.le_of_eq (congrArg Array.size (rfl : T14.heap = T14.heap).symm))) Xq17 hSq17 gq17 hZ hown
  obtain ⟨c17, rfl, N17q, K17q, b17q⟩ := hQ17
  have N17 := Fr.app N14 N17q
  have r18 : CHr Z own_EL T14.vm T14.heap T17.vm T17.heap := rq17
  have R18 : CHr Z own_EL s.vm h0 T17.vm T17.heap := R15.trans r18
  have Z18 : n0 ≤ T17.heap.size := Nat.le_trans Z15 K17q.1
  have O18 : Old Z n0 T17.heap := O15.keep K17q all0
  have K18 : Keep h0 T17.heap [] := K15.trans K17q all0
  refine gsW (fun _ k => st17.trans k) ?_
  show OwnGoW p e below s Z own_EL _ _ _ (T17.setTop (mkF m 49 #[.val (.int i0), .val (.int i1), .val (.int i2), .val (.int i3), .val (.int i4), .val (.int (i0 &&& (7 : Int32))), .val (.int c2), .val (.int c5), .val (.int c8), .val (.int c11), .val (.int c14), .unset, .unset, .unset, .unset] [(.int c17)]))
  have c19 : ∀ tg, Steps p.tables e below (T17.setTop (mkF m 53 #[.val (.int i0), .val (.int i1), .val (.int i2), .val (.int i3), .val (.int i4), .val (.int (i0 &&& (7 : Int32))), .val (.int c2), .val (.int c5), .val (.int c8), .val (.int c11), .val (.int c14), .val (.int c17), .unset, .unset, .unset] [(.int i4)])) tg → Steps p.tables e below (T17.setTop (mkF m 49 #[.val (.int i0), .val (.int i1), .val (.int i2), .val (.int i3), .val (.int i4), .val (.int (i0 &&& (7 : Int32))), .val (.int c2), .val (.int c5), .val (.int c8), .val (.int c11), .val (.int c14), .unset, .unset, .unset, .unset] [(.int c17)])) tg := fun tg kg => by
    refine XS.istore X17.here hx rfl (hb hby at_49) rfl (l' := #[.val (.int i0), .val (.int i1), .val (.int i2), .val (.int i3), .val (.int i4), .val (.int (i0 &&& (7 : Int32))), .val (.int c2), .val (.int c5), .val (.int c8), .val (.int c11), .val (.int c14), .val (.int c17), .unset, .unset, .unset]) rfl ?_
    show Steps p.tables e below (T17.setTop (mkF m 51 #[.val (.int i0), .val (.int i1), .val (.int i2), .val (.int i3), .val (.int i4), .val (.int (i0 &&& (7 : Int32))), .val (.int c2), .val (.int c5), .val (.int c8), .val (.int c11), .val (.int c14), .val (.int c17), .unset, .unset, .unset] [])) tg
    refine XS.iload X17.here hx rfl (hb hby at_51) rfl ?_
    show Steps p.tables e below (T17.setTop (mkF m 53 #[.val (.int i0), .val (.int i1), .val (.int i2), .val (.int i3), .val (.int i4), .val (.int (i0 &&& (7 : Int32))), .val (.int c2), .val (.int c5), .val (.int c8), .val (.int c11), .val (.int c14), .val (.int c17), .unset, .unset, .unset] [(.int i4)])) tg
    exact kg
  refine gsW c19 ?_
  obtain ⟨_, _, ⟨T20, L20, k20, n20⟩, -, Xq20, hSq20, gq20, ⟨Lc20, hQ20, l20, y20, z20, rq20⟩, st20⟩ := callSS X17 hx (y := (⟨"com/example/caddisfly/caddisfly/SyntaxIsHelpPinLaw", "ch", "(I)C"⟩ : MethodName)) hown (mvT hZ (hw _ (List.mem_of_getElem? (i := 0) rfl))) (mvT hZ (hw _ (List.mem_of_getElem? (i := 1) rfl))) (mvT hZ (hw _ (List.mem_of_getElem? (i := 2) rfl))) (mvT hZ (hw _ (List.mem_of_getElem? (i := 3) rfl))) (by decide) (backCW (W := 0) (rm_ch l Z a0 hw [] i4 z fm T17.heap n0 Z18 O18 S0 hz S4 hfm) hZ (hw _ (List.mem_of_getElem? (i := 3) rfl)) (hw _ (List.mem_of_getElem? (i := 2) rfl)) (by decide) (by decide) (own_EW hw) R18.1) (g := (mkF m 53 #[.val (.int i0), .val (.int i1), .val (.int i2), .val (.int i3), .val (.int i4), .val (.int (i0 &&& (7 : Int32))), .val (.int c2), .val (.int c5), .val (.int c8), .val (.int c11), .val (.int c14), .val (.int c17), .unset, .unset, .unset] [(.int i4)])) rfl (by rw [hml]; rfl) (argsL := [(.int i4)]) (rest := []) (lenOf pd_42 rfl) rfl (by show 2 * 0 + _ ≤ _; exact Nat.le_of_eq rfl) (hb hby at_53) (fun _ _ => ⟨rfl, rfl, (by decide : 12 + 2 ≤ _), (by decide : 144 + 24 ≤ _)⟩)
  dsimp only [Pt.U, Pt.locs, Pt.cells, Pt.slots] at Xq20 hSq20 gq20 rq20 l20 y20 z20 st20 hQ20
  subst l20 y20 z20
  obtain ⟨X20, hS, hZ, hown⟩ := rebS hS (Nat.le_trans (Nat.le_refl T17.heap.size) (Nat.le_of_eq (congrArg Array.size (rfl : T17.heap = T17.heap).symm))) Xq20 hSq20 gq20 hZ hown
  obtain ⟨c20, rfl, N20q, K20q, b20q⟩ := hQ20
  have N20 := Fr.app N17 N20q
  have r21 : CHr Z own_EL T17.vm T17.heap T20.vm T20.heap := rq20
  have R21 : CHr Z own_EL s.vm h0 T20.vm T20.heap := R18.trans r21
  have Z21 : n0 ≤ T20.heap.size := Nat.le_trans Z18 K20q.1
  have O21 : Old Z n0 T20.heap := O18.keep K20q all0
  have K21 : Keep h0 T20.heap [] := K18.trans K20q all0
  refine gsW (fun _ k => st20.trans k) ?_
  show OwnGoW p e below s Z own_EL _ _ _ (T20.setTop (mkF m 56 #[.val (.int i0), .val (.int i1), .val (.int i2), .val (.int i3), .val (.int i4), .val (.int (i0 &&& (7 : Int32))), .val (.int c2), .val (.int c5), .val (.int c8), .val (.int c11), .val (.int c14), .val (.int c17), .unset, .unset, .unset] [(.int c20)]))
  have c22 : ∀ tg, Steps p.tables e below (T20.setTop (mkF m 74 #[.val (.int i0), .val (.int i1), .val (.int i2), .val (.int i3), .val (.int i4), .val (.int (i0 &&& (7 : Int32))), .val (.int c2), .val (.int c5), .val (.int c8), .val (.int c11), .val (.int c14), .val (.int c17), .val (.int c20), .unset, .unset] [(.int c20), (.int c17), (.int c14), (.int c11), (.int c8), (.int c5), (.int c2), (.int (i0 &&& (7 : Int32)))])) tg → Steps p.tables e below (T20.setTop (mkF m 56 #[.val (.int i0), .val (.int i1), .val (.int i2), .val (.int i3), .val (.int i4), .val (.int (i0 &&& (7 : Int32))), .val (.int c2), .val (.int c5), .val (.int c8), .val (.int c11), .val (.int c14), .val (.int c17), .unset, .unset, .unset] [(.int c20)])) tg := fun tg kg => by
    refine XS.istore X20.here hx rfl (hb hby at_56) rfl (l' := #[.val (.int i0), .val (.int i1), .val (.int i2), .val (.int i3), .val (.int i4), .val (.int (i0 &&& (7 : Int32))), .val (.int c2), .val (.int c5), .val (.int c8), .val (.int c11), .val (.int c14), .val (.int c17), .val (.int c20), .unset, .unset]) rfl ?_
    show Steps p.tables e below (T20.setTop (mkF m 58 #[.val (.int i0), .val (.int i1), .val (.int i2), .val (.int i3), .val (.int i4), .val (.int (i0 &&& (7 : Int32))), .val (.int c2), .val (.int c5), .val (.int c8), .val (.int c11), .val (.int c14), .val (.int c17), .val (.int c20), .unset, .unset] [])) tg
    refine XS.iload X20.here hx rfl (hb hby at_58) rfl ?_
    show Steps p.tables e below (T20.setTop (mkF m 60 #[.val (.int i0), .val (.int i1), .val (.int i2), .val (.int i3), .val (.int i4), .val (.int (i0 &&& (7 : Int32))), .val (.int c2), .val (.int c5), .val (.int c8), .val (.int c11), .val (.int c14), .val (.int c17), .val (.int c20), .unset, .unset] [(.int (i0 &&& (7 : Int32)))])) tg
    refine XS.iload X20.here hx rfl (hb hby at_60) rfl ?_
    show Steps p.tables e below (T20.setTop (mkF m 62 #[.val (.int i0), .val (.int i1), .val (.int i2), .val (.int i3), .val (.int i4), .val (.int (i0 &&& (7 : Int32))), .val (.int c2), .val (.int c5), .val (.int c8), .val (.int c11), .val (.int c14), .val (.int c17), .val (.int c20), .unset, .unset] [(.int c2), (.int (i0 &&& (7 : Int32)))])) tg
    refine XS.iload X20.here hx rfl (hb hby at_62) rfl ?_
    show Steps p.tables e below (T20.setTop (mkF m 64 #[.val (.int i0), .val (.int i1), .val (.int i2), .val (.int i3), .val (.int i4), .val (.int (i0 &&& (7 : Int32))), .val (.int c2), .val (.int c5), .val (.int c8), .val (.int c11), .val (.int c14), .val (.int c17), .val (.int c20), .unset, .unset] [(.int c5), (.int c2), (.int (i0 &&& (7 : Int32)))])) tg
    refine XS.iload X20.here hx rfl (hb hby at_64) rfl ?_
    show Steps p.tables e below (T20.setTop (mkF m 66 #[.val (.int i0), .val (.int i1), .val (.int i2), .val (.int i3), .val (.int i4), .val (.int (i0 &&& (7 : Int32))), .val (.int c2), .val (.int c5), .val (.int c8), .val (.int c11), .val (.int c14), .val (.int c17), .val (.int c20), .unset, .unset] [(.int c8), (.int c5), (.int c2), (.int (i0 &&& (7 : Int32)))])) tg
    refine XS.iload X20.here hx rfl (hb hby at_66) rfl ?_
    show Steps p.tables e below (T20.setTop (mkF m 68 #[.val (.int i0), .val (.int i1), .val (.int i2), .val (.int i3), .val (.int i4), .val (.int (i0 &&& (7 : Int32))), .val (.int c2), .val (.int c5), .val (.int c8), .val (.int c11), .val (.int c14), .val (.int c17), .val (.int c20), .unset, .unset] [(.int c11), (.int c8), (.int c5), (.int c2), (.int (i0 &&& (7 : Int32)))])) tg
    refine XS.iload X20.here hx rfl (hb hby at_68) rfl ?_
    show Steps p.tables e below (T20.setTop (mkF m 70 #[.val (.int i0), .val (.int i1), .val (.int i2), .val (.int i3), .val (.int i4), .val (.int (i0 &&& (7 : Int32))), .val (.int c2), .val (.int c5), .val (.int c8), .val (.int c11), .val (.int c14), .val (.int c17), .val (.int c20), .unset, .unset] [(.int c14), (.int c11), (.int c8), (.int c5), (.int c2), (.int (i0 &&& (7 : Int32)))])) tg
    refine XS.iload X20.here hx rfl (hb hby at_70) rfl ?_
    show Steps p.tables e below (T20.setTop (mkF m 72 #[.val (.int i0), .val (.int i1), .val (.int i2), .val (.int i3), .val (.int i4), .val (.int (i0 &&& (7 : Int32))), .val (.int c2), .val (.int c5), .val (.int c8), .val (.int c11), .val (.int c14), .val (.int c17), .val (.int c20), .unset, .unset] [(.int c17), (.int c14), (.int c11), (.int c8), (.int c5), (.int c2), (.int (i0 &&& (7 : Int32)))])) tg
    refine XS.iload X20.here hx rfl (hb hby at_72) rfl ?_
    show Steps p.tables e below (T20.setTop (mkF m 74 #[.val (.int i0), .val (.int i1), .val (.int i2), .val (.int i3), .val (.int i4), .val (.int (i0 &&& (7 : Int32))), .val (.int c2), .val (.int c5), .val (.int c8), .val (.int c11), .val (.int c14), .val (.int c17), .val (.int c20), .unset, .unset] [(.int c20), (.int c17), (.int c14), (.int c11), (.int c8), (.int c5), (.int c2), (.int (i0 &&& (7 : Int32)))])) tg
    exact kg
  refine gsW c22 ?_
  obtain ⟨_, _, ⟨T23, L23, k23, n23⟩, -, Xq23, hSq23, gq23, ⟨Lc23, hQ23, l23, y23, z23, rq23⟩, st23⟩ := callSS X20 hx (y := (⟨"com/example/caddisfly/caddisfly/SyntaxIsHelpPinLaw", "mk", "(ICCCCCCC)Ljava/lang/String;"⟩ : MethodName)) hown (mvT hZ (hw _ (List.mem_of_getElem? (i := 4) rfl))) (mvT hZ (hw _ (List.mem_of_getElem? (i := 5) rfl))) (mvT hZ (hw _ (List.mem_of_getElem? (i := 2) rfl))) (mvT hZ (hw _ (List.mem_of_getElem? (i := 6) rfl))) (by decide) (backCW (W := 0) (rm_mk l Z a0 hw [] (i0 &&& (7 : Int32)) c2 c5 c8 c11 c14 c17 c20 z T20.heap n0 Z21 O21 S0 hz b2q b5q b8q b11q b14q b17q b20q) hZ (hw _ (List.mem_of_getElem? (i := 6) rfl)) (hw _ (List.mem_of_getElem? (i := 2) rfl)) (by decide) (by decide) (own_EW hw) R21.1) (g := (mkF m 74 #[.val (.int i0), .val (.int i1), .val (.int i2), .val (.int i3), .val (.int i4), .val (.int (i0 &&& (7 : Int32))), .val (.int c2), .val (.int c5), .val (.int c8), .val (.int c11), .val (.int c14), .val (.int c17), .val (.int c20), .unset, .unset] [(.int c20), (.int c17), (.int c14), (.int c11), (.int c8), (.int c5), (.int c2), (.int (i0 &&& (7 : Int32)))])) rfl (by rw [hml]; rfl) (argsL := [(.int (i0 &&& (7 : Int32))), (.int c2), (.int c5), (.int c8), (.int c11), (.int c14), (.int c17), (.int c20)]) (rest := []) (lenOf pd_245 rfl) rfl (by show 2 * 0 + _ ≤ _; exact Nat.le_of_eq rfl) (hb hby at_74) (fun _ _ => ⟨rfl, rfl, (by decide : 14 + 6 ≤ _), (by decide : 168 + 20 ≤ _)⟩)
  dsimp only [Pt.U, Pt.locs, Pt.cells, Pt.slots] at Xq23 hSq23 gq23 rq23 l23 y23 z23 st23 hQ23
  subst l23 y23 z23
  obtain ⟨X23, hS, hZ, hown⟩ := rebS hS (Nat.le_trans (Nat.le_refl T20.heap.size) (Nat.le_of_eq (congrArg Array.size (rfl : T20.heap = T20.heap).symm))) Xq23 hSq23 gq23 hZ hown
  obtain ⟨a23, rfl, N23q, K23q, T23q⟩ := hQ23
  have N23 := Fr.app N20 N23q
  have r24 : CHr Z own_EL T20.vm T20.heap T23.vm T23.heap := rq23
  have R24 : CHr Z own_EL s.vm h0 T23.vm T23.heap := R21.trans r24
  have Z24 : n0 ≤ T23.heap.size := Nat.le_trans Z21 K23q.1
  have O24 : Old Z n0 T23.heap := O21.keep K23q all0
  have K24 : Keep h0 T23.heap [] := K21.trans K23q all0
  refine gsW (fun _ k => st23.trans k) ?_
  show OwnGoW p e below s Z own_EL _ _ _ (T23.setTop (mkF m 77 #[.val (.int i0), .val (.int i1), .val (.int i2), .val (.int i3), .val (.int i4), .val (.int (i0 &&& (7 : Int32))), .val (.int c2), .val (.int c5), .val (.int c8), .val (.int c11), .val (.int c14), .val (.int c17), .val (.int c20), .unset, .unset] [(.ref a23)]))
  have c25 : ∀ tg, Steps p.tables e below (T23.setTop (mkF m 85 #[.val (.int i0), .val (.int i1), .val (.int i2), .val (.int i3), .val (.int i4), .val (.int (i0 &&& (7 : Int32))), .val (.int c2), .val (.int c5), .val (.int c8), .val (.int c11), .val (.int c14), .val (.int c17), .val (.int c20), .val (.ref a23), .val (.int (0 : Int32))] [(.int (2 : Int32)), (.int (i0 &&& (7 : Int32)))])) tg → Steps p.tables e below (T23.setTop (mkF m 77 #[.val (.int i0), .val (.int i1), .val (.int i2), .val (.int i3), .val (.int i4), .val (.int (i0 &&& (7 : Int32))), .val (.int c2), .val (.int c5), .val (.int c8), .val (.int c11), .val (.int c14), .val (.int c17), .val (.int c20), .unset, .unset] [(.ref a23)])) tg := fun tg kg => by
    refine XS.astore X23.here hx rfl (hb hby at_77) rfl rfl (l' := #[.val (.int i0), .val (.int i1), .val (.int i2), .val (.int i3), .val (.int i4), .val (.int (i0 &&& (7 : Int32))), .val (.int c2), .val (.int c5), .val (.int c8), .val (.int c11), .val (.int c14), .val (.int c17), .val (.int c20), .val (.ref a23), .unset]) rfl ?_
    show Steps p.tables e below (T23.setTop (mkF m 79 #[.val (.int i0), .val (.int i1), .val (.int i2), .val (.int i3), .val (.int i4), .val (.int (i0 &&& (7 : Int32))), .val (.int c2), .val (.int c5), .val (.int c8), .val (.int c11), .val (.int c14), .val (.int c17), .val (.int c20), .val (.ref a23), .unset] [])) tg
    refine XS.iconst X23.here hx rfl (hb hby at_79) ?_
    show Steps p.tables e below (T23.setTop (mkF m 80 #[.val (.int i0), .val (.int i1), .val (.int i2), .val (.int i3), .val (.int i4), .val (.int (i0 &&& (7 : Int32))), .val (.int c2), .val (.int c5), .val (.int c8), .val (.int c11), .val (.int c14), .val (.int c17), .val (.int c20), .val (.ref a23), .unset] [(.int (0 : Int32))])) tg
    refine XS.istore X23.here hx rfl (hb hby at_80) rfl (l' := #[.val (.int i0), .val (.int i1), .val (.int i2), .val (.int i3), .val (.int i4), .val (.int (i0 &&& (7 : Int32))), .val (.int c2), .val (.int c5), .val (.int c8), .val (.int c11), .val (.int c14), .val (.int c17), .val (.int c20), .val (.ref a23), .val (.int (0 : Int32))]) rfl ?_
    show Steps p.tables e below (T23.setTop (mkF m 82 #[.val (.int i0), .val (.int i1), .val (.int i2), .val (.int i3), .val (.int i4), .val (.int (i0 &&& (7 : Int32))), .val (.int c2), .val (.int c5), .val (.int c8), .val (.int c11), .val (.int c14), .val (.int c17), .val (.int c20), .val (.ref a23), .val (.int (0 : Int32))] [])) tg
    refine XS.iload X23.here hx rfl (hb hby at_82) rfl ?_
    show Steps p.tables e below (T23.setTop (mkF m 84 #[.val (.int i0), .val (.int i1), .val (.int i2), .val (.int i3), .val (.int i4), .val (.int (i0 &&& (7 : Int32))), .val (.int c2), .val (.int c5), .val (.int c8), .val (.int c11), .val (.int c14), .val (.int c17), .val (.int c20), .val (.ref a23), .val (.int (0 : Int32))] [(.int (i0 &&& (7 : Int32)))])) tg
    refine XS.iconst X23.here hx rfl (hb hby at_84) ?_
    show Steps p.tables e below (T23.setTop (mkF m 85 #[.val (.int i0), .val (.int i1), .val (.int i2), .val (.int i3), .val (.int i4), .val (.int (i0 &&& (7 : Int32))), .val (.int c2), .val (.int c5), .val (.int c8), .val (.int c11), .val (.int c14), .val (.int c17), .val (.int c20), .val (.ref a23), .val (.int (0 : Int32))] [(.int (2 : Int32)), (.int (i0 &&& (7 : Int32)))])) tg
    exact kg
  refine gsW c25 ?_
  by_cases hc26 : (i0 &&& (7 : Int32)) = (2 : Int32)
  · have c27 : ∀ tg, Steps p.tables e below (T23.setTop (mkF m 92 #[.val (.int i0), .val (.int i1), .val (.int i2), .val (.int i3), .val (.int i4), .val (.int (i0 &&& (7 : Int32))), .val (.int c2), .val (.int c5), .val (.int c8), .val (.int c11), .val (.int c14), .val (.int c17), .val (.int c20), .val (.ref a23), .val (.int (0 : Int32))] [(.int (45 : Int32)), (.int c2)])) tg → Steps p.tables e below (T23.setTop (mkF m 85 #[.val (.int i0), .val (.int i1), .val (.int i2), .val (.int i3), .val (.int i4), .val (.int (i0 &&& (7 : Int32))), .val (.int c2), .val (.int c5), .val (.int c8), .val (.int c11), .val (.int c14), .val (.int c17), .val (.int c20), .val (.ref a23), .val (.int (0 : Int32))] [(.int (2 : Int32)), (.int (i0 &&& (7 : Int32)))])) tg := fun tg kg => by
      refine XS.icmpNo X23.here hx rfl (hb hby at_85) rfl (teq hc26).2 ?_
      show Steps p.tables e below (T23.setTop (mkF m 88 #[.val (.int i0), .val (.int i1), .val (.int i2), .val (.int i3), .val (.int i4), .val (.int (i0 &&& (7 : Int32))), .val (.int c2), .val (.int c5), .val (.int c8), .val (.int c11), .val (.int c14), .val (.int c17), .val (.int c20), .val (.ref a23), .val (.int (0 : Int32))] [])) tg
      refine XS.iload X23.here hx rfl (hb hby at_88) rfl ?_
      show Steps p.tables e below (T23.setTop (mkF m 90 #[.val (.int i0), .val (.int i1), .val (.int i2), .val (.int i3), .val (.int i4), .val (.int (i0 &&& (7 : Int32))), .val (.int c2), .val (.int c5), .val (.int c8), .val (.int c11), .val (.int c14), .val (.int c17), .val (.int c20), .val (.ref a23), .val (.int (0 : Int32))] [(.int c2)])) tg
      refine XS.bipush X23.here hx rfl (hb hby at_90) ?_
      show Steps p.tables e below (T23.setTop (mkF m 92 #[.val (.int i0), .val (.int i1), .val (.int i2), .val (.int i3), .val (.int i4), .val (.int (i0 &&& (7 : Int32))), .val (.int c2), .val (.int c5), .val (.int c8), .val (.int c11), .val (.int c14), .val (.int c17), .val (.int c20), .val (.ref a23), .val (.int (0 : Int32))] [(.int (45 : Int32)), (.int c2)])) tg
      exact kg
    refine gsW c27 ?_
    by_cases hc28 : c2 = (45 : Int32)
    · have c29 : ∀ tg, Steps p.tables e below (T23.setTop (mkF m 99 #[.val (.int i0), .val (.int i1), .val (.int i2), .val (.int i3), .val (.int i4), .val (.int (i0 &&& (7 : Int32))), .val (.int c2), .val (.int c5), .val (.int c8), .val (.int c11), .val (.int c14), .val (.int c17), .val (.int c20), .val (.ref a23), .val (.int (0 : Int32))] [(.int (104 : Int32)), (.int c5)])) tg → Steps p.tables e below (T23.setTop (mkF m 92 #[.val (.int i0), .val (.int i1), .val (.int i2), .val (.int i3), .val (.int i4), .val (.int (i0 &&& (7 : Int32))), .val (.int c2), .val (.int c5), .val (.int c8), .val (.int c11), .val (.int c14), .val (.int c17), .val (.int c20), .val (.ref a23), .val (.int (0 : Int32))] [(.int (45 : Int32)), (.int c2)])) tg := fun tg kg => by
        refine XS.icmpNo X23.here hx rfl (hb hby at_92) rfl (teq hc28).2 ?_
        show Steps p.tables e below (T23.setTop (mkF m 95 #[.val (.int i0), .val (.int i1), .val (.int i2), .val (.int i3), .val (.int i4), .val (.int (i0 &&& (7 : Int32))), .val (.int c2), .val (.int c5), .val (.int c8), .val (.int c11), .val (.int c14), .val (.int c17), .val (.int c20), .val (.ref a23), .val (.int (0 : Int32))] [])) tg
        refine XS.iload X23.here hx rfl (hb hby at_95) rfl ?_
        show Steps p.tables e below (T23.setTop (mkF m 97 #[.val (.int i0), .val (.int i1), .val (.int i2), .val (.int i3), .val (.int i4), .val (.int (i0 &&& (7 : Int32))), .val (.int c2), .val (.int c5), .val (.int c8), .val (.int c11), .val (.int c14), .val (.int c17), .val (.int c20), .val (.ref a23), .val (.int (0 : Int32))] [(.int c5)])) tg
        refine XS.bipush X23.here hx rfl (hb hby at_97) ?_
        show Steps p.tables e below (T23.setTop (mkF m 99 #[.val (.int i0), .val (.int i1), .val (.int i2), .val (.int i3), .val (.int i4), .val (.int (i0 &&& (7 : Int32))), .val (.int c2), .val (.int c5), .val (.int c8), .val (.int c11), .val (.int c14), .val (.int c17), .val (.int c20), .val (.ref a23), .val (.int (0 : Int32))] [(.int (104 : Int32)), (.int c5)])) tg
        exact kg
      refine gsW c29 ?_
      by_cases hc30 : c5 = (104 : Int32)
      · have c31 : ∀ tg, Steps p.tables e below (T23.setTop (mkF m 159 #[.val (.int i0), .val (.int i1), .val (.int i2), .val (.int i3), .val (.int i4), .val (.int (i0 &&& (7 : Int32))), .val (.int c2), .val (.int c5), .val (.int c8), .val (.int c11), .val (.int c14), .val (.int c17), .val (.int c20), .val (.ref a23), .val (.int (1 : Int32))] [(.ref a23)])) tg → Steps p.tables e below (T23.setTop (mkF m 99 #[.val (.int i0), .val (.int i1), .val (.int i2), .val (.int i3), .val (.int i4), .val (.int (i0 &&& (7 : Int32))), .val (.int c2), .val (.int c5), .val (.int c8), .val (.int c11), .val (.int c14), .val (.int c17), .val (.int c20), .val (.ref a23), .val (.int (0 : Int32))] [(.int (104 : Int32)), (.int c5)])) tg := fun tg kg => by
          refine XS.icmpNo X23.here hx rfl (hb hby at_99) rfl (teq hc30).2 ?_
          show Steps p.tables e below (T23.setTop (mkF m 102 #[.val (.int i0), .val (.int i1), .val (.int i2), .val (.int i3), .val (.int i4), .val (.int (i0 &&& (7 : Int32))), .val (.int c2), .val (.int c5), .val (.int c8), .val (.int c11), .val (.int c14), .val (.int c17), .val (.int c20), .val (.ref a23), .val (.int (0 : Int32))] [])) tg
          refine XS.iconst X23.here hx rfl (hb hby at_102) ?_
          show Steps p.tables e below (T23.setTop (mkF m 103 #[.val (.int i0), .val (.int i1), .val (.int i2), .val (.int i3), .val (.int i4), .val (.int (i0 &&& (7 : Int32))), .val (.int c2), .val (.int c5), .val (.int c8), .val (.int c11), .val (.int c14), .val (.int c17), .val (.int c20), .val (.ref a23), .val (.int (0 : Int32))] [(.int (1 : Int32))])) tg
          refine XS.istore X23.here hx rfl (hb hby at_103) rfl (l' := #[.val (.int i0), .val (.int i1), .val (.int i2), .val (.int i3), .val (.int i4), .val (.int (i0 &&& (7 : Int32))), .val (.int c2), .val (.int c5), .val (.int c8), .val (.int c11), .val (.int c14), .val (.int c17), .val (.int c20), .val (.ref a23), .val (.int (1 : Int32))]) rfl ?_
          show Steps p.tables e below (T23.setTop (mkF m 105 #[.val (.int i0), .val (.int i1), .val (.int i2), .val (.int i3), .val (.int i4), .val (.int (i0 &&& (7 : Int32))), .val (.int c2), .val (.int c5), .val (.int c8), .val (.int c11), .val (.int c14), .val (.int c17), .val (.int c20), .val (.ref a23), .val (.int (1 : Int32))] [])) tg
          refine XS.iload X23.here hx rfl (hb hby at_105) rfl ?_
          show Steps p.tables e below (T23.setTop (mkF m 107 #[.val (.int i0), .val (.int i1), .val (.int i2), .val (.int i3), .val (.int i4), .val (.int (i0 &&& (7 : Int32))), .val (.int c2), .val (.int c5), .val (.int c8), .val (.int c11), .val (.int c14), .val (.int c17), .val (.int c20), .val (.ref a23), .val (.int (1 : Int32))] [(.int (i0 &&& (7 : Int32)))])) tg
          refine XS.bipush X23.here hx rfl (hb hby at_107) ?_
          show Steps p.tables e below (T23.setTop (mkF m 109 #[.val (.int i0), .val (.int i1), .val (.int i2), .val (.int i3), .val (.int i4), .val (.int (i0 &&& (7 : Int32))), .val (.int c2), .val (.int c5), .val (.int c8), .val (.int c11), .val (.int c14), .val (.int c17), .val (.int c20), .val (.ref a23), .val (.int (1 : Int32))] [(.int (6 : Int32)), (.int (i0 &&& (7 : Int32)))])) tg
          refine XS.icmpYes X23.here hx rfl (pc0 := 109) (pc' := 157) rfl (hb hby at_109) rfl (feq (by rw [hc26]; decide)).2 (by decide) (by decide) ?_
          show Steps p.tables e below (T23.setTop (mkF m 157 #[.val (.int i0), .val (.int i1), .val (.int i2), .val (.int i3), .val (.int i4), .val (.int (i0 &&& (7 : Int32))), .val (.int c2), .val (.int c5), .val (.int c8), .val (.int c11), .val (.int c14), .val (.int c17), .val (.int c20), .val (.ref a23), .val (.int (1 : Int32))] [])) tg
          refine XS.aload X23.here hx rfl (hb hby at_157) rfl rfl ?_
          show Steps p.tables e below (T23.setTop (mkF m 159 #[.val (.int i0), .val (.int i1), .val (.int i2), .val (.int i3), .val (.int i4), .val (.int (i0 &&& (7 : Int32))), .val (.int c2), .val (.int c5), .val (.int c8), .val (.int c11), .val (.int c14), .val (.int c17), .val (.int c20), .val (.ref a23), .val (.int (1 : Int32))] [(.ref a23)])) tg
          exact kg
        refine gsW c31 ?_
        obtain ⟨_, _, ⟨T32, L32, k32, n32⟩, -, Xq32, hSq32, gq32, ⟨Lc32, hQ32, l32, y32, z32, rq32⟩, st32⟩ := callSS X23 hx (y := (⟨"com/example/caddisfly/caddisfly/Syntax", "isHelp", "(Ljava/lang/String;)Z"⟩ : MethodName)) hown (mvT hZ (hw _ (List.mem_of_getElem? (i := 29) rfl))) (mvT hZ (hw _ (List.mem_of_getElem? (i := 30) rfl))) (mvT hZ (hw _ (List.mem_of_getElem? (i := 31) rfl))) (mvT hZ (hw _ (List.mem_of_getElem? (i := 32) rfl))) (by decide) (backCW (W := 0) (rm_ih_h l Z a0 hw [] a23 (own_mk (i0 &&& (7 : Int32)) c2 c5 c8 c11 c14 c17 c20) z T23.heap n0 Z24 O24 S0 hz T23q ((own_mk_hb b2q b5q b8q b11q b14q b17q b20q).1) ((own_mk_hb b2q b5q b8q b11q b14q b17q b20q).2) ((own_mk_h (i0 &&& (7 : Int32)) c2 c5 c8 c11 c14 c17 c20).mpr ⟨hc26, hc28, hc30⟩)) hZ (hw _ (List.mem_of_getElem? (i := 32) rfl)) (hw _ (List.mem_of_getElem? (i := 31) rfl)) (by decide) (by decide) (own_EW hw) R24.1) (g := (mkF m 159 #[.val (.int i0), .val (.int i1), .val (.int i2), .val (.int i3), .val (.int i4), .val (.int (i0 &&& (7 : Int32))), .val (.int c2), .val (.int c5), .val (.int c8), .val (.int c11), .val (.int c14), .val (.int c17), .val (.int c20), .val (.ref a23), .val (.int (1 : Int32))] [(.ref a23)])) rfl (by rw [hml]; rfl) (argsL := [(.ref a23)]) (rest := []) (lenOf pd_246 rfl) rfl (by show 2 * 0 + _ ≤ _; exact Nat.le_of_eq rfl) (hb hby at_159) (fun _ _ => ⟨rfl, rfl, (by decide : 20 + 4 ≤ _), (by decide : 188 + 40 ≤ _)⟩)
        dsimp only [Pt.U, Pt.locs, Pt.cells, Pt.slots] at Xq32 hSq32 gq32 rq32 l32 y32 z32 st32 hQ32
        subst l32 y32 z32
        obtain ⟨X32, hS, hZ, hown⟩ := rebS hS (Nat.le_trans (Nat.le_refl T23.heap.size) (Nat.le_of_eq (congrArg Array.size (rfl : T23.heap = T23.heap).symm))) Xq32 hSq32 gq32 hZ hown
        obtain ⟨rfl, N32q, K32q⟩ := hQ32
        have N32 := Fr.app N23 N32q
        have r33 : CHr Z own_EL T23.vm T23.heap T32.vm T32.heap := rq32
        have R33 : CHr Z own_EL s.vm h0 T32.vm T32.heap := R24.trans r33
        have Z33 : n0 ≤ T32.heap.size := Nat.le_trans Z24 K32q.1
        have O33 : Old Z n0 T32.heap := O24.keep K32q all0
        have K33 : Keep h0 T32.heap [] := K24.trans K32q all0
        refine gsW (fun _ k => st32.trans k) ?_
        show OwnGoW p e below s Z own_EL _ _ _ (T32.setTop (mkF m 162 #[.val (.int i0), .val (.int i1), .val (.int i2), .val (.int i3), .val (.int i4), .val (.int (i0 &&& (7 : Int32))), .val (.int c2), .val (.int c5), .val (.int c8), .val (.int c11), .val (.int c14), .val (.int c17), .val (.int c20), .val (.ref a23), .val (.int (1 : Int32))] [(.int (1 : Int32))]))
        have c34 : ∀ tg, Steps p.tables e below (T32.setTop (mkF m 172 #[.val (.int i0), .val (.int i1), .val (.int i2), .val (.int i3), .val (.int i4), .val (.int (i0 &&& (7 : Int32))), .val (.int c2), .val (.int c5), .val (.int c8), .val (.int c11), .val (.int c14), .val (.int c17), .val (.int c20), .val (.ref a23), .val (.int (1 : Int32))] [(.int (1 : Int32))])) tg → Steps p.tables e below (T32.setTop (mkF m 162 #[.val (.int i0), .val (.int i1), .val (.int i2), .val (.int i3), .val (.int i4), .val (.int (i0 &&& (7 : Int32))), .val (.int c2), .val (.int c5), .val (.int c8), .val (.int c11), .val (.int c14), .val (.int c17), .val (.int c20), .val (.ref a23), .val (.int (1 : Int32))] [(.int (1 : Int32))])) tg := fun tg kg => by
          refine XS.iload X32.here hx rfl (hb hby at_162) rfl ?_
          show Steps p.tables e below (T32.setTop (mkF m 164 #[.val (.int i0), .val (.int i1), .val (.int i2), .val (.int i3), .val (.int i4), .val (.int (i0 &&& (7 : Int32))), .val (.int c2), .val (.int c5), .val (.int c8), .val (.int c11), .val (.int c14), .val (.int c17), .val (.int c20), .val (.ref a23), .val (.int (1 : Int32))] [(.int (1 : Int32)), (.int (1 : Int32))])) tg
          refine XS.icmpNo X32.here hx rfl (hb hby at_164) rfl (teq (by decide : (1 : Int32) = (1 : Int32))).2 ?_
          show Steps p.tables e below (T32.setTop (mkF m 167 #[.val (.int i0), .val (.int i1), .val (.int i2), .val (.int i3), .val (.int i4), .val (.int (i0 &&& (7 : Int32))), .val (.int c2), .val (.int c5), .val (.int c8), .val (.int c11), .val (.int c14), .val (.int c17), .val (.int c20), .val (.ref a23), .val (.int (1 : Int32))] [])) tg
          refine XS.iconst X32.here hx rfl (hb hby at_167) ?_
          show Steps p.tables e below (T32.setTop (mkF m 168 #[.val (.int i0), .val (.int i1), .val (.int i2), .val (.int i3), .val (.int i4), .val (.int (i0 &&& (7 : Int32))), .val (.int c2), .val (.int c5), .val (.int c8), .val (.int c11), .val (.int c14), .val (.int c17), .val (.int c20), .val (.ref a23), .val (.int (1 : Int32))] [(.int (1 : Int32))])) tg
          refine XS.goto X32.here hx rfl (pc0 := 168) (pc' := 172) rfl (hb hby at_168) (by decide) (by decide) ?_
          show Steps p.tables e below (T32.setTop (mkF m 172 #[.val (.int i0), .val (.int i1), .val (.int i2), .val (.int i3), .val (.int i4), .val (.int (i0 &&& (7 : Int32))), .val (.int c2), .val (.int c5), .val (.int c8), .val (.int c11), .val (.int c14), .val (.int c17), .val (.int c20), .val (.ref a23), .val (.int (1 : Int32))] [(.int (1 : Int32))])) tg
          exact kg
        refine gsW c34 ?_
        refine goutW (v := some (.int (1 : Int32))) X32 hS (Nat.le_refl T32.heap.size) hZ (own_EW hw) hh rfl R33 Bd.notSynchronized (fun h => by rw [Bd.returns] at h; cases h) (by decide) (by decide) ?_ (fun fs hr => retN X32 hx (t := .boolean) Bd.returns (by simp) (hb hby at_172) hr)
        exact ⟨rfl, N32⟩
      · have c35 : ∀ tg, Steps p.tables e below (T23.setTop (mkF m 159 #[.val (.int i0), .val (.int i1), .val (.int i2), .val (.int i3), .val (.int i4), .val (.int (i0 &&& (7 : Int32))), .val (.int c2), .val (.int c5), .val (.int c8), .val (.int c11), .val (.int c14), .val (.int c17), .val (.int c20), .val (.ref a23), .val (.int (0 : Int32))] [(.ref a23)])) tg → Steps p.tables e below (T23.setTop (mkF m 99 #[.val (.int i0), .val (.int i1), .val (.int i2), .val (.int i3), .val (.int i4), .val (.int (i0 &&& (7 : Int32))), .val (.int c2), .val (.int c5), .val (.int c8), .val (.int c11), .val (.int c14), .val (.int c17), .val (.int c20), .val (.ref a23), .val (.int (0 : Int32))] [(.int (104 : Int32)), (.int c5)])) tg := fun tg kg => by
          refine XS.icmpYes X23.here hx rfl (pc0 := 99) (pc' := 105) rfl (hb hby at_99) rfl (feq hc30).2 (by decide) (by decide) ?_
          show Steps p.tables e below (T23.setTop (mkF m 105 #[.val (.int i0), .val (.int i1), .val (.int i2), .val (.int i3), .val (.int i4), .val (.int (i0 &&& (7 : Int32))), .val (.int c2), .val (.int c5), .val (.int c8), .val (.int c11), .val (.int c14), .val (.int c17), .val (.int c20), .val (.ref a23), .val (.int (0 : Int32))] [])) tg
          refine XS.iload X23.here hx rfl (hb hby at_105) rfl ?_
          show Steps p.tables e below (T23.setTop (mkF m 107 #[.val (.int i0), .val (.int i1), .val (.int i2), .val (.int i3), .val (.int i4), .val (.int (i0 &&& (7 : Int32))), .val (.int c2), .val (.int c5), .val (.int c8), .val (.int c11), .val (.int c14), .val (.int c17), .val (.int c20), .val (.ref a23), .val (.int (0 : Int32))] [(.int (i0 &&& (7 : Int32)))])) tg
          refine XS.bipush X23.here hx rfl (hb hby at_107) ?_
          show Steps p.tables e below (T23.setTop (mkF m 109 #[.val (.int i0), .val (.int i1), .val (.int i2), .val (.int i3), .val (.int i4), .val (.int (i0 &&& (7 : Int32))), .val (.int c2), .val (.int c5), .val (.int c8), .val (.int c11), .val (.int c14), .val (.int c17), .val (.int c20), .val (.ref a23), .val (.int (0 : Int32))] [(.int (6 : Int32)), (.int (i0 &&& (7 : Int32)))])) tg
          refine XS.icmpYes X23.here hx rfl (pc0 := 109) (pc' := 157) rfl (hb hby at_109) rfl (feq (by rw [hc26]; decide)).2 (by decide) (by decide) ?_
          show Steps p.tables e below (T23.setTop (mkF m 157 #[.val (.int i0), .val (.int i1), .val (.int i2), .val (.int i3), .val (.int i4), .val (.int (i0 &&& (7 : Int32))), .val (.int c2), .val (.int c5), .val (.int c8), .val (.int c11), .val (.int c14), .val (.int c17), .val (.int c20), .val (.ref a23), .val (.int (0 : Int32))] [])) tg
          refine XS.aload X23.here hx rfl (hb hby at_157) rfl rfl ?_
          show Steps p.tables e below (T23.setTop (mkF m 159 #[.val (.int i0), .val (.int i1), .val (.int i2), .val (.int i3), .val (.int i4), .val (.int (i0 &&& (7 : Int32))), .val (.int c2), .val (.int c5), .val (.int c8), .val (.int c11), .val (.int c14), .val (.int c17), .val (.int c20), .val (.ref a23), .val (.int (0 : Int32))] [(.ref a23)])) tg
          exact kg
        refine gsW c35 ?_
        obtain ⟨_, _, ⟨T36, L36, k36, n36⟩, -, Xq36, hSq36, gq36, ⟨Lc36, hQ36, l36, y36, z36, rq36⟩, st36⟩ := callSS X23 hx (y := (⟨"com/example/caddisfly/caddisfly/Syntax", "isHelp", "(Ljava/lang/String;)Z"⟩ : MethodName)) hown (mvT hZ (hw _ (List.mem_of_getElem? (i := 29) rfl))) (mvT hZ (hw _ (List.mem_of_getElem? (i := 30) rfl))) (mvT hZ (hw _ (List.mem_of_getElem? (i := 31) rfl))) (mvT hZ (hw _ (List.mem_of_getElem? (i := 32) rfl))) (by decide) (backCW (W := 0) (rm_ih_no l Z a0 hw [] a23 (own_mk (i0 &&& (7 : Int32)) c2 c5 c8 c11 c14 c17 c20) z T23.heap n0 Z24 O24 S0 hz T23q ((own_mk_hb b2q b5q b8q b11q b14q b17q b20q).1) ((own_mk_hb b2q b5q b8q b11q b14q b17q b20q).2) (fun hq => (fun hq => hc30 hq.2.2) ((own_mk_h (i0 &&& (7 : Int32)) c2 c5 c8 c11 c14 c17 c20).mp hq)) (fun hq => (fun hq => absurd (hc26.symm.trans hq.1) (by decide)) ((own_mk_help (i0 &&& (7 : Int32)) c2 c5 c8 c11 c14 c17 c20).mp hq))) hZ (hw _ (List.mem_of_getElem? (i := 32) rfl)) (hw _ (List.mem_of_getElem? (i := 31) rfl)) (by decide) (by decide) (own_EW hw) R24.1) (g := (mkF m 159 #[.val (.int i0), .val (.int i1), .val (.int i2), .val (.int i3), .val (.int i4), .val (.int (i0 &&& (7 : Int32))), .val (.int c2), .val (.int c5), .val (.int c8), .val (.int c11), .val (.int c14), .val (.int c17), .val (.int c20), .val (.ref a23), .val (.int (0 : Int32))] [(.ref a23)])) rfl (by rw [hml]; rfl) (argsL := [(.ref a23)]) (rest := []) (lenOf pd_246 rfl) rfl (by show 2 * 0 + _ ≤ _; exact Nat.le_of_eq rfl) (hb hby at_159) (fun _ _ => ⟨rfl, rfl, (by decide : 20 + 4 ≤ _), (by decide : 188 + 40 ≤ _)⟩)
        dsimp only [Pt.U, Pt.locs, Pt.cells, Pt.slots] at Xq36 hSq36 gq36 rq36 l36 y36 z36 st36 hQ36
        subst l36 y36 z36
        obtain ⟨X36, hS, hZ, hown⟩ := rebS hS (Nat.le_trans (Nat.le_refl T23.heap.size) (Nat.le_of_eq (congrArg Array.size (rfl : T23.heap = T23.heap).symm))) Xq36 hSq36 gq36 hZ hown
        obtain ⟨rfl, N36q, K36q⟩ := hQ36
        have N36 := Fr.app N23 N36q
        have r37 : CHr Z own_EL T23.vm T23.heap T36.vm T36.heap := rq36
        have R37 : CHr Z own_EL s.vm h0 T36.vm T36.heap := R24.trans r37
        have Z37 : n0 ≤ T36.heap.size := Nat.le_trans Z24 K36q.1
        have O37 : Old Z n0 T36.heap := O24.keep K36q all0
        have K37 : Keep h0 T36.heap [] := K24.trans K36q all0
        refine gsW (fun _ k => st36.trans k) ?_
        show OwnGoW p e below s Z own_EL _ _ _ (T36.setTop (mkF m 162 #[.val (.int i0), .val (.int i1), .val (.int i2), .val (.int i3), .val (.int i4), .val (.int (i0 &&& (7 : Int32))), .val (.int c2), .val (.int c5), .val (.int c8), .val (.int c11), .val (.int c14), .val (.int c17), .val (.int c20), .val (.ref a23), .val (.int (0 : Int32))] [(.int (0 : Int32))]))
        have c38 : ∀ tg, Steps p.tables e below (T36.setTop (mkF m 172 #[.val (.int i0), .val (.int i1), .val (.int i2), .val (.int i3), .val (.int i4), .val (.int (i0 &&& (7 : Int32))), .val (.int c2), .val (.int c5), .val (.int c8), .val (.int c11), .val (.int c14), .val (.int c17), .val (.int c20), .val (.ref a23), .val (.int (0 : Int32))] [(.int (1 : Int32))])) tg → Steps p.tables e below (T36.setTop (mkF m 162 #[.val (.int i0), .val (.int i1), .val (.int i2), .val (.int i3), .val (.int i4), .val (.int (i0 &&& (7 : Int32))), .val (.int c2), .val (.int c5), .val (.int c8), .val (.int c11), .val (.int c14), .val (.int c17), .val (.int c20), .val (.ref a23), .val (.int (0 : Int32))] [(.int (0 : Int32))])) tg := fun tg kg => by
          refine XS.iload X36.here hx rfl (hb hby at_162) rfl ?_
          show Steps p.tables e below (T36.setTop (mkF m 164 #[.val (.int i0), .val (.int i1), .val (.int i2), .val (.int i3), .val (.int i4), .val (.int (i0 &&& (7 : Int32))), .val (.int c2), .val (.int c5), .val (.int c8), .val (.int c11), .val (.int c14), .val (.int c17), .val (.int c20), .val (.ref a23), .val (.int (0 : Int32))] [(.int (0 : Int32)), (.int (0 : Int32))])) tg
          refine XS.icmpNo X36.here hx rfl (hb hby at_164) rfl (teq (by decide : (0 : Int32) = (0 : Int32))).2 ?_
          show Steps p.tables e below (T36.setTop (mkF m 167 #[.val (.int i0), .val (.int i1), .val (.int i2), .val (.int i3), .val (.int i4), .val (.int (i0 &&& (7 : Int32))), .val (.int c2), .val (.int c5), .val (.int c8), .val (.int c11), .val (.int c14), .val (.int c17), .val (.int c20), .val (.ref a23), .val (.int (0 : Int32))] [])) tg
          refine XS.iconst X36.here hx rfl (hb hby at_167) ?_
          show Steps p.tables e below (T36.setTop (mkF m 168 #[.val (.int i0), .val (.int i1), .val (.int i2), .val (.int i3), .val (.int i4), .val (.int (i0 &&& (7 : Int32))), .val (.int c2), .val (.int c5), .val (.int c8), .val (.int c11), .val (.int c14), .val (.int c17), .val (.int c20), .val (.ref a23), .val (.int (0 : Int32))] [(.int (1 : Int32))])) tg
          refine XS.goto X36.here hx rfl (pc0 := 168) (pc' := 172) rfl (hb hby at_168) (by decide) (by decide) ?_
          show Steps p.tables e below (T36.setTop (mkF m 172 #[.val (.int i0), .val (.int i1), .val (.int i2), .val (.int i3), .val (.int i4), .val (.int (i0 &&& (7 : Int32))), .val (.int c2), .val (.int c5), .val (.int c8), .val (.int c11), .val (.int c14), .val (.int c17), .val (.int c20), .val (.ref a23), .val (.int (0 : Int32))] [(.int (1 : Int32))])) tg
          exact kg
        refine gsW c38 ?_
        refine goutW (v := some (.int (1 : Int32))) X36 hS (Nat.le_refl T36.heap.size) hZ (own_EW hw) hh rfl R37 Bd.notSynchronized (fun h => by rw [Bd.returns] at h; cases h) (by decide) (by decide) ?_ (fun fs hr => retN X36 hx (t := .boolean) Bd.returns (by simp) (hb hby at_172) hr)
        exact ⟨rfl, N36⟩
    · have c39 : ∀ tg, Steps p.tables e below (T23.setTop (mkF m 159 #[.val (.int i0), .val (.int i1), .val (.int i2), .val (.int i3), .val (.int i4), .val (.int (i0 &&& (7 : Int32))), .val (.int c2), .val (.int c5), .val (.int c8), .val (.int c11), .val (.int c14), .val (.int c17), .val (.int c20), .val (.ref a23), .val (.int (0 : Int32))] [(.ref a23)])) tg → Steps p.tables e below (T23.setTop (mkF m 92 #[.val (.int i0), .val (.int i1), .val (.int i2), .val (.int i3), .val (.int i4), .val (.int (i0 &&& (7 : Int32))), .val (.int c2), .val (.int c5), .val (.int c8), .val (.int c11), .val (.int c14), .val (.int c17), .val (.int c20), .val (.ref a23), .val (.int (0 : Int32))] [(.int (45 : Int32)), (.int c2)])) tg := fun tg kg => by
        refine XS.icmpYes X23.here hx rfl (pc0 := 92) (pc' := 105) rfl (hb hby at_92) rfl (feq hc28).2 (by decide) (by decide) ?_
        show Steps p.tables e below (T23.setTop (mkF m 105 #[.val (.int i0), .val (.int i1), .val (.int i2), .val (.int i3), .val (.int i4), .val (.int (i0 &&& (7 : Int32))), .val (.int c2), .val (.int c5), .val (.int c8), .val (.int c11), .val (.int c14), .val (.int c17), .val (.int c20), .val (.ref a23), .val (.int (0 : Int32))] [])) tg
        refine XS.iload X23.here hx rfl (hb hby at_105) rfl ?_
        show Steps p.tables e below (T23.setTop (mkF m 107 #[.val (.int i0), .val (.int i1), .val (.int i2), .val (.int i3), .val (.int i4), .val (.int (i0 &&& (7 : Int32))), .val (.int c2), .val (.int c5), .val (.int c8), .val (.int c11), .val (.int c14), .val (.int c17), .val (.int c20), .val (.ref a23), .val (.int (0 : Int32))] [(.int (i0 &&& (7 : Int32)))])) tg
        refine XS.bipush X23.here hx rfl (hb hby at_107) ?_
        show Steps p.tables e below (T23.setTop (mkF m 109 #[.val (.int i0), .val (.int i1), .val (.int i2), .val (.int i3), .val (.int i4), .val (.int (i0 &&& (7 : Int32))), .val (.int c2), .val (.int c5), .val (.int c8), .val (.int c11), .val (.int c14), .val (.int c17), .val (.int c20), .val (.ref a23), .val (.int (0 : Int32))] [(.int (6 : Int32)), (.int (i0 &&& (7 : Int32)))])) tg
        refine XS.icmpYes X23.here hx rfl (pc0 := 109) (pc' := 157) rfl (hb hby at_109) rfl (feq (by rw [hc26]; decide)).2 (by decide) (by decide) ?_
        show Steps p.tables e below (T23.setTop (mkF m 157 #[.val (.int i0), .val (.int i1), .val (.int i2), .val (.int i3), .val (.int i4), .val (.int (i0 &&& (7 : Int32))), .val (.int c2), .val (.int c5), .val (.int c8), .val (.int c11), .val (.int c14), .val (.int c17), .val (.int c20), .val (.ref a23), .val (.int (0 : Int32))] [])) tg
        refine XS.aload X23.here hx rfl (hb hby at_157) rfl rfl ?_
        show Steps p.tables e below (T23.setTop (mkF m 159 #[.val (.int i0), .val (.int i1), .val (.int i2), .val (.int i3), .val (.int i4), .val (.int (i0 &&& (7 : Int32))), .val (.int c2), .val (.int c5), .val (.int c8), .val (.int c11), .val (.int c14), .val (.int c17), .val (.int c20), .val (.ref a23), .val (.int (0 : Int32))] [(.ref a23)])) tg
        exact kg
      refine gsW c39 ?_
      obtain ⟨_, _, ⟨T40, L40, k40, n40⟩, -, Xq40, hSq40, gq40, ⟨Lc40, hQ40, l40, y40, z40, rq40⟩, st40⟩ := callSS X23 hx (y := (⟨"com/example/caddisfly/caddisfly/Syntax", "isHelp", "(Ljava/lang/String;)Z"⟩ : MethodName)) hown (mvT hZ (hw _ (List.mem_of_getElem? (i := 29) rfl))) (mvT hZ (hw _ (List.mem_of_getElem? (i := 30) rfl))) (mvT hZ (hw _ (List.mem_of_getElem? (i := 31) rfl))) (mvT hZ (hw _ (List.mem_of_getElem? (i := 32) rfl))) (by decide) (backCW (W := 0) (rm_ih_no l Z a0 hw [] a23 (own_mk (i0 &&& (7 : Int32)) c2 c5 c8 c11 c14 c17 c20) z T23.heap n0 Z24 O24 S0 hz T23q ((own_mk_hb b2q b5q b8q b11q b14q b17q b20q).1) ((own_mk_hb b2q b5q b8q b11q b14q b17q b20q).2) (fun hq => (fun hq => hc28 hq.2.1) ((own_mk_h (i0 &&& (7 : Int32)) c2 c5 c8 c11 c14 c17 c20).mp hq)) (fun hq => (fun hq => hc28 hq.2.1) ((own_mk_help (i0 &&& (7 : Int32)) c2 c5 c8 c11 c14 c17 c20).mp hq))) hZ (hw _ (List.mem_of_getElem? (i := 32) rfl)) (hw _ (List.mem_of_getElem? (i := 31) rfl)) (by decide) (by decide) (own_EW hw) R24.1) (g := (mkF m 159 #[.val (.int i0), .val (.int i1), .val (.int i2), .val (.int i3), .val (.int i4), .val (.int (i0 &&& (7 : Int32))), .val (.int c2), .val (.int c5), .val (.int c8), .val (.int c11), .val (.int c14), .val (.int c17), .val (.int c20), .val (.ref a23), .val (.int (0 : Int32))] [(.ref a23)])) rfl (by rw [hml]; rfl) (argsL := [(.ref a23)]) (rest := []) (lenOf pd_246 rfl) rfl (by show 2 * 0 + _ ≤ _; exact Nat.le_of_eq rfl) (hb hby at_159) (fun _ _ => ⟨rfl, rfl, (by decide : 20 + 4 ≤ _), (by decide : 188 + 40 ≤ _)⟩)
      dsimp only [Pt.U, Pt.locs, Pt.cells, Pt.slots] at Xq40 hSq40 gq40 rq40 l40 y40 z40 st40 hQ40
      subst l40 y40 z40
      obtain ⟨X40, hS, hZ, hown⟩ := rebS hS (Nat.le_trans (Nat.le_refl T23.heap.size) (Nat.le_of_eq (congrArg Array.size (rfl : T23.heap = T23.heap).symm))) Xq40 hSq40 gq40 hZ hown
      obtain ⟨rfl, N40q, K40q⟩ := hQ40
      have N40 := Fr.app N23 N40q
      have r41 : CHr Z own_EL T23.vm T23.heap T40.vm T40.heap := rq40
      have R41 : CHr Z own_EL s.vm h0 T40.vm T40.heap := R24.trans r41
      have Z41 : n0 ≤ T40.heap.size := Nat.le_trans Z24 K40q.1
      have O41 : Old Z n0 T40.heap := O24.keep K40q all0
      have K41 : Keep h0 T40.heap [] := K24.trans K40q all0
      refine gsW (fun _ k => st40.trans k) ?_
      show OwnGoW p e below s Z own_EL _ _ _ (T40.setTop (mkF m 162 #[.val (.int i0), .val (.int i1), .val (.int i2), .val (.int i3), .val (.int i4), .val (.int (i0 &&& (7 : Int32))), .val (.int c2), .val (.int c5), .val (.int c8), .val (.int c11), .val (.int c14), .val (.int c17), .val (.int c20), .val (.ref a23), .val (.int (0 : Int32))] [(.int (0 : Int32))]))
      have c42 : ∀ tg, Steps p.tables e below (T40.setTop (mkF m 172 #[.val (.int i0), .val (.int i1), .val (.int i2), .val (.int i3), .val (.int i4), .val (.int (i0 &&& (7 : Int32))), .val (.int c2), .val (.int c5), .val (.int c8), .val (.int c11), .val (.int c14), .val (.int c17), .val (.int c20), .val (.ref a23), .val (.int (0 : Int32))] [(.int (1 : Int32))])) tg → Steps p.tables e below (T40.setTop (mkF m 162 #[.val (.int i0), .val (.int i1), .val (.int i2), .val (.int i3), .val (.int i4), .val (.int (i0 &&& (7 : Int32))), .val (.int c2), .val (.int c5), .val (.int c8), .val (.int c11), .val (.int c14), .val (.int c17), .val (.int c20), .val (.ref a23), .val (.int (0 : Int32))] [(.int (0 : Int32))])) tg := fun tg kg => by
        refine XS.iload X40.here hx rfl (hb hby at_162) rfl ?_
        show Steps p.tables e below (T40.setTop (mkF m 164 #[.val (.int i0), .val (.int i1), .val (.int i2), .val (.int i3), .val (.int i4), .val (.int (i0 &&& (7 : Int32))), .val (.int c2), .val (.int c5), .val (.int c8), .val (.int c11), .val (.int c14), .val (.int c17), .val (.int c20), .val (.ref a23), .val (.int (0 : Int32))] [(.int (0 : Int32)), (.int (0 : Int32))])) tg
        refine XS.icmpNo X40.here hx rfl (hb hby at_164) rfl (teq (by decide : (0 : Int32) = (0 : Int32))).2 ?_
        show Steps p.tables e below (T40.setTop (mkF m 167 #[.val (.int i0), .val (.int i1), .val (.int i2), .val (.int i3), .val (.int i4), .val (.int (i0 &&& (7 : Int32))), .val (.int c2), .val (.int c5), .val (.int c8), .val (.int c11), .val (.int c14), .val (.int c17), .val (.int c20), .val (.ref a23), .val (.int (0 : Int32))] [])) tg
        refine XS.iconst X40.here hx rfl (hb hby at_167) ?_
        show Steps p.tables e below (T40.setTop (mkF m 168 #[.val (.int i0), .val (.int i1), .val (.int i2), .val (.int i3), .val (.int i4), .val (.int (i0 &&& (7 : Int32))), .val (.int c2), .val (.int c5), .val (.int c8), .val (.int c11), .val (.int c14), .val (.int c17), .val (.int c20), .val (.ref a23), .val (.int (0 : Int32))] [(.int (1 : Int32))])) tg
        refine XS.goto X40.here hx rfl (pc0 := 168) (pc' := 172) rfl (hb hby at_168) (by decide) (by decide) ?_
        show Steps p.tables e below (T40.setTop (mkF m 172 #[.val (.int i0), .val (.int i1), .val (.int i2), .val (.int i3), .val (.int i4), .val (.int (i0 &&& (7 : Int32))), .val (.int c2), .val (.int c5), .val (.int c8), .val (.int c11), .val (.int c14), .val (.int c17), .val (.int c20), .val (.ref a23), .val (.int (0 : Int32))] [(.int (1 : Int32))])) tg
        exact kg
      refine gsW c42 ?_
      refine goutW (v := some (.int (1 : Int32))) X40 hS (Nat.le_refl T40.heap.size) hZ (own_EW hw) hh rfl R41 Bd.notSynchronized (fun h => by rw [Bd.returns] at h; cases h) (by decide) (by decide) ?_ (fun fs hr => retN X40 hx (t := .boolean) Bd.returns (by simp) (hb hby at_172) hr)
      exact ⟨rfl, N40⟩
  · have c43 : ∀ tg, Steps p.tables e below (T23.setTop (mkF m 109 #[.val (.int i0), .val (.int i1), .val (.int i2), .val (.int i3), .val (.int i4), .val (.int (i0 &&& (7 : Int32))), .val (.int c2), .val (.int c5), .val (.int c8), .val (.int c11), .val (.int c14), .val (.int c17), .val (.int c20), .val (.ref a23), .val (.int (0 : Int32))] [(.int (6 : Int32)), (.int (i0 &&& (7 : Int32)))])) tg → Steps p.tables e below (T23.setTop (mkF m 85 #[.val (.int i0), .val (.int i1), .val (.int i2), .val (.int i3), .val (.int i4), .val (.int (i0 &&& (7 : Int32))), .val (.int c2), .val (.int c5), .val (.int c8), .val (.int c11), .val (.int c14), .val (.int c17), .val (.int c20), .val (.ref a23), .val (.int (0 : Int32))] [(.int (2 : Int32)), (.int (i0 &&& (7 : Int32)))])) tg := fun tg kg => by
      refine XS.icmpYes X23.here hx rfl (pc0 := 85) (pc' := 105) rfl (hb hby at_85) rfl (feq hc26).2 (by decide) (by decide) ?_
      show Steps p.tables e below (T23.setTop (mkF m 105 #[.val (.int i0), .val (.int i1), .val (.int i2), .val (.int i3), .val (.int i4), .val (.int (i0 &&& (7 : Int32))), .val (.int c2), .val (.int c5), .val (.int c8), .val (.int c11), .val (.int c14), .val (.int c17), .val (.int c20), .val (.ref a23), .val (.int (0 : Int32))] [])) tg
      refine XS.iload X23.here hx rfl (hb hby at_105) rfl ?_
      show Steps p.tables e below (T23.setTop (mkF m 107 #[.val (.int i0), .val (.int i1), .val (.int i2), .val (.int i3), .val (.int i4), .val (.int (i0 &&& (7 : Int32))), .val (.int c2), .val (.int c5), .val (.int c8), .val (.int c11), .val (.int c14), .val (.int c17), .val (.int c20), .val (.ref a23), .val (.int (0 : Int32))] [(.int (i0 &&& (7 : Int32)))])) tg
      refine XS.bipush X23.here hx rfl (hb hby at_107) ?_
      show Steps p.tables e below (T23.setTop (mkF m 109 #[.val (.int i0), .val (.int i1), .val (.int i2), .val (.int i3), .val (.int i4), .val (.int (i0 &&& (7 : Int32))), .val (.int c2), .val (.int c5), .val (.int c8), .val (.int c11), .val (.int c14), .val (.int c17), .val (.int c20), .val (.ref a23), .val (.int (0 : Int32))] [(.int (6 : Int32)), (.int (i0 &&& (7 : Int32)))])) tg
      exact kg
    refine gsW c43 ?_
    by_cases hc44 : (i0 &&& (7 : Int32)) = (6 : Int32)
    · have c45 : ∀ tg, Steps p.tables e below (T23.setTop (mkF m 116 #[.val (.int i0), .val (.int i1), .val (.int i2), .val (.int i3), .val (.int i4), .val (.int (i0 &&& (7 : Int32))), .val (.int c2), .val (.int c5), .val (.int c8), .val (.int c11), .val (.int c14), .val (.int c17), .val (.int c20), .val (.ref a23), .val (.int (0 : Int32))] [(.int (45 : Int32)), (.int c2)])) tg → Steps p.tables e below (T23.setTop (mkF m 109 #[.val (.int i0), .val (.int i1), .val (.int i2), .val (.int i3), .val (.int i4), .val (.int (i0 &&& (7 : Int32))), .val (.int c2), .val (.int c5), .val (.int c8), .val (.int c11), .val (.int c14), .val (.int c17), .val (.int c20), .val (.ref a23), .val (.int (0 : Int32))] [(.int (6 : Int32)), (.int (i0 &&& (7 : Int32)))])) tg := fun tg kg => by
        refine XS.icmpNo X23.here hx rfl (hb hby at_109) rfl (teq hc44).2 ?_
        show Steps p.tables e below (T23.setTop (mkF m 112 #[.val (.int i0), .val (.int i1), .val (.int i2), .val (.int i3), .val (.int i4), .val (.int (i0 &&& (7 : Int32))), .val (.int c2), .val (.int c5), .val (.int c8), .val (.int c11), .val (.int c14), .val (.int c17), .val (.int c20), .val (.ref a23), .val (.int (0 : Int32))] [])) tg
        refine XS.iload X23.here hx rfl (hb hby at_112) rfl ?_
        show Steps p.tables e below (T23.setTop (mkF m 114 #[.val (.int i0), .val (.int i1), .val (.int i2), .val (.int i3), .val (.int i4), .val (.int (i0 &&& (7 : Int32))), .val (.int c2), .val (.int c5), .val (.int c8), .val (.int c11), .val (.int c14), .val (.int c17), .val (.int c20), .val (.ref a23), .val (.int (0 : Int32))] [(.int c2)])) tg
        refine XS.bipush X23.here hx rfl (hb hby at_114) ?_
        show Steps p.tables e below (T23.setTop (mkF m 116 #[.val (.int i0), .val (.int i1), .val (.int i2), .val (.int i3), .val (.int i4), .val (.int (i0 &&& (7 : Int32))), .val (.int c2), .val (.int c5), .val (.int c8), .val (.int c11), .val (.int c14), .val (.int c17), .val (.int c20), .val (.ref a23), .val (.int (0 : Int32))] [(.int (45 : Int32)), (.int c2)])) tg
        exact kg
      refine gsW c45 ?_
      by_cases hc46 : c2 = (45 : Int32)
      · have c47 : ∀ tg, Steps p.tables e below (T23.setTop (mkF m 123 #[.val (.int i0), .val (.int i1), .val (.int i2), .val (.int i3), .val (.int i4), .val (.int (i0 &&& (7 : Int32))), .val (.int c2), .val (.int c5), .val (.int c8), .val (.int c11), .val (.int c14), .val (.int c17), .val (.int c20), .val (.ref a23), .val (.int (0 : Int32))] [(.int (45 : Int32)), (.int c5)])) tg → Steps p.tables e below (T23.setTop (mkF m 116 #[.val (.int i0), .val (.int i1), .val (.int i2), .val (.int i3), .val (.int i4), .val (.int (i0 &&& (7 : Int32))), .val (.int c2), .val (.int c5), .val (.int c8), .val (.int c11), .val (.int c14), .val (.int c17), .val (.int c20), .val (.ref a23), .val (.int (0 : Int32))] [(.int (45 : Int32)), (.int c2)])) tg := fun tg kg => by
          refine XS.icmpNo X23.here hx rfl (hb hby at_116) rfl (teq hc46).2 ?_
          show Steps p.tables e below (T23.setTop (mkF m 119 #[.val (.int i0), .val (.int i1), .val (.int i2), .val (.int i3), .val (.int i4), .val (.int (i0 &&& (7 : Int32))), .val (.int c2), .val (.int c5), .val (.int c8), .val (.int c11), .val (.int c14), .val (.int c17), .val (.int c20), .val (.ref a23), .val (.int (0 : Int32))] [])) tg
          refine XS.iload X23.here hx rfl (hb hby at_119) rfl ?_
          show Steps p.tables e below (T23.setTop (mkF m 121 #[.val (.int i0), .val (.int i1), .val (.int i2), .val (.int i3), .val (.int i4), .val (.int (i0 &&& (7 : Int32))), .val (.int c2), .val (.int c5), .val (.int c8), .val (.int c11), .val (.int c14), .val (.int c17), .val (.int c20), .val (.ref a23), .val (.int (0 : Int32))] [(.int c5)])) tg
          refine XS.bipush X23.here hx rfl (hb hby at_121) ?_
          show Steps p.tables e below (T23.setTop (mkF m 123 #[.val (.int i0), .val (.int i1), .val (.int i2), .val (.int i3), .val (.int i4), .val (.int (i0 &&& (7 : Int32))), .val (.int c2), .val (.int c5), .val (.int c8), .val (.int c11), .val (.int c14), .val (.int c17), .val (.int c20), .val (.ref a23), .val (.int (0 : Int32))] [(.int (45 : Int32)), (.int c5)])) tg
          exact kg
        refine gsW c47 ?_
        by_cases hc48 : c5 = (45 : Int32)
        · have c49 : ∀ tg, Steps p.tables e below (T23.setTop (mkF m 130 #[.val (.int i0), .val (.int i1), .val (.int i2), .val (.int i3), .val (.int i4), .val (.int (i0 &&& (7 : Int32))), .val (.int c2), .val (.int c5), .val (.int c8), .val (.int c11), .val (.int c14), .val (.int c17), .val (.int c20), .val (.ref a23), .val (.int (0 : Int32))] [(.int (104 : Int32)), (.int c8)])) tg → Steps p.tables e below (T23.setTop (mkF m 123 #[.val (.int i0), .val (.int i1), .val (.int i2), .val (.int i3), .val (.int i4), .val (.int (i0 &&& (7 : Int32))), .val (.int c2), .val (.int c5), .val (.int c8), .val (.int c11), .val (.int c14), .val (.int c17), .val (.int c20), .val (.ref a23), .val (.int (0 : Int32))] [(.int (45 : Int32)), (.int c5)])) tg := fun tg kg => by
            refine XS.icmpNo X23.here hx rfl (hb hby at_123) rfl (teq hc48).2 ?_
            show Steps p.tables e below (T23.setTop (mkF m 126 #[.val (.int i0), .val (.int i1), .val (.int i2), .val (.int i3), .val (.int i4), .val (.int (i0 &&& (7 : Int32))), .val (.int c2), .val (.int c5), .val (.int c8), .val (.int c11), .val (.int c14), .val (.int c17), .val (.int c20), .val (.ref a23), .val (.int (0 : Int32))] [])) tg
            refine XS.iload X23.here hx rfl (hb hby at_126) rfl ?_
            show Steps p.tables e below (T23.setTop (mkF m 128 #[.val (.int i0), .val (.int i1), .val (.int i2), .val (.int i3), .val (.int i4), .val (.int (i0 &&& (7 : Int32))), .val (.int c2), .val (.int c5), .val (.int c8), .val (.int c11), .val (.int c14), .val (.int c17), .val (.int c20), .val (.ref a23), .val (.int (0 : Int32))] [(.int c8)])) tg
            refine XS.bipush X23.here hx rfl (hb hby at_128) ?_
            show Steps p.tables e below (T23.setTop (mkF m 130 #[.val (.int i0), .val (.int i1), .val (.int i2), .val (.int i3), .val (.int i4), .val (.int (i0 &&& (7 : Int32))), .val (.int c2), .val (.int c5), .val (.int c8), .val (.int c11), .val (.int c14), .val (.int c17), .val (.int c20), .val (.ref a23), .val (.int (0 : Int32))] [(.int (104 : Int32)), (.int c8)])) tg
            exact kg
          refine gsW c49 ?_
          by_cases hc50 : c8 = (104 : Int32)
          · have c51 : ∀ tg, Steps p.tables e below (T23.setTop (mkF m 137 #[.val (.int i0), .val (.int i1), .val (.int i2), .val (.int i3), .val (.int i4), .val (.int (i0 &&& (7 : Int32))), .val (.int c2), .val (.int c5), .val (.int c8), .val (.int c11), .val (.int c14), .val (.int c17), .val (.int c20), .val (.ref a23), .val (.int (0 : Int32))] [(.int (101 : Int32)), (.int c11)])) tg → Steps p.tables e below (T23.setTop (mkF m 130 #[.val (.int i0), .val (.int i1), .val (.int i2), .val (.int i3), .val (.int i4), .val (.int (i0 &&& (7 : Int32))), .val (.int c2), .val (.int c5), .val (.int c8), .val (.int c11), .val (.int c14), .val (.int c17), .val (.int c20), .val (.ref a23), .val (.int (0 : Int32))] [(.int (104 : Int32)), (.int c8)])) tg := fun tg kg => by
              refine XS.icmpNo X23.here hx rfl (hb hby at_130) rfl (teq hc50).2 ?_
              show Steps p.tables e below (T23.setTop (mkF m 133 #[.val (.int i0), .val (.int i1), .val (.int i2), .val (.int i3), .val (.int i4), .val (.int (i0 &&& (7 : Int32))), .val (.int c2), .val (.int c5), .val (.int c8), .val (.int c11), .val (.int c14), .val (.int c17), .val (.int c20), .val (.ref a23), .val (.int (0 : Int32))] [])) tg
              refine XS.iload X23.here hx rfl (hb hby at_133) rfl ?_
              show Steps p.tables e below (T23.setTop (mkF m 135 #[.val (.int i0), .val (.int i1), .val (.int i2), .val (.int i3), .val (.int i4), .val (.int (i0 &&& (7 : Int32))), .val (.int c2), .val (.int c5), .val (.int c8), .val (.int c11), .val (.int c14), .val (.int c17), .val (.int c20), .val (.ref a23), .val (.int (0 : Int32))] [(.int c11)])) tg
              refine XS.bipush X23.here hx rfl (hb hby at_135) ?_
              show Steps p.tables e below (T23.setTop (mkF m 137 #[.val (.int i0), .val (.int i1), .val (.int i2), .val (.int i3), .val (.int i4), .val (.int (i0 &&& (7 : Int32))), .val (.int c2), .val (.int c5), .val (.int c8), .val (.int c11), .val (.int c14), .val (.int c17), .val (.int c20), .val (.ref a23), .val (.int (0 : Int32))] [(.int (101 : Int32)), (.int c11)])) tg
              exact kg
            refine gsW c51 ?_
            by_cases hc52 : c11 = (101 : Int32)
            · have c53 : ∀ tg, Steps p.tables e below (T23.setTop (mkF m 144 #[.val (.int i0), .val (.int i1), .val (.int i2), .val (.int i3), .val (.int i4), .val (.int (i0 &&& (7 : Int32))), .val (.int c2), .val (.int c5), .val (.int c8), .val (.int c11), .val (.int c14), .val (.int c17), .val (.int c20), .val (.ref a23), .val (.int (0 : Int32))] [(.int (108 : Int32)), (.int c14)])) tg → Steps p.tables e below (T23.setTop (mkF m 137 #[.val (.int i0), .val (.int i1), .val (.int i2), .val (.int i3), .val (.int i4), .val (.int (i0 &&& (7 : Int32))), .val (.int c2), .val (.int c5), .val (.int c8), .val (.int c11), .val (.int c14), .val (.int c17), .val (.int c20), .val (.ref a23), .val (.int (0 : Int32))] [(.int (101 : Int32)), (.int c11)])) tg := fun tg kg => by
                refine XS.icmpNo X23.here hx rfl (hb hby at_137) rfl (teq hc52).2 ?_
                show Steps p.tables e below (T23.setTop (mkF m 140 #[.val (.int i0), .val (.int i1), .val (.int i2), .val (.int i3), .val (.int i4), .val (.int (i0 &&& (7 : Int32))), .val (.int c2), .val (.int c5), .val (.int c8), .val (.int c11), .val (.int c14), .val (.int c17), .val (.int c20), .val (.ref a23), .val (.int (0 : Int32))] [])) tg
                refine XS.iload X23.here hx rfl (hb hby at_140) rfl ?_
                show Steps p.tables e below (T23.setTop (mkF m 142 #[.val (.int i0), .val (.int i1), .val (.int i2), .val (.int i3), .val (.int i4), .val (.int (i0 &&& (7 : Int32))), .val (.int c2), .val (.int c5), .val (.int c8), .val (.int c11), .val (.int c14), .val (.int c17), .val (.int c20), .val (.ref a23), .val (.int (0 : Int32))] [(.int c14)])) tg
                refine XS.bipush X23.here hx rfl (hb hby at_142) ?_
                show Steps p.tables e below (T23.setTop (mkF m 144 #[.val (.int i0), .val (.int i1), .val (.int i2), .val (.int i3), .val (.int i4), .val (.int (i0 &&& (7 : Int32))), .val (.int c2), .val (.int c5), .val (.int c8), .val (.int c11), .val (.int c14), .val (.int c17), .val (.int c20), .val (.ref a23), .val (.int (0 : Int32))] [(.int (108 : Int32)), (.int c14)])) tg
                exact kg
              refine gsW c53 ?_
              by_cases hc54 : c14 = (108 : Int32)
              · have c55 : ∀ tg, Steps p.tables e below (T23.setTop (mkF m 151 #[.val (.int i0), .val (.int i1), .val (.int i2), .val (.int i3), .val (.int i4), .val (.int (i0 &&& (7 : Int32))), .val (.int c2), .val (.int c5), .val (.int c8), .val (.int c11), .val (.int c14), .val (.int c17), .val (.int c20), .val (.ref a23), .val (.int (0 : Int32))] [(.int (112 : Int32)), (.int c17)])) tg → Steps p.tables e below (T23.setTop (mkF m 144 #[.val (.int i0), .val (.int i1), .val (.int i2), .val (.int i3), .val (.int i4), .val (.int (i0 &&& (7 : Int32))), .val (.int c2), .val (.int c5), .val (.int c8), .val (.int c11), .val (.int c14), .val (.int c17), .val (.int c20), .val (.ref a23), .val (.int (0 : Int32))] [(.int (108 : Int32)), (.int c14)])) tg := fun tg kg => by
                  refine XS.icmpNo X23.here hx rfl (hb hby at_144) rfl (teq hc54).2 ?_
                  show Steps p.tables e below (T23.setTop (mkF m 147 #[.val (.int i0), .val (.int i1), .val (.int i2), .val (.int i3), .val (.int i4), .val (.int (i0 &&& (7 : Int32))), .val (.int c2), .val (.int c5), .val (.int c8), .val (.int c11), .val (.int c14), .val (.int c17), .val (.int c20), .val (.ref a23), .val (.int (0 : Int32))] [])) tg
                  refine XS.iload X23.here hx rfl (hb hby at_147) rfl ?_
                  show Steps p.tables e below (T23.setTop (mkF m 149 #[.val (.int i0), .val (.int i1), .val (.int i2), .val (.int i3), .val (.int i4), .val (.int (i0 &&& (7 : Int32))), .val (.int c2), .val (.int c5), .val (.int c8), .val (.int c11), .val (.int c14), .val (.int c17), .val (.int c20), .val (.ref a23), .val (.int (0 : Int32))] [(.int c17)])) tg
                  refine XS.bipush X23.here hx rfl (hb hby at_149) ?_
                  show Steps p.tables e below (T23.setTop (mkF m 151 #[.val (.int i0), .val (.int i1), .val (.int i2), .val (.int i3), .val (.int i4), .val (.int (i0 &&& (7 : Int32))), .val (.int c2), .val (.int c5), .val (.int c8), .val (.int c11), .val (.int c14), .val (.int c17), .val (.int c20), .val (.ref a23), .val (.int (0 : Int32))] [(.int (112 : Int32)), (.int c17)])) tg
                  exact kg
                refine gsW c55 ?_
                by_cases hc56 : c17 = (112 : Int32)
                · have c57 : ∀ tg, Steps p.tables e below (T23.setTop (mkF m 159 #[.val (.int i0), .val (.int i1), .val (.int i2), .val (.int i3), .val (.int i4), .val (.int (i0 &&& (7 : Int32))), .val (.int c2), .val (.int c5), .val (.int c8), .val (.int c11), .val (.int c14), .val (.int c17), .val (.int c20), .val (.ref a23), .val (.int (1 : Int32))] [(.ref a23)])) tg → Steps p.tables e below (T23.setTop (mkF m 151 #[.val (.int i0), .val (.int i1), .val (.int i2), .val (.int i3), .val (.int i4), .val (.int (i0 &&& (7 : Int32))), .val (.int c2), .val (.int c5), .val (.int c8), .val (.int c11), .val (.int c14), .val (.int c17), .val (.int c20), .val (.ref a23), .val (.int (0 : Int32))] [(.int (112 : Int32)), (.int c17)])) tg := fun tg kg => by
                    refine XS.icmpNo X23.here hx rfl (hb hby at_151) rfl (teq hc56).2 ?_
                    show Steps p.tables e below (T23.setTop (mkF m 154 #[.val (.int i0), .val (.int i1), .val (.int i2), .val (.int i3), .val (.int i4), .val (.int (i0 &&& (7 : Int32))), .val (.int c2), .val (.int c5), .val (.int c8), .val (.int c11), .val (.int c14), .val (.int c17), .val (.int c20), .val (.ref a23), .val (.int (0 : Int32))] [])) tg
                    refine XS.iconst X23.here hx rfl (hb hby at_154) ?_
                    show Steps p.tables e below (T23.setTop (mkF m 155 #[.val (.int i0), .val (.int i1), .val (.int i2), .val (.int i3), .val (.int i4), .val (.int (i0 &&& (7 : Int32))), .val (.int c2), .val (.int c5), .val (.int c8), .val (.int c11), .val (.int c14), .val (.int c17), .val (.int c20), .val (.ref a23), .val (.int (0 : Int32))] [(.int (1 : Int32))])) tg
                    refine XS.istore X23.here hx rfl (hb hby at_155) rfl (l' := #[.val (.int i0), .val (.int i1), .val (.int i2), .val (.int i3), .val (.int i4), .val (.int (i0 &&& (7 : Int32))), .val (.int c2), .val (.int c5), .val (.int c8), .val (.int c11), .val (.int c14), .val (.int c17), .val (.int c20), .val (.ref a23), .val (.int (1 : Int32))]) rfl ?_
                    show Steps p.tables e below (T23.setTop (mkF m 157 #[.val (.int i0), .val (.int i1), .val (.int i2), .val (.int i3), .val (.int i4), .val (.int (i0 &&& (7 : Int32))), .val (.int c2), .val (.int c5), .val (.int c8), .val (.int c11), .val (.int c14), .val (.int c17), .val (.int c20), .val (.ref a23), .val (.int (1 : Int32))] [])) tg
                    refine XS.aload X23.here hx rfl (hb hby at_157) rfl rfl ?_
                    show Steps p.tables e below (T23.setTop (mkF m 159 #[.val (.int i0), .val (.int i1), .val (.int i2), .val (.int i3), .val (.int i4), .val (.int (i0 &&& (7 : Int32))), .val (.int c2), .val (.int c5), .val (.int c8), .val (.int c11), .val (.int c14), .val (.int c17), .val (.int c20), .val (.ref a23), .val (.int (1 : Int32))] [(.ref a23)])) tg
                    exact kg
                  refine gsW c57 ?_
                  obtain ⟨_, _, ⟨T58, L58, k58, n58⟩, -, Xq58, hSq58, gq58, ⟨Lc58, hQ58, l58, y58, z58, rq58⟩, st58⟩ := callSS X23 hx (y := (⟨"com/example/caddisfly/caddisfly/Syntax", "isHelp", "(Ljava/lang/String;)Z"⟩ : MethodName)) hown (mvT hZ (hw _ (List.mem_of_getElem? (i := 29) rfl))) (mvT hZ (hw _ (List.mem_of_getElem? (i := 30) rfl))) (mvT hZ (hw _ (List.mem_of_getElem? (i := 31) rfl))) (mvT hZ (hw _ (List.mem_of_getElem? (i := 32) rfl))) (by decide) (backCW (W := 0) (rm_ih_help l Z a0 hw [] a23 (own_mk (i0 &&& (7 : Int32)) c2 c5 c8 c11 c14 c17 c20) z T23.heap n0 Z24 O24 S0 hz T23q ((own_mk_hb b2q b5q b8q b11q b14q b17q b20q).1) ((own_mk_hb b2q b5q b8q b11q b14q b17q b20q).2) (fun hq => (fun hq => hc26 hq.1) ((own_mk_h (i0 &&& (7 : Int32)) c2 c5 c8 c11 c14 c17 c20).mp hq)) ((own_mk_help (i0 &&& (7 : Int32)) c2 c5 c8 c11 c14 c17 c20).mpr ⟨hc44, hc46, hc48, hc50, hc52, hc54, hc56⟩)) hZ (hw _ (List.mem_of_getElem? (i := 32) rfl)) (hw _ (List.mem_of_getElem? (i := 31) rfl)) (by decide) (by decide) (own_EW hw) R24.1) (g := (mkF m 159 #[.val (.int i0), .val (.int i1), .val (.int i2), .val (.int i3), .val (.int i4), .val (.int (i0 &&& (7 : Int32))), .val (.int c2), .val (.int c5), .val (.int c8), .val (.int c11), .val (.int c14), .val (.int c17), .val (.int c20), .val (.ref a23), .val (.int (1 : Int32))] [(.ref a23)])) rfl (by rw [hml]; rfl) (argsL := [(.ref a23)]) (rest := []) (lenOf pd_246 rfl) rfl (by show 2 * 0 + _ ≤ _; exact Nat.le_of_eq rfl) (hb hby at_159) (fun _ _ => ⟨rfl, rfl, (by decide : 20 + 4 ≤ _), (by decide : 188 + 40 ≤ _)⟩)
                  dsimp only [Pt.U, Pt.locs, Pt.cells, Pt.slots] at Xq58 hSq58 gq58 rq58 l58 y58 z58 st58 hQ58
                  subst l58 y58 z58
                  obtain ⟨X58, hS, hZ, hown⟩ := rebS hS (Nat.le_trans (Nat.le_refl T23.heap.size) (Nat.le_of_eq (congrArg Array.size (rfl : T23.heap = T23.heap).symm))) Xq58 hSq58 gq58 hZ hown
                  obtain ⟨rfl, N58q, K58q⟩ := hQ58
                  have N58 := Fr.app N23 N58q
                  have r59 : CHr Z own_EL T23.vm T23.heap T58.vm T58.heap := rq58
                  have R59 : CHr Z own_EL s.vm h0 T58.vm T58.heap := R24.trans r59
                  have Z59 : n0 ≤ T58.heap.size := Nat.le_trans Z24 K58q.1
                  have O59 : Old Z n0 T58.heap := O24.keep K58q all0
                  have K59 : Keep h0 T58.heap [] := K24.trans K58q all0
                  refine gsW (fun _ k => st58.trans k) ?_
                  show OwnGoW p e below s Z own_EL _ _ _ (T58.setTop (mkF m 162 #[.val (.int i0), .val (.int i1), .val (.int i2), .val (.int i3), .val (.int i4), .val (.int (i0 &&& (7 : Int32))), .val (.int c2), .val (.int c5), .val (.int c8), .val (.int c11), .val (.int c14), .val (.int c17), .val (.int c20), .val (.ref a23), .val (.int (1 : Int32))] [(.int (1 : Int32))]))
                  have c60 : ∀ tg, Steps p.tables e below (T58.setTop (mkF m 172 #[.val (.int i0), .val (.int i1), .val (.int i2), .val (.int i3), .val (.int i4), .val (.int (i0 &&& (7 : Int32))), .val (.int c2), .val (.int c5), .val (.int c8), .val (.int c11), .val (.int c14), .val (.int c17), .val (.int c20), .val (.ref a23), .val (.int (1 : Int32))] [(.int (1 : Int32))])) tg → Steps p.tables e below (T58.setTop (mkF m 162 #[.val (.int i0), .val (.int i1), .val (.int i2), .val (.int i3), .val (.int i4), .val (.int (i0 &&& (7 : Int32))), .val (.int c2), .val (.int c5), .val (.int c8), .val (.int c11), .val (.int c14), .val (.int c17), .val (.int c20), .val (.ref a23), .val (.int (1 : Int32))] [(.int (1 : Int32))])) tg := fun tg kg => by
                    refine XS.iload X58.here hx rfl (hb hby at_162) rfl ?_
                    show Steps p.tables e below (T58.setTop (mkF m 164 #[.val (.int i0), .val (.int i1), .val (.int i2), .val (.int i3), .val (.int i4), .val (.int (i0 &&& (7 : Int32))), .val (.int c2), .val (.int c5), .val (.int c8), .val (.int c11), .val (.int c14), .val (.int c17), .val (.int c20), .val (.ref a23), .val (.int (1 : Int32))] [(.int (1 : Int32)), (.int (1 : Int32))])) tg
                    refine XS.icmpNo X58.here hx rfl (hb hby at_164) rfl (teq (by decide : (1 : Int32) = (1 : Int32))).2 ?_
                    show Steps p.tables e below (T58.setTop (mkF m 167 #[.val (.int i0), .val (.int i1), .val (.int i2), .val (.int i3), .val (.int i4), .val (.int (i0 &&& (7 : Int32))), .val (.int c2), .val (.int c5), .val (.int c8), .val (.int c11), .val (.int c14), .val (.int c17), .val (.int c20), .val (.ref a23), .val (.int (1 : Int32))] [])) tg
                    refine XS.iconst X58.here hx rfl (hb hby at_167) ?_
                    show Steps p.tables e below (T58.setTop (mkF m 168 #[.val (.int i0), .val (.int i1), .val (.int i2), .val (.int i3), .val (.int i4), .val (.int (i0 &&& (7 : Int32))), .val (.int c2), .val (.int c5), .val (.int c8), .val (.int c11), .val (.int c14), .val (.int c17), .val (.int c20), .val (.ref a23), .val (.int (1 : Int32))] [(.int (1 : Int32))])) tg
                    refine XS.goto X58.here hx rfl (pc0 := 168) (pc' := 172) rfl (hb hby at_168) (by decide) (by decide) ?_
                    show Steps p.tables e below (T58.setTop (mkF m 172 #[.val (.int i0), .val (.int i1), .val (.int i2), .val (.int i3), .val (.int i4), .val (.int (i0 &&& (7 : Int32))), .val (.int c2), .val (.int c5), .val (.int c8), .val (.int c11), .val (.int c14), .val (.int c17), .val (.int c20), .val (.ref a23), .val (.int (1 : Int32))] [(.int (1 : Int32))])) tg
                    exact kg
                  refine gsW c60 ?_
                  refine goutW (v := some (.int (1 : Int32))) X58 hS (Nat.le_refl T58.heap.size) hZ (own_EW hw) hh rfl R59 Bd.notSynchronized (fun h => by rw [Bd.returns] at h; cases h) (by decide) (by decide) ?_ (fun fs hr => retN X58 hx (t := .boolean) Bd.returns (by simp) (hb hby at_172) hr)
                  exact ⟨rfl, N58⟩
                · have c61 : ∀ tg, Steps p.tables e below (T23.setTop (mkF m 159 #[.val (.int i0), .val (.int i1), .val (.int i2), .val (.int i3), .val (.int i4), .val (.int (i0 &&& (7 : Int32))), .val (.int c2), .val (.int c5), .val (.int c8), .val (.int c11), .val (.int c14), .val (.int c17), .val (.int c20), .val (.ref a23), .val (.int (0 : Int32))] [(.ref a23)])) tg → Steps p.tables e below (T23.setTop (mkF m 151 #[.val (.int i0), .val (.int i1), .val (.int i2), .val (.int i3), .val (.int i4), .val (.int (i0 &&& (7 : Int32))), .val (.int c2), .val (.int c5), .val (.int c8), .val (.int c11), .val (.int c14), .val (.int c17), .val (.int c20), .val (.ref a23), .val (.int (0 : Int32))] [(.int (112 : Int32)), (.int c17)])) tg := fun tg kg => by
                    refine XS.icmpYes X23.here hx rfl (pc0 := 151) (pc' := 157) rfl (hb hby at_151) rfl (feq hc56).2 (by decide) (by decide) ?_
                    show Steps p.tables e below (T23.setTop (mkF m 157 #[.val (.int i0), .val (.int i1), .val (.int i2), .val (.int i3), .val (.int i4), .val (.int (i0 &&& (7 : Int32))), .val (.int c2), .val (.int c5), .val (.int c8), .val (.int c11), .val (.int c14), .val (.int c17), .val (.int c20), .val (.ref a23), .val (.int (0 : Int32))] [])) tg
                    refine XS.aload X23.here hx rfl (hb hby at_157) rfl rfl ?_
                    show Steps p.tables e below (T23.setTop (mkF m 159 #[.val (.int i0), .val (.int i1), .val (.int i2), .val (.int i3), .val (.int i4), .val (.int (i0 &&& (7 : Int32))), .val (.int c2), .val (.int c5), .val (.int c8), .val (.int c11), .val (.int c14), .val (.int c17), .val (.int c20), .val (.ref a23), .val (.int (0 : Int32))] [(.ref a23)])) tg
                    exact kg
                  refine gsW c61 ?_
                  obtain ⟨_, _, ⟨T62, L62, k62, n62⟩, -, Xq62, hSq62, gq62, ⟨Lc62, hQ62, l62, y62, z62, rq62⟩, st62⟩ := callSS X23 hx (y := (⟨"com/example/caddisfly/caddisfly/Syntax", "isHelp", "(Ljava/lang/String;)Z"⟩ : MethodName)) hown (mvT hZ (hw _ (List.mem_of_getElem? (i := 29) rfl))) (mvT hZ (hw _ (List.mem_of_getElem? (i := 30) rfl))) (mvT hZ (hw _ (List.mem_of_getElem? (i := 31) rfl))) (mvT hZ (hw _ (List.mem_of_getElem? (i := 32) rfl))) (by decide) (backCW (W := 0) (rm_ih_no l Z a0 hw [] a23 (own_mk (i0 &&& (7 : Int32)) c2 c5 c8 c11 c14 c17 c20) z T23.heap n0 Z24 O24 S0 hz T23q ((own_mk_hb b2q b5q b8q b11q b14q b17q b20q).1) ((own_mk_hb b2q b5q b8q b11q b14q b17q b20q).2) (fun hq => (fun hq => hc26 hq.1) ((own_mk_h (i0 &&& (7 : Int32)) c2 c5 c8 c11 c14 c17 c20).mp hq)) (fun hq => (fun hq => hc56 hq.2.2.2.2.2.2) ((own_mk_help (i0 &&& (7 : Int32)) c2 c5 c8 c11 c14 c17 c20).mp hq))) hZ (hw _ (List.mem_of_getElem? (i := 32) rfl)) (hw _ (List.mem_of_getElem? (i := 31) rfl)) (by decide) (by decide) (own_EW hw) R24.1) (g := (mkF m 159 #[.val (.int i0), .val (.int i1), .val (.int i2), .val (.int i3), .val (.int i4), .val (.int (i0 &&& (7 : Int32))), .val (.int c2), .val (.int c5), .val (.int c8), .val (.int c11), .val (.int c14), .val (.int c17), .val (.int c20), .val (.ref a23), .val (.int (0 : Int32))] [(.ref a23)])) rfl (by rw [hml]; rfl) (argsL := [(.ref a23)]) (rest := []) (lenOf pd_246 rfl) rfl (by show 2 * 0 + _ ≤ _; exact Nat.le_of_eq rfl) (hb hby at_159) (fun _ _ => ⟨rfl, rfl, (by decide : 20 + 4 ≤ _), (by decide : 188 + 40 ≤ _)⟩)
                  dsimp only [Pt.U, Pt.locs, Pt.cells, Pt.slots] at Xq62 hSq62 gq62 rq62 l62 y62 z62 st62 hQ62
                  subst l62 y62 z62
                  obtain ⟨X62, hS, hZ, hown⟩ := rebS hS (Nat.le_trans (Nat.le_refl T23.heap.size) (Nat.le_of_eq (congrArg Array.size (rfl : T23.heap = T23.heap).symm))) Xq62 hSq62 gq62 hZ hown
                  obtain ⟨rfl, N62q, K62q⟩ := hQ62
                  have N62 := Fr.app N23 N62q
                  have r63 : CHr Z own_EL T23.vm T23.heap T62.vm T62.heap := rq62
                  have R63 : CHr Z own_EL s.vm h0 T62.vm T62.heap := R24.trans r63
                  have Z63 : n0 ≤ T62.heap.size := Nat.le_trans Z24 K62q.1
                  have O63 : Old Z n0 T62.heap := O24.keep K62q all0
                  have K63 : Keep h0 T62.heap [] := K24.trans K62q all0
                  refine gsW (fun _ k => st62.trans k) ?_
                  show OwnGoW p e below s Z own_EL _ _ _ (T62.setTop (mkF m 162 #[.val (.int i0), .val (.int i1), .val (.int i2), .val (.int i3), .val (.int i4), .val (.int (i0 &&& (7 : Int32))), .val (.int c2), .val (.int c5), .val (.int c8), .val (.int c11), .val (.int c14), .val (.int c17), .val (.int c20), .val (.ref a23), .val (.int (0 : Int32))] [(.int (0 : Int32))]))
                  have c64 : ∀ tg, Steps p.tables e below (T62.setTop (mkF m 172 #[.val (.int i0), .val (.int i1), .val (.int i2), .val (.int i3), .val (.int i4), .val (.int (i0 &&& (7 : Int32))), .val (.int c2), .val (.int c5), .val (.int c8), .val (.int c11), .val (.int c14), .val (.int c17), .val (.int c20), .val (.ref a23), .val (.int (0 : Int32))] [(.int (1 : Int32))])) tg → Steps p.tables e below (T62.setTop (mkF m 162 #[.val (.int i0), .val (.int i1), .val (.int i2), .val (.int i3), .val (.int i4), .val (.int (i0 &&& (7 : Int32))), .val (.int c2), .val (.int c5), .val (.int c8), .val (.int c11), .val (.int c14), .val (.int c17), .val (.int c20), .val (.ref a23), .val (.int (0 : Int32))] [(.int (0 : Int32))])) tg := fun tg kg => by
                    refine XS.iload X62.here hx rfl (hb hby at_162) rfl ?_
                    show Steps p.tables e below (T62.setTop (mkF m 164 #[.val (.int i0), .val (.int i1), .val (.int i2), .val (.int i3), .val (.int i4), .val (.int (i0 &&& (7 : Int32))), .val (.int c2), .val (.int c5), .val (.int c8), .val (.int c11), .val (.int c14), .val (.int c17), .val (.int c20), .val (.ref a23), .val (.int (0 : Int32))] [(.int (0 : Int32)), (.int (0 : Int32))])) tg
                    refine XS.icmpNo X62.here hx rfl (hb hby at_164) rfl (teq (by decide : (0 : Int32) = (0 : Int32))).2 ?_
                    show Steps p.tables e below (T62.setTop (mkF m 167 #[.val (.int i0), .val (.int i1), .val (.int i2), .val (.int i3), .val (.int i4), .val (.int (i0 &&& (7 : Int32))), .val (.int c2), .val (.int c5), .val (.int c8), .val (.int c11), .val (.int c14), .val (.int c17), .val (.int c20), .val (.ref a23), .val (.int (0 : Int32))] [])) tg
                    refine XS.iconst X62.here hx rfl (hb hby at_167) ?_
                    show Steps p.tables e below (T62.setTop (mkF m 168 #[.val (.int i0), .val (.int i1), .val (.int i2), .val (.int i3), .val (.int i4), .val (.int (i0 &&& (7 : Int32))), .val (.int c2), .val (.int c5), .val (.int c8), .val (.int c11), .val (.int c14), .val (.int c17), .val (.int c20), .val (.ref a23), .val (.int (0 : Int32))] [(.int (1 : Int32))])) tg
                    refine XS.goto X62.here hx rfl (pc0 := 168) (pc' := 172) rfl (hb hby at_168) (by decide) (by decide) ?_
                    show Steps p.tables e below (T62.setTop (mkF m 172 #[.val (.int i0), .val (.int i1), .val (.int i2), .val (.int i3), .val (.int i4), .val (.int (i0 &&& (7 : Int32))), .val (.int c2), .val (.int c5), .val (.int c8), .val (.int c11), .val (.int c14), .val (.int c17), .val (.int c20), .val (.ref a23), .val (.int (0 : Int32))] [(.int (1 : Int32))])) tg
                    exact kg
                  refine gsW c64 ?_
                  refine goutW (v := some (.int (1 : Int32))) X62 hS (Nat.le_refl T62.heap.size) hZ (own_EW hw) hh rfl R63 Bd.notSynchronized (fun h => by rw [Bd.returns] at h; cases h) (by decide) (by decide) ?_ (fun fs hr => retN X62 hx (t := .boolean) Bd.returns (by simp) (hb hby at_172) hr)
                  exact ⟨rfl, N62⟩
              · have c65 : ∀ tg, Steps p.tables e below (T23.setTop (mkF m 159 #[.val (.int i0), .val (.int i1), .val (.int i2), .val (.int i3), .val (.int i4), .val (.int (i0 &&& (7 : Int32))), .val (.int c2), .val (.int c5), .val (.int c8), .val (.int c11), .val (.int c14), .val (.int c17), .val (.int c20), .val (.ref a23), .val (.int (0 : Int32))] [(.ref a23)])) tg → Steps p.tables e below (T23.setTop (mkF m 144 #[.val (.int i0), .val (.int i1), .val (.int i2), .val (.int i3), .val (.int i4), .val (.int (i0 &&& (7 : Int32))), .val (.int c2), .val (.int c5), .val (.int c8), .val (.int c11), .val (.int c14), .val (.int c17), .val (.int c20), .val (.ref a23), .val (.int (0 : Int32))] [(.int (108 : Int32)), (.int c14)])) tg := fun tg kg => by
                  refine XS.icmpYes X23.here hx rfl (pc0 := 144) (pc' := 157) rfl (hb hby at_144) rfl (feq hc54).2 (by decide) (by decide) ?_
                  show Steps p.tables e below (T23.setTop (mkF m 157 #[.val (.int i0), .val (.int i1), .val (.int i2), .val (.int i3), .val (.int i4), .val (.int (i0 &&& (7 : Int32))), .val (.int c2), .val (.int c5), .val (.int c8), .val (.int c11), .val (.int c14), .val (.int c17), .val (.int c20), .val (.ref a23), .val (.int (0 : Int32))] [])) tg
                  refine XS.aload X23.here hx rfl (hb hby at_157) rfl rfl ?_
                  show Steps p.tables e below (T23.setTop (mkF m 159 #[.val (.int i0), .val (.int i1), .val (.int i2), .val (.int i3), .val (.int i4), .val (.int (i0 &&& (7 : Int32))), .val (.int c2), .val (.int c5), .val (.int c8), .val (.int c11), .val (.int c14), .val (.int c17), .val (.int c20), .val (.ref a23), .val (.int (0 : Int32))] [(.ref a23)])) tg
                  exact kg
                refine gsW c65 ?_
                obtain ⟨_, _, ⟨T66, L66, k66, n66⟩, -, Xq66, hSq66, gq66, ⟨Lc66, hQ66, l66, y66, z66, rq66⟩, st66⟩ := callSS X23 hx (y := (⟨"com/example/caddisfly/caddisfly/Syntax", "isHelp", "(Ljava/lang/String;)Z"⟩ : MethodName)) hown (mvT hZ (hw _ (List.mem_of_getElem? (i := 29) rfl))) (mvT hZ (hw _ (List.mem_of_getElem? (i := 30) rfl))) (mvT hZ (hw _ (List.mem_of_getElem? (i := 31) rfl))) (mvT hZ (hw _ (List.mem_of_getElem? (i := 32) rfl))) (by decide) (backCW (W := 0) (rm_ih_no l Z a0 hw [] a23 (own_mk (i0 &&& (7 : Int32)) c2 c5 c8 c11 c14 c17 c20) z T23.heap n0 Z24 O24 S0 hz T23q ((own_mk_hb b2q b5q b8q b11q b14q b17q b20q).1) ((own_mk_hb b2q b5q b8q b11q b14q b17q b20q).2) (fun hq => (fun hq => hc26 hq.1) ((own_mk_h (i0 &&& (7 : Int32)) c2 c5 c8 c11 c14 c17 c20).mp hq)) (fun hq => (fun hq => hc54 hq.2.2.2.2.2.1) ((own_mk_help (i0 &&& (7 : Int32)) c2 c5 c8 c11 c14 c17 c20).mp hq))) hZ (hw _ (List.mem_of_getElem? (i := 32) rfl)) (hw _ (List.mem_of_getElem? (i := 31) rfl)) (by decide) (by decide) (own_EW hw) R24.1) (g := (mkF m 159 #[.val (.int i0), .val (.int i1), .val (.int i2), .val (.int i3), .val (.int i4), .val (.int (i0 &&& (7 : Int32))), .val (.int c2), .val (.int c5), .val (.int c8), .val (.int c11), .val (.int c14), .val (.int c17), .val (.int c20), .val (.ref a23), .val (.int (0 : Int32))] [(.ref a23)])) rfl (by rw [hml]; rfl) (argsL := [(.ref a23)]) (rest := []) (lenOf pd_246 rfl) rfl (by show 2 * 0 + _ ≤ _; exact Nat.le_of_eq rfl) (hb hby at_159) (fun _ _ => ⟨rfl, rfl, (by decide : 20 + 4 ≤ _), (by decide : 188 + 40 ≤ _)⟩)
                dsimp only [Pt.U, Pt.locs, Pt.cells, Pt.slots] at Xq66 hSq66 gq66 rq66 l66 y66 z66 st66 hQ66
                subst l66 y66 z66
                obtain ⟨X66, hS, hZ, hown⟩ := rebS hS (Nat.le_trans (Nat.le_refl T23.heap.size) (Nat.le_of_eq (congrArg Array.size (rfl : T23.heap = T23.heap).symm))) Xq66 hSq66 gq66 hZ hown
                obtain ⟨rfl, N66q, K66q⟩ := hQ66
                have N66 := Fr.app N23 N66q
                have r67 : CHr Z own_EL T23.vm T23.heap T66.vm T66.heap := rq66
                have R67 : CHr Z own_EL s.vm h0 T66.vm T66.heap := R24.trans r67
                have Z67 : n0 ≤ T66.heap.size := Nat.le_trans Z24 K66q.1
                have O67 : Old Z n0 T66.heap := O24.keep K66q all0
                have K67 : Keep h0 T66.heap [] := K24.trans K66q all0
                refine gsW (fun _ k => st66.trans k) ?_
                show OwnGoW p e below s Z own_EL _ _ _ (T66.setTop (mkF m 162 #[.val (.int i0), .val (.int i1), .val (.int i2), .val (.int i3), .val (.int i4), .val (.int (i0 &&& (7 : Int32))), .val (.int c2), .val (.int c5), .val (.int c8), .val (.int c11), .val (.int c14), .val (.int c17), .val (.int c20), .val (.ref a23), .val (.int (0 : Int32))] [(.int (0 : Int32))]))
                have c68 : ∀ tg, Steps p.tables e below (T66.setTop (mkF m 172 #[.val (.int i0), .val (.int i1), .val (.int i2), .val (.int i3), .val (.int i4), .val (.int (i0 &&& (7 : Int32))), .val (.int c2), .val (.int c5), .val (.int c8), .val (.int c11), .val (.int c14), .val (.int c17), .val (.int c20), .val (.ref a23), .val (.int (0 : Int32))] [(.int (1 : Int32))])) tg → Steps p.tables e below (T66.setTop (mkF m 162 #[.val (.int i0), .val (.int i1), .val (.int i2), .val (.int i3), .val (.int i4), .val (.int (i0 &&& (7 : Int32))), .val (.int c2), .val (.int c5), .val (.int c8), .val (.int c11), .val (.int c14), .val (.int c17), .val (.int c20), .val (.ref a23), .val (.int (0 : Int32))] [(.int (0 : Int32))])) tg := fun tg kg => by
                  refine XS.iload X66.here hx rfl (hb hby at_162) rfl ?_
                  show Steps p.tables e below (T66.setTop (mkF m 164 #[.val (.int i0), .val (.int i1), .val (.int i2), .val (.int i3), .val (.int i4), .val (.int (i0 &&& (7 : Int32))), .val (.int c2), .val (.int c5), .val (.int c8), .val (.int c11), .val (.int c14), .val (.int c17), .val (.int c20), .val (.ref a23), .val (.int (0 : Int32))] [(.int (0 : Int32)), (.int (0 : Int32))])) tg
                  refine XS.icmpNo X66.here hx rfl (hb hby at_164) rfl (teq (by decide : (0 : Int32) = (0 : Int32))).2 ?_
                  show Steps p.tables e below (T66.setTop (mkF m 167 #[.val (.int i0), .val (.int i1), .val (.int i2), .val (.int i3), .val (.int i4), .val (.int (i0 &&& (7 : Int32))), .val (.int c2), .val (.int c5), .val (.int c8), .val (.int c11), .val (.int c14), .val (.int c17), .val (.int c20), .val (.ref a23), .val (.int (0 : Int32))] [])) tg
                  refine XS.iconst X66.here hx rfl (hb hby at_167) ?_
                  show Steps p.tables e below (T66.setTop (mkF m 168 #[.val (.int i0), .val (.int i1), .val (.int i2), .val (.int i3), .val (.int i4), .val (.int (i0 &&& (7 : Int32))), .val (.int c2), .val (.int c5), .val (.int c8), .val (.int c11), .val (.int c14), .val (.int c17), .val (.int c20), .val (.ref a23), .val (.int (0 : Int32))] [(.int (1 : Int32))])) tg
                  refine XS.goto X66.here hx rfl (pc0 := 168) (pc' := 172) rfl (hb hby at_168) (by decide) (by decide) ?_
                  show Steps p.tables e below (T66.setTop (mkF m 172 #[.val (.int i0), .val (.int i1), .val (.int i2), .val (.int i3), .val (.int i4), .val (.int (i0 &&& (7 : Int32))), .val (.int c2), .val (.int c5), .val (.int c8), .val (.int c11), .val (.int c14), .val (.int c17), .val (.int c20), .val (.ref a23), .val (.int (0 : Int32))] [(.int (1 : Int32))])) tg
                  exact kg
                refine gsW c68 ?_
                refine goutW (v := some (.int (1 : Int32))) X66 hS (Nat.le_refl T66.heap.size) hZ (own_EW hw) hh rfl R67 Bd.notSynchronized (fun h => by rw [Bd.returns] at h; cases h) (by decide) (by decide) ?_ (fun fs hr => retN X66 hx (t := .boolean) Bd.returns (by simp) (hb hby at_172) hr)
                exact ⟨rfl, N66⟩
            · have c69 : ∀ tg, Steps p.tables e below (T23.setTop (mkF m 159 #[.val (.int i0), .val (.int i1), .val (.int i2), .val (.int i3), .val (.int i4), .val (.int (i0 &&& (7 : Int32))), .val (.int c2), .val (.int c5), .val (.int c8), .val (.int c11), .val (.int c14), .val (.int c17), .val (.int c20), .val (.ref a23), .val (.int (0 : Int32))] [(.ref a23)])) tg → Steps p.tables e below (T23.setTop (mkF m 137 #[.val (.int i0), .val (.int i1), .val (.int i2), .val (.int i3), .val (.int i4), .val (.int (i0 &&& (7 : Int32))), .val (.int c2), .val (.int c5), .val (.int c8), .val (.int c11), .val (.int c14), .val (.int c17), .val (.int c20), .val (.ref a23), .val (.int (0 : Int32))] [(.int (101 : Int32)), (.int c11)])) tg := fun tg kg => by
                refine XS.icmpYes X23.here hx rfl (pc0 := 137) (pc' := 157) rfl (hb hby at_137) rfl (feq hc52).2 (by decide) (by decide) ?_
                show Steps p.tables e below (T23.setTop (mkF m 157 #[.val (.int i0), .val (.int i1), .val (.int i2), .val (.int i3), .val (.int i4), .val (.int (i0 &&& (7 : Int32))), .val (.int c2), .val (.int c5), .val (.int c8), .val (.int c11), .val (.int c14), .val (.int c17), .val (.int c20), .val (.ref a23), .val (.int (0 : Int32))] [])) tg
                refine XS.aload X23.here hx rfl (hb hby at_157) rfl rfl ?_
                show Steps p.tables e below (T23.setTop (mkF m 159 #[.val (.int i0), .val (.int i1), .val (.int i2), .val (.int i3), .val (.int i4), .val (.int (i0 &&& (7 : Int32))), .val (.int c2), .val (.int c5), .val (.int c8), .val (.int c11), .val (.int c14), .val (.int c17), .val (.int c20), .val (.ref a23), .val (.int (0 : Int32))] [(.ref a23)])) tg
                exact kg
              refine gsW c69 ?_
              obtain ⟨_, _, ⟨T70, L70, k70, n70⟩, -, Xq70, hSq70, gq70, ⟨Lc70, hQ70, l70, y70, z70, rq70⟩, st70⟩ := callSS X23 hx (y := (⟨"com/example/caddisfly/caddisfly/Syntax", "isHelp", "(Ljava/lang/String;)Z"⟩ : MethodName)) hown (mvT hZ (hw _ (List.mem_of_getElem? (i := 29) rfl))) (mvT hZ (hw _ (List.mem_of_getElem? (i := 30) rfl))) (mvT hZ (hw _ (List.mem_of_getElem? (i := 31) rfl))) (mvT hZ (hw _ (List.mem_of_getElem? (i := 32) rfl))) (by decide) (backCW (W := 0) (rm_ih_no l Z a0 hw [] a23 (own_mk (i0 &&& (7 : Int32)) c2 c5 c8 c11 c14 c17 c20) z T23.heap n0 Z24 O24 S0 hz T23q ((own_mk_hb b2q b5q b8q b11q b14q b17q b20q).1) ((own_mk_hb b2q b5q b8q b11q b14q b17q b20q).2) (fun hq => (fun hq => hc26 hq.1) ((own_mk_h (i0 &&& (7 : Int32)) c2 c5 c8 c11 c14 c17 c20).mp hq)) (fun hq => (fun hq => hc52 hq.2.2.2.2.1) ((own_mk_help (i0 &&& (7 : Int32)) c2 c5 c8 c11 c14 c17 c20).mp hq))) hZ (hw _ (List.mem_of_getElem? (i := 32) rfl)) (hw _ (List.mem_of_getElem? (i := 31) rfl)) (by decide) (by decide) (own_EW hw) R24.1) (g := (mkF m 159 #[.val (.int i0), .val (.int i1), .val (.int i2), .val (.int i3), .val (.int i4), .val (.int (i0 &&& (7 : Int32))), .val (.int c2), .val (.int c5), .val (.int c8), .val (.int c11), .val (.int c14), .val (.int c17), .val (.int c20), .val (.ref a23), .val (.int (0 : Int32))] [(.ref a23)])) rfl (by rw [hml]; rfl) (argsL := [(.ref a23)]) (rest := []) (lenOf pd_246 rfl) rfl (by show 2 * 0 + _ ≤ _; exact Nat.le_of_eq rfl) (hb hby at_159) (fun _ _ => ⟨rfl, rfl, (by decide : 20 + 4 ≤ _), (by decide : 188 + 40 ≤ _)⟩)
              dsimp only [Pt.U, Pt.locs, Pt.cells, Pt.slots] at Xq70 hSq70 gq70 rq70 l70 y70 z70 st70 hQ70
              subst l70 y70 z70
              obtain ⟨X70, hS, hZ, hown⟩ := rebS hS (Nat.le_trans (Nat.le_refl T23.heap.size) (Nat.le_of_eq (congrArg Array.size (rfl : T23.heap = T23.heap).symm))) Xq70 hSq70 gq70 hZ hown
              obtain ⟨rfl, N70q, K70q⟩ := hQ70
              have N70 := Fr.app N23 N70q
              have r71 : CHr Z own_EL T23.vm T23.heap T70.vm T70.heap := rq70
              have R71 : CHr Z own_EL s.vm h0 T70.vm T70.heap := R24.trans r71
              have Z71 : n0 ≤ T70.heap.size := Nat.le_trans Z24 K70q.1
              have O71 : Old Z n0 T70.heap := O24.keep K70q all0
              have K71 : Keep h0 T70.heap [] := K24.trans K70q all0
              refine gsW (fun _ k => st70.trans k) ?_
              show OwnGoW p e below s Z own_EL _ _ _ (T70.setTop (mkF m 162 #[.val (.int i0), .val (.int i1), .val (.int i2), .val (.int i3), .val (.int i4), .val (.int (i0 &&& (7 : Int32))), .val (.int c2), .val (.int c5), .val (.int c8), .val (.int c11), .val (.int c14), .val (.int c17), .val (.int c20), .val (.ref a23), .val (.int (0 : Int32))] [(.int (0 : Int32))]))
              have c72 : ∀ tg, Steps p.tables e below (T70.setTop (mkF m 172 #[.val (.int i0), .val (.int i1), .val (.int i2), .val (.int i3), .val (.int i4), .val (.int (i0 &&& (7 : Int32))), .val (.int c2), .val (.int c5), .val (.int c8), .val (.int c11), .val (.int c14), .val (.int c17), .val (.int c20), .val (.ref a23), .val (.int (0 : Int32))] [(.int (1 : Int32))])) tg → Steps p.tables e below (T70.setTop (mkF m 162 #[.val (.int i0), .val (.int i1), .val (.int i2), .val (.int i3), .val (.int i4), .val (.int (i0 &&& (7 : Int32))), .val (.int c2), .val (.int c5), .val (.int c8), .val (.int c11), .val (.int c14), .val (.int c17), .val (.int c20), .val (.ref a23), .val (.int (0 : Int32))] [(.int (0 : Int32))])) tg := fun tg kg => by
                refine XS.iload X70.here hx rfl (hb hby at_162) rfl ?_
                show Steps p.tables e below (T70.setTop (mkF m 164 #[.val (.int i0), .val (.int i1), .val (.int i2), .val (.int i3), .val (.int i4), .val (.int (i0 &&& (7 : Int32))), .val (.int c2), .val (.int c5), .val (.int c8), .val (.int c11), .val (.int c14), .val (.int c17), .val (.int c20), .val (.ref a23), .val (.int (0 : Int32))] [(.int (0 : Int32)), (.int (0 : Int32))])) tg
                refine XS.icmpNo X70.here hx rfl (hb hby at_164) rfl (teq (by decide : (0 : Int32) = (0 : Int32))).2 ?_
                show Steps p.tables e below (T70.setTop (mkF m 167 #[.val (.int i0), .val (.int i1), .val (.int i2), .val (.int i3), .val (.int i4), .val (.int (i0 &&& (7 : Int32))), .val (.int c2), .val (.int c5), .val (.int c8), .val (.int c11), .val (.int c14), .val (.int c17), .val (.int c20), .val (.ref a23), .val (.int (0 : Int32))] [])) tg
                refine XS.iconst X70.here hx rfl (hb hby at_167) ?_
                show Steps p.tables e below (T70.setTop (mkF m 168 #[.val (.int i0), .val (.int i1), .val (.int i2), .val (.int i3), .val (.int i4), .val (.int (i0 &&& (7 : Int32))), .val (.int c2), .val (.int c5), .val (.int c8), .val (.int c11), .val (.int c14), .val (.int c17), .val (.int c20), .val (.ref a23), .val (.int (0 : Int32))] [(.int (1 : Int32))])) tg
                refine XS.goto X70.here hx rfl (pc0 := 168) (pc' := 172) rfl (hb hby at_168) (by decide) (by decide) ?_
                show Steps p.tables e below (T70.setTop (mkF m 172 #[.val (.int i0), .val (.int i1), .val (.int i2), .val (.int i3), .val (.int i4), .val (.int (i0 &&& (7 : Int32))), .val (.int c2), .val (.int c5), .val (.int c8), .val (.int c11), .val (.int c14), .val (.int c17), .val (.int c20), .val (.ref a23), .val (.int (0 : Int32))] [(.int (1 : Int32))])) tg
                exact kg
              refine gsW c72 ?_
              refine goutW (v := some (.int (1 : Int32))) X70 hS (Nat.le_refl T70.heap.size) hZ (own_EW hw) hh rfl R71 Bd.notSynchronized (fun h => by rw [Bd.returns] at h; cases h) (by decide) (by decide) ?_ (fun fs hr => retN X70 hx (t := .boolean) Bd.returns (by simp) (hb hby at_172) hr)
              exact ⟨rfl, N70⟩
          · have c73 : ∀ tg, Steps p.tables e below (T23.setTop (mkF m 159 #[.val (.int i0), .val (.int i1), .val (.int i2), .val (.int i3), .val (.int i4), .val (.int (i0 &&& (7 : Int32))), .val (.int c2), .val (.int c5), .val (.int c8), .val (.int c11), .val (.int c14), .val (.int c17), .val (.int c20), .val (.ref a23), .val (.int (0 : Int32))] [(.ref a23)])) tg → Steps p.tables e below (T23.setTop (mkF m 130 #[.val (.int i0), .val (.int i1), .val (.int i2), .val (.int i3), .val (.int i4), .val (.int (i0 &&& (7 : Int32))), .val (.int c2), .val (.int c5), .val (.int c8), .val (.int c11), .val (.int c14), .val (.int c17), .val (.int c20), .val (.ref a23), .val (.int (0 : Int32))] [(.int (104 : Int32)), (.int c8)])) tg := fun tg kg => by
              refine XS.icmpYes X23.here hx rfl (pc0 := 130) (pc' := 157) rfl (hb hby at_130) rfl (feq hc50).2 (by decide) (by decide) ?_
              show Steps p.tables e below (T23.setTop (mkF m 157 #[.val (.int i0), .val (.int i1), .val (.int i2), .val (.int i3), .val (.int i4), .val (.int (i0 &&& (7 : Int32))), .val (.int c2), .val (.int c5), .val (.int c8), .val (.int c11), .val (.int c14), .val (.int c17), .val (.int c20), .val (.ref a23), .val (.int (0 : Int32))] [])) tg
              refine XS.aload X23.here hx rfl (hb hby at_157) rfl rfl ?_
              show Steps p.tables e below (T23.setTop (mkF m 159 #[.val (.int i0), .val (.int i1), .val (.int i2), .val (.int i3), .val (.int i4), .val (.int (i0 &&& (7 : Int32))), .val (.int c2), .val (.int c5), .val (.int c8), .val (.int c11), .val (.int c14), .val (.int c17), .val (.int c20), .val (.ref a23), .val (.int (0 : Int32))] [(.ref a23)])) tg
              exact kg
            refine gsW c73 ?_
            obtain ⟨_, _, ⟨T74, L74, k74, n74⟩, -, Xq74, hSq74, gq74, ⟨Lc74, hQ74, l74, y74, z74, rq74⟩, st74⟩ := callSS X23 hx (y := (⟨"com/example/caddisfly/caddisfly/Syntax", "isHelp", "(Ljava/lang/String;)Z"⟩ : MethodName)) hown (mvT hZ (hw _ (List.mem_of_getElem? (i := 29) rfl))) (mvT hZ (hw _ (List.mem_of_getElem? (i := 30) rfl))) (mvT hZ (hw _ (List.mem_of_getElem? (i := 31) rfl))) (mvT hZ (hw _ (List.mem_of_getElem? (i := 32) rfl))) (by decide) (backCW (W := 0) (rm_ih_no l Z a0 hw [] a23 (own_mk (i0 &&& (7 : Int32)) c2 c5 c8 c11 c14 c17 c20) z T23.heap n0 Z24 O24 S0 hz T23q ((own_mk_hb b2q b5q b8q b11q b14q b17q b20q).1) ((own_mk_hb b2q b5q b8q b11q b14q b17q b20q).2) (fun hq => (fun hq => hc26 hq.1) ((own_mk_h (i0 &&& (7 : Int32)) c2 c5 c8 c11 c14 c17 c20).mp hq)) (fun hq => (fun hq => hc50 hq.2.2.2.1) ((own_mk_help (i0 &&& (7 : Int32)) c2 c5 c8 c11 c14 c17 c20).mp hq))) hZ (hw _ (List.mem_of_getElem? (i := 32) rfl)) (hw _ (List.mem_of_getElem? (i := 31) rfl)) (by decide) (by decide) (own_EW hw) R24.1) (g := (mkF m 159 #[.val (.int i0), .val (.int i1), .val (.int i2), .val (.int i3), .val (.int i4), .val (.int (i0 &&& (7 : Int32))), .val (.int c2), .val (.int c5), .val (.int c8), .val (.int c11), .val (.int c14), .val (.int c17), .val (.int c20), .val (.ref a23), .val (.int (0 : Int32))] [(.ref a23)])) rfl (by rw [hml]; rfl) (argsL := [(.ref a23)]) (rest := []) (lenOf pd_246 rfl) rfl (by show 2 * 0 + _ ≤ _; exact Nat.le_of_eq rfl) (hb hby at_159) (fun _ _ => ⟨rfl, rfl, (by decide : 20 + 4 ≤ _), (by decide : 188 + 40 ≤ _)⟩)
            dsimp only [Pt.U, Pt.locs, Pt.cells, Pt.slots] at Xq74 hSq74 gq74 rq74 l74 y74 z74 st74 hQ74
            subst l74 y74 z74
            obtain ⟨X74, hS, hZ, hown⟩ := rebS hS (Nat.le_trans (Nat.le_refl T23.heap.size) (Nat.le_of_eq (congrArg Array.size (rfl : T23.heap = T23.heap).symm))) Xq74 hSq74 gq74 hZ hown
            obtain ⟨rfl, N74q, K74q⟩ := hQ74
            have N74 := Fr.app N23 N74q
            have r75 : CHr Z own_EL T23.vm T23.heap T74.vm T74.heap := rq74
            have R75 : CHr Z own_EL s.vm h0 T74.vm T74.heap := R24.trans r75
            have Z75 : n0 ≤ T74.heap.size := Nat.le_trans Z24 K74q.1
            have O75 : Old Z n0 T74.heap := O24.keep K74q all0
            have K75 : Keep h0 T74.heap [] := K24.trans K74q all0
            refine gsW (fun _ k => st74.trans k) ?_
            show OwnGoW p e below s Z own_EL _ _ _ (T74.setTop (mkF m 162 #[.val (.int i0), .val (.int i1), .val (.int i2), .val (.int i3), .val (.int i4), .val (.int (i0 &&& (7 : Int32))), .val (.int c2), .val (.int c5), .val (.int c8), .val (.int c11), .val (.int c14), .val (.int c17), .val (.int c20), .val (.ref a23), .val (.int (0 : Int32))] [(.int (0 : Int32))]))
            have c76 : ∀ tg, Steps p.tables e below (T74.setTop (mkF m 172 #[.val (.int i0), .val (.int i1), .val (.int i2), .val (.int i3), .val (.int i4), .val (.int (i0 &&& (7 : Int32))), .val (.int c2), .val (.int c5), .val (.int c8), .val (.int c11), .val (.int c14), .val (.int c17), .val (.int c20), .val (.ref a23), .val (.int (0 : Int32))] [(.int (1 : Int32))])) tg → Steps p.tables e below (T74.setTop (mkF m 162 #[.val (.int i0), .val (.int i1), .val (.int i2), .val (.int i3), .val (.int i4), .val (.int (i0 &&& (7 : Int32))), .val (.int c2), .val (.int c5), .val (.int c8), .val (.int c11), .val (.int c14), .val (.int c17), .val (.int c20), .val (.ref a23), .val (.int (0 : Int32))] [(.int (0 : Int32))])) tg := fun tg kg => by
              refine XS.iload X74.here hx rfl (hb hby at_162) rfl ?_
              show Steps p.tables e below (T74.setTop (mkF m 164 #[.val (.int i0), .val (.int i1), .val (.int i2), .val (.int i3), .val (.int i4), .val (.int (i0 &&& (7 : Int32))), .val (.int c2), .val (.int c5), .val (.int c8), .val (.int c11), .val (.int c14), .val (.int c17), .val (.int c20), .val (.ref a23), .val (.int (0 : Int32))] [(.int (0 : Int32)), (.int (0 : Int32))])) tg
              refine XS.icmpNo X74.here hx rfl (hb hby at_164) rfl (teq (by decide : (0 : Int32) = (0 : Int32))).2 ?_
              show Steps p.tables e below (T74.setTop (mkF m 167 #[.val (.int i0), .val (.int i1), .val (.int i2), .val (.int i3), .val (.int i4), .val (.int (i0 &&& (7 : Int32))), .val (.int c2), .val (.int c5), .val (.int c8), .val (.int c11), .val (.int c14), .val (.int c17), .val (.int c20), .val (.ref a23), .val (.int (0 : Int32))] [])) tg
              refine XS.iconst X74.here hx rfl (hb hby at_167) ?_
              show Steps p.tables e below (T74.setTop (mkF m 168 #[.val (.int i0), .val (.int i1), .val (.int i2), .val (.int i3), .val (.int i4), .val (.int (i0 &&& (7 : Int32))), .val (.int c2), .val (.int c5), .val (.int c8), .val (.int c11), .val (.int c14), .val (.int c17), .val (.int c20), .val (.ref a23), .val (.int (0 : Int32))] [(.int (1 : Int32))])) tg
              refine XS.goto X74.here hx rfl (pc0 := 168) (pc' := 172) rfl (hb hby at_168) (by decide) (by decide) ?_
              show Steps p.tables e below (T74.setTop (mkF m 172 #[.val (.int i0), .val (.int i1), .val (.int i2), .val (.int i3), .val (.int i4), .val (.int (i0 &&& (7 : Int32))), .val (.int c2), .val (.int c5), .val (.int c8), .val (.int c11), .val (.int c14), .val (.int c17), .val (.int c20), .val (.ref a23), .val (.int (0 : Int32))] [(.int (1 : Int32))])) tg
              exact kg
            refine gsW c76 ?_
            refine goutW (v := some (.int (1 : Int32))) X74 hS (Nat.le_refl T74.heap.size) hZ (own_EW hw) hh rfl R75 Bd.notSynchronized (fun h => by rw [Bd.returns] at h; cases h) (by decide) (by decide) ?_ (fun fs hr => retN X74 hx (t := .boolean) Bd.returns (by simp) (hb hby at_172) hr)
            exact ⟨rfl, N74⟩
        · have c77 : ∀ tg, Steps p.tables e below (T23.setTop (mkF m 159 #[.val (.int i0), .val (.int i1), .val (.int i2), .val (.int i3), .val (.int i4), .val (.int (i0 &&& (7 : Int32))), .val (.int c2), .val (.int c5), .val (.int c8), .val (.int c11), .val (.int c14), .val (.int c17), .val (.int c20), .val (.ref a23), .val (.int (0 : Int32))] [(.ref a23)])) tg → Steps p.tables e below (T23.setTop (mkF m 123 #[.val (.int i0), .val (.int i1), .val (.int i2), .val (.int i3), .val (.int i4), .val (.int (i0 &&& (7 : Int32))), .val (.int c2), .val (.int c5), .val (.int c8), .val (.int c11), .val (.int c14), .val (.int c17), .val (.int c20), .val (.ref a23), .val (.int (0 : Int32))] [(.int (45 : Int32)), (.int c5)])) tg := fun tg kg => by
            refine XS.icmpYes X23.here hx rfl (pc0 := 123) (pc' := 157) rfl (hb hby at_123) rfl (feq hc48).2 (by decide) (by decide) ?_
            show Steps p.tables e below (T23.setTop (mkF m 157 #[.val (.int i0), .val (.int i1), .val (.int i2), .val (.int i3), .val (.int i4), .val (.int (i0 &&& (7 : Int32))), .val (.int c2), .val (.int c5), .val (.int c8), .val (.int c11), .val (.int c14), .val (.int c17), .val (.int c20), .val (.ref a23), .val (.int (0 : Int32))] [])) tg
            refine XS.aload X23.here hx rfl (hb hby at_157) rfl rfl ?_
            show Steps p.tables e below (T23.setTop (mkF m 159 #[.val (.int i0), .val (.int i1), .val (.int i2), .val (.int i3), .val (.int i4), .val (.int (i0 &&& (7 : Int32))), .val (.int c2), .val (.int c5), .val (.int c8), .val (.int c11), .val (.int c14), .val (.int c17), .val (.int c20), .val (.ref a23), .val (.int (0 : Int32))] [(.ref a23)])) tg
            exact kg
          refine gsW c77 ?_
          obtain ⟨_, _, ⟨T78, L78, k78, n78⟩, -, Xq78, hSq78, gq78, ⟨Lc78, hQ78, l78, y78, z78, rq78⟩, st78⟩ := callSS X23 hx (y := (⟨"com/example/caddisfly/caddisfly/Syntax", "isHelp", "(Ljava/lang/String;)Z"⟩ : MethodName)) hown (mvT hZ (hw _ (List.mem_of_getElem? (i := 29) rfl))) (mvT hZ (hw _ (List.mem_of_getElem? (i := 30) rfl))) (mvT hZ (hw _ (List.mem_of_getElem? (i := 31) rfl))) (mvT hZ (hw _ (List.mem_of_getElem? (i := 32) rfl))) (by decide) (backCW (W := 0) (rm_ih_no l Z a0 hw [] a23 (own_mk (i0 &&& (7 : Int32)) c2 c5 c8 c11 c14 c17 c20) z T23.heap n0 Z24 O24 S0 hz T23q ((own_mk_hb b2q b5q b8q b11q b14q b17q b20q).1) ((own_mk_hb b2q b5q b8q b11q b14q b17q b20q).2) (fun hq => (fun hq => hc26 hq.1) ((own_mk_h (i0 &&& (7 : Int32)) c2 c5 c8 c11 c14 c17 c20).mp hq)) (fun hq => (fun hq => hc48 hq.2.2.1) ((own_mk_help (i0 &&& (7 : Int32)) c2 c5 c8 c11 c14 c17 c20).mp hq))) hZ (hw _ (List.mem_of_getElem? (i := 32) rfl)) (hw _ (List.mem_of_getElem? (i := 31) rfl)) (by decide) (by decide) (own_EW hw) R24.1) (g := (mkF m 159 #[.val (.int i0), .val (.int i1), .val (.int i2), .val (.int i3), .val (.int i4), .val (.int (i0 &&& (7 : Int32))), .val (.int c2), .val (.int c5), .val (.int c8), .val (.int c11), .val (.int c14), .val (.int c17), .val (.int c20), .val (.ref a23), .val (.int (0 : Int32))] [(.ref a23)])) rfl (by rw [hml]; rfl) (argsL := [(.ref a23)]) (rest := []) (lenOf pd_246 rfl) rfl (by show 2 * 0 + _ ≤ _; exact Nat.le_of_eq rfl) (hb hby at_159) (fun _ _ => ⟨rfl, rfl, (by decide : 20 + 4 ≤ _), (by decide : 188 + 40 ≤ _)⟩)
          dsimp only [Pt.U, Pt.locs, Pt.cells, Pt.slots] at Xq78 hSq78 gq78 rq78 l78 y78 z78 st78 hQ78
          subst l78 y78 z78
          obtain ⟨X78, hS, hZ, hown⟩ := rebS hS (Nat.le_trans (Nat.le_refl T23.heap.size) (Nat.le_of_eq (congrArg Array.size (rfl : T23.heap = T23.heap).symm))) Xq78 hSq78 gq78 hZ hown
          obtain ⟨rfl, N78q, K78q⟩ := hQ78
          have N78 := Fr.app N23 N78q
          have r79 : CHr Z own_EL T23.vm T23.heap T78.vm T78.heap := rq78
          have R79 : CHr Z own_EL s.vm h0 T78.vm T78.heap := R24.trans r79
          have Z79 : n0 ≤ T78.heap.size := Nat.le_trans Z24 K78q.1
          have O79 : Old Z n0 T78.heap := O24.keep K78q all0
          have K79 : Keep h0 T78.heap [] := K24.trans K78q all0
          refine gsW (fun _ k => st78.trans k) ?_
          show OwnGoW p e below s Z own_EL _ _ _ (T78.setTop (mkF m 162 #[.val (.int i0), .val (.int i1), .val (.int i2), .val (.int i3), .val (.int i4), .val (.int (i0 &&& (7 : Int32))), .val (.int c2), .val (.int c5), .val (.int c8), .val (.int c11), .val (.int c14), .val (.int c17), .val (.int c20), .val (.ref a23), .val (.int (0 : Int32))] [(.int (0 : Int32))]))
          have c80 : ∀ tg, Steps p.tables e below (T78.setTop (mkF m 172 #[.val (.int i0), .val (.int i1), .val (.int i2), .val (.int i3), .val (.int i4), .val (.int (i0 &&& (7 : Int32))), .val (.int c2), .val (.int c5), .val (.int c8), .val (.int c11), .val (.int c14), .val (.int c17), .val (.int c20), .val (.ref a23), .val (.int (0 : Int32))] [(.int (1 : Int32))])) tg → Steps p.tables e below (T78.setTop (mkF m 162 #[.val (.int i0), .val (.int i1), .val (.int i2), .val (.int i3), .val (.int i4), .val (.int (i0 &&& (7 : Int32))), .val (.int c2), .val (.int c5), .val (.int c8), .val (.int c11), .val (.int c14), .val (.int c17), .val (.int c20), .val (.ref a23), .val (.int (0 : Int32))] [(.int (0 : Int32))])) tg := fun tg kg => by
            refine XS.iload X78.here hx rfl (hb hby at_162) rfl ?_
            show Steps p.tables e below (T78.setTop (mkF m 164 #[.val (.int i0), .val (.int i1), .val (.int i2), .val (.int i3), .val (.int i4), .val (.int (i0 &&& (7 : Int32))), .val (.int c2), .val (.int c5), .val (.int c8), .val (.int c11), .val (.int c14), .val (.int c17), .val (.int c20), .val (.ref a23), .val (.int (0 : Int32))] [(.int (0 : Int32)), (.int (0 : Int32))])) tg
            refine XS.icmpNo X78.here hx rfl (hb hby at_164) rfl (teq (by decide : (0 : Int32) = (0 : Int32))).2 ?_
            show Steps p.tables e below (T78.setTop (mkF m 167 #[.val (.int i0), .val (.int i1), .val (.int i2), .val (.int i3), .val (.int i4), .val (.int (i0 &&& (7 : Int32))), .val (.int c2), .val (.int c5), .val (.int c8), .val (.int c11), .val (.int c14), .val (.int c17), .val (.int c20), .val (.ref a23), .val (.int (0 : Int32))] [])) tg
            refine XS.iconst X78.here hx rfl (hb hby at_167) ?_
            show Steps p.tables e below (T78.setTop (mkF m 168 #[.val (.int i0), .val (.int i1), .val (.int i2), .val (.int i3), .val (.int i4), .val (.int (i0 &&& (7 : Int32))), .val (.int c2), .val (.int c5), .val (.int c8), .val (.int c11), .val (.int c14), .val (.int c17), .val (.int c20), .val (.ref a23), .val (.int (0 : Int32))] [(.int (1 : Int32))])) tg
            refine XS.goto X78.here hx rfl (pc0 := 168) (pc' := 172) rfl (hb hby at_168) (by decide) (by decide) ?_
            show Steps p.tables e below (T78.setTop (mkF m 172 #[.val (.int i0), .val (.int i1), .val (.int i2), .val (.int i3), .val (.int i4), .val (.int (i0 &&& (7 : Int32))), .val (.int c2), .val (.int c5), .val (.int c8), .val (.int c11), .val (.int c14), .val (.int c17), .val (.int c20), .val (.ref a23), .val (.int (0 : Int32))] [(.int (1 : Int32))])) tg
            exact kg
          refine gsW c80 ?_
          refine goutW (v := some (.int (1 : Int32))) X78 hS (Nat.le_refl T78.heap.size) hZ (own_EW hw) hh rfl R79 Bd.notSynchronized (fun h => by rw [Bd.returns] at h; cases h) (by decide) (by decide) ?_ (fun fs hr => retN X78 hx (t := .boolean) Bd.returns (by simp) (hb hby at_172) hr)
          exact ⟨rfl, N78⟩
      · have c81 : ∀ tg, Steps p.tables e below (T23.setTop (mkF m 159 #[.val (.int i0), .val (.int i1), .val (.int i2), .val (.int i3), .val (.int i4), .val (.int (i0 &&& (7 : Int32))), .val (.int c2), .val (.int c5), .val (.int c8), .val (.int c11), .val (.int c14), .val (.int c17), .val (.int c20), .val (.ref a23), .val (.int (0 : Int32))] [(.ref a23)])) tg → Steps p.tables e below (T23.setTop (mkF m 116 #[.val (.int i0), .val (.int i1), .val (.int i2), .val (.int i3), .val (.int i4), .val (.int (i0 &&& (7 : Int32))), .val (.int c2), .val (.int c5), .val (.int c8), .val (.int c11), .val (.int c14), .val (.int c17), .val (.int c20), .val (.ref a23), .val (.int (0 : Int32))] [(.int (45 : Int32)), (.int c2)])) tg := fun tg kg => by
          refine XS.icmpYes X23.here hx rfl (pc0 := 116) (pc' := 157) rfl (hb hby at_116) rfl (feq hc46).2 (by decide) (by decide) ?_
          show Steps p.tables e below (T23.setTop (mkF m 157 #[.val (.int i0), .val (.int i1), .val (.int i2), .val (.int i3), .val (.int i4), .val (.int (i0 &&& (7 : Int32))), .val (.int c2), .val (.int c5), .val (.int c8), .val (.int c11), .val (.int c14), .val (.int c17), .val (.int c20), .val (.ref a23), .val (.int (0 : Int32))] [])) tg
          refine XS.aload X23.here hx rfl (hb hby at_157) rfl rfl ?_
          show Steps p.tables e below (T23.setTop (mkF m 159 #[.val (.int i0), .val (.int i1), .val (.int i2), .val (.int i3), .val (.int i4), .val (.int (i0 &&& (7 : Int32))), .val (.int c2), .val (.int c5), .val (.int c8), .val (.int c11), .val (.int c14), .val (.int c17), .val (.int c20), .val (.ref a23), .val (.int (0 : Int32))] [(.ref a23)])) tg
          exact kg
        refine gsW c81 ?_
        obtain ⟨_, _, ⟨T82, L82, k82, n82⟩, -, Xq82, hSq82, gq82, ⟨Lc82, hQ82, l82, y82, z82, rq82⟩, st82⟩ := callSS X23 hx (y := (⟨"com/example/caddisfly/caddisfly/Syntax", "isHelp", "(Ljava/lang/String;)Z"⟩ : MethodName)) hown (mvT hZ (hw _ (List.mem_of_getElem? (i := 29) rfl))) (mvT hZ (hw _ (List.mem_of_getElem? (i := 30) rfl))) (mvT hZ (hw _ (List.mem_of_getElem? (i := 31) rfl))) (mvT hZ (hw _ (List.mem_of_getElem? (i := 32) rfl))) (by decide) (backCW (W := 0) (rm_ih_no l Z a0 hw [] a23 (own_mk (i0 &&& (7 : Int32)) c2 c5 c8 c11 c14 c17 c20) z T23.heap n0 Z24 O24 S0 hz T23q ((own_mk_hb b2q b5q b8q b11q b14q b17q b20q).1) ((own_mk_hb b2q b5q b8q b11q b14q b17q b20q).2) (fun hq => (fun hq => hc26 hq.1) ((own_mk_h (i0 &&& (7 : Int32)) c2 c5 c8 c11 c14 c17 c20).mp hq)) (fun hq => (fun hq => hc46 hq.2.1) ((own_mk_help (i0 &&& (7 : Int32)) c2 c5 c8 c11 c14 c17 c20).mp hq))) hZ (hw _ (List.mem_of_getElem? (i := 32) rfl)) (hw _ (List.mem_of_getElem? (i := 31) rfl)) (by decide) (by decide) (own_EW hw) R24.1) (g := (mkF m 159 #[.val (.int i0), .val (.int i1), .val (.int i2), .val (.int i3), .val (.int i4), .val (.int (i0 &&& (7 : Int32))), .val (.int c2), .val (.int c5), .val (.int c8), .val (.int c11), .val (.int c14), .val (.int c17), .val (.int c20), .val (.ref a23), .val (.int (0 : Int32))] [(.ref a23)])) rfl (by rw [hml]; rfl) (argsL := [(.ref a23)]) (rest := []) (lenOf pd_246 rfl) rfl (by show 2 * 0 + _ ≤ _; exact Nat.le_of_eq rfl) (hb hby at_159) (fun _ _ => ⟨rfl, rfl, (by decide : 20 + 4 ≤ _), (by decide : 188 + 40 ≤ _)⟩)
        dsimp only [Pt.U, Pt.locs, Pt.cells, Pt.slots] at Xq82 hSq82 gq82 rq82 l82 y82 z82 st82 hQ82
        subst l82 y82 z82
        obtain ⟨X82, hS, hZ, hown⟩ := rebS hS (Nat.le_trans (Nat.le_refl T23.heap.size) (Nat.le_of_eq (congrArg Array.size (rfl : T23.heap = T23.heap).symm))) Xq82 hSq82 gq82 hZ hown
        obtain ⟨rfl, N82q, K82q⟩ := hQ82
        have N82 := Fr.app N23 N82q
        have r83 : CHr Z own_EL T23.vm T23.heap T82.vm T82.heap := rq82
        have R83 : CHr Z own_EL s.vm h0 T82.vm T82.heap := R24.trans r83
        have Z83 : n0 ≤ T82.heap.size := Nat.le_trans Z24 K82q.1
        have O83 : Old Z n0 T82.heap := O24.keep K82q all0
        have K83 : Keep h0 T82.heap [] := K24.trans K82q all0
        refine gsW (fun _ k => st82.trans k) ?_
        show OwnGoW p e below s Z own_EL _ _ _ (T82.setTop (mkF m 162 #[.val (.int i0), .val (.int i1), .val (.int i2), .val (.int i3), .val (.int i4), .val (.int (i0 &&& (7 : Int32))), .val (.int c2), .val (.int c5), .val (.int c8), .val (.int c11), .val (.int c14), .val (.int c17), .val (.int c20), .val (.ref a23), .val (.int (0 : Int32))] [(.int (0 : Int32))]))
        have c84 : ∀ tg, Steps p.tables e below (T82.setTop (mkF m 172 #[.val (.int i0), .val (.int i1), .val (.int i2), .val (.int i3), .val (.int i4), .val (.int (i0 &&& (7 : Int32))), .val (.int c2), .val (.int c5), .val (.int c8), .val (.int c11), .val (.int c14), .val (.int c17), .val (.int c20), .val (.ref a23), .val (.int (0 : Int32))] [(.int (1 : Int32))])) tg → Steps p.tables e below (T82.setTop (mkF m 162 #[.val (.int i0), .val (.int i1), .val (.int i2), .val (.int i3), .val (.int i4), .val (.int (i0 &&& (7 : Int32))), .val (.int c2), .val (.int c5), .val (.int c8), .val (.int c11), .val (.int c14), .val (.int c17), .val (.int c20), .val (.ref a23), .val (.int (0 : Int32))] [(.int (0 : Int32))])) tg := fun tg kg => by
          refine XS.iload X82.here hx rfl (hb hby at_162) rfl ?_
          show Steps p.tables e below (T82.setTop (mkF m 164 #[.val (.int i0), .val (.int i1), .val (.int i2), .val (.int i3), .val (.int i4), .val (.int (i0 &&& (7 : Int32))), .val (.int c2), .val (.int c5), .val (.int c8), .val (.int c11), .val (.int c14), .val (.int c17), .val (.int c20), .val (.ref a23), .val (.int (0 : Int32))] [(.int (0 : Int32)), (.int (0 : Int32))])) tg
          refine XS.icmpNo X82.here hx rfl (hb hby at_164) rfl (teq (by decide : (0 : Int32) = (0 : Int32))).2 ?_
          show Steps p.tables e below (T82.setTop (mkF m 167 #[.val (.int i0), .val (.int i1), .val (.int i2), .val (.int i3), .val (.int i4), .val (.int (i0 &&& (7 : Int32))), .val (.int c2), .val (.int c5), .val (.int c8), .val (.int c11), .val (.int c14), .val (.int c17), .val (.int c20), .val (.ref a23), .val (.int (0 : Int32))] [])) tg
          refine XS.iconst X82.here hx rfl (hb hby at_167) ?_
          show Steps p.tables e below (T82.setTop (mkF m 168 #[.val (.int i0), .val (.int i1), .val (.int i2), .val (.int i3), .val (.int i4), .val (.int (i0 &&& (7 : Int32))), .val (.int c2), .val (.int c5), .val (.int c8), .val (.int c11), .val (.int c14), .val (.int c17), .val (.int c20), .val (.ref a23), .val (.int (0 : Int32))] [(.int (1 : Int32))])) tg
          refine XS.goto X82.here hx rfl (pc0 := 168) (pc' := 172) rfl (hb hby at_168) (by decide) (by decide) ?_
          show Steps p.tables e below (T82.setTop (mkF m 172 #[.val (.int i0), .val (.int i1), .val (.int i2), .val (.int i3), .val (.int i4), .val (.int (i0 &&& (7 : Int32))), .val (.int c2), .val (.int c5), .val (.int c8), .val (.int c11), .val (.int c14), .val (.int c17), .val (.int c20), .val (.ref a23), .val (.int (0 : Int32))] [(.int (1 : Int32))])) tg
          exact kg
        refine gsW c84 ?_
        refine goutW (v := some (.int (1 : Int32))) X82 hS (Nat.le_refl T82.heap.size) hZ (own_EW hw) hh rfl R83 Bd.notSynchronized (fun h => by rw [Bd.returns] at h; cases h) (by decide) (by decide) ?_ (fun fs hr => retN X82 hx (t := .boolean) Bd.returns (by simp) (hb hby at_172) hr)
        exact ⟨rfl, N82⟩
    · have c85 : ∀ tg, Steps p.tables e below (T23.setTop (mkF m 159 #[.val (.int i0), .val (.int i1), .val (.int i2), .val (.int i3), .val (.int i4), .val (.int (i0 &&& (7 : Int32))), .val (.int c2), .val (.int c5), .val (.int c8), .val (.int c11), .val (.int c14), .val (.int c17), .val (.int c20), .val (.ref a23), .val (.int (0 : Int32))] [(.ref a23)])) tg → Steps p.tables e below (T23.setTop (mkF m 109 #[.val (.int i0), .val (.int i1), .val (.int i2), .val (.int i3), .val (.int i4), .val (.int (i0 &&& (7 : Int32))), .val (.int c2), .val (.int c5), .val (.int c8), .val (.int c11), .val (.int c14), .val (.int c17), .val (.int c20), .val (.ref a23), .val (.int (0 : Int32))] [(.int (6 : Int32)), (.int (i0 &&& (7 : Int32)))])) tg := fun tg kg => by
        refine XS.icmpYes X23.here hx rfl (pc0 := 109) (pc' := 157) rfl (hb hby at_109) rfl (feq hc44).2 (by decide) (by decide) ?_
        show Steps p.tables e below (T23.setTop (mkF m 157 #[.val (.int i0), .val (.int i1), .val (.int i2), .val (.int i3), .val (.int i4), .val (.int (i0 &&& (7 : Int32))), .val (.int c2), .val (.int c5), .val (.int c8), .val (.int c11), .val (.int c14), .val (.int c17), .val (.int c20), .val (.ref a23), .val (.int (0 : Int32))] [])) tg
        refine XS.aload X23.here hx rfl (hb hby at_157) rfl rfl ?_
        show Steps p.tables e below (T23.setTop (mkF m 159 #[.val (.int i0), .val (.int i1), .val (.int i2), .val (.int i3), .val (.int i4), .val (.int (i0 &&& (7 : Int32))), .val (.int c2), .val (.int c5), .val (.int c8), .val (.int c11), .val (.int c14), .val (.int c17), .val (.int c20), .val (.ref a23), .val (.int (0 : Int32))] [(.ref a23)])) tg
        exact kg
      refine gsW c85 ?_
      obtain ⟨_, _, ⟨T86, L86, k86, n86⟩, -, Xq86, hSq86, gq86, ⟨Lc86, hQ86, l86, y86, z86, rq86⟩, st86⟩ := callSS X23 hx (y := (⟨"com/example/caddisfly/caddisfly/Syntax", "isHelp", "(Ljava/lang/String;)Z"⟩ : MethodName)) hown (mvT hZ (hw _ (List.mem_of_getElem? (i := 29) rfl))) (mvT hZ (hw _ (List.mem_of_getElem? (i := 30) rfl))) (mvT hZ (hw _ (List.mem_of_getElem? (i := 31) rfl))) (mvT hZ (hw _ (List.mem_of_getElem? (i := 32) rfl))) (by decide) (backCW (W := 0) (rm_ih_no l Z a0 hw [] a23 (own_mk (i0 &&& (7 : Int32)) c2 c5 c8 c11 c14 c17 c20) z T23.heap n0 Z24 O24 S0 hz T23q ((own_mk_hb b2q b5q b8q b11q b14q b17q b20q).1) ((own_mk_hb b2q b5q b8q b11q b14q b17q b20q).2) (fun hq => (fun hq => hc26 hq.1) ((own_mk_h (i0 &&& (7 : Int32)) c2 c5 c8 c11 c14 c17 c20).mp hq)) (fun hq => (fun hq => hc44 hq.1) ((own_mk_help (i0 &&& (7 : Int32)) c2 c5 c8 c11 c14 c17 c20).mp hq))) hZ (hw _ (List.mem_of_getElem? (i := 32) rfl)) (hw _ (List.mem_of_getElem? (i := 31) rfl)) (by decide) (by decide) (own_EW hw) R24.1) (g := (mkF m 159 #[.val (.int i0), .val (.int i1), .val (.int i2), .val (.int i3), .val (.int i4), .val (.int (i0 &&& (7 : Int32))), .val (.int c2), .val (.int c5), .val (.int c8), .val (.int c11), .val (.int c14), .val (.int c17), .val (.int c20), .val (.ref a23), .val (.int (0 : Int32))] [(.ref a23)])) rfl (by rw [hml]; rfl) (argsL := [(.ref a23)]) (rest := []) (lenOf pd_246 rfl) rfl (by show 2 * 0 + _ ≤ _; exact Nat.le_of_eq rfl) (hb hby at_159) (fun _ _ => ⟨rfl, rfl, (by decide : 20 + 4 ≤ _), (by decide : 188 + 40 ≤ _)⟩)
      dsimp only [Pt.U, Pt.locs, Pt.cells, Pt.slots] at Xq86 hSq86 gq86 rq86 l86 y86 z86 st86 hQ86
      subst l86 y86 z86
      obtain ⟨X86, hS, hZ, hown⟩ := rebS hS (Nat.le_trans (Nat.le_refl T23.heap.size) (Nat.le_of_eq (congrArg Array.size (rfl : T23.heap = T23.heap).symm))) Xq86 hSq86 gq86 hZ hown
      obtain ⟨rfl, N86q, K86q⟩ := hQ86
      have N86 := Fr.app N23 N86q
      have r87 : CHr Z own_EL T23.vm T23.heap T86.vm T86.heap := rq86
      have R87 : CHr Z own_EL s.vm h0 T86.vm T86.heap := R24.trans r87
      have Z87 : n0 ≤ T86.heap.size := Nat.le_trans Z24 K86q.1
      have O87 : Old Z n0 T86.heap := O24.keep K86q all0
      have K87 : Keep h0 T86.heap [] := K24.trans K86q all0
      refine gsW (fun _ k => st86.trans k) ?_
      show OwnGoW p e below s Z own_EL _ _ _ (T86.setTop (mkF m 162 #[.val (.int i0), .val (.int i1), .val (.int i2), .val (.int i3), .val (.int i4), .val (.int (i0 &&& (7 : Int32))), .val (.int c2), .val (.int c5), .val (.int c8), .val (.int c11), .val (.int c14), .val (.int c17), .val (.int c20), .val (.ref a23), .val (.int (0 : Int32))] [(.int (0 : Int32))]))
      have c88 : ∀ tg, Steps p.tables e below (T86.setTop (mkF m 172 #[.val (.int i0), .val (.int i1), .val (.int i2), .val (.int i3), .val (.int i4), .val (.int (i0 &&& (7 : Int32))), .val (.int c2), .val (.int c5), .val (.int c8), .val (.int c11), .val (.int c14), .val (.int c17), .val (.int c20), .val (.ref a23), .val (.int (0 : Int32))] [(.int (1 : Int32))])) tg → Steps p.tables e below (T86.setTop (mkF m 162 #[.val (.int i0), .val (.int i1), .val (.int i2), .val (.int i3), .val (.int i4), .val (.int (i0 &&& (7 : Int32))), .val (.int c2), .val (.int c5), .val (.int c8), .val (.int c11), .val (.int c14), .val (.int c17), .val (.int c20), .val (.ref a23), .val (.int (0 : Int32))] [(.int (0 : Int32))])) tg := fun tg kg => by
        refine XS.iload X86.here hx rfl (hb hby at_162) rfl ?_
        show Steps p.tables e below (T86.setTop (mkF m 164 #[.val (.int i0), .val (.int i1), .val (.int i2), .val (.int i3), .val (.int i4), .val (.int (i0 &&& (7 : Int32))), .val (.int c2), .val (.int c5), .val (.int c8), .val (.int c11), .val (.int c14), .val (.int c17), .val (.int c20), .val (.ref a23), .val (.int (0 : Int32))] [(.int (0 : Int32)), (.int (0 : Int32))])) tg
        refine XS.icmpNo X86.here hx rfl (hb hby at_164) rfl (teq (by decide : (0 : Int32) = (0 : Int32))).2 ?_
        show Steps p.tables e below (T86.setTop (mkF m 167 #[.val (.int i0), .val (.int i1), .val (.int i2), .val (.int i3), .val (.int i4), .val (.int (i0 &&& (7 : Int32))), .val (.int c2), .val (.int c5), .val (.int c8), .val (.int c11), .val (.int c14), .val (.int c17), .val (.int c20), .val (.ref a23), .val (.int (0 : Int32))] [])) tg
        refine XS.iconst X86.here hx rfl (hb hby at_167) ?_
        show Steps p.tables e below (T86.setTop (mkF m 168 #[.val (.int i0), .val (.int i1), .val (.int i2), .val (.int i3), .val (.int i4), .val (.int (i0 &&& (7 : Int32))), .val (.int c2), .val (.int c5), .val (.int c8), .val (.int c11), .val (.int c14), .val (.int c17), .val (.int c20), .val (.ref a23), .val (.int (0 : Int32))] [(.int (1 : Int32))])) tg
        refine XS.goto X86.here hx rfl (pc0 := 168) (pc' := 172) rfl (hb hby at_168) (by decide) (by decide) ?_
        show Steps p.tables e below (T86.setTop (mkF m 172 #[.val (.int i0), .val (.int i1), .val (.int i2), .val (.int i3), .val (.int i4), .val (.int (i0 &&& (7 : Int32))), .val (.int c2), .val (.int c5), .val (.int c8), .val (.int c11), .val (.int c14), .val (.int c17), .val (.int c20), .val (.ref a23), .val (.int (0 : Int32))] [(.int (1 : Int32))])) tg
        exact kg
      refine gsW c88 ?_
      refine goutW (v := some (.int (1 : Int32))) X86 hS (Nat.le_refl T86.heap.size) hZ (own_EW hw) hh rfl R87 Bd.notSynchronized (fun h => by rw [Bd.returns] at h; cases h) (by decide) (by decide) ?_ (fun fs hr => retN X86 hx (t := .boolean) Bd.returns (by simp) (hb hby at_172) hr)
      exact ⟨rfl, N86⟩
set_option maxRecDepth 65536 in
set_option maxHeartbeats 40000000 in
theorem comes_1 {Post : Tables → Env → Array Value → State → Outcome → State → Prop} (hpost : ∀ tb e args s v u, (limb_1_1.after args s (.returned v) u = true ∧ limb_1_2.after args s (.returned v) u = true ∧ True) → ReturnedEndW s (.returned v) u (Jvm.fieldLocs frame_1_writes args s ++ Jvm.arrayLocs frame_1_arrays args s ++ Jvm.staticLocs frame_1_statics s) 24 4224 → Post tb e args s (.returned v) u) :
    ArmFor flags0 classFile x code maxLocals ret World_1 tables_1 room_1 Calls_1 rest_1 Pre_1 Post := by
  intro l hfl _ _ p e ha hc hk s m args below hf hA hF happ hP
  obtain ⟨hcalls, hrest, hpre⟩ := hP
  obtain ⟨-, -, -, hnamed, -, -, -, hat⟩ := (Spec.applies_iff hf).mp happ
  obtain ⟨hg, hn⟩ := and_e (Cond.before_iff.mp (show (Jvm.Cond.and given_1 narrow_1).before args s = true from hpre))
  obtain ⟨hcnt, ga0⟩ := and_e hg
  obtain ⟨gi0, ga1⟩ := and_e ga0
  obtain ⟨gi1, ga2⟩ := and_e ga1
  obtain ⟨gi2, ga3⟩ := and_e ga2
  obtain ⟨gi3, ga4⟩ := and_e ga3
  have gi4 := ga4
  obtain ⟨w0, w1, w2, w3, w4, rfl⟩ : ∃ w0 w1 w2 w3 w4 : Value, args = #[w0, w1, w2, w3, w4] := by
    have hs : args.size = 5 := by simpa [Cond.value, given_1] using hcnt
    obtain ⟨L⟩ := args
    match L, hs with
    | [w0, w1, w2, w3, w4], _ => exact ⟨w0, w1, w2, w3, w4, rfl⟩
  have hw := fun d (hd : d ∈ tables_1) => atoms_spec (ws := Jvm.Cond.code x code maxLocals ret :: tables_1) hat d (List.mem_cons_of_mem _ hd)
  obtain ⟨hsets, hown0⟩ := atoms_of _ (rest_1_c_eq ▸ (show rest_1_c.before _ s = true from hrest))
  have hfit : Fit s := fun {y c} hc i hi => by
    obtain ⟨ha, rfl⟩ := Array.getElem?_eq_some_iff.mp hc
    have q := List.all_eq_true.mp ((Array.all_eq_true_iff_forall_mem.mp hF) _ (Array.getElem_mem ha)) i (List.mem_range.mpr hi)
    simpa [Array.getElem?_eq_getElem hi] using q
  obtain ⟨i0, ei0⟩ := is_v gi0
  obtain rfl : w0 = (.int i0) := Option.some.inj ei0
  obtain ⟨i1, ei1⟩ := is_v gi1
  obtain rfl : w1 = (.int i1) := Option.some.inj ei1
  obtain ⟨i2, ei2⟩ := is_v gi2
  obtain rfl : w2 = (.int i2) := Option.some.inj ei2
  obtain ⟨i3, ei3⟩ := is_v gi3
  obtain rfl : w3 = (.int i3) := Option.some.inj ei3
  obtain ⟨i4, ei4⟩ := is_v gi4
  obtain rfl : w4 = (.int i4) := Option.some.inj ei4
  have n5 := not_v (Cond.before_iff.mp (hsets _ (List.mem_of_getElem? (i := 2) rfl)))
  obtain ⟨cz, ecz⟩ := is_v (Cond.before_iff.mp (hsets _ (List.mem_of_getElem? (i := 1) rfl)))
  have Scz : Sta s s.heap "java/lang/String" "COMPACT_STRINGS" "Z" (.int cz) := Sta.start ecz (Or.inl (hsets _ (List.mem_of_getElem? (i := 0) rfl)))
  have hcz : ¬ (cz = (0 : Int32)) := gotF (Cond.eq_ints ecz (Term.int_eval (0))) n5
  obtain ⟨fm, efm, rfm⟩ := isR_v (Cond.before_iff.mp (hsets _ (List.mem_of_getElem? (i := 8) rfl)))
  have S_fm : Sta s s.heap "jdk/internal/util/Preconditions" "SIOOBE_FORMATTER" "Ljava/util/function/BiFunction;" fm := Sta.start efm (Or.inl (hsets _ (List.mem_of_getElem? (i := 7) rfl)))
  have hC : CHv s own_EL s.vm s.heap := CHv.start (own_EW hw) (fun p hp => hcalls.1 p hp) (hsets _ (List.mem_of_getElem? (i := 2) rfl)) (hw _ (List.mem_of_getElem? (i := 22) rfl)) (hw _ (List.mem_of_getElem? (i := 8) rfl))
  obtain ⟨n, o, h1, h2, h3, _, L, rfl, ⟨rfl, N⟩, -, hq⟩ := rm_law l s _ hw tables_1 i0 i1 i2 i3 i4 cz fm s.heap s.heap.size (Nat.le_refl _) (Old.start s) Scz hcz S_fm rfm p e ha hc hk s m _ below hf ((Spec.applies_iff_loose hf).mp happ).1 ⟨rfl, State.Warmed39.refl s, rfl, hC⟩ trivial
  refine ⟨n, _, h1, h2, h3, hpost _ _ _ _ _ _ ⟨Cond.after_iff.mpr rfl, Cond.after_iff.mpr (eq_i res_at (Term.int_eval (1)) rfl), trivial⟩ ⟨hq.1, hq.2.1, hq.2.2.1, (hq.2.2.2.sift fun y hy => Or.inr (N y hy)).mono (by decide) (by decide)⟩⟩
theorem main_1_1 : Claimed_1_1 := comes_1 fun _ _ _ _ _ _ h hF => ⟨h.1, hF⟩
theorem main_1_2 : Claimed_1_2 := comes_1 fun _ _ _ _ _ _ h hF => ⟨h.2.1, hF⟩
end Jvm.Pilot.@@N@@
namespace Jvm.Pilot.@@N@@
open Jvm Jvm.ClassFile Sem Op Lib Jvm.Free Jvm.Stand Jvm.Pilot.@@N@@.Jvm.D
/-! MADE BY PROGRAM (witnessworld.py) out of the Statement's table words and the real class files: 21 classes; the members and pool entries that the words name. The judged class is class 1, her method 3. -/
namespace start1
open Jvm.ClassFile
def u (s : String) : CpInfo := .utf8 (stringToUtf16 s)
/-- a pool by its gaps: so many unusable entries, then the entry; so many at the end -/
def gap : Nat → List CpInfo → List CpInfo
  | 0, r => r
  | n + 1, r => .unusable :: gap n r
def poolList (es : List (Nat × CpInfo)) (last : Nat) : List CpInfo := es.foldr (fun e r => gap e.1 (e.2 :: r)) (gap last [])
def pool (es : List (Nat × CpInfo)) (last : Nat) : Array CpInfo := ⟨poolList es last⟩
def fileOf (pool : Array CpInfo) (this : Nat) (attrs : Array Attribute := #[]) (ms : Array MethodInfo := #[]) (fl : Nat := 33) (sup : Nat := 0) (ifs : Array Nat := #[]) (fds : Array FieldInfo := #[]) : ClassFile where
  minorVersion := 0
  majorVersion := 65
  constantPool := pool
  accessFlags := fl
  thisClass := this
  superClass := sup
  interfaces := ifs
  fields := fds
  methods := ms
  attributes := attrs
def plain (name : String) (sup : Option ClassId) : Class where
  name := name
  kind := .ordinary
  loader := none
  accessFlags := 33
  super := sup
  interfaces := #[]
  cf := none
  fields := #[]
  methods := #[]
  instanceTypes := #[]
  staticTypes := #[]
  resolved := #[]
  callSites := []
  init := .initialized
  statics := none
  mirror := none

def pool0 : Array CpInfo := pool [(5, u "<init>"), (0, u "()V"), (1, .class_ 10), (1, u "java/lang/Object")] 113

def k0c0 : Code := { maxStack := 0, maxLocals := 1, code := object_method_1_code, exceptionTable := #[], attributes := #[] }
def k0m0 : Method := { name := "<init>", desc := "()V", sig := { parameters := [], returnType := none }, accessFlags := 1, code := some k0c0 }
/-- java/lang/Object -/
def k0 : Class := { plain "java/lang/Object" none with
  accessFlags := 33
  interfaces := #[]
  cf := some (fileOf pool0 8 #[] #[{ accessFlags := 1, nameIndex := 5, descriptorIndex := 6, attributes := #[] }] 33 0 #[] #[])
  fields := #[]
  methods := #[k0m0]
  instanceTypes := #[]
  staticTypes := #[]
  resolved := Array.replicate 124 none
  statics := none }

def pool1 : Array CpInfo := pool [(2, .class_ 4), (1, u "java/lang/Object"), (0, u "<init>"), (0, u "()V"), (0, .string 8), (0, u "-help"), (0, .methodref 10 11), (0, .class_ 12), (0, .nameAndType 13 14), (0, u "java/lang/String"), (0, u "charAt"), (0, u "(I)C"), (0, .methodref 10 16), (0, .nameAndType 5 17), (0, u "([C)V"), (0, .methodref 19 20), (0, .class_ 21), (0, .nameAndType 22 14), (0, u "com/example/caddisfly/caddisfly/SyntaxIsHelpPinLaw"), (0, u "ch"), (0, .methodref 19 24), (0, .nameAndType 25 26), (0, u "mk"), (0, u "(ICCCCCCC)Ljava/lang/String;"), (0, .methodref 28 29), (0, .class_ 30), (0, .nameAndType 31 32), (0, u "com/example/caddisfly/caddisfly/Syntax"), (0, u "isHelp"), (0, u "(Ljava/lang/String;)Z"), (3, u "law"), (0, u "(IIIII)Z")] 2

def k1m0 : Method := { name := "<init>", desc := "()V", sig := { parameters := [], returnType := none }, accessFlags := 1, code := none }
def k1c1 : Code := { maxStack := 3, maxLocals := 1, code := method_2_code, exceptionTable := #[], attributes := #[] }
def k1m1 : Method := { name := "ch", desc := "(I)C", sig := { parameters := [.int], returnType := some .char }, accessFlags := 10, code := some k1c1 }
def k1c2 : Code := { maxStack := 6, maxLocals := 8, code := method_3_code, exceptionTable := #[], attributes := #[] }
def k1m2 : Method := { name := "mk", desc := "(ICCCCCCC)Ljava/lang/String;", sig := { parameters := [.int, .char, .char, .char, .char, .char, .char, .char], returnType := some (.object "java/lang/String") }, accessFlags := 10, code := some k1c2 }
def k1c3 : Code := { maxStack := 8, maxLocals := 15, code := code, exceptionTable := #[], attributes := #[] }
def k1m3 : Method := { name := "law", desc := "(IIIII)Z", sig := { parameters := [.int, .int, .int, .int, .int], returnType := some .boolean }, accessFlags := 9, code := some k1c3 }
/-- com/example/caddisfly/caddisfly/SyntaxIsHelpPinLaw -/
def k1 : Class := { plain "com/example/caddisfly/caddisfly/SyntaxIsHelpPinLaw" (some 0) with
  accessFlags := 49
  interfaces := #[]
  cf := some (fileOf pool1 19 #[] #[{ accessFlags := 1, nameIndex := 5, descriptorIndex := 6, attributes := #[] }, { accessFlags := 10, nameIndex := 22, descriptorIndex := 14, attributes := #[] }, { accessFlags := 10, nameIndex := 25, descriptorIndex := 26, attributes := #[] }, { accessFlags := 9, nameIndex := 36, descriptorIndex := 37, attributes := #[] }] 49 2 #[] #[])
  fields := #[]
  methods := #[k1m0, k1m1, k1m2, k1m3]
  instanceTypes := #[]
  staticTypes := #[]
  resolved := Array.replicate 40 none
  statics := none }

def pool2 : Array CpInfo := pool [(1, .class_ 2), (0, u "java/io/Serializable"), (0, .class_ 4), (0, u "java/lang/Object")] 2

/-- java/io/Serializable -/
def k2 : Class := { plain "java/io/Serializable" (some 0) with
  accessFlags := 1537
  interfaces := #[]
  cf := some (fileOf pool2 1 #[] #[] 1537 3 #[] #[])
  fields := #[]
  methods := #[]
  instanceTypes := #[]
  staticTypes := #[]
  resolved := Array.replicate 7 none
  statics := none }

def pool3 : Array CpInfo := pool [(1, .class_ 2), (0, u "java/lang/Comparable"), (0, .class_ 4), (0, u "java/lang/Object")] 7

/-- java/lang/Comparable -/
def k3 : Class := { plain "java/lang/Comparable" (some 0) with
  accessFlags := 1537
  interfaces := #[]
  cf := some (fileOf pool3 1 #[] #[] 1537 3 #[] #[])
  fields := #[]
  methods := #[]
  instanceTypes := #[]
  staticTypes := #[]
  resolved := Array.replicate 12 none
  statics := none }

def pool4 : Array CpInfo := pool [(2, .class_ 4), (1, u "java/lang/CharSequence"), (42, .class_ 48), (0, u "java/lang/CharSequence$1CodePointIterator"), (10, .class_ 60), (0, u "java/lang/CharSequence$1CharIterator"), (5, .class_ 67), (0, u "java/lang/Object")] 63

/-- java/lang/CharSequence -/
def k4 : Class := { plain "java/lang/CharSequence" (some 0) with
  accessFlags := 1537
  interfaces := #[]
  cf := some (fileOf pool4 2 #[.nestMembers #[47, 59]] #[] 1537 66 #[] #[])
  fields := #[]
  methods := #[]
  instanceTypes := #[]
  staticTypes := #[]
  resolved := Array.replicate 131 none
  statics := none }

def pool5 : Array CpInfo := pool [(1, .class_ 2), (0, u "java/lang/constant/Constable"), (0, .class_ 4), (0, u "java/lang/Object")] 6

/-- java/lang/constant/Constable -/
def k5 : Class := { plain "java/lang/constant/Constable" (some 0) with
  accessFlags := 1537
  interfaces := #[]
  cf := some (fileOf pool5 1 #[] #[] 1537 3 #[] #[])
  fields := #[]
  methods := #[]
  instanceTypes := #[]
  staticTypes := #[]
  resolved := Array.replicate 11 none
  statics := none }

def pool6 : Array CpInfo := pool [(1, .class_ 2), (0, u "java/lang/constant/ConstantDesc"), (0, .class_ 4), (0, u "java/lang/Object")] 32

/-- java/lang/constant/ConstantDesc -/
def k6 : Class := { plain "java/lang/constant/ConstantDesc" (some 0) with
  accessFlags := 1537
  interfaces := #[]
  cf := some (fileOf pool6 1 #[] #[] 1537 3 #[] #[])
  fields := #[]
  methods := #[]
  instanceTypes := #[]
  staticTypes := #[]
  resolved := Array.replicate 37 none
  statics := none }

def pool7 : Array CpInfo := pool [(1, .methodref 2 3), (0, .class_ 4), (0, .nameAndType 5 6), (0, u "java/lang/Object"), (0, u "<init>"), (0, u "()V"), (0, .string 8), (0, u ""), (0, .fieldref 10 11), (0, .class_ 12), (0, .nameAndType 13 14), (0, u "java/lang/String"), (0, u "value"), (0, u "[B"), (0, .fieldref 10 16), (0, .nameAndType 17 18), (0, u "coder"), (0, u "B"), (2, u "hash"), (0, u "I"), (2, u "hashIsZero"), (0, u "Z"), (0, .methodref 10 28), (0, .nameAndType 5 29), (0, u "([CIILjava/lang/Void;)V"), (8, .fieldref 10 39), (0, .nameAndType 40 26), (0, u "COMPACT_STRINGS"), (1, .class_ 44), (1, u "java/lang/StringUTF16"), (0, u "compress"), (1, .methodref 42 48), (0, .nameAndType 49 50), (0, u "coderFromArrayLen"), (0, u "([BI)B"), (56, .class_ 109), (1, u "java/lang/StringLatin1"), (32, u "()Z"), (34, .methodref 42 178), (0, .nameAndType 45 179), (0, u "([CII)[B"), (183, u "([BI)C"), (27, u "(II)V"), (35, u "(I)C"), (64, .methodref 10 493), (0, .nameAndType 494 142), (0, u "isLatin1"), (0, .methodref 107 496), (0, .nameAndType 497 363), (0, u "charAt"), (3, u "checkIndex"), (39, .methodref 107 542), (0, .nameAndType 543 544), (0, u "equals"), (0, u "([B[B)Z"), (28, u "(Ljava/lang/Object;)Z"), (1, .class_ 576), (0, u "java/lang/CharSequence"), (22, u "CASE_INSENSITIVE_ORDER"), (0, u "Ljava/util/Comparator;"), (409, u "([C)V"), (42, .fieldref 1054 1055), (0, .class_ 1056), (0, .nameAndType 1057 1058), (0, u "jdk/internal/util/Preconditions"), (0, u "SIOOBE_FORMATTER"), (0, u "Ljava/util/function/BiFunction;"), (0, .methodref 1054 1060), (0, .nameAndType 501 1061), (0, u "(IILjava/util/function/BiFunction;)I"), (39, u "serialPersistentFields"), (0, u "[Ljava/io/ObjectStreamField;"), (0, .class_ 1104), (0, u "java/lang/String$CaseInsensitiveComparator"), (1, .class_ 1107), (0, u "java/io/Serializable"), (0, .class_ 1109), (0, u "java/lang/Comparable"), (0, .class_ 1111), (0, u "java/lang/constant/Constable"), (0, .class_ 1113), (0, u "java/lang/constant/ConstantDesc"), (2, u "serialVersionUID"), (0, u "J"), (3, u "REPL"), (0, u "C"), (2, u "LATIN1"), (1, u "UTF16")] 323

def k7m0 : Method := { name := "<init>", desc := "()V", sig := { parameters := [], returnType := none }, accessFlags := 1, code := none }
def k7c1 : Code := { maxStack := 5, maxLocals := 2, code := jdk_42_method_3_code, exceptionTable := #[], attributes := #[] }
def k7m1 : Method := { name := "<init>", desc := "([C)V", sig := { parameters := [(.array .char)], returnType := none }, accessFlags := 1, code := some k7c1 }
def k7c2 : Code := { maxStack := 2, maxLocals := 2, code := jdk_42_method_56_code, exceptionTable := #[], attributes := #[] }
def k7m2 : Method := { name := "charAt", desc := "(I)C", sig := { parameters := [.int], returnType := some .char }, accessFlags := 1, code := some k7c2 }
def k7c3 : Code := { maxStack := 2, maxLocals := 3, code := jdk_42_method_66_code, exceptionTable := #[], attributes := #[] }
def k7m3 : Method := { name := "equals", desc := "(Ljava/lang/Object;)Z", sig := { parameters := [(.object "java/lang/Object")], returnType := some .boolean }, accessFlags := 1, code := some k7c3 }
def k7c4 : Code := { maxStack := 4, maxLocals := 6, code := jdk_42_method_149_code, exceptionTable := #[], attributes := #[] }
def k7m4 : Method := { name := "<init>", desc := "([CIILjava/lang/Void;)V", sig := { parameters := [(.array .char), .int, .int, (.object "java/lang/Void")], returnType := none }, accessFlags := 2, code := some k7c4 }
def k7c5 : Code := { maxStack := 1, maxLocals := 1, code := jdk_42_method_154_code, exceptionTable := #[], attributes := #[] }
def k7m5 : Method := { name := "isLatin1", desc := "()Z", sig := { parameters := [], returnType := some .boolean }, accessFlags := 0, code := some k7c5 }
def k7c6 : Code := { maxStack := 3, maxLocals := 2, code := jdk_42_method_155_code, exceptionTable := #[], attributes := #[] }
def k7m6 : Method := { name := "checkIndex", desc := "(II)V", sig := { parameters := [.int, .int], returnType := none }, accessFlags := 8, code := some k7c6 }
/-- java/lang/String -/
def k7 : Class := { plain "java/lang/String" (some 0) with
  accessFlags := 49
  interfaces := #[2, 3, 4, 5, 6]
  cf := some (fileOf pool7 10 #[.nestMembers #[1103]] #[{ accessFlags := 1, nameIndex := 5, descriptorIndex := 6, attributes := #[] }, { accessFlags := 1, nameIndex := 5, descriptorIndex := 1010, attributes := #[] }, { accessFlags := 1, nameIndex := 497, descriptorIndex := 427, attributes := #[] }, { accessFlags := 1, nameIndex := 543, descriptorIndex := 573, attributes := #[] }, { accessFlags := 2, nameIndex := 5, descriptorIndex := 29, attributes := #[] }, { accessFlags := 0, nameIndex := 494, descriptorIndex := 142, attributes := #[] }, { accessFlags := 8, nameIndex := 501, descriptorIndex := 391, attributes := #[] }] 49 2 #[1106, 1108, 575, 1110, 1112] #[{ accessFlags := 18, nameIndex := 13, descriptorIndex := 14, attributes := #[] }, { accessFlags := 18, nameIndex := 17, descriptorIndex := 18, attributes := #[] }, { accessFlags := 2, nameIndex := 21, descriptorIndex := 22, attributes := #[] }, { accessFlags := 2, nameIndex := 25, descriptorIndex := 26, attributes := #[] }, { accessFlags := 26, nameIndex := 1116, descriptorIndex := 1117, attributes := #[] }, { accessFlags := 24, nameIndex := 40, descriptorIndex := 26, attributes := #[] }, { accessFlags := 26, nameIndex := 1101, descriptorIndex := 1102, attributes := #[] }, { accessFlags := 26, nameIndex := 1121, descriptorIndex := 1122, attributes := #[] }, { accessFlags := 25, nameIndex := 599, descriptorIndex := 600, attributes := #[] }, { accessFlags := 24, nameIndex := 1125, descriptorIndex := 18, attributes := #[] }, { accessFlags := 24, nameIndex := 1127, descriptorIndex := 18, attributes := #[] }])
  fields := #[{ name := "value", type := (.array .byte), accessFlags := 18, slot := 0, constantValue := 0 }, { name := "coder", type := .byte, accessFlags := 18, slot := 1, constantValue := 0 }, { name := "hash", type := .int, accessFlags := 2, slot := 2, constantValue := 0 }, { name := "hashIsZero", type := .boolean, accessFlags := 2, slot := 3, constantValue := 0 }, { name := "serialVersionUID", type := .long, accessFlags := 26, slot := 0, constantValue := 0 }, { name := "COMPACT_STRINGS", type := .boolean, accessFlags := 24, slot := 1, constantValue := 0 }, { name := "serialPersistentFields", type := (.array (.object "java/io/ObjectStreamField")), accessFlags := 26, slot := 2, constantValue := 0 }, { name := "REPL", type := .char, accessFlags := 26, slot := 3, constantValue := 0 }, { name := "CASE_INSENSITIVE_ORDER", type := (.object "java/util/Comparator"), accessFlags := 25, slot := 4, constantValue := 0 }, { name := "LATIN1", type := .byte, accessFlags := 24, slot := 5, constantValue := 0 }, { name := "UTF16", type := .byte, accessFlags := 24, slot := 6, constantValue := 0 }]
  methods := #[k7m0, k7m1, k7m2, k7m3, k7m4, k7m5, k7m6]
  instanceTypes := #[(.array .byte), .byte, .int, .boolean]
  staticTypes := #[.long, .boolean, (.array (.object "java/io/ObjectStreamField")), .char, (.object "java/util/Comparator"), .byte, .byte]
  resolved := Array.replicate 1451 none
  statics := some 0 }

def pool8 : Array CpInfo := pool [(2, .class_ 4), (1, u "java/lang/Object"), (0, u "<init>"), (0, u "()V"), (0, .class_ 8), (0, u "java/lang/Record")] 13

def k8m0 : Method := { name := "<init>", desc := "()V", sig := { parameters := [], returnType := none }, accessFlags := 4, code := none }
/-- java/lang/Record -/
def k8 : Class := { plain "java/lang/Record" (some 0) with
  accessFlags := 1057
  interfaces := #[]
  cf := some (fileOf pool8 7 #[] #[{ accessFlags := 4, nameIndex := 5, descriptorIndex := 6, attributes := #[] }] 1057 2 #[] #[])
  fields := #[]
  methods := #[k8m0]
  instanceTypes := #[]
  staticTypes := #[]
  resolved := Array.replicate 22 none
  statics := none }

def pool9 : Array CpInfo := pool [(2, .class_ 4), (1, u "java/lang/Record"), (9, .class_ 16), (1, u "com/example/caddisfly/caddisfly/Syntax"), (0, u "name"), (0, u "Ljava/lang/String;"), (2, u "description"), (2, u "groups"), (0, u "Ljava/util/List;"), (2, u "operands"), (0, u "Lcom/example/caddisfly/caddisfly/Syntax$Operands;"), (17, .class_ 48), (0, u "java/lang/String"), (2, .methodref 47 52), (0, .nameAndType 53 54), (0, u "equals"), (0, u "(Ljava/lang/Object;)Z"), (3, u "(Ljava/lang/String;)Z"), (0, .class_ 60), (0, u "com/example/caddisfly/caddisfly/Syntax$UsageException"), (14, u "isHelp"), (33, .class_ 111), (1, u "com/example/caddisfly/caddisfly/Syntax$Option"), (33, .class_ 146), (0, u "com/example/caddisfly/caddisfly/Syntax$Group"), (10, .class_ 158), (0, u "com/example/caddisfly/caddisfly/Syntax$Operands"), (4, .class_ 164), (0, u "com/example/caddisfly/caddisfly/Syntax$Row"), (10, u "HELP_ROW"), (0, u "Lcom/example/caddisfly/caddisfly/Syntax$Row;"), (16, .string 194), (0, u "-h"), (0, .string 196), (0, u "--help"), (84, u "WIDTH"), (0, u "I")] 82

def k9c0 : Code := { maxStack := 2, maxLocals := 1, code := prog_11_method_5_code, exceptionTable := #[], attributes := #[] }
def k9m0 : Method := { name := "isHelp", desc := "(Ljava/lang/String;)Z", sig := { parameters := [(.object "java/lang/String")], returnType := some .boolean }, accessFlags := 8, code := some k9c0 }
/-- com/example/caddisfly/caddisfly/Syntax -/
def k9 : Class := { plain "com/example/caddisfly/caddisfly/Syntax" (some 8) with
  accessFlags := 48
  interfaces := #[]
  cf := some (fileOf pool9 14 #[.nestMembers #[59, 163, 157, 145, 109]] #[{ accessFlags := 8, nameIndex := 75, descriptorIndex := 58, attributes := #[] }] 48 2 #[] #[{ accessFlags := 18, nameIndex := 17, descriptorIndex := 18, attributes := #[] }, { accessFlags := 18, nameIndex := 21, descriptorIndex := 18, attributes := #[] }, { accessFlags := 18, nameIndex := 24, descriptorIndex := 25, attributes := #[] }, { accessFlags := 18, nameIndex := 28, descriptorIndex := 29, attributes := #[] }, { accessFlags := 26, nameIndex := 281, descriptorIndex := 282, attributes := #[] }, { accessFlags := 24, nameIndex := 175, descriptorIndex := 176, attributes := #[] }])
  fields := #[{ name := "name", type := (.object "java/lang/String"), accessFlags := 18, slot := 0, constantValue := 0 }, { name := "description", type := (.object "java/lang/String"), accessFlags := 18, slot := 1, constantValue := 0 }, { name := "groups", type := (.object "java/util/List"), accessFlags := 18, slot := 2, constantValue := 0 }, { name := "operands", type := (.object "com/example/caddisfly/caddisfly/Syntax$Operands"), accessFlags := 18, slot := 3, constantValue := 0 }, { name := "WIDTH", type := .int, accessFlags := 26, slot := 0, constantValue := 0 }, { name := "HELP_ROW", type := (.object "com/example/caddisfly/caddisfly/Syntax$Row"), accessFlags := 24, slot := 1, constantValue := 0 }]
  methods := #[k9m0]
  instanceTypes := #[(.object "java/lang/String"), (.object "java/lang/String"), (.object "java/util/List"), (.object "com/example/caddisfly/caddisfly/Syntax$Operands")]
  staticTypes := #[.int, (.object "com/example/caddisfly/caddisfly/Syntax$Row")]
  resolved := Array.replicate 365 none
  statics := none }

def pool10 : Array CpInfo := pool [(1, .class_ 2), (0, u "java/lang/String"), (1, .class_ 6), (1, u "java/lang/Object"), (0, u "<init>"), (0, u "()V"), (0, .methodref 1 10), (0, .nameAndType 11 12), (0, u "checkIndex"), (0, u "(II)V"), (1, .class_ 16), (1, u "java/lang/StringLatin1"), (36, u "([BI)C"), (67, u "$assertionsDisabled"), (0, u "Z"), (98, .class_ 223), (1, u "java/lang/StringLatin1$LinesSpliterator"), (28, u "charAt"), (28, u "equals"), (0, u "([B[B)Z"), (107, .class_ 391), (0, u "java/lang/StringLatin1$CharsSpliterator")] 3

def k10m0 : Method := { name := "<init>", desc := "()V", sig := { parameters := [], returnType := none }, accessFlags := 0, code := none }
def k10c1 : Code := { maxStack := 2, maxLocals := 2, code := jdk_43_method_2_code, exceptionTable := #[], attributes := #[] }
def k10m1 : Method := { name := "charAt", desc := "([BI)C", sig := { parameters := [(.array .byte), .int], returnType := some .char }, accessFlags := 9, code := some k10c1 }
def k10c2 : Code := { maxStack := 3, maxLocals := 3, code := jdk_43_method_13_code, exceptionTable := #[], attributes := #[] }
def k10m2 : Method := { name := "equals", desc := "([B[B)Z", sig := { parameters := [(.array .byte), (.array .byte)], returnType := some .boolean }, accessFlags := 9, code := some k10c2 }
/-- java/lang/StringLatin1 -/
def k10 : Class := { plain "java/lang/StringLatin1" (some 0) with
  accessFlags := 48
  interfaces := #[]
  cf := some (fileOf pool10 14 #[.nestMembers #[390, 221]] #[{ accessFlags := 0, nameIndex := 7, descriptorIndex := 8, attributes := #[] }, { accessFlags := 9, nameIndex := 252, descriptorIndex := 53, attributes := #[] }, { accessFlags := 9, nameIndex := 281, descriptorIndex := 282, attributes := #[] }] 48 4 #[] #[{ accessFlags := 4120, nameIndex := 121, descriptorIndex := 122, attributes := #[] }])
  fields := #[{ name := "$assertionsDisabled", type := .boolean, accessFlags := 4120, slot := 0, constantValue := 0 }]
  methods := #[k10m0, k10m1, k10m2]
  instanceTypes := #[]
  staticTypes := #[.boolean]
  resolved := Array.replicate 395 none
  statics := none }

def pool11 : Array CpInfo := pool [(6, .class_ 8), (1, u "java/lang/Object"), (0, u "<init>"), (0, u "()V"), (1, .class_ 14), (1, u "java/lang/StringUTF16"), (31, u "$assertionsDisabled"), (0, u "Z"), (13, u "HI_BYTE_SHIFT"), (0, u "I"), (2, u "LO_BYTE_SHIFT"), (49, .methodref 12 116), (0, .nameAndType 117 118), (0, u "compress"), (0, u "([CI[BII)I"), (3, u "([CII)[B"), (138, u "coderFromArrayLen"), (0, u "([BI)B"), (106, .class_ 371), (1, u "java/lang/StringUTF16$LinesSpliterator"), (58, u "MAX_LENGTH"), (196, .class_ 628), (0, u "java/lang/StringUTF16$CodePointsSpliterator"), (0, .class_ 630), (0, u "java/lang/StringUTF16$CharsSpliterator")] 4

def k11m0 : Method := { name := "<init>", desc := "()V", sig := { parameters := [], returnType := none }, accessFlags := 0, code := none }
def k11c1 : Code := { maxStack := 2, maxLocals := 2, code := jdk_52_method_15_code, exceptionTable := #[], attributes := #[] }
def k11m1 : Method := { name := "coderFromArrayLen", desc := "([BI)B", sig := { parameters := [(.array .byte), .int], returnType := some .byte }, accessFlags := 8, code := some k11c1 }
def k11c2 : Code := { maxStack := 5, maxLocals := 6, code := jdk_52_method_16_code, exceptionTable := #[], attributes := #[] }
def k11m2 : Method := { name := "compress", desc := "([CII)[B", sig := { parameters := [(.array .char), .int, .int], returnType := some (.array .byte) }, accessFlags := 9, code := some k11c2 }
def k11c3 : Code := { maxStack := 3, maxLocals := 7, code := jdk_52_method_21_code, exceptionTable := #[], attributes := #[] }
def k11m3 : Method := { name := "compress", desc := "([CI[BII)I", sig := { parameters := [(.array .char), .int, (.array .byte), .int, .int], returnType := some .int }, accessFlags := 9, code := some k11c3 }
/-- java/lang/StringUTF16 -/
def k11 : Class := { plain "java/lang/StringUTF16" (some 0) with
  accessFlags := 48
  interfaces := #[]
  cf := some (fileOf pool11 12 #[.nestMembers #[627, 629, 369]] #[{ accessFlags := 0, nameIndex := 9, descriptorIndex := 10, attributes := #[] }, { accessFlags := 8, nameIndex := 261, descriptorIndex := 262, attributes := #[] }, { accessFlags := 9, nameIndex := 117, descriptorIndex := 122, attributes := #[] }, { accessFlags := 9, nameIndex := 117, descriptorIndex := 118, attributes := #[] }] 48 6 #[] #[{ accessFlags := 26, nameIndex := 61, descriptorIndex := 62, attributes := #[] }, { accessFlags := 26, nameIndex := 65, descriptorIndex := 62, attributes := #[] }, { accessFlags := 24, nameIndex := 430, descriptorIndex := 62, attributes := #[] }, { accessFlags := 4120, nameIndex := 46, descriptorIndex := 47, attributes := #[] }])
  fields := #[{ name := "HI_BYTE_SHIFT", type := .int, accessFlags := 26, slot := 0, constantValue := 0 }, { name := "LO_BYTE_SHIFT", type := .int, accessFlags := 26, slot := 1, constantValue := 0 }, { name := "MAX_LENGTH", type := .int, accessFlags := 24, slot := 2, constantValue := 0 }, { name := "$assertionsDisabled", type := .boolean, accessFlags := 4120, slot := 3, constantValue := 0 }]
  methods := #[k11m0, k11m1, k11m2, k11m3]
  instanceTypes := #[]
  staticTypes := #[.int, .int, .int, .boolean]
  resolved := Array.replicate 635 none
  statics := none }

def pool12 : Array CpInfo := pool [(2, .class_ 4), (1, u "java/lang/Object"), (0, u "<init>"), (0, u "()V"), (17, .class_ 26), (1, u "jdk/internal/util/Preconditions"), (6, u "checkIndex"), (21, .class_ 56), (0, u "jdk/internal/util/Preconditions$4"), (57, .class_ 115), (0, u "jdk/internal/util/Preconditions$1"), (7, u "SIOOBE_FORMATTER"), (0, u "Ljava/util/function/BiFunction;"), (0, .class_ 126), (0, u "jdk/internal/util/Preconditions$2"), (3, u "AIOOBE_FORMATTER"), (0, .class_ 132), (0, u "jdk/internal/util/Preconditions$3"), (3, u "IOOBE_FORMATTER"), (41, u "(IILjava/util/function/BiFunction;)I")] 15

def k12m0 : Method := { name := "<init>", desc := "()V", sig := { parameters := [], returnType := none }, accessFlags := 1, code := none }
def k12c1 : Code := { maxStack := 3, maxLocals := 3, code := jdk_41_method_11_code, exceptionTable := #[], attributes := #[] }
def k12m1 : Method := { name := "checkIndex", desc := "(IILjava/util/function/BiFunction;)I", sig := { parameters := [.int, .int, (.object "java/util/function/BiFunction")], returnType := some .int }, accessFlags := 9, code := some k12c1 }
/-- jdk/internal/util/Preconditions -/
def k12 : Class := { plain "jdk/internal/util/Preconditions" (some 0) with
  accessFlags := 33
  interfaces := #[]
  cf := some (fileOf pool12 24 #[.nestMembers #[55, 131, 125, 114]] #[{ accessFlags := 1, nameIndex := 5, descriptorIndex := 6, attributes := #[] }, { accessFlags := 9, nameIndex := 33, descriptorIndex := 178, attributes := #[] }] 33 2 #[] #[{ accessFlags := 25, nameIndex := 123, descriptorIndex := 124, attributes := #[] }, { accessFlags := 25, nameIndex := 130, descriptorIndex := 124, attributes := #[] }, { accessFlags := 25, nameIndex := 136, descriptorIndex := 124, attributes := #[] }])
  fields := #[{ name := "SIOOBE_FORMATTER", type := (.object "java/util/function/BiFunction"), accessFlags := 25, slot := 0, constantValue := 0 }, { name := "AIOOBE_FORMATTER", type := (.object "java/util/function/BiFunction"), accessFlags := 25, slot := 1, constantValue := 0 }, { name := "IOOBE_FORMATTER", type := (.object "java/util/function/BiFunction"), accessFlags := 25, slot := 2, constantValue := 0 }]
  methods := #[k12m0, k12m1]
  instanceTypes := #[]
  staticTypes := #[(.object "java/util/function/BiFunction"), (.object "java/util/function/BiFunction"), (.object "java/util/function/BiFunction")]
  resolved := Array.replicate 194 none
  statics := some 1 }

def pool13 : Array CpInfo := pool [(9, u "<init>"), (6, .class_ 18), (1, u "java/lang/Object"), (0, u "()V"), (1, .class_ 23), (1, u "jdk/internal/util/ArraysSupport"), (0, u "LOG2_ARRAY_LONG_INDEX_SCALE"), (0, u "I"), (2, u "U"), (0, u "Ljdk/internal/misc/Unsafe;"), (8, u "BIG_ENDIAN"), (0, u "Z"), (8, u "LOG2_BYTE_BIT_SIZE"), (4, u "LOG2_ARRAY_INT_INDEX_SCALE"), (54, u "JLA"), (0, u "Ljdk/internal/access/JavaLangAccess;"), (11, u "LOG2_ARRAY_BOOLEAN_INDEX_SCALE"), (9, u "LOG2_ARRAY_BYTE_INDEX_SCALE"), (5, u "LOG2_ARRAY_CHAR_INDEX_SCALE"), (5, u "LOG2_ARRAY_SHORT_INDEX_SCALE"), (18, u "LOG2_ARRAY_FLOAT_INDEX_SCALE"), (24, u "LOG2_ARRAY_DOUBLE_INDEX_SCALE"), (89, u "T_BOOLEAN"), (2, u "T_CHAR"), (1, u "T_FLOAT"), (1, u "T_DOUBLE"), (1, u "T_BYTE"), (1, u "T_SHORT"), (1, u "T_INT"), (1, u "T_LONG"), (1, u "SOFT_MAX_ARRAY_LENGTH")] 83

def k13m0 : Method := { name := "<init>", desc := "()V", sig := { parameters := [], returnType := none }, accessFlags := 2, code := none }
/-- jdk/internal/util/ArraysSupport -/
def k13 : Class := { plain "jdk/internal/util/ArraysSupport" (some 0) with
  accessFlags := 33
  interfaces := #[]
  cf := some (fileOf pool13 21 #[] #[{ accessFlags := 2, nameIndex := 9, descriptorIndex := 19, attributes := #[] }] 33 16 #[] #[{ accessFlags := 24, nameIndex := 28, descriptorIndex := 29, attributes := #[] }, { accessFlags := 26, nameIndex := 38, descriptorIndex := 39, attributes := #[] }, { accessFlags := 25, nameIndex := 121, descriptorIndex := 25, attributes := #[] }, { accessFlags := 25, nameIndex := 131, descriptorIndex := 25, attributes := #[] }, { accessFlags := 25, nameIndex := 137, descriptorIndex := 25, attributes := #[] }, { accessFlags := 25, nameIndex := 143, descriptorIndex := 25, attributes := #[] }, { accessFlags := 25, nameIndex := 53, descriptorIndex := 25, attributes := #[] }, { accessFlags := 25, nameIndex := 24, descriptorIndex := 25, attributes := #[] }, { accessFlags := 25, nameIndex := 162, descriptorIndex := 25, attributes := #[] }, { accessFlags := 25, nameIndex := 187, descriptorIndex := 25, attributes := #[] }, { accessFlags := 26, nameIndex := 48, descriptorIndex := 25, attributes := #[] }, { accessFlags := 25, nameIndex := 277, descriptorIndex := 25, attributes := #[] }, { accessFlags := 25, nameIndex := 280, descriptorIndex := 25, attributes := #[] }, { accessFlags := 25, nameIndex := 282, descriptorIndex := 25, attributes := #[] }, { accessFlags := 25, nameIndex := 284, descriptorIndex := 25, attributes := #[] }, { accessFlags := 25, nameIndex := 286, descriptorIndex := 25, attributes := #[] }, { accessFlags := 25, nameIndex := 288, descriptorIndex := 25, attributes := #[] }, { accessFlags := 25, nameIndex := 290, descriptorIndex := 25, attributes := #[] }, { accessFlags := 25, nameIndex := 292, descriptorIndex := 25, attributes := #[] }, { accessFlags := 26, nameIndex := 108, descriptorIndex := 109, attributes := #[] }, { accessFlags := 25, nameIndex := 294, descriptorIndex := 25, attributes := #[] }])
  fields := #[{ name := "U", type := (.object "jdk/internal/misc/Unsafe"), accessFlags := 24, slot := 0, constantValue := 0 }, { name := "BIG_ENDIAN", type := .boolean, accessFlags := 26, slot := 1, constantValue := 0 }, { name := "LOG2_ARRAY_BOOLEAN_INDEX_SCALE", type := .int, accessFlags := 25, slot := 2, constantValue := 0 }, { name := "LOG2_ARRAY_BYTE_INDEX_SCALE", type := .int, accessFlags := 25, slot := 3, constantValue := 0 }, { name := "LOG2_ARRAY_CHAR_INDEX_SCALE", type := .int, accessFlags := 25, slot := 4, constantValue := 0 }, { name := "LOG2_ARRAY_SHORT_INDEX_SCALE", type := .int, accessFlags := 25, slot := 5, constantValue := 0 }, { name := "LOG2_ARRAY_INT_INDEX_SCALE", type := .int, accessFlags := 25, slot := 6, constantValue := 0 }, { name := "LOG2_ARRAY_LONG_INDEX_SCALE", type := .int, accessFlags := 25, slot := 7, constantValue := 0 }, { name := "LOG2_ARRAY_FLOAT_INDEX_SCALE", type := .int, accessFlags := 25, slot := 8, constantValue := 0 }, { name := "LOG2_ARRAY_DOUBLE_INDEX_SCALE", type := .int, accessFlags := 25, slot := 9, constantValue := 0 }, { name := "LOG2_BYTE_BIT_SIZE", type := .int, accessFlags := 26, slot := 10, constantValue := 0 }, { name := "T_BOOLEAN", type := .int, accessFlags := 25, slot := 11, constantValue := 0 }, { name := "T_CHAR", type := .int, accessFlags := 25, slot := 12, constantValue := 0 }, { name := "T_FLOAT", type := .int, accessFlags := 25, slot := 13, constantValue := 0 }, { name := "T_DOUBLE", type := .int, accessFlags := 25, slot := 14, constantValue := 0 }, { name := "T_BYTE", type := .int, accessFlags := 25, slot := 15, constantValue := 0 }, { name := "T_SHORT", type := .int, accessFlags := 25, slot := 16, constantValue := 0 }, { name := "T_INT", type := .int, accessFlags := 25, slot := 17, constantValue := 0 }, { name := "T_LONG", type := .int, accessFlags := 25, slot := 18, constantValue := 0 }, { name := "JLA", type := (.object "jdk/internal/access/JavaLangAccess"), accessFlags := 26, slot := 19, constantValue := 0 }, { name := "SOFT_MAX_ARRAY_LENGTH", type := .int, accessFlags := 25, slot := 20, constantValue := 0 }]
  methods := #[k13m0]
  instanceTypes := #[]
  staticTypes := #[(.object "jdk/internal/misc/Unsafe"), .boolean, .int, .int, .int, .int, .int, .int, .int, .int, .int, .int, .int, .int, .int, .int, .int, .int, .int, (.object "jdk/internal/access/JavaLangAccess"), .int]
  resolved := Array.replicate 378 none
  statics := none }

def pool14 : Array CpInfo := pool [(1, u "java/lang/Cloneable"), (0, .class_ 1), (0, u "java/lang/Object"), (0, .class_ 3)] 3

/-- java/lang/Cloneable -/
def k14 : Class := { plain "java/lang/Cloneable" (some 0) with
  accessFlags := 1537
  interfaces := #[]
  cf := some (fileOf pool14 2 #[] #[] 1537 4 #[] #[])
  fields := #[]
  methods := #[]
  instanceTypes := #[]
  staticTypes := #[]
  resolved := Array.replicate 8 none
  statics := none }

/-- the primitive byte -/
def k15 : Class := { plain "byte" none with kind := .primitive 'B', accessFlags := 0x411 }
/-- [B -/
def k16 : Class := { plain "[B" (some 0) with kind := .array 15 .byte, interfaces := #[14, 2], accessFlags := 1041 }

/-- the primitive char -/
def k17 : Class := { plain "char" none with kind := .primitive 'C', accessFlags := 0x411 }
/-- [C -/
def k18 : Class := { plain "[C" (some 0) with kind := .array 17 .char, interfaces := #[14, 2], accessFlags := 1041 }

/-- the primitive int -/
def k19 : Class := { plain "int" none with kind := .primitive 'I', accessFlags := 0x411 }
/-- [I -/
def k20 : Class := { plain "[I" (some 0) with kind := .array 19 .int, interfaces := #[14, 2], accessFlags := 1041 }

def heap : Heap := #[{ cls := 7, slots := #[.long 0, .int 1, .null, .int 0, .null, .int 0, .int 0], vm := .statics 7 },
  { cls := 12, slots := #[.null, .null, .null], vm := .statics 12 }]
def classes : Array Class := #[k0, k1, k2, k3, k4, k5, k6, k7, k8, k9, k10, k11, k12, k13, k14, k15, k16, k17, k18, k19, k20]
def interned : List (Array UInt16 × Addr) := []
def slotsUsed : Nat := 10
def theMethod : MethodId := ⟨1, 3⟩
def args0 : Array Value := #[.int 1, .int 2, .int 3, .int 4, .int 5]
def aboutOver (below : List Frame) : State where
  vm := { classes := classes, interned := interned.toArray }
  heap := heap
  slotsUsed := slotsUsed
  threads := #[{ frames := .invoking theMethod args0 :: below }]
def below0 : List Frame := [.native { method := ⟨0, 0⟩, args := #[] }]
def about1 : State := aboutOver below0
def p0 : Program := .bare "" "" ""
def e0 : Env := launch0.env 0 0 0
theorem w_frames : about1.frames = Frame.invoking theMethod args0 :: below0 := rfl
set_option maxRecDepth 65536 in
theorem w_args : argsFit about1.vm theMethod args0 = true := by decide +kernel
set_option maxRecDepth 65536 in
theorem w_heap : heapFits about1 = true := by decide +kernel
set_option maxRecDepth 65536 in
theorem w_runnable : about1.curStatus? = some .runnable := by decide +kernel
set_option maxRecDepth 65536 in
theorem w_alone : about1.alone = true := by decide +kernel
set_option maxRecDepth 65536 in
theorem w_named : about1.methodNamed? x = some theMethod := by decide +kernel
set_option maxRecDepth 65536 in
theorem w_hears : about1.hears theMethod below0 = true := by decide +kernel
set_option maxRecDepth 65536 in
theorem w_ripe : about1.ripe theMethod args0 below0 = true := by decide +kernel
theorem w_running : about1.status = .running := rfl
set_option maxRecDepth 65536 in
theorem w_room : about1.hasRoom e0.platform room_1 = true :=
  launch0.hasRoom_least _ room_1 (by decide +kernel) (by decide +kernel) (by decide +kernel) (by decide +kernel) (by decide +kernel) (by decide +kernel)
theorem allAtoms_all (ts : List Jvm.Cond) (a : Array Jvm.Value) (st : Jvm.State) : (allAtoms ts).before a st = ts.all (fun c => c.before a st) := by
  induction ts with
  | nil => rfl
  | cons c t ih =>
    show (Jvm.Cond.and c (allAtoms t)).before a st = _
    rw [Jvm.Cond.before_and, ih, List.all_cons]
def words1 : List Jvm.Cond := Jvm.Cond.code x code maxLocals ret :: tables_1
/-- a 'code' word, met by the world's own term for the bytes: nothing is compared byte by byte -/
theorem code_word {y : MethodName} {bytes : ByteArray} {mx : Nat} {rt : Option FieldType} {a : Array Value} {s : State} {m : MethodId} {meth : Method} {c : Code} (h1 : s.methodNamed? y = some m) (h2 : s.vm.method? m = some meth) (h3 : meth.code = some c) (h4 : c.code = bytes)
    (h5 : (c.maxLocals == mx && c.exceptionTable.isEmpty && decide (c.maxStack ≤ mostOperands) && decide (meth.sig.returnType = rt) && !meth.locks && decide (parseMethodDescriptor y.desc = some meth.sig)) = true) : (Jvm.Cond.code y bytes mx rt).before a s = true := by
  simp only [Bool.and_eq_true, beq_iff_eq, Bool.not_eq_true', decide_eq_true_eq] at h5
  obtain ⟨⟨⟨⟨⟨g1, g2⟩, g3⟩, g4⟩, g5⟩, g6⟩ := h5
  simp [Cond.before, Cond.holds, Cond.value, h1, h2, h3, h4, g1, g2, g3, g4, g5, g6]
def isCode : Jvm.Cond → Bool
  | .code _ _ _ _ => true
  | _ => false
theorem all_split {L : List Jvm.Cond} {P : Jvm.Cond → Bool} (h1 : L.all (fun c => isCode c || P c) = true) (h2 : ∀ c ∈ L.filter isCode, P c = true) : L.all P = true := by
  refine List.all_eq_true.mpr fun c hc => ?_
  have h := List.all_eq_true.mp h1 c hc
  rcases Bool.eq_false_or_eq_true (isCode c) with hi | hi
  · exact h2 c (List.mem_filter.mpr ⟨hc, hi⟩)
  · simpa [hi] using h
set_option maxRecDepth 65536 in
theorem w_c0 : (Jvm.Cond.code x code maxLocals ret).before args0 about1 = true := code_word (m := ⟨1, 3⟩) (meth := k1m3) (c := k1c3) (by decide +kernel) rfl rfl rfl (by decide +kernel)
set_option maxRecDepth 65536 in
theorem w_c1 : (Jvm.Cond.code ({ cls := "com/example/caddisfly/caddisfly/SyntaxIsHelpPinLaw", name := "ch", desc := "(I)C" } : Jvm.MethodName) method_2_code (1 : Nat) (Option.some Jvm.ClassFile.FieldType.char)).before args0 about1 = true := code_word (m := ⟨1, 1⟩) (meth := k1m1) (c := k1c1) (by decide +kernel) rfl rfl rfl (by decide +kernel)
set_option maxRecDepth 65536 in
theorem w_c2 : (Jvm.Cond.code ({ cls := "com/example/caddisfly/caddisfly/SyntaxIsHelpPinLaw", name := "mk", desc := "(ICCCCCCC)Ljava/lang/String;" } : Jvm.MethodName) method_3_code (8 : Nat) (Option.some (Jvm.ClassFile.FieldType.object "java/lang/String"))).before args0 about1 = true := code_word (m := ⟨1, 2⟩) (meth := k1m2) (c := k1c2) (by decide +kernel) rfl rfl rfl (by decide +kernel)
set_option maxRecDepth 65536 in
theorem w_c3 : (Jvm.Cond.code ({ cls := "java/lang/String", name := "<init>", desc := "([C)V" } : Jvm.MethodName) jdk_42_method_3_code (2 : Nat) (Option.none : Option Jvm.ClassFile.FieldType)).before args0 about1 = true := code_word (m := ⟨7, 1⟩) (meth := k7m1) (c := k7c1) (by decide +kernel) rfl rfl rfl (by decide +kernel)
set_option maxRecDepth 65536 in
theorem w_c4 : (Jvm.Cond.code ({ cls := "java/lang/String", name := "<init>", desc := "([CIILjava/lang/Void;)V" } : Jvm.MethodName) jdk_42_method_149_code (6 : Nat) (Option.none : Option Jvm.ClassFile.FieldType)).before args0 about1 = true := code_word (m := ⟨7, 4⟩) (meth := k7m4) (c := k7c4) (by decide +kernel) rfl rfl rfl (by decide +kernel)
set_option maxRecDepth 65536 in
theorem w_c5 : (Jvm.Cond.code ({ cls := "java/lang/Object", name := "<init>", desc := "()V" } : Jvm.MethodName) object_method_1_code (1 : Nat) (Option.none : Option Jvm.ClassFile.FieldType)).before args0 about1 = true := code_word (m := ⟨0, 0⟩) (meth := k0m0) (c := k0c0) (by decide +kernel) rfl rfl rfl (by decide +kernel)
set_option maxRecDepth 65536 in
theorem w_c6 : (Jvm.Cond.code ({ cls := "com/example/caddisfly/caddisfly/Syntax", name := "isHelp", desc := "(Ljava/lang/String;)Z" } : Jvm.MethodName) prog_11_method_5_code (1 : Nat) (Option.some Jvm.ClassFile.FieldType.boolean)).before args0 about1 = true := code_word (m := ⟨9, 0⟩) (meth := k9m0) (c := k9c0) (by decide +kernel) rfl rfl rfl (by decide +kernel)
set_option maxRecDepth 65536 in
theorem w_c7 : (Jvm.Cond.code ({ cls := "java/lang/String", name := "equals", desc := "(Ljava/lang/Object;)Z" } : Jvm.MethodName) jdk_42_method_66_code (3 : Nat) (Option.some Jvm.ClassFile.FieldType.boolean)).before args0 about1 = true := code_word (m := ⟨7, 3⟩) (meth := k7m3) (c := k7c3) (by decide +kernel) rfl rfl rfl (by decide +kernel)
set_option maxRecDepth 65536 in
theorem w_c8 : (Jvm.Cond.code ({ cls := "java/lang/StringLatin1", name := "equals", desc := "([B[B)Z" } : Jvm.MethodName) jdk_43_method_13_code (3 : Nat) (Option.some Jvm.ClassFile.FieldType.boolean)).before args0 about1 = true := code_word (m := ⟨10, 2⟩) (meth := k10m2) (c := k10c2) (by decide +kernel) rfl rfl rfl (by decide +kernel)
set_option maxRecDepth 65536 in
theorem w_c9 : (Jvm.Cond.code ({ cls := "java/lang/StringUTF16", name := "compress", desc := "([CII)[B" } : Jvm.MethodName) jdk_52_method_16_code (6 : Nat) (Option.some (Jvm.ClassFile.FieldType.array Jvm.ClassFile.FieldType.byte))).before args0 about1 = true := code_word (m := ⟨11, 2⟩) (meth := k11m2) (c := k11c2) (by decide +kernel) rfl rfl rfl (by decide +kernel)
set_option maxRecDepth 65536 in
theorem w_c10 : (Jvm.Cond.code ({ cls := "java/lang/StringUTF16", name := "compress", desc := "([CI[BII)I" } : Jvm.MethodName) jdk_52_method_21_code (7 : Nat) (Option.some Jvm.ClassFile.FieldType.int)).before args0 about1 = true := code_word (m := ⟨11, 3⟩) (meth := k11m3) (c := k11c3) (by decide +kernel) rfl rfl rfl (by decide +kernel)
set_option maxRecDepth 65536 in
theorem w_c11 : (Jvm.Cond.code ({ cls := "java/lang/StringUTF16", name := "coderFromArrayLen", desc := "([BI)B" } : Jvm.MethodName) jdk_52_method_15_code (2 : Nat) (Option.some Jvm.ClassFile.FieldType.byte)).before args0 about1 = true := code_word (m := ⟨11, 1⟩) (meth := k11m1) (c := k11c1) (by decide +kernel) rfl rfl rfl (by decide +kernel)
set_option maxRecDepth 65536 in
theorem w_c12 : (Jvm.Cond.code ({ cls := "java/lang/String", name := "charAt", desc := "(I)C" } : Jvm.MethodName) jdk_42_method_56_code (2 : Nat) (Option.some Jvm.ClassFile.FieldType.char)).before args0 about1 = true := code_word (m := ⟨7, 2⟩) (meth := k7m2) (c := k7c2) (by decide +kernel) rfl rfl rfl (by decide +kernel)
set_option maxRecDepth 65536 in
theorem w_c13 : (Jvm.Cond.code ({ cls := "java/lang/String", name := "isLatin1", desc := "()Z" } : Jvm.MethodName) jdk_42_method_154_code (1 : Nat) (Option.some Jvm.ClassFile.FieldType.boolean)).before args0 about1 = true := code_word (m := ⟨7, 5⟩) (meth := k7m5) (c := k7c5) (by decide +kernel) rfl rfl rfl (by decide +kernel)
set_option maxRecDepth 65536 in
theorem w_c14 : (Jvm.Cond.code ({ cls := "java/lang/StringLatin1", name := "charAt", desc := "([BI)C" } : Jvm.MethodName) jdk_43_method_2_code (2 : Nat) (Option.some Jvm.ClassFile.FieldType.char)).before args0 about1 = true := code_word (m := ⟨10, 1⟩) (meth := k10m1) (c := k10c1) (by decide +kernel) rfl rfl rfl (by decide +kernel)
set_option maxRecDepth 65536 in
theorem w_c15 : (Jvm.Cond.code ({ cls := "java/lang/String", name := "checkIndex", desc := "(II)V" } : Jvm.MethodName) jdk_42_method_155_code (2 : Nat) (Option.none : Option Jvm.ClassFile.FieldType)).before args0 about1 = true := code_word (m := ⟨7, 6⟩) (meth := k7m6) (c := k7c6) (by decide +kernel) rfl rfl rfl (by decide +kernel)
set_option maxRecDepth 65536 in
theorem w_c16 : (Jvm.Cond.code ({ cls := "jdk/internal/util/Preconditions", name := "checkIndex", desc := "(IILjava/util/function/BiFunction;)I" } : Jvm.MethodName) jdk_41_method_11_code (3 : Nat) (Option.some Jvm.ClassFile.FieldType.int)).before args0 about1 = true := code_word (m := ⟨12, 1⟩) (meth := k12m1) (c := k12c1) (by decide +kernel) rfl rfl rfl (by decide +kernel)
def codes1 : List Jvm.Cond := [Jvm.Cond.code x code maxLocals ret, Jvm.Cond.code ({ cls := "com/example/caddisfly/caddisfly/SyntaxIsHelpPinLaw", name := "ch", desc := "(I)C" } : Jvm.MethodName) method_2_code (1 : Nat) (Option.some Jvm.ClassFile.FieldType.char), Jvm.Cond.code ({ cls := "com/example/caddisfly/caddisfly/SyntaxIsHelpPinLaw", name := "mk", desc := "(ICCCCCCC)Ljava/lang/String;" } : Jvm.MethodName) method_3_code (8 : Nat) (Option.some (Jvm.ClassFile.FieldType.object "java/lang/String")), Jvm.Cond.code ({ cls := "java/lang/String", name := "<init>", desc := "([C)V" } : Jvm.MethodName) jdk_42_method_3_code (2 : Nat) (Option.none : Option Jvm.ClassFile.FieldType), Jvm.Cond.code ({ cls := "java/lang/String", name := "<init>", desc := "([CIILjava/lang/Void;)V" } : Jvm.MethodName) jdk_42_method_149_code (6 : Nat) (Option.none : Option Jvm.ClassFile.FieldType), Jvm.Cond.code ({ cls := "java/lang/Object", name := "<init>", desc := "()V" } : Jvm.MethodName) object_method_1_code (1 : Nat) (Option.none : Option Jvm.ClassFile.FieldType), Jvm.Cond.code ({ cls := "com/example/caddisfly/caddisfly/Syntax", name := "isHelp", desc := "(Ljava/lang/String;)Z" } : Jvm.MethodName) prog_11_method_5_code (1 : Nat) (Option.some Jvm.ClassFile.FieldType.boolean), Jvm.Cond.code ({ cls := "java/lang/String", name := "equals", desc := "(Ljava/lang/Object;)Z" } : Jvm.MethodName) jdk_42_method_66_code (3 : Nat) (Option.some Jvm.ClassFile.FieldType.boolean), Jvm.Cond.code ({ cls := "java/lang/StringLatin1", name := "equals", desc := "([B[B)Z" } : Jvm.MethodName) jdk_43_method_13_code (3 : Nat) (Option.some Jvm.ClassFile.FieldType.boolean), Jvm.Cond.code ({ cls := "java/lang/StringUTF16", name := "compress", desc := "([CII)[B" } : Jvm.MethodName) jdk_52_method_16_code (6 : Nat) (Option.some (Jvm.ClassFile.FieldType.array Jvm.ClassFile.FieldType.byte)), Jvm.Cond.code ({ cls := "java/lang/StringUTF16", name := "compress", desc := "([CI[BII)I" } : Jvm.MethodName) jdk_52_method_21_code (7 : Nat) (Option.some Jvm.ClassFile.FieldType.int), Jvm.Cond.code ({ cls := "java/lang/StringUTF16", name := "coderFromArrayLen", desc := "([BI)B" } : Jvm.MethodName) jdk_52_method_15_code (2 : Nat) (Option.some Jvm.ClassFile.FieldType.byte), Jvm.Cond.code ({ cls := "java/lang/String", name := "charAt", desc := "(I)C" } : Jvm.MethodName) jdk_42_method_56_code (2 : Nat) (Option.some Jvm.ClassFile.FieldType.char), Jvm.Cond.code ({ cls := "java/lang/String", name := "isLatin1", desc := "()Z" } : Jvm.MethodName) jdk_42_method_154_code (1 : Nat) (Option.some Jvm.ClassFile.FieldType.boolean), Jvm.Cond.code ({ cls := "java/lang/StringLatin1", name := "charAt", desc := "([BI)C" } : Jvm.MethodName) jdk_43_method_2_code (2 : Nat) (Option.some Jvm.ClassFile.FieldType.char), Jvm.Cond.code ({ cls := "java/lang/String", name := "checkIndex", desc := "(II)V" } : Jvm.MethodName) jdk_42_method_155_code (2 : Nat) (Option.none : Option Jvm.ClassFile.FieldType), Jvm.Cond.code ({ cls := "jdk/internal/util/Preconditions", name := "checkIndex", desc := "(IILjava/util/function/BiFunction;)I" } : Jvm.MethodName) jdk_41_method_11_code (3 : Nat) (Option.some Jvm.ClassFile.FieldType.int)]
set_option maxRecDepth 65536 in
theorem codes_eq : words1.filter isCode = codes1 := rfl
theorem w_codes : ∀ c ∈ words1.filter isCode, c.before args0 about1 = true := by
  rw [codes_eq]
  intro c hc
  simp only [codes1, List.mem_cons, List.not_mem_nil, or_false] at hc
  rcases hc with rfl | rfl | rfl | rfl | rfl | rfl | rfl | rfl | rfl | rfl | rfl | rfl | rfl | rfl | rfl | rfl | rfl
  · exact w_c0
  · exact w_c1
  · exact w_c2
  · exact w_c3
  · exact w_c4
  · exact w_c5
  · exact w_c6
  · exact w_c7
  · exact w_c8
  · exact w_c9
  · exact w_c10
  · exact w_c11
  · exact w_c12
  · exact w_c13
  · exact w_c14
  · exact w_c15
  · exact w_c16
set_option maxRecDepth 65536 in
theorem w_t1 : (words1.take 24).all (fun c => isCode c || c.before args0 about1) = true := by decide +kernel
set_option maxRecDepth 65536 in
theorem w_t2 : ((words1.drop 24).take 24).all (fun c => isCode c || c.before args0 about1) = true := by decide +kernel
set_option maxRecDepth 65536 in
theorem w_t3 : (((words1.drop 24).drop 24).take 24).all (fun c => isCode c || c.before args0 about1) = true := by decide +kernel
set_option maxRecDepth 65536 in
theorem w_t4 : (((words1.drop 24).drop 24).drop 24).all (fun c => isCode c || c.before args0 about1) = true := by decide +kernel
theorem w_tables : (allAtoms (Jvm.Cond.code x code maxLocals ret :: tables_1)).before args0 about1 = true := by
  rw [allAtoms_all]
  show words1.all (fun c => c.before args0 about1) = true
  refine all_split ?_ w_codes
  rw [← List.take_append_drop 24 words1, List.all_append, w_t1, ← List.take_append_drop 24 (words1.drop 24), List.all_append, w_t2, ← List.take_append_drop 24 ((words1.drop 24).drop 24), List.all_append, w_t3, w_t4]
  rfl
set_option maxRecDepth 65536 in
theorem w_rest : rest_1_c.before args0 about1 = true := by decide +kernel
set_option maxRecDepth 65536 in
theorem w_case : (Jvm.Cond.and given_1 narrow_1).before args0 about1 = true := by decide +kernel
set_option maxRecDepth 65536 in
theorem w_consts : constsHeld consts_1 about1 := Jvm.Lit.constsHeldB_iff.mp (by decide +kernel)
theorem w_applies : (headSpec (Jvm.Cond.code x code maxLocals ret :: tables_1) room_1).applies x e0.platform about1 = true :=
  (Spec.applies_iff w_frames).mpr ⟨w_running, w_runnable, w_alone, w_named, w_hears, w_ripe, w_room, w_tables⟩
theorem atStart : AtStart classFile x code maxLocals ret World_1 tables_1 room_1 Calls_1 rest_1 Pre_1 launch0 p0 e0 about1 theMethod args0 below0 :=
  ⟨lists_1, trivial, launch0.admits_env _ _ _, launch0.least_env, fairChoices_fair.cas, fairChoices_fair.clock, w_frames, w_args, w_heap, w_applies, ⟨w_consts, trivial⟩, w_rest, w_case⟩
end start1
theorem witness_1 : WitnessClaimed_1 := ⟨start1.p0, start1.e0, start1.about1, start1.theMethod, start1.args0, start1.below0, start1.atStart⟩
end Jvm.Pilot.@@N@@
