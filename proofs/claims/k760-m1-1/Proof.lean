import JvmDerived
import JvmDerived.Pilot.@@N@@Statement
import JvmDerived.Pilot.@@N@@Code
set_option linter.unusedVariables false
set_option linter.unusedSimpArgs false
namespace Jvm.RoadKit
open Sem ClassFile Op Lib Jvm.Stand Jvm.Free Jvm.LawKit
section New
variable {p : Program} {l : Launch} {e : Env} {R : Room} {s : State} {m : MethodId} {args : Array Value} {below : List Frame} {meth : Method} {c : Code} {T : State} {locs : List Loc} {cells slots : Nat}
theorem retI (X : Stand p l e R s m args below meth c T locs cells slots) (hx : p.tables.exec = Jvm.exec) {pc : Nat} {Ls : Array Slot} {z : Int32} {rest : List Value} (hret : meth.sig.returnType = some .int) (hd : decode c.code pc = .ok (.ireturn, 1)) {fs : List Frame}
    (hl : ∀ (f : JFrame) (acts : List Action), f.method = m → f.locked = none → f.entered = [] → (doReturn e (T.setTop f) acts (some (.int z))).1 = T.setFrames fs) : Steps p.tables e below (T.setTop (mkF m pc Ls (.int z :: rest))) (T.setFrames fs) := by
  have hm' : T.vm.method? m = some meth := X.method'
  have hn : narrow .int (.int z) = .int z := rfl
  show Steps p.tables e below (T.setTop { method := m, pc := pc, locals := Ls, stack := _ :: rest, locked := none }) _
  jvm_step X.here [X.here.top, hx, hd, hm', hret, hn]
  first | (intro acts; rw [hl _ acts rfl rfl rfl]) | rw [hl _ _ rfl rfl rfl]
  exact Steps.refl _
/-- what is left of a walk: from S the run comes to its end, and Q is said of that -/
def OwnGo (p : Program) (e : Env) (below : List Frame) (s : State) (Q : Option Value → Heap → List Loc → Prop) (k n : Nat) (S : State) : Prop :=
  ∃ s₂ o, Steps p.tables e below S s₂ ∧ s₂.status = .running ∧ Ended s₂ below o ∧ ∃ v L, o = .returned v ∧ Q v s₂.heap L ∧ FrameEnd s o s₂ L k n
theorem gs {Q : Option Value → Heap → List Loc → Prop} {k n : Nat} {S S' : State} (f : ∀ t, Steps p.tables e below S' t → Steps p.tables e below S t) (h : OwnGo p e below s Q k n S') : OwnGo p e below s Q k n S := by
  obtain ⟨s₂, o, h1, r⟩ := h; exact ⟨s₂, o, f _ h1, r⟩
theorem gout {Q : Option Value → Heap → List Loc → Prop} {k n : Nat} {S : State} (X : Stand p l e R s m args below meth c T locs cells slots) (hlk : meth.locks = false) {v : Option Value} (hv : meth.sig.returnType = none → v = none) (hk : cells ≤ k) (hn : slots ≤ n) (hq : Q v T.heap locs)
    (st : ∀ fs, (∀ (f : JFrame) (acts : List Action), f.method = m → f.locked = none → f.entered = [] → (doReturn e (T.setTop f) acts v).1 = T.setFrames fs) → Steps p.tables e below S (T.setFrames fs)) : OwnGo p e below s Q k n S := by
  obtain ⟨fs, hr, hrun, hended, hW, hsame⟩ := X.leave (v := v) hv hlk
  exact ⟨_, _, st fs hr, hrun, hended, v, _, rfl, hq, ⟨v, rfl⟩, hW, hsame.mono hk hn⟩
/-- .. where String constants may be loaded on the way -/
def OwnGoW (p : Program) (e : Env) (below : List Frame) (s : State) (Z : State) (EL : List (String × Nat)) (Q : Option Value → Heap → List Loc → Prop) (k n : Nat) (S : State) : Prop :=
  ∃ s₂ o, Steps p.tables e below S s₂ ∧ s₂.status = .running ∧ Ended s₂ below o ∧ ∃ v L, o = .returned v ∧ Q v s₂.heap L ∧ CHr Z EL s.vm s.heap s₂.vm s₂.heap ∧ ReturnedEndW s o s₂ L k n
theorem gsW {Z : State} {EL : List (String × Nat)} {Q : Option Value → Heap → List Loc → Prop} {k n : Nat} {S S' : State} (f : ∀ t, Steps p.tables e below S' t → Steps p.tables e below S t) (h : OwnGoW p e below s Z EL Q k n S') : OwnGoW p e below s Z EL Q k n S := by
  obtain ⟨s₂, o, h1, r⟩ := h; exact ⟨s₂, o, f _ h1, r⟩
theorem goutW {Z : State} {a0 : Array Value} {EL : List (String × Nat)} {Q : Option Value → Heap → List Loc → Prop} {k n k0 : Nat} {S : State} {vm1 : Vm} {h0 h : Heap} (X : Stand p l e R (s.setVm vm1) m args below meth c T locs cells slots) (hS : s.Since vm1 k0) (hkk : k0 ≤ h.size) (hZ : Z.Warmed39 (s.setVm vm1).vm) (hEL : EW Z a0 EL) (hh : s.heap = h0) (eT : T.heap = h) (hR : CHr Z EL s.vm h0 vm1 h)
    (hlk : meth.locks = false) {v : Option Value} (hv : meth.sig.returnType = none → v = none) (hk : cells ≤ k) (hn : slots ≤ n) (hq : Q v h locs)
    (st : ∀ fs, (∀ (f : JFrame) (acts : List Action), f.method = m → f.locked = none → f.entered = [] → (doReturn e (T.setTop f) acts v).1 = T.setFrames fs) → Steps p.tables e below S (T.setFrames fs)) : OwnGoW p e below s Z EL Q k n S := by
  subst eT hh
  obtain ⟨fs, hr, hrun, hended, hE⟩ := X.leaveW hS hkk (v := v) hv hlk
  exact ⟨_, _, st fs hr, hrun, hended, v, _, rfl, hq, hR.trans (show CHr Z EL vm1 T.heap T.vm T.heap from CHv.at X hZ hEL hR.1), hE.1, hE.2.1, hE.2.2.1, hE.2.2.2.mono hk hn⟩
end New
def CtrW (l : Launch) (Z : State) (EL : List (String × Nat)) (y : MethodName) (bytes : ByteArray) (maxL : Nat) (ret : Option FieldType) (ws : List Jvm.Cond) (R : Room) (as' : Array Value) (h0 : Heap) (Q : Option Value → Heap → List Loc → Prop) : Prop :=
  MetFree l y (head1 (Jvm.Cond.code y bytes maxL ret :: ws) R) (fun a U => a = as' ∧ Z.Warmed39 U.vm ∧ U.heap = h0 ∧ CHv Z EL U.vm h0) (fun _ _ _ _ _ => True) (fun _ U o U' => ∃ v L, o = .returned v ∧ Q v U'.heap L ∧ CHr Z EL U.vm U.heap U'.vm U'.heap ∧ ReturnedEndW U o U' L R.cells R.slots)
/-- a method's contract -/
def Ctr (l : Launch) (Z : State) (y : MethodName) (bytes : ByteArray) (maxL : Nat) (ret : Option FieldType) (ws : List Jvm.Cond) (R : Room) (as' : Array Value) (h0 : Heap) (Q : Option Value → Heap → List Loc → Prop) : Prop :=
  MetFree l y (head1 (Jvm.Cond.code y bytes maxL ret :: ws) R) (fun a U => a = as' ∧ Z.Warmed39 U.vm ∧ U.heap = h0) (fun _ _ _ _ _ => True) (fun _ U o U' => ∃ v L, o = .returned v ∧ Q v U'.heap L ∧ FrameEnd U o U' L R.cells R.slots)
section Own
variable {p : Program} {l : Launch} {e : Env} {R : Room} {s Z : State} {args a0 : Array Value} {below : List Frame} {y : MethodName} {bytes : ByteArray} {maxL : Nat} {ret : Option FieldType} {rm : Room} {len W : Nat} {as' : Array Value} {h : Heap} {Q : Option Value → Heap → List Loc → Prop} {EL : List (String × Nat)} {vm0 : Vm} {ws : List Jvm.Cond}
theorem Ctr.of (hM : MetFree l y (head1 (Jvm.Cond.code y bytes maxL ret :: ws) R) (fun a U => a = as' ∧ Z.Warmed39 U.vm ∧ U.heap = h) (fun _ _ _ _ _ => True) (fun _ U o U' => ∃ v L, o = .returned v ∧ Q v U'.heap L ∧ FrameEnd U o U' L R.cells R.slots)) : Ctr l Z y bytes maxL ret ws R as' h Q := hM
theorem CtrW.of (hM : MetFree l y (head1 (Jvm.Cond.code y bytes maxL ret :: ws) R) (fun a U => a = as' ∧ Z.Warmed39 U.vm ∧ U.heap = h ∧ CHv Z EL U.vm h) (fun _ _ _ _ _ => True) (fun _ U o U' => ∃ v L, o = .returned v ∧ Q v U'.heap L ∧ CHr Z EL U.vm U.heap U'.vm U'.heap ∧ ReturnedEndW U o U' L R.cells R.slots)) : CtrW l Z EL y bytes maxL ret ws R as' h Q := hM
theorem backC (hM : Ctr l Z y bytes maxL ret [] rm as' h Q) (hZ : Z.Warmed39 s.vm) (wc : (Cond.code y bytes maxL ret).before a0 Z = true) (wz : (Cond.initialized y.cls).before a0 Z = true) (hf : rm.frames + 1 ≤ R.frames) (hl : W + (maxL + 11) + rm.locals ≤ R.locals) :
    Back l R p e below s args y len W (fun A a => a = as' ∧ A.U.heap = h ∧ A.cells + rm.cells ≤ R.cells ∧ A.slots + rm.slots ≤ R.slots)
      (fun A _ v B => ∃ L, Q v B.U.heap L ∧ B.locs = A.locs ++ L ∧ B.cells = A.cells + rm.cells ∧ B.slots = A.slots + rm.slots) := backOf (Q := Q) hM hZ wc wz hf hl
theorem backCW (hM : CtrW l Z EL y bytes maxL ret [] rm as' h Q) (hZ : Z.Warmed39 vm0) (wc : (Cond.code y bytes maxL ret).before a0 Z = true) (wz : (Cond.initialized y.cls).before a0 Z = true) (hf : rm.frames + 1 ≤ R.frames) (hl : W + (maxL + 11) + rm.locals ≤ R.locals) (hEL : EW Z a0 EL) (H : CHv Z EL vm0 h) :
    BackS l R p e below (s.setVm vm0) args y len W (fun A a => a = as' ∧ A.U.heap = h ∧ A.cells + rm.cells ≤ R.cells ∧ A.slots + rm.slots ≤ R.slots)
      (fun A _ v B => ∃ L, Q v B.U.heap L ∧ B.locs = A.locs ++ L ∧ B.cells = A.cells + rm.cells ∧ B.slots = A.slots + rm.slots ∧ CHr Z EL vm0 h B.U.vm B.U.heap) := backOfSH (Q := Q) hM hZ wc wz hf hl hEL H
end Own
end Jvm.RoadKit
/- laws to paste: Road.backV (cut by pick.py; bodies as the Statement names them) -/
namespace Jvm.Pilot.@@N@@
namespace StrChars
open Jvm Sem ClassFile Op Lib Jvm.Stand Jvm.Free.XT Jvm.Free.ALB Jvm.Free.JM Jvm.Free
open Jvm.Lib.Cold (StaticIs)
/-- a char array whose places are chars -/
def Ch (a : Addr) (A : Cell) (U : State) : Prop := Arr .char a A U ∧ Typed .char A
theorem Ch.mv {a : Addr} {A : Cell} {U U' : State} (h : Ch a A U) (hal : U.vm.Alike U'.vm) (hh : U'.heap = U.heap) : Ch a A U' := ⟨h.1.mv hal hh, h.2⟩
theorem Ch.keep {a : Addr} {A : Cell} {U U' : State} (h : Ch a A U) (hal : U.vm.Alike U'.vm) (hk : U'.heap[a]? = some A) : Ch a A U' := ⟨h.1.keep hal hk, h.2⟩
/-- what place i of a char[]'s cell holds -/
def cv (A : Cell) (i : Nat) : Int32 := match A.slots[i]? with | some (.int x) => x | _ => 0
theorem Ch.get {a : Addr} {A : Cell} {U : State} (h : Ch a A U) {i : Nat} (hi : i < A.slots.size) : A.slots[i]? = some (.int (cv A i)) := by
  have e := Array.getElem?_eq_getElem hi
  have f := h.2 i _ e
  unfold cv; rw [e]
  generalize A.slots[i] = v at f
  cases v <;> simp [fits] at f ⊢
/-- the byte that i2b leaves of a char -/
def lo8 (x : Int32) : Int32 := x.toInt8.toInt32
theorem fits_lo8 (y : Int32) : fits .byte (.int (lo8 y)) = true := by
  have h1 := y.toInt8.le_toInt
  have h2 := y.toInt8.toInt_lt
  simp only [lo8, fits, Bool.and_eq_true, decide_eq_true_eq, Int32.le_iff_toInt_le, Int8.toInt_toInt32, show (-128 : Int32).toInt = -128 from by decide, show (127 : Int32).toInt = 127 from by decide]
  omega
/-- A' is A but that each place j of lo .. hi - 1 holds f j -/
def Laid (A A' : Cell) (lo hi : Nat) (f : Nat → Value) : Prop := A'.cls = A.cls ∧ A'.vm = A.vm ∧ A'.slots.size = A.slots.size ∧ ∀ i, A'.slots[i]? = if lo ≤ i ∧ i < hi then some (f i) else A.slots[i]?
theorem Laid.zero (A : Cell) (lo : Nat) (f : Nat → Value) : Laid A A lo (lo + 0) f := ⟨rfl, rfl, rfl, fun i => by rw [if_neg (by omega)]⟩
theorem Laid.step {A Ak : Cell} {lo k : Nat} {f : Nat → Value} {v : Value} (h : Laid A Ak lo k f) (hlo : lo ≤ k) (hk : k < Ak.slots.size) (hv : v = f k) : Laid A (Ak.setSlot k v) lo (k + 1) f := by
  refine ⟨h.1, h.2.1, by simpa [Cell.setSlot] using h.2.2.1, fun i => ?_⟩
  by_cases e : k = i
  · subst e; rw [Cell.slots_setSlot_self v hk, if_pos (by omega), hv]
  · rw [Cell.slots_setSlot_ne v e, h.2.2.2 i]
    by_cases q : lo ≤ i ∧ i < k
    · rw [if_pos q, if_pos (by omega)]
    · rw [if_neg q, if_neg (by omega)]
def U16 : String := "java/lang/StringUTF16"
namespace Cmp5
def yN : MethodName := ⟨"java/lang/StringUTF16", "compress", "([CI[BII)I"⟩
abbrev yB : ByteArray := jdk_52_method_21_code
theorem d0 : decode yB 0 = .ok (.iconst 0, 1) := by decide +kernel
theorem d1 : decode yB 1 = .ok (.istore 5, 2) := by decide +kernel
theorem d3 : decode yB 3 = .ok (.iload 5, 2) := by decide +kernel
theorem d5 : decode yB 5 = .ok (.iload 4, 2) := by decide +kernel
theorem d7 : decode yB 7 = .ok (.if_icmp (.ge) 37, 3) := by decide +kernel
theorem d10 : decode yB 10 = .ok (.aload_n 0, 1) := by decide +kernel
theorem d11 : decode yB 11 = .ok (.iload_n 1, 1) := by decide +kernel
theorem d12 : decode yB 12 = .ok (.caload, 1) := by decide +kernel
theorem d13 : decode yB 13 = .ok (.istore 6, 2) := by decide +kernel
theorem d15 : decode yB 15 = .ok (.iload 6, 2) := by decide +kernel
theorem d17 : decode yB 17 = .ok (.sipush 255, 3) := by decide +kernel
theorem d20 : decode yB 20 = .ok (.if_icmp (.le) 6, 3) := by decide +kernel
theorem d26 : decode yB 26 = .ok (.aload_n 2, 1) := by decide +kernel
theorem d27 : decode yB 27 = .ok (.iload_n 3, 1) := by decide +kernel
theorem d28 : decode yB 28 = .ok (.iload 6, 2) := by decide +kernel
theorem d30 : decode yB 30 = .ok (.i2b, 1) := by decide +kernel
theorem d31 : decode yB 31 = .ok (.bastore, 1) := by decide +kernel
theorem d32 : decode yB 32 = .ok (.iinc 1 1, 3) := by decide +kernel
theorem d35 : decode yB 35 = .ok (.iinc 3 1, 3) := by decide +kernel
theorem d38 : decode yB 38 = .ok (.iinc 5 1, 3) := by decide +kernel
theorem d41 : decode yB 41 = .ok (.goto (-38), 3) := by decide +kernel
theorem d44 : decode yB 44 = .ok (.iload 4, 2) := by decide +kernel
theorem d46 : decode yB 46 = .ok (.ireturn, 1) := by decide +kernel
def site : List Cond := []
def tab : Cond := tabOf yN yB 7 (some .int) site
def P (b : Addr) (A : Cell) (d : Addr) (B : Cell) (o q len : Nat) (args : Array Value) (s : State) : Prop := args = #[.ref b, .int (Int32.ofNat o), .ref d, .int (Int32.ofNat q), .int (Int32.ofNat len)] ∧ Ch b A s ∧ Arr .byte d B s ∧ b ≠ d ∧ o + len ≤ A.slots.size ∧ q + len ≤ B.slots.size ∧ ∀ i, i < len → ¬ 255 < cv A (o + i)
def E (b : Addr) (A : Cell) (d : Addr) (B : Cell) (o q len : Nat) (r : Option Value) (s u : State) : Prop := r = some (.int (Int32.ofNat len)) ∧ ∃ B', Put d B' s u ∧ Laid B B' q (q + len) (fun j => Value.int (lo8 (cv A (o + (j - q)))))
/-- no char of the range above 255: len; the places written hold each char's low byte -/
theorem law (l : Launch) (b : Addr) (A : Cell) (d : Addr) (B : Cell) (o q len : Nat) : Law l yN 5 5 0 0 yB 7 (some .int) site (P b A d B o q len) (E b A d B o q len) (copyLocs d q len) 0 0 := by
  refine Law.of_walk (plainFor_of_name (by decide +kernel)) (by decide +kernel) (by decide +kernel) (by decide) (fun _ _ h => by rw [h.1]; rfl) (fun _ U U' hal hh h => ⟨h.1, h.2.1.mv hal hh, h.2.2.1.mv hal hh, h.2.2.2⟩) (fun r U U' V V' h1 hal h2 h => ⟨h.1, h.2.elim fun B' q => ⟨B', q.1.mv h1 h2, q.2⟩⟩) ?_
  intro p e s m args below meth c s₁ X0 hexec hbytes hml hret hlk hnm hown hh0 W hP
  obtain ⟨rfl, hA, hB, hne, l1, l2, hp⟩ := hP
  have c1 : Steps p.tables e below (s₁.setTop (entryFrame m #[.ref b, .int (Int32.ofNat o), .ref d, .int (Int32.ofNat q), .int (Int32.ofNat len)] 7)) (s₁.setTop (mkF m 0 #[.val (.ref b), .val (.int (Int32.ofNat o)), .val (.ref d), .val (.int (Int32.ofNat q)), .val (.int (Int32.ofNat len)), .unset, .unset] [])) := entry rfl
  have hA0 := hA.1.mv X0.warmed.alike hh0
  have hB0 := hB.mv X0.warmed.alike hh0
  have a31 := hA.1.2.2.2
  have c2 : Steps p.tables e below (s₁.setTop (entryFrame m #[.ref b, .int (Int32.ofNat o), .ref d, .int (Int32.ofNat q), .int (Int32.ofNat len)] 7)) (s₁.setTop (mkF m 3 #[.val (.ref b), .val (.int (Int32.ofNat o)), .val (.ref d), .val (.int (Int32.ofNat q)), .val (.int (Int32.ofNat len)), .val (.int 0), .unset] [])) := c1.trans (by
    refine iconstV X0.here hexec rfl 0 (hb hbytes d0) (by decide) ?_
    refine XS.istore X0.here hexec rfl (hb hbytes d1) rfl rfl ?_
    exact Steps.refl _)
  have loop : ∀ (r i : Nat), i + r = len → ∀ (z : Slot), (z = .unset ∨ ∃ w, z = .val w ∧ w.category = 1) → ∀ (Tl : State) (Bk : Cell), Stand p l e { frames := 0, locals := 0, cells := 0, slots := 0 } s m #[.ref b, .int (Int32.ofNat o), .ref d, .int (Int32.ofNat q), .int (Int32.ofNat len)] below meth c Tl ([] ++ copyLocs d q i) 0 0 → Put d Bk s₁ Tl → Laid B Bk q (q + i) (fun j => Value.int (lo8 (cv A (o + (j - q))))) →
      Steps p.tables e below (s₁.setTop (entryFrame m #[.ref b, .int (Int32.ofNat o), .ref d, .int (Int32.ofNat q), .int (Int32.ofNat len)] 7)) (Tl.setTop (mkF m 3 #[.val (.ref b), .val (.int (Int32.ofNat (o + i))), .val (.ref d), .val (.int (Int32.ofNat (q + i))), .val (.int (Int32.ofNat len)), .val (.int (Int32.ofNat i)), z] [])) → ∃ (T' : State) (B' : Cell) (z' : Slot), Stand p l e { frames := 0, locals := 0, cells := 0, slots := 0 } s m #[.ref b, .int (Int32.ofNat o), .ref d, .int (Int32.ofNat q), .int (Int32.ofNat len)] below meth c T' ([] ++ copyLocs d q len) 0 0 ∧ Put d B' s₁ T' ∧ Laid B B' q (q + len) (fun j => Value.int (lo8 (cv A (o + (j - q))))) ∧
      Steps p.tables e below (s₁.setTop (entryFrame m #[.ref b, .int (Int32.ofNat o), .ref d, .int (Int32.ofNat q), .int (Int32.ofNat len)] 7)) (T'.setTop (mkF m 3 #[.val (.ref b), .val (.int (Int32.ofNat (o + len))), .val (.ref d), .val (.int (Int32.ofNat (q + len))), .val (.int (Int32.ofNat len)), .val (.int (Int32.ofNat len)), z'] [])) := by
    intro r
    induction r with
    | zero =>
      intro i hi z hz Tl Bk Xl pl fl cl
      have hil : i = len := by omega
      rw [hil] at Xl fl cl
      exact ⟨Tl, Bk, z, Xl, pl, fl, cl⟩
    | succ r ih =>
      intro i hi z hz Tl Bk Xl pl fl cl
      have all := X0.warmed.alike.symm.trans Xl.warmed.alike
      have hAl := hA0.keep all (pl.other hne hA0.1)
      have hBk := hB0.like all pl.1 fl.1 fl.2.1 fl.2.2.1
      have hlt : q + i < Bk.slots.size := by rw [fl.2.2.1]; omega
      have c3 : Steps p.tables e below (s₁.setTop (entryFrame m #[.ref b, .int (Int32.ofNat o), .ref d, .int (Int32.ofNat q), .int (Int32.ofNat len)] 7)) (Tl.setTop (mkF m 12 #[.val (.ref b), .val (.int (Int32.ofNat (o + i))), .val (.ref d), .val (.int (Int32.ofNat (q + i))), .val (.int (Int32.ofNat len)), .val (.int (Int32.ofNat i)), z] [.int (Int32.ofNat (o + i)), .ref b])) := cl.trans (by
        refine XS.iload Xl.here hexec rfl (hb hbytes d3) rfl ?_
        refine XS.iload Xl.here hexec rfl (hb hbytes d5) rfl ?_
        refine XS.icmpNo Xl.here hexec rfl (hb hbytes d7) rfl (ii_ge_f (lt32 (by omega) (by omega))) ?_
        refine XS.aloadN Xl.here hexec rfl (hb hbytes d10) rfl rfl ?_
        refine XS.iloadN Xl.here hexec rfl (hb hbytes d11) rfl ?_
        exact Steps.refl _)
      have c4 : Steps p.tables e below (s₁.setTop (entryFrame m #[.ref b, .int (Int32.ofNat o), .ref d, .int (Int32.ofNat q), .int (Int32.ofNat len)] 7)) (Tl.setTop (mkF m 13 #[.val (.ref b), .val (.int (Int32.ofNat (o + i))), .val (.ref d), .val (.int (Int32.ofNat (q + i))), .val (.int (Int32.ofNat len)), .val (.int (Int32.ofNat i)), z] [.int (cv A (o + i))])) := c3.trans (by
        refine Xl.aget hexec hAl rfl (hA.get (i := o + i) (by omega)) rfl rfl (hb hbytes d12) ?_
        exact Steps.refl _)
      have c5 : Steps p.tables e below (s₁.setTop (entryFrame m #[.ref b, .int (Int32.ofNat o), .ref d, .int (Int32.ofNat q), .int (Int32.ofNat len)] 7)) (Tl.setTop (mkF m 15 #[.val (.ref b), .val (.int (Int32.ofNat (o + i))), .val (.ref d), .val (.int (Int32.ofNat (q + i))), .val (.int (Int32.ofNat len)), .val (.int (Int32.ofNat i)), .val (.int (cv A (o + i)))] [])) := c4.trans (by
        refine XS.istoreS Xl.here hexec rfl (hb hbytes d13) rfl rfl hz ?_
        exact Steps.refl _)
      have c6 : Steps p.tables e below (s₁.setTop (entryFrame m #[.ref b, .int (Int32.ofNat o), .ref d, .int (Int32.ofNat q), .int (Int32.ofNat len)] 7)) (Tl.setTop (mkF m 31 #[.val (.ref b), .val (.int (Int32.ofNat (o + i))), .val (.ref d), .val (.int (Int32.ofNat (q + i))), .val (.int (Int32.ofNat len)), .val (.int (Int32.ofNat i)), .val (.int (cv A (o + i)))] [.int (lo8 (cv A (o + i))), .int (Int32.ofNat (q + i)), .ref d])) := c5.trans (by
        refine XS.iload Xl.here hexec rfl (hb hbytes d15) rfl ?_
        refine sipushV Xl.here hexec rfl 255 (hb hbytes d17) (by decide) ?_
        refine XS.icmpYes Xl.here hexec rfl (pc0 := 20) rfl (hb hbytes d20) rfl (ii_le_t (hp i (by omega))) (by decide) rfl ?_
        refine XS.aloadN Xl.here hexec rfl (hb hbytes d26) rfl rfl ?_
        refine XS.iloadN Xl.here hexec rfl (hb hbytes d27) rfl ?_
        refine XS.iload Xl.here hexec rfl (hb hbytes d28) rfl ?_
        refine i2b Xl.here hexec rfl (hb hbytes d30) rfl ?_
        exact Steps.refl _)
      obtain ⟨T7, X7, p7, st7⟩ := Xl.aput hexec hBk rfl hlt rfl (fits_lo8 (cv A (o + i))) (g := (mkF m 31 #[.val (.ref b), .val (.int (Int32.ofNat (o + i))), .val (.ref d), .val (.int (Int32.ofNat (q + i))), .val (.int (Int32.ofNat len)), .val (.int (Int32.ofNat i)), .val (.int (cv A (o + i)))] [.int (lo8 (cv A (o + i))), .int (Int32.ofNat (q + i)), .ref d])) rfl (rest := []) rfl (hb hbytes d31)
      have c8 : Steps p.tables e below (s₁.setTop (entryFrame m #[.ref b, .int (Int32.ofNat o), .ref d, .int (Int32.ofNat q), .int (Int32.ofNat len)] 7)) (T7.setTop (mkF m 32 #[.val (.ref b), .val (.int (Int32.ofNat (o + i))), .val (.ref d), .val (.int (Int32.ofNat (q + i))), .val (.int (Int32.ofNat len)), .val (.int (Int32.ofNat i)), .val (.int (cv A (o + i)))] [])) := c6.trans (st7 _ (Steps.refl _))
      have c9 : Steps p.tables e below (s₁.setTop (entryFrame m #[.ref b, .int (Int32.ofNat o), .ref d, .int (Int32.ofNat q), .int (Int32.ofNat len)] 7)) (T7.setTop (mkF m 3 #[.val (.ref b), .val (.int (Int32.ofNat (o + i) + 1)), .val (.ref d), .val (.int (Int32.ofNat (q + i) + 1)), .val (.int (Int32.ofNat len)), .val (.int (Int32.ofNat i + 1)), .val (.int (cv A (o + i)))] [])) := c8.trans (by
        refine iincV X7.here hexec rfl 1 (hb hbytes d32) (by decide) rfl rfl ?_
        refine iincV X7.here hexec rfl 1 (hb hbytes d35) (by decide) rfl rfl ?_
        refine iincV X7.here hexec rfl 1 (hb hbytes d38) (by decide) rfl rfl ?_
        refine XS.goto X7.here hexec rfl (pc0 := 41) rfl (hb hbytes d41) (by decide) rfl ?_
        exact Steps.refl _)
      have c10 : Steps p.tables e below (s₁.setTop (entryFrame m #[.ref b, .int (Int32.ofNat o), .ref d, .int (Int32.ofNat q), .int (Int32.ofNat len)] 7)) (T7.setTop (mkF m 3 #[.val (.ref b), .val (.int (Int32.ofNat (o + (i + 1)))), .val (.ref d), .val (.int (Int32.ofNat (q + (i + 1)))), .val (.int (Int32.ofNat len)), .val (.int (Int32.ofNat (i + 1))), .val (.int (cv A (o + i)))] [])) := by
        have := c9
        rw [succ32, succ32, succ32] at this
        exact this
      exact ih (i + 1) (by omega) _ (Or.inr ⟨_, rfl, rfl⟩) T7 _ (by rw [copyLocs_step, ← List.append_assoc]; exact X7) (pl.trans p7) (fl.step (by omega) hlt (by simp)) c10
  obtain ⟨T9, B9, z9, X9, p9, f9, g9⟩ := loop len 0 (by omega) .unset (Or.inl rfl) s₁ B (by simpa [copyLocs] using X0) ⟨hB0.1, fun _ _ => rfl, rfl⟩ (Laid.zero _ _ _) c2
  have c11 : Steps p.tables e below (s₁.setTop (entryFrame m #[.ref b, .int (Int32.ofNat o), .ref d, .int (Int32.ofNat q), .int (Int32.ofNat len)] 7)) (T9.setTop (mkF m 46 #[.val (.ref b), .val (.int (Int32.ofNat (o + len))), .val (.ref d), .val (.int (Int32.ofNat (q + len))), .val (.int (Int32.ofNat len)), .val (.int (Int32.ofNat len)), z9] [.int (Int32.ofNat len)])) := g9.trans (by
    refine XS.iload X9.here hexec rfl (hb hbytes d3) rfl ?_
    refine XS.iload X9.here hexec rfl (hb hbytes d5) rfl ?_
    refine XS.icmpYes X9.here hexec rfl (pc0 := 7) rfl (hb hbytes d7) rfl (ii_ge_t (nlt32 (by omega) (Nat.le_refl _))) (by decide) rfl ?_
    refine XS.iload X9.here hexec rfl (hb hbytes d44) rfl ?_
    exact Steps.refl _)
  exact ⟨T9, some (.int (Int32.ofNat len)), _, _, _, X9, by simp, rfl, rfl, (fun h => by cases h), ⟨rfl, B9, p9.from hh0, f9⟩, fun fs hl => c11.trans (X9.ireturnOut hexec hret rfl (Or.inl rfl) (hb hbytes d46) hl)⟩
end Cmp5
namespace Cmp3
def yN : MethodName := ⟨"java/lang/StringUTF16", "compress", "([CII)[B"⟩
abbrev yB : ByteArray := jdk_52_method_16_code
theorem d0 : decode yB 0 = .ok (.iload_n 2, 1) := by decide +kernel
theorem d1 : decode yB 1 = .ok (.newarray .byte, 2) := by decide +kernel
theorem d3 : decode yB 3 = .ok (.astore_n 3, 1) := by decide +kernel
theorem d4 : decode yB 4 = .ok (.aload_n 0, 1) := by decide +kernel
theorem d5 : decode yB 5 = .ok (.iload_n 1, 1) := by decide +kernel
theorem d6 : decode yB 6 = .ok (.aload_n 3, 1) := by decide +kernel
theorem d7 : decode yB 7 = .ok (.iconst 0, 1) := by decide +kernel
theorem d8 : decode yB 8 = .ok (.iload_n 2, 1) := by decide +kernel
theorem d9 : decode yB 9 = .ok (.invokestatic 115, 3) := by decide +kernel
theorem d12 : decode yB 12 = .ok (.istore 4, 2) := by decide +kernel
theorem d14 : decode yB 14 = .ok (.iload 4, 2) := by decide +kernel
theorem d16 : decode yB 16 = .ok (.iload_n 2, 1) := by decide +kernel
theorem d17 : decode yB 17 = .ok (.if_icmp (.eq) 40, 3) := by decide +kernel
theorem d57 : decode yB 57 = .ok (.aload_n 3, 1) := by decide +kernel
theorem d58 : decode yB 58 = .ok (.areturn, 1) := by decide +kernel
def site : List Cond := [.arrayClass .byte, Cmp5.tab] ++ staticW U16 115 Cmp5.yN
def tab : Cond := tabOf yN yB 6 (some (.array .byte)) site
def P (b : Addr) (A : Cell) (o len : Nat) (args : Array Value) (s : State) : Prop := args = #[.ref b, .int (Int32.ofNat o), .int (Int32.ofNat len)] ∧ Ch b A s ∧ o + len ≤ A.slots.size ∧ len ≤ 536870912 ∧ ∀ i, i < len → ¬ 255 < cv A (o + i)
def E (b : Addr) (A : Cell) (o len : Nat) (r : Option Value) (s u : State) : Prop := NewArr .byte "[B" len (fun j => .int (lo8 (cv A (o + j)))) r s u ∧ u.heap.size = s.heap.size + 1
/-- no char of the range above 255: a new byte[] of their low bytes -/
theorem law (l : Launch) (b : Addr) (A : Cell) (o len : Nat) : Law l yN 3 3 1 18 yB 6 (some (.array .byte)) site (P b A o len) (E b A o len) [] 1 len := by
  refine Law.of_walk (plainFor_of_name (by decide +kernel)) (by decide +kernel) (by decide +kernel) (by decide) (fun _ _ h => by rw [h.1]; rfl) (fun _ U U' hal hh h => ⟨h.1, h.2.1.mv hal hh, h.2.2⟩) (fun r U U' V V' h1 hal h2 h => ⟨NewArr.mv r U U' V V' h1 hal h2 h.1, by rw [h1, h2]; exact h.2⟩) ?_
  intro p e s m args below meth c s₁ X0 hexec hbytes hml hret hlk hnm hown hh0 W hP
  obtain ⟨rfl, hA, l1, l2, hp⟩ := hP
  have a31 := hA.1.2.2.2
  have c1 : Steps p.tables e below (s₁.setTop (entryFrame m #[.ref b, .int (Int32.ofNat o), .int (Int32.ofNat len)] 6)) (s₁.setTop (mkF m 0 #[.val (.ref b), .val (.int (Int32.ofNat o)), .val (.int (Int32.ofNat len)), .unset, .unset, .unset] [])) := entry rfl
  have c2 : Steps p.tables e below (s₁.setTop (entryFrame m #[.ref b, .int (Int32.ofNat o), .int (Int32.ofNat len)] 6)) (s₁.setTop (mkF m 1 #[.val (.ref b), .val (.int (Int32.ofNat o)), .val (.int (Int32.ofNat len)), .unset, .unset, .unset] [.int (Int32.ofNat len)])) := c1.trans (by
    refine XS.iloadN X0.here hexec rfl (hb hbytes d0) rfl ?_
    exact Steps.refl _)
  obtain ⟨T3, B3, X3, ba3, bs3, bv3, bh3, bf3, st3⟩ := X0.anew hexec (atype := .byte) (wk W (.arrayClass .byte)) rfl (by show len * 1 ≤ _; omega) (by omega) (g := (mkF m 1 #[.val (.ref b), .val (.int (Int32.ofNat o)), .val (.int (Int32.ofNat len)), .unset, .unset, .unset] [.int (Int32.ofNat len)])) rfl (hb hbytes d1) (rest := []) rfl (Nat.le_refl _) (by show 0 + len ≤ len; omega)
  rw [hh0] at ba3 st3
  have kp3 : XT.Kept s T3 := (XT.Kept.of_eq hh0).push bh3
  have hA3 := hA.keep X3.warmed.alike (kp3 _ _ hA.1.1)
  have hne : b ≠ s.heap.size := hA.1.ne
  have c4 : Steps p.tables e below (s₁.setTop (entryFrame m #[.ref b, .int (Int32.ofNat o), .int (Int32.ofNat len)] 6)) (T3.setTop (mkF m 3 #[.val (.ref b), .val (.int (Int32.ofNat o)), .val (.int (Int32.ofNat len)), .unset, .unset, .unset] [.ref s.heap.size])) := c2.trans (st3 _ (Steps.refl _))
  have c5 : Steps p.tables e below (s₁.setTop (entryFrame m #[.ref b, .int (Int32.ofNat o), .int (Int32.ofNat len)] 6)) (T3.setTop (mkF m 9 #[.val (.ref b), .val (.int (Int32.ofNat o)), .val (.int (Int32.ofNat len)), .val (.ref s.heap.size), .unset, .unset] [.int (Int32.ofNat len), .int 0, .ref s.heap.size, .int (Int32.ofNat o), .ref b])) := c4.trans (by
    refine XS.astoreN X3.here hexec rfl (hb hbytes d3) rfl rfl rfl ?_
    refine XS.aloadN X3.here hexec rfl (hb hbytes d4) rfl rfl ?_
    refine XS.iloadN X3.here hexec rfl (hb hbytes d5) rfl ?_
    refine XS.aloadN X3.here hexec rfl (hb hbytes d6) rfl rfl ?_
    refine iconstV X3.here hexec rfl 0 (hb hbytes d7) (by decide) ?_
    refine XS.iloadN X3.here hexec rfl (hb hbytes d8) rfl ?_
    exact Steps.refl _)
  obtain ⟨v6, T6, X6, E6, g6⟩ := X3.callS hexec (Cmp5.law l b A s.heap.size B3 o 0 len) hown (wks W (staticW U16 115 Cmp5.yN)) (wk W Cmp5.tab) (W := 0) (Nat.le_of_ble_eq_true rfl) (Nat.le_of_ble_eq_true rfl) (Nat.le_refl _) (by show 0 + len + 0 ≤ len; omega) (g := (mkF m 9 #[.val (.ref b), .val (.int (Int32.ofNat o)), .val (.int (Int32.ofNat len)), .val (.ref s.heap.size), .unset, .unset] [.int (Int32.ofNat len), .int (Int32.ofNat 0), .ref s.heap.size, .int (Int32.ofNat o), .ref b])) rfl (by rw [hml]; rfl) c5 (argsL := [.ref b, .int (Int32.ofNat o), .ref s.heap.size, .int (Int32.ofNat 0), .int (Int32.ofNat len)]) (rest := []) rfl rfl (by show 2 * 0 + 0 ≤ _; decide) (hb hbytes d9) (⟨rfl, hA3, ba3, hne, l1, by rw [bs3]; simp, hp⟩)
  obtain ⟨rfl, B6, p6, f6⟩ := E6
  have c7 : Steps p.tables e below (s₁.setTop (entryFrame m #[.ref b, .int (Int32.ofNat o), .int (Int32.ofNat len)] 6)) (T6.setTop (mkF m 12 #[.val (.ref b), .val (.int (Int32.ofNat o)), .val (.int (Int32.ofNat len)), .val (.ref s.heap.size), .unset, .unset] [.int (Int32.ofNat len)])) := g6
  have c8 : Steps p.tables e below (s₁.setTop (entryFrame m #[.ref b, .int (Int32.ofNat o), .int (Int32.ofNat len)] 6)) (T6.setTop (mkF m 58 #[.val (.ref b), .val (.int (Int32.ofNat o)), .val (.int (Int32.ofNat len)), .val (.ref s.heap.size), .val (.int (Int32.ofNat len)), .unset] [.ref s.heap.size])) := c7.trans (by
    refine XS.istore X6.here hexec rfl (hb hbytes d12) rfl rfl ?_
    refine XS.iload X6.here hexec rfl (hb hbytes d14) rfl ?_
    refine XS.iloadN X6.here hexec rfl (hb hbytes d16) rfl ?_
    refine XS.icmpYes X6.here hexec rfl (pc0 := 17) rfl (hb hbytes d17) rfl (ii_eq_t rfl) (by decide) rfl ?_
    refine XS.aloadN X6.here hexec rfl (hb hbytes d57) rfl rfl ?_
    exact Steps.refl _)
  have X8 := X6.wide (L' := []) (cells' := 1) (slots' := len) (fun x hx hlt => by
    simp only [List.nil_append, copyLocs, List.mem_map, List.mem_range] at hx
    obtain ⟨i, -, rfl⟩ := hx
    exact absurd hlt (Nat.lt_irrefl _)) (Nat.le_refl _) (by omega)
  exact ⟨T6, some (.ref s.heap.size), _, _, _, X8, rfl, rfl, rfl, (fun h => by cases h), ⟨⟨rfl, B6, ba3.like (X3.warmed.alike.symm.trans X6.warmed.alike) p6.1 f6.1 f6.2.1 f6.2.2.1, f6.2.1.trans bv3, by rw [X6.warmed.alike.findClass, f6.1]; exact bf3, by rw [f6.2.2.1, bs3]; simp, fun j hj => by rw [f6.2.2.2 j, if_pos (by omega)]; rfl, kp3.put p6 (Nat.le_refl _)⟩, by rw [p6.2.2, bh3, hh0]; simp⟩, fun fs hl => c8.trans (X8.areturnOut hexec rfl hret rfl (hb hbytes d58) hl)⟩
end Cmp3
namespace CodL
def yN : MethodName := ⟨"java/lang/StringUTF16", "coderFromArrayLen", "([BI)B"⟩
abbrev yB : ByteArray := jdk_52_method_15_code
theorem d0 : decode yB 0 = .ok (.iload_n 1, 1) := by decide +kernel
theorem d1 : decode yB 1 = .ok (.aload_n 0, 1) := by decide +kernel
theorem d2 : decode yB 2 = .ok (.arraylength, 1) := by decide +kernel
theorem d3 : decode yB 3 = .ok (.isub, 1) := by decide +kernel
theorem d4 : decode yB 4 = .ok (.bipush 31, 2) := by decide +kernel
theorem d6 : decode yB 6 = .ok (.iushr, 1) := by decide +kernel
theorem d7 : decode yB 7 = .ok (.i2b, 1) := by decide +kernel
theorem d8 : decode yB 8 = .ok (.ireturn, 1) := by decide +kernel
def site : List Cond := []
def tab : Cond := tabOf yN yB 2 (some .byte) site
def P (d : Addr) (B : Cell) (args : Array Value) (s : State) : Prop := args = #[.ref d, .int (Int32.ofNat B.slots.size)] ∧ Arr .byte d B s
def E (r : Option Value) (s u : State) : Prop := XT.PureE (some (.int 0)) r s u
/-- an array as long as the number of chars: LATIN1 -/
theorem law (l : Launch) (d : Addr) (B : Cell) : Law l yN 2 2 0 0 yB 2 (some .byte) site (P d B) E [] 0 0 := by
  refine Law.of_walk (plainFor_of_name (by decide +kernel)) (by decide +kernel) (by decide +kernel) (by decide) (fun _ _ h => by rw [h.1]; rfl) (fun _ U U' hal hh h => ⟨h.1, h.2.mv hal hh⟩) (fun r U U' V V' h1 hal h2 h => XT.PureE.mv r U U' V V' h1 hal h2 h) ?_
  intro p e s m args below meth c s₁ X0 hexec hbytes hml hret hlk hnm hown hh0 W hP
  obtain ⟨rfl, hB⟩ := hP
  have hB0 := hB.mv X0.warmed.alike hh0
  have c1 : Steps p.tables e below (s₁.setTop (entryFrame m #[.ref d, .int (Int32.ofNat B.slots.size)] 2)) (s₁.setTop (mkF m 0 #[.val (.ref d), .val (.int (Int32.ofNat B.slots.size))] [])) := entry rfl
  have c2 : Steps p.tables e below (s₁.setTop (entryFrame m #[.ref d, .int (Int32.ofNat B.slots.size)] 2)) (s₁.setTop (mkF m 2 #[.val (.ref d), .val (.int (Int32.ofNat B.slots.size))] [.ref d, .int (Int32.ofNat B.slots.size)])) := c1.trans (by
    refine XS.iloadN X0.here hexec rfl (hb hbytes d0) rfl ?_
    refine XS.aloadN X0.here hexec rfl (hb hbytes d1) rfl rfl ?_
    exact Steps.refl _)
  have c3 : Steps p.tables e below (s₁.setTop (entryFrame m #[.ref d, .int (Int32.ofNat B.slots.size)] 2)) (s₁.setTop (mkF m 8 #[.val (.ref d), .val (.int (Int32.ofNat B.slots.size))] [.int (lo8 (ushr (Int32.ofNat B.slots.size - Int32.ofNat B.slots.size) 31))])) := c2.trans (by
    refine X0.alen hexec hB0 rfl rfl (hb hbytes d2) ?_
    refine XS.isub X0.here hexec rfl (hb hbytes d3) rfl ?_
    refine bipushV X0.here hexec rfl 31 (hb hbytes d4) (by decide) ?_
    refine iushr X0.here hexec rfl (hb hbytes d6) rfl ?_
    refine i2b X0.here hexec rfl (hb hbytes d7) rfl ?_
    exact Steps.refl _)
  have e0 : lo8 (ushr (Int32.ofNat B.slots.size - Int32.ofNat B.slots.size) 31) = 0 := by rw [Int32.sub_self]; decide
  rw [e0] at c3
  exact ⟨s₁, some (.int 0), _, _, _, X0, rfl, rfl, rfl, (fun h => by cases h), ⟨rfl, hh0⟩, fun fs hl => c3.trans (X0.ireturnOut hexec hret rfl (Or.inr (Or.inr (Or.inl rfl))) (hb hbytes d8) hl)⟩
end CodL
/-- the String at a is Latin-1 over a new byte[] (the heap's one new cell): the low bytes of the len chars of A from o on; every cell but a is kept -/
def Got (a : Addr) (D : Cell) (fV fC : Field) (A : Cell) (o len : Nat) (r : Option Value) (s u : State) : Prop := r = none ∧ ∃ D' V : Cell, Blank "java/lang/String" a D' u ∧ Same D D' [fV.slot, fC.slot] ∧ D'.slots[fV.slot]? = some (.ref s.heap.size) ∧ D'.slots[fC.slot]? = some (.int 0) ∧ Arr .byte s.heap.size V u ∧ V.vm = .none ∧ u.vm.findClass "[B" = some V.cls ∧ V.slots.size = len ∧ (∀ j, j < len → V.slots[j]? = some (.int (lo8 (cv A (o + j))))) ∧ (∀ (y : Addr) (c : Cell), y ≠ a → s.heap[y]? = some c → u.heap[y]? = some c) ∧ u.heap.size = s.heap.size + 1
theorem Got.mv {a : Addr} {D A : Cell} {fV fC : Field} {o len : Nat} : ∀ r (U U' V V' : State), U'.heap = U.heap → V.vm.Alike V'.vm → V'.heap = V.heap → Got a D fV fC A o len r U V → Got a D fV fC A o len r U' V' :=
  fun r U U' V V' h1 hal h2 ⟨e0, D', X, a1, a2, a3, a4, a5, a6, a7, a8, a9, a10, a11⟩ => ⟨e0, D', X, a1.mv hal h2, a2, by rw [h1]; exact a3, a4, by rw [h1]; exact a5.mv hal h2, a6, by rw [hal.findClass]; exact a7, a8, a9, by rw [h1, h2]; exact a10, by rw [h1, h2]; exact a11⟩
namespace New4
def yN : MethodName := ⟨"java/lang/String", "<init>", "([CIILjava/lang/Void;)V"⟩
abbrev yB : ByteArray := jdk_42_method_149_code
theorem d0 : decode yB 0 = .ok (.aload_n 0, 1) := by decide +kernel
theorem d1 : decode yB 1 = .ok (.invokespecial 1, 3) := by decide +kernel
theorem d4 : decode yB 4 = .ok (.iload_n 3, 1) := by decide +kernel
theorem d5 : decode yB 5 = .ok (.ifCond (.ne) 22, 3) := by decide +kernel
theorem d27 : decode yB 27 = .ok (.getstatic 38, 3) := by decide +kernel
theorem d30 : decode yB 30 = .ok (.ifCond (.eq) 28, 3) := by decide +kernel
theorem d33 : decode yB 33 = .ok (.aload_n 1, 1) := by decide +kernel
theorem d34 : decode yB 34 = .ok (.iload_n 2, 1) := by decide +kernel
theorem d35 : decode yB 35 = .ok (.iload_n 3, 1) := by decide +kernel
theorem d36 : decode yB 36 = .ok (.invokestatic 177, 3) := by decide +kernel
theorem d39 : decode yB 39 = .ok (.astore 5, 2) := by decide +kernel
theorem d41 : decode yB 41 = .ok (.aload_n 0, 1) := by decide +kernel
theorem d42 : decode yB 42 = .ok (.aload 5, 2) := by decide +kernel
theorem d44 : decode yB 44 = .ok (.iload_n 3, 1) := by decide +kernel
theorem d45 : decode yB 45 = .ok (.invokestatic 47, 3) := by decide +kernel
theorem d48 : decode yB 48 = .ok (.putfield 15, 3) := by decide +kernel
theorem d51 : decode yB 51 = .ok (.aload_n 0, 1) := by decide +kernel
theorem d52 : decode yB 52 = .ok (.aload 5, 2) := by decide +kernel
theorem d54 : decode yB 54 = .ok (.putfield 9, 3) := by decide +kernel
theorem d57 : decode yB 57 = .ok (.return_, 1) := by decide +kernel
def site : List Cond := [.fieldLink "java/lang/String" 38 "java/lang/String" "COMPACT_STRINGS" "Z", Cmp3.tab, CodL.tab, .laysFinal "java/lang/String" "java/lang/String" "value" "[B", .fieldLink "java/lang/String" 9 "java/lang/String" "value" "[B", .laysFinal "java/lang/String" "java/lang/String" "coder" "B", .fieldLink "java/lang/String" 15 "java/lang/String" "coder" "B"] ++ objW "java/lang/String" 1 ++ staticW "java/lang/String" 177 Cmp3.yN ++ staticW "java/lang/String" 47 CodL.yN
def tab : Cond := tabOf yN yB 6 none site
def P (a : Addr) (D : Cell) (fV fC : Field) (b : Addr) (A : Cell) (z : Int32) (o len : Nat) (args : Array Value) (s : State) : Prop := args = #[.ref a, .ref b, .int (Int32.ofNat o), .int (Int32.ofNat len), .null] ∧ Blank "java/lang/String" a D s ∧ Found "java/lang/String" "value" "[B" fV s ∧ Found "java/lang/String" "coder" "B" fC s ∧ Ch b A s ∧ StaticIs s "java/lang/String" "COMPACT_STRINGS" "Z" (.int z) ∧ ¬ z = 0 ∧ 0 < len ∧ o + len ≤ A.slots.size ∧ len ≤ 536870912 ∧ ∀ i, i < len → ¬ 255 < cv A (o + i)
def E (a : Addr) (D : Cell) (fV fC : Field) (A : Cell) (o len : Nat) (r : Option Value) (s u : State) : Prop := Got a D fV fC A o len r s u
/-- len > 0, no char of the range above 255: a Latin-1 String of their low bytes -/
theorem law (l : Launch) (a : Addr) (D : Cell) (fV fC : Field) (b : Addr) (A : Cell) (z : Int32) (o len : Nat) : Law l yN 5 4 2 35 yB 6 none site (P a D fV fC b A z o len) (E a D fV fC A o len) [⟨a, fC.slot⟩, ⟨a, fV.slot⟩] 1 len := by
  refine Law.of_walk (plainFor_of_name (by decide +kernel)) (by decide +kernel) (by decide +kernel) (by decide) (fun _ _ h => by rw [h.1]; rfl) (fun _ U U' hal hh h => ⟨h.1, h.2.1.mv hal hh, h.2.2.1.al hal, h.2.2.2.1.al hal, h.2.2.2.2.1.mv hal hh, h.2.2.2.2.2.1.there hal hh, h.2.2.2.2.2.2⟩) (fun r U U' V V' h1 hal h2 h => Got.mv r U U' V V' h1 hal h2 h) ?_
  intro p e s m args below meth c s₁ X0 hexec hbytes hml hret hlk hnm hown hh0 W hP
  obtain ⟨rfl, hB, f1, f2, hA, s1, hz, l0, l1, l2, hp⟩ := hP
  have a31 := hA.1.2.2.2
  have c1 : Steps p.tables e below (s₁.setTop (entryFrame m #[.ref a, .ref b, .int (Int32.ofNat o), .int (Int32.ofNat len), .null] 6)) (s₁.setTop (mkF m 0 #[.val (.ref a), .val (.ref b), .val (.int (Int32.ofNat o)), .val (.int (Int32.ofNat len)), .val .null, .unset] [])) := entry rfl
  have c2 : Steps p.tables e below (s₁.setTop (entryFrame m #[.ref a, .ref b, .int (Int32.ofNat o), .int (Int32.ofNat len), .null] 6)) (s₁.setTop (mkF m 1 #[.val (.ref a), .val (.ref b), .val (.int (Int32.ofNat o)), .val (.int (Int32.ofNat len)), .val .null, .unset] [.ref a])) := c1.trans (by
    refine XS.aloadN X0.here hexec rfl (hb hbytes d0) rfl rfl ?_
    exact Steps.refl _)
  obtain ⟨T3, X3, q3, st3⟩ := X0.oinit hexec hown (wks W (objW "java/lang/String" 1)) (g := (mkF m 1 #[.val (.ref a), .val (.ref b), .val (.int (Int32.ofNat o)), .val (.int (Int32.ofNat len)), .val .null, .unset] [.ref a])) rfl (by rw [hml]; rfl) (rest := []) rfl (hb hbytes d1) (W := 0) (by show 2 * 0 + 0 ≤ _; decide) (Nat.le_of_ble_eq_true rfl) (Nat.le_of_ble_eq_true rfl)
  have hh3 := q3.trans hh0
  have c4 : Steps p.tables e below (s₁.setTop (entryFrame m #[.ref a, .ref b, .int (Int32.ofNat o), .int (Int32.ofNat len), .null] 6)) (T3.setTop (mkF m 27 #[.val (.ref a), .val (.ref b), .val (.int (Int32.ofNat o)), .val (.int (Int32.ofNat len)), .val .null, .unset] [])) := (c2.trans (st3 _ (Steps.refl _))).trans (by
    refine XS.iloadN X3.here hexec rfl (hb hbytes d4) rfl ?_
    refine XS.ifYes X3.here hexec rfl (pc0 := 5) rfl (hb hbytes d5) rfl (i0_ne_t (nz32 (by omega) l0)) (by decide) rfl ?_
    exact Steps.refl _)
  obtain ⟨T5, X5, q5, st5⟩ := X3.sget hexec hown (wk W (.fieldLink "java/lang/String" 38 "java/lang/String" "COMPACT_STRINGS" "Z")) s1 (fun _ _ h => by rw [hh3]; exact h) (g := (mkF m 27 #[.val (.ref a), .val (.ref b), .val (.int (Int32.ofNat o)), .val (.int (Int32.ofNat len)), .val .null, .unset] [])) rfl (hb hbytes d27)
  have hh5 := q5.trans hh3
  have c6 : Steps p.tables e below (s₁.setTop (entryFrame m #[.ref a, .ref b, .int (Int32.ofNat o), .int (Int32.ofNat len), .null] 6)) (T5.setTop (mkF m 30 #[.val (.ref a), .val (.ref b), .val (.int (Int32.ofNat o)), .val (.int (Int32.ofNat len)), .val .null, .unset] [.int z])) := c4.trans (st5 _ (Steps.refl _))
  have c7 : Steps p.tables e below (s₁.setTop (entryFrame m #[.ref a, .ref b, .int (Int32.ofNat o), .int (Int32.ofNat len), .null] 6)) (T5.setTop (mkF m 36 #[.val (.ref a), .val (.ref b), .val (.int (Int32.ofNat o)), .val (.int (Int32.ofNat len)), .val .null, .unset] [.int (Int32.ofNat len), .int (Int32.ofNat o), .ref b])) := c6.trans (by
    refine XS.ifNo X5.here hexec rfl (hb hbytes d30) rfl (i0_eq_f hz) ?_
    refine XS.aloadN X5.here hexec rfl (hb hbytes d33) rfl rfl ?_
    refine XS.iloadN X5.here hexec rfl (hb hbytes d34) rfl ?_
    refine XS.iloadN X5.here hexec rfl (hb hbytes d35) rfl ?_
    exact Steps.refl _)
  obtain ⟨v8, T8, X8, E8, g8⟩ := X5.callS hexec (Cmp3.law l b A o len) hown (wks W (staticW "java/lang/String" 177 Cmp3.yN)) (wk W Cmp3.tab) (W := 0) (Nat.le_of_ble_eq_true rfl) (Nat.le_of_ble_eq_true rfl) (Nat.le_refl _) (by show 0 + len ≤ len; omega) (g := (mkF m 36 #[.val (.ref a), .val (.ref b), .val (.int (Int32.ofNat o)), .val (.int (Int32.ofNat len)), .val .null, .unset] [.int (Int32.ofNat len), .int (Int32.ofNat o), .ref b])) rfl (by rw [hml]; rfl) c7 (argsL := [.ref b, .int (Int32.ofNat o), .int (Int32.ofNat len)]) (rest := []) rfl rfl (by show 2 * 0 + 0 ≤ _; decide) (hb hbytes d36) (⟨rfl, hA.mv X5.warmed.alike hh5, l1, l2, hp⟩)
  obtain ⟨e8, z8⟩ := E8
  obtain ⟨rfl, N, n1, n2, n3, n4, n5, n6⟩ := NewArr.mv _ T5 s _ _ hh5.symm (Vm.Alike.refl _) rfl e8
  rw [hh5] at z8
  have hB1 := hB.keep X8.warmed.alike (n6 _ _ hB.1)
  have hne : s.heap.size ≠ a := (Nat.ne_of_lt (Array.getElem?_eq_some_iff.mp hB.1).1).symm
  have c9 : Steps p.tables e below (s₁.setTop (entryFrame m #[.ref a, .ref b, .int (Int32.ofNat o), .int (Int32.ofNat len), .null] 6)) (T8.setTop (mkF m 39 #[.val (.ref a), .val (.ref b), .val (.int (Int32.ofNat o)), .val (.int (Int32.ofNat len)), .val .null, .unset] [.ref s.heap.size])) := g8
  have c10 : Steps p.tables e below (s₁.setTop (entryFrame m #[.ref a, .ref b, .int (Int32.ofNat o), .int (Int32.ofNat len), .null] 6)) (T8.setTop (mkF m 45 #[.val (.ref a), .val (.ref b), .val (.int (Int32.ofNat o)), .val (.int (Int32.ofNat len)), .val .null, .val (.ref s.heap.size)] [.int (Int32.ofNat N.slots.size), .ref s.heap.size, .ref a])) := by
    have hc : Steps p.tables e below (s₁.setTop (entryFrame m #[.ref a, .ref b, .int (Int32.ofNat o), .int (Int32.ofNat len), .null] 6)) (T8.setTop (mkF m 45 #[.val (.ref a), .val (.ref b), .val (.int (Int32.ofNat o)), .val (.int (Int32.ofNat len)), .val .null, .val (.ref s.heap.size)] [.int (Int32.ofNat len), .ref s.heap.size, .ref a])) := c9.trans (by
      refine XS.astore X8.here hexec rfl (hb hbytes d39) rfl rfl rfl ?_
      refine XS.aloadN X8.here hexec rfl (hb hbytes d41) rfl rfl ?_
      refine XS.aload X8.here hexec rfl (hb hbytes d42) rfl rfl ?_
      refine XS.iloadN X8.here hexec rfl (hb hbytes d44) rfl ?_
      exact Steps.refl _)
    rw [n4]; exact hc
  obtain ⟨v11, T11, X11, E11, g11⟩ := X8.callS hexec (CodL.law l s.heap.size N) hown (wks W (staticW "java/lang/String" 47 CodL.yN)) (wk W CodL.tab) (W := 1) (Nat.le_of_ble_eq_true rfl) (Nat.le_of_ble_eq_true rfl) (Nat.le_refl _) (by show 0 + len + 0 ≤ len; omega) (g := (mkF m 45 #[.val (.ref a), .val (.ref b), .val (.int (Int32.ofNat o)), .val (.int (Int32.ofNat len)), .val .null, .val (.ref s.heap.size)] [.int (Int32.ofNat N.slots.size), .ref s.heap.size, .ref a])) rfl (by rw [hml]; rfl) c10 (argsL := [.ref s.heap.size, .int (Int32.ofNat N.slots.size)]) (rest := [.ref a]) rfl rfl (by show 2 * 0 + (1 + 0) ≤ _; decide) (hb hbytes d45) (⟨rfl, n1⟩)
  obtain ⟨rfl, q11⟩ := E11
  have hB11 := hB1.mv (X8.warmed.alike.symm.trans X11.warmed.alike) q11
  have c12 : Steps p.tables e below (s₁.setTop (entryFrame m #[.ref a, .ref b, .int (Int32.ofNat o), .int (Int32.ofNat len), .null] 6)) (T11.setTop (mkF m 48 #[.val (.ref a), .val (.ref b), .val (.int (Int32.ofNat o)), .val (.int (Int32.ofNat len)), .val .null, .val (.ref s.heap.size)] [.int 0, .ref a])) := g11
  obtain ⟨T13, X13, p13, bl13, sl13, st13⟩ := X11.finit hexec hown (wk W (.fieldLink "java/lang/String" 15 "java/lang/String" "coder" "B")) (Or.inr ⟨_, (wk W (.laysFinal "java/lang/String" "java/lang/String" "coder" "B"))⟩) (Or.inl ⟨rfl, hnm⟩) f2 (Or.inl rfl) hB11 (t := .byte) (by decide +kernel) rfl (g := (mkF m 48 #[.val (.ref a), .val (.ref b), .val (.int (Int32.ofNat o)), .val (.int (Int32.ofNat len)), .val .null, .val (.ref s.heap.size)] [.int 0, .ref a])) rfl (rest := []) rfl (hb hbytes d48)
  have c14 : Steps p.tables e below (s₁.setTop (entryFrame m #[.ref a, .ref b, .int (Int32.ofNat o), .int (Int32.ofNat len), .null] 6)) (T13.setTop (mkF m 54 #[.val (.ref a), .val (.ref b), .val (.int (Int32.ofNat o)), .val (.int (Int32.ofNat len)), .val .null, .val (.ref s.heap.size)] [.ref s.heap.size, .ref a])) := (c12.trans (st13 _ (Steps.refl _))).trans (by
    refine XS.aloadN X13.here hexec rfl (hb hbytes d51) rfl rfl ?_
    refine XS.aload X13.here hexec rfl (hb hbytes d52) rfl rfl ?_
    exact Steps.refl _)
  obtain ⟨T15, X15, p15, bl15, sl15, st15⟩ := X13.finit hexec hown (wk W (.fieldLink "java/lang/String" 9 "java/lang/String" "value" "[B")) (Or.inr ⟨_, (wk W (.laysFinal "java/lang/String" "java/lang/String" "value" "[B"))⟩) (Or.inl ⟨rfl, hnm⟩) f1 (Or.inl rfl) bl13 (t := (.array .byte)) (by decide +kernel) rfl (g := (mkF m 54 #[.val (.ref a), .val (.ref b), .val (.int (Int32.ofNat o)), .val (.int (Int32.ofNat len)), .val .null, .val (.ref s.heap.size)] [.ref s.heap.size, .ref a])) rfl (rest := []) rfl (hb hbytes d54)
  have c16 : Steps p.tables e below (s₁.setTop (entryFrame m #[.ref a, .ref b, .int (Int32.ofNat o), .int (Int32.ofNat len), .null] 6)) (T15.setTop (mkF m 57 #[.val (.ref a), .val (.ref b), .val (.int (Int32.ofNat o)), .val (.int (Int32.ofNat len)), .val .null, .val (.ref s.heap.size)] [])) := c14.trans (st15 _ (Steps.refl _))
  have ap := apart (Or.inr ⟨_, (wk W (.laysFinal "java/lang/String" "java/lang/String" "value" "[B"))⟩) (Or.inr ⟨_, (wk W (.laysFinal "java/lang/String" "java/lang/String" "coder" "B"))⟩) f1 f2 (t₁ := .array .byte) (t₂ := .byte) (by decide +kernel) (by decide +kernel) (by decide)
  have al := X8.warmed.alike.symm.trans X15.warmed.alike
  have n7 : T11.heap[s.heap.size]? = some N := by rw [q11]; exact n1.1
  exact ⟨T15, none, _, _, _, X15, by simp, rfl, by omega, (fun _ => rfl), ⟨rfl, _, N, bl15, ((Same.refl D _).set _ (by simp)).set _ (by simp), sl15, (Cell.slots_setSlot_ne _ ap).trans sl13, n1.keep al (p15.other hne (p13.other hne n7)), n2, by rw [al.findClass]; exact n3, n4, n5, fun y c h1 h2 => p15.other h1 (p13.other h1 (by rw [q11]; exact n6 y c h2)), by rw [p15.2.2, p13.2.2, q11]; exact z8⟩, fun fs hl => c16.trans (X15.returnOut hexec hret (hb hbytes d57) hl)⟩
end New4
namespace New1
def yN : MethodName := ⟨"java/lang/String", "<init>", "([C)V"⟩
abbrev yB : ByteArray := jdk_42_method_3_code
theorem d0 : decode yB 0 = .ok (.aload_n 0, 1) := by decide +kernel
theorem d1 : decode yB 1 = .ok (.aload_n 1, 1) := by decide +kernel
theorem d2 : decode yB 2 = .ok (.iconst 0, 1) := by decide +kernel
theorem d3 : decode yB 3 = .ok (.aload_n 1, 1) := by decide +kernel
theorem d4 : decode yB 4 = .ok (.arraylength, 1) := by decide +kernel
theorem d5 : decode yB 5 = .ok (.aconst_null, 1) := by decide +kernel
theorem d6 : decode yB 6 = .ok (.invokespecial 27, 3) := by decide +kernel
theorem d9 : decode yB 9 = .ok (.return_, 1) := by decide +kernel
def site : List Cond := [New4.tab] ++ initW "java/lang/String" 27 New4.yN
def tab : Cond := tabOf yN yB 2 none site
def P (a : Addr) (D : Cell) (fV fC : Field) (b : Addr) (A : Cell) (z : Int32) (args : Array Value) (s : State) : Prop := args = #[.ref a, .ref b] ∧ Blank "java/lang/String" a D s ∧ Found "java/lang/String" "value" "[B" fV s ∧ Found "java/lang/String" "coder" "B" fC s ∧ Ch b A s ∧ StaticIs s "java/lang/String" "COMPACT_STRINGS" "Z" (.int z) ∧ ¬ z = 0 ∧ 0 < A.slots.size ∧ A.slots.size ≤ 536870912 ∧ ∀ i, i < A.slots.size → ¬ 255 < cv A i
def E (a : Addr) (D : Cell) (fV fC : Field) (A : Cell) (r : Option Value) (s u : State) : Prop := Got a D fV fC A 0 A.slots.size r s u
/-- new String(chars), not empty, no char above 255: a Latin-1 String of their low bytes -/
theorem law (l : Launch) (a : Addr) (D : Cell) (fV fC : Field) (b : Addr) (A : Cell) (z : Int32) : Law l yN 2 1 3 52 yB 2 none site (P a D fV fC b A z) (E a D fV fC A) [⟨a, fC.slot⟩, ⟨a, fV.slot⟩] 1 A.slots.size := by
  refine Law.of_walk (plainFor_of_name (by decide +kernel)) (by decide +kernel) (by decide +kernel) (by decide) (fun _ _ h => by rw [h.1]; rfl) (fun _ U U' hal hh h => ⟨h.1, h.2.1.mv hal hh, h.2.2.1.al hal, h.2.2.2.1.al hal, h.2.2.2.2.1.mv hal hh, h.2.2.2.2.2.1.there hal hh, h.2.2.2.2.2.2⟩) (fun r U U' V V' h1 hal h2 h => Got.mv r U U' V V' h1 hal h2 h) ?_
  intro p e s m args below meth c s₁ X0 hexec hbytes hml hret hlk hnm hown hh0 W hP
  obtain ⟨rfl, hB, f1, f2, hA, s1, hz, l0, l2, hp⟩ := hP
  have c1 : Steps p.tables e below (s₁.setTop (entryFrame m #[.ref a, .ref b] 2)) (s₁.setTop (mkF m 0 #[.val (.ref a), .val (.ref b)] [])) := entry rfl
  have c2 : Steps p.tables e below (s₁.setTop (entryFrame m #[.ref a, .ref b] 2)) (s₁.setTop (mkF m 6 #[.val (.ref a), .val (.ref b)] [.null, .int (Int32.ofNat A.slots.size), .int 0, .ref b, .ref a])) := c1.trans (by
    refine XS.aloadN X0.here hexec rfl (hb hbytes d0) rfl rfl ?_
    refine XS.aloadN X0.here hexec rfl (hb hbytes d1) rfl rfl ?_
    refine iconstV X0.here hexec rfl 0 (hb hbytes d2) (by decide) ?_
    refine XS.aloadN X0.here hexec rfl (hb hbytes d3) rfl rfl ?_
    refine X0.alen hexec (hA.1.mv X0.warmed.alike hh0) rfl rfl (hb hbytes d4) ?_
    refine XS.aconstNull X0.here hexec rfl (hb hbytes d5) ?_
    exact Steps.refl _)
  obtain ⟨v3, T3, X3, E3, g3⟩ := X0.callN hexec (New4.law l a D fV fC b A z 0 A.slots.size) rfl hown (wks W (initW "java/lang/String" 27 New4.yN)) (W New4.tab (by simp only [site, List.mem_cons, List.mem_append, true_or, or_true])) (W := 0) (Nat.le_of_ble_eq_true rfl) (Nat.le_of_ble_eq_true rfl) (Nat.le_refl _) (by show 0 + A.slots.size ≤ A.slots.size; omega) (g := (mkF m 6 #[.val (.ref a), .val (.ref b)] [.null, .int (Int32.ofNat A.slots.size), .int (Int32.ofNat 0), .ref b, .ref a])) rfl (by rw [hml]; rfl) c2 (argsL := [.ref b, .int (Int32.ofNat 0), .int (Int32.ofNat A.slots.size), .null]) (rest := []) rfl rfl (by show 2 * 0 + 0 ≤ _; decide) (hb hbytes d6) (⟨rfl, hB.mv X0.warmed.alike hh0, f1.al X0.warmed.alike, f2.al X0.warmed.alike, hA.mv X0.warmed.alike hh0, s1.there X0.warmed.alike hh0, hz, l0, by omega, l2, fun i hi => by rw [Nat.zero_add]; exact hp i hi⟩)
  have e0 := Got.mv _ s₁ s _ _ hh0.symm (Vm.Alike.refl _) rfl E3
  obtain rfl := e0.1
  have c4 : Steps p.tables e below (s₁.setTop (entryFrame m #[.ref a, .ref b] 2)) (T3.setTop (mkF m 9 #[.val (.ref a), .val (.ref b)] [])) := g3
  exact ⟨T3, none, _, _, _, X3, by simp, rfl, by omega, (fun _ => rfl), e0, fun fs hl => c4.trans (X3.returnOut hexec hret (hb hbytes d9) hl)⟩
theorem pays {l : Launch} {R : Room} {p : Program} {e : Env} {below : List Frame} {s : State} {sargs : Array Value} {len W : Nat} (a : Addr) (D : Cell) (fV fC : Field) (b : Addr) (A : Cell) (z : Int32) (htab : tab.before sargs s = true) (hfr : 4 ≤ R.frames) (hlo : W + 65 ≤ R.locals) :
    Back l R p e below s sargs yN len W (fun A₁ a₁ => A₁.cells + 1 ≤ R.cells ∧ A₁.slots + A.slots.size ≤ R.slots ∧ P a D fV fC b A z a₁ A₁.U) (fun A₁ _ v₁ B₁ => E a D fV fC A v₁ A₁.U B₁.U ∧ B₁.locs = A₁.locs ++ [⟨a, fC.slot⟩, ⟨a, fV.slot⟩] ∧ B₁.cells = A₁.cells + 1 ∧ B₁.slots = A₁.slots + A.slots.size) :=
  (law l a D fV fC b A z).pays htab hfr (by omega)
end New1
end StrChars
namespace StrChars.Road
open Jvm Sem ClassFile Op Lib Jvm.Stand Jvm.Free Jvm.Free.XT
open Jvm.Lib.Cold (StaticIs)
abbrev ST : String := "java/lang/String"
/-- every table word that New1's law asks, flat -/
abbrev words : List Jvm.Cond := [.code New1.yN New1.yB 2 none, .initialized ST, .methodLink ST 27 New4.yN, .instanceMethod New4.yN,
  .code New4.yN New4.yB 6 none, .fieldLink ST 38 ST "COMPACT_STRINGS" "Z", .laysFinal ST ST "value" "[B", .fieldLink ST 9 ST "value" "[B", .laysFinal ST ST "coder" "B", .fieldLink ST 15 ST "coder" "B",
  .methodLink ST 1 Lib.objectInit, .instanceMethod Lib.objectInit, .code Lib.objectInit ⟨#[0xb1]⟩ 1 none, .methodLink ST 177 Cmp3.yN, .static Cmp3.yN, .methodLink ST 47 CodL.yN, .static CodL.yN,
  .code Cmp3.yN Cmp3.yB 6 (some (.array .byte)), .initialized U16, .arrayClass .byte, .methodLink U16 115 Cmp5.yN, .static Cmp5.yN, .code Cmp5.yN Cmp5.yB 7 (some .int), .code CodL.yN CodL.yB 2 (some .byte)]
theorem tab_of {a : Array Value} {s : State} (h : ∀ w ∈ words, w.before a s = true) : New1.tab.before a s = true := by
  have h5 : Cmp5.tab.before a s = true := unparts (wk h (.code Cmp5.yN Cmp5.yB 7 (some .int))) (wks h (.initialized Cmp5.yN.cls :: Cmp5.site))
  have hc : CodL.tab.before a s = true := unparts (wk h (.code CodL.yN CodL.yB 2 (some .byte))) (wks h (.initialized CodL.yN.cls :: CodL.site))
  have q5 : ∀ w ∈ Cmp5.tab :: words, w.before a s = true := fun w hw => (List.mem_cons.mp hw).elim (fun e => e ▸ h5) (h w)
  have h3 : Cmp3.tab.before a s = true := unparts (wk q5 (.code Cmp3.yN Cmp3.yB 6 (some (.array .byte)))) (wks q5 (.initialized Cmp3.yN.cls :: Cmp3.site))
  have q3 : ∀ w ∈ Cmp3.tab :: CodL.tab :: words, w.before a s = true := fun w hw => (List.mem_cons.mp hw).elim (fun e => e ▸ h3) fun hw => (List.mem_cons.mp hw).elim (fun e => e ▸ hc) (h w)
  have h4 : New4.tab.before a s = true := unparts (wk q3 (.code New4.yN New4.yB 6 none)) (wks q3 (.initialized New4.yN.cls :: New4.site))
  have q4 : ∀ w ∈ New4.tab :: words, w.before a s = true := fun w hw => (List.mem_cons.mp hw).elim (fun e => e ▸ h4) (h w)
  exact unparts (wk q4 (.code New1.yN New1.yB 2 none)) (wks q4 (.initialized New1.yN.cls :: New1.site))
/-- the words ride from the start Z to the walk's own state -/
theorem moved {Z s : State} {a0 args : Array Value} (hZ : Z.Warmed39 s.vm) (hw : ∀ d ∈ words, d.before a0 Z = true) : ∀ d ∈ words, d.before args s = true := fun d hd => by
  have q := hw d hd
  have t : ∀ d ∈ words, d = .arrayClass .byte ∨ (d.onTables && d.keepsFace) = true := by decide +kernel
  rcases t d hd with rfl | t
  · exact RoadKit.mvA hZ q
  · exact RoadKit.mv hZ q t
/-- WHAT COMES BACK, over the tables of the start Z: h the heap at the call, h' behind it -/
def Q (Z : State) (x : Addr) (A : Cell) (h : Heap) (v : Option Value) (h' : Heap) (L : List Loc) : Prop := v = none ∧ (∀ y ∈ L, y.base = x) ∧ RoadKit.Keep h h' [x] ∧ h'.size = h.size + 1 ∧ RoadKit.Exa Z h' x ST ∧ RoadKit.Fld Z h' x ST "value" "[B" (.ref h.size) ∧ RoadKit.Fld Z h' x ST "coder" "B" (.int 0) ∧
  (∃ V : Cell, RoadKit.Arr Z h' h.size V .byte ∧ V.vm = .none ∧ Z.vm.findClass "[B" = some V.cls ∧ V.slots.size = A.slots.size ∧ ∀ j, j < A.slots.size → V.slots[j]? = some (.int (lo8 (cv A j)))) ∧
  ∀ (O n d : String) (w : Value), RoadKit.Fld Z h x O n d w → RoadKit.slotOf Z O n d ≠ RoadKit.slotOf Z ST "value" "[B" → RoadKit.slotOf Z O n d ≠ RoadKit.slotOf Z ST "coder" "B" → RoadKit.Fld Z h' x O n d w
/-- **new String(chars) AT A CALL, IN THE ROAD'S FORM**: for specialBack behind newO: x the fresh String, b the char[] with the cell A -/
theorem back {p : Program} {l : Launch} {e : Env} {R : Room} {s : State} {args : Array Value} {below : List Frame} {len W : Nat} {Z : State} {a0 : Array Value} {h : Heap} (hZ : Z.Warmed39 s.vm) (hw : ∀ d ∈ words, d.before a0 Z = true) {kI : Nat} (wi : (Jvm.Cond.instantiable ST kI).before a0 Z = true)
    {x b : Addr} {A : Cell} {z : Int32} {v0 c0 : Value} (E : RoadKit.Exa Z h x ST) (V : RoadKit.Fld Z h x ST "value" "[B" v0) (C : RoadKit.Fld Z h x ST "coder" "B" c0) (K : RoadKit.Arr Z h b A .char) (hty : Typed .char A) (S : RoadKit.Sta Z h ST "COMPACT_STRINGS" "Z" (.int z)) (hz : ¬ z = 0)
    (l0 : 0 < A.slots.size) (l2 : A.slots.size ≤ 536870912) (hp : ∀ i, i < A.slots.size → ¬ 255 < cv A i) (hfr : 4 ≤ R.frames) (hlo : W + 65 ≤ R.locals) :
    Back l R p e below s args New1.yN len W (fun P a => a = #[.ref x, .ref b] ∧ P.U.heap = h ∧ P.cells + 1 ≤ R.cells ∧ P.slots + A.slots.size ≤ R.slots)
      (fun P _ v B => ∃ L, Q Z x A h v B.U.heap L ∧ B.locs = P.locs ++ L ∧ B.cells = P.cells + 1 ∧ B.slots = P.slots + A.slots.size) := by
  intro m meth c P g ig mk a X hg hsize hdg hW hn hp'
  obtain ⟨rfl, rfl, r1, r2⟩ := hp'
  have al : Z.vm.Alike P.U.vm := hZ.alike.trans X.warmed.alike
  obtain ⟨D, cfV, kV, iV, fV, hD, gV, stV, knV, obV, asV, slV⟩ := id V
  obtain ⟨D', cfC, kC, iC, fC, hD', gC, stC, -, -, asC, slC⟩ := id C
  cases hD.symm.trans hD'
  obtain ⟨D2, kD, e1, e2, e3, e4, e5⟩ := id E
  cases hD.symm.trans e1
  obtain ⟨c2, k2, i1, i2, i3, -⟩ := Cond.instantiable_spec wi
  cases e2.symm.trans i1
  cases e3.symm.trans i2
  obtain ⟨kU, u1, u2⟩ := al.2.2 _ _ e3
  have hB : Blank ST x D P.U := ⟨hD, ⟨knV, fun q hq => by rw [hq] at obV; cases obV⟩, by rw [al.findClass]; exact e2, kU, u1, by rw [u2]; exact i3, by rw [u2]; exact e5 i3⟩
  have F1 : Found ST "value" "[B" fV P.U := ⟨SBG.found_only al ⟨cfV, kV, iV, gV⟩, stV⟩
  have F2 : Found ST "coder" "B" fC P.U := ⟨SBG.found_only al ⟨cfC, kC, iC, gC⟩, stC⟩
  have hA : Ch b A P.U := ⟨⟨K.1, State.isArrayOf_alike al K.2.1, K.2.2, by omega⟩, hty⟩
  have hS : StaticIs P.U ST "COMPACT_STRINGS" "Z" (.int z) := by
    obtain ⟨cfS, iS, kS, fS, st, cS, t1, t2, t3, t4, t5, t6, t7⟩ := S
    exact StaticIs.there (s := { Z with heap := P.U.heap }) ⟨cfS, iS, kS, fS, st, cS, t1, t2, t3, t4, t5, (fun q => by rw [q] at t6; cases t6), t7⟩ al rfl
  obtain ⟨v, B, X', ⟨⟨hv, E', V', q1, q2, q3, q4, q5, q6, q7, q8, q9, q10, q11⟩, hl, hc, hs⟩, st⟩ := New1.pays x D fV fC b A z (tab_of (moved hZ hw)) hfr hlo m meth c P g ig mk _ X hg hsize hdg hW hn ⟨r1, r2, rfl, hB, F1, F2, hA, hS, hz, l0, l2, hp⟩
  have al' : Z.vm.Alike B.U.vm := hZ.alike.trans X'.warmed.alike
  have hsz : E'.slots.size = D.slots.size := by
    obtain ⟨-, -, -, kB, w1, w2, w3⟩ := q1
    obtain ⟨kB', y1, y2⟩ := al'.2.2 _ _ e3
    rw [q2.2.1] at w1
    cases w1.symm.trans y1
    rw [w3, e5 i3, y2]
  refine ⟨v, B, X', ⟨_, ⟨hv, ?_, ⟨by omega, fun y cy hy hn' => q10 y cy (by simpa using hn') hy, fun y cy hy => ?_⟩, q11, ⟨E', _, q1.1, by rw [q2.2.1]; exact e2, by rw [q2.2.1]; exact e3, by rw [q2.1]; exact obV, fun _ => by rw [hsz]; exact e5 i3⟩,
    ⟨E', cfV, kV, iV, fV, q1.1, gV, stV, by rw [q2.1]; exact knV, by rw [q2.1]; exact obV, by rw [q2.2.1]; exact asV, q3⟩, ⟨E', cfC, kC, iC, fC, q1.1, gC, stC, by rw [q2.1]; exact knV, by rw [q2.1]; exact obV, by rw [q2.2.1]; exact asC, q4⟩,
    ⟨V', ⟨q5.1, State.isArrayOf_alike al'.symm q5.2.1, q5.2.2.1⟩, q6, by rw [← al'.findClass]; exact q7, q8, fun j hj => by have := q9 j hj; rwa [Nat.zero_add] at this⟩, fun O n d w F n1 n2 => ?_⟩, hl, hc, hs⟩, st⟩
  · intro y hy
    simp only [List.mem_cons, List.not_mem_nil, or_false] at hy
    rcases hy with rfl | rfl <;> rfl
  · by_cases q : y = x
    · subst q
      cases hD.symm.trans hy
      exact ⟨E', q1.1, q2.2.1, q2.1, hsz⟩
    · exact ⟨cy, q10 y cy q hy, rfl, rfl, rfl⟩
  · obtain ⟨D3, cf, k, i, f, g1, g2, g3, g4, g5, g6, g7⟩ := F
    cases hD.symm.trans g1
    simp only [RoadKit.slotOf, g2, gV, gC, Option.map_some, Option.getD_some] at n1 n2
    exact ⟨E', cf, k, i, f, q1.1, g2, g3, by rw [q2.1]; exact g4, by rw [q2.1]; exact g5, by rw [q2.2.1]; exact g6, by rw [q2.2.2 f.slot (by simp [n1, n2])]; exact g7⟩
end StrChars.Road
namespace StrChars.Road
open Jvm Sem ClassFile Op Lib Jvm.Stand Jvm.Free Jvm.Free.XT
/-- WHAT COMES BACK, the byte[] as a list of values -/
def QA (Z : State) (x : Addr) (zn : Int32) (cs : List Int32) (h : Heap) (v : Option Value) (h' : Heap) (L : List Loc) : Prop := v = none ∧ (∀ y ∈ L, y.base = x) ∧ RoadKit.Keep h h' [x] ∧ h'.size = h.size + 1 ∧ RoadKit.Exa Z h' x ST ∧ RoadKit.Fld Z h' x ST "value" "[B" (.ref h.size) ∧ RoadKit.Fld Z h' x ST "coder" "B" (.int 0) ∧
  (∃ kb, Z.vm.findClass "[B" = some kb ∧ RoadKit.Arv Z h' h.size kb .byte zn (cs.map fun c => .int (lo8 c)) (.int 0)) ∧
  ∀ (O n d : String) (w : Value), RoadKit.Fld Z h x O n d w → RoadKit.slotOf Z O n d ≠ RoadKit.slotOf Z ST "value" "[B" → RoadKit.slotOf Z O n d ≠ RoadKit.slotOf Z ST "coder" "B" → RoadKit.Fld Z h' x O n d w
/-- **new String(chars) AT A CALL, THE ARRAYS AS LISTS**: the char[] at b holds cs, not empty, no char above 255 -/
theorem backArv {p : Program} {l : Launch} {e : Env} {R : Room} {s : State} {args : Array Value} {below : List Frame} {len W : Nat} {Z : State} {a0 : Array Value} {h : Heap} (hZ : Z.Warmed39 s.vm) (hw : ∀ d ∈ words, d.before a0 Z = true) {kI : Nat} (wi : (Jvm.Cond.instantiable ST kI).before a0 Z = true)
    {x b : Addr} {k : ClassId} {zn z : Int32} {cs : List Int32} {dv v0 c0 : Value} (E : RoadKit.Exa Z h x ST) (V : RoadKit.Fld Z h x ST "value" "[B" v0) (C : RoadKit.Fld Z h x ST "coder" "B" c0) (K : RoadKit.Arv Z h b k .char zn (cs.map Value.int) dv) (S : RoadKit.Sta Z h ST "COMPACT_STRINGS" "Z" (.int z)) (hz : ¬ z = 0)
    (hlen : zn.toNatClampNeg = cs.length) (h0 : 0 < cs.length) (hbig : cs.length ≤ 536870912) (hall : ∀ c ∈ cs, ¬ 255 < c) (hfr : 4 ≤ R.frames) (hlo : W + 65 ≤ R.locals) :
    Back l R p e below s args New1.yN len W (fun P a => a = #[.ref x, .ref b] ∧ P.U.heap = h ∧ P.cells + 1 ≤ R.cells ∧ P.slots + cs.length ≤ R.slots)
      (fun P _ v B => ∃ L, QA Z x zn cs h v B.U.heap L ∧ B.locs = P.locs ++ L ∧ B.cells = P.cells + 1 ∧ B.slots = P.slots + cs.length) := by
  obtain ⟨A, K1, K2, K3, K4, K5, K6⟩ := K
  have e : A.slots.size = cs.length := K3.trans hlen
  have hat : ∀ (i : Nat) (hi : i < cs.length), A.slots[i]? = some (.int cs[i]) := fun i hi => by rw [K5 i (by omega)]; simp [List.getD_eq_getElem?_getD, hi]
  have hcv : ∀ (i : Nat) (hi : i < cs.length), cv A i = cs[i] := fun i hi => by unfold cv; rw [hat i hi]
  have hty : Typed .char A := fun i v hv => by
    have hi : i < A.slots.size := (Array.getElem?_eq_some_iff.mp hv).1
    have q := K5 i hi
    rw [hv] at q
    rw [Option.some.inj q]
    exact K6 i hi
  refine Back.mono (back hZ hw wi E V C K1 hty S hz (by omega) (by omega) (fun i hi => by rw [hcv i (by omega)]; exact hall _ (List.getElem_mem _)) hfr hlo) (fun P a hp => ⟨hp.1, hp.2.1, hp.2.2.1, by rw [e]; exact hp.2.2.2⟩) (fun P a v B hp hq => ?_)
  obtain ⟨L, ⟨q1, q2, q3, q4, q5, q6, q7, ⟨V', v1, v2, v3, v4, v5⟩, q9⟩, hl, hc, hs⟩ := hq
  refine ⟨L, ⟨q1, q2, q3, q4, q5, q6, q7, ⟨V'.cls, v3, V', v1, rfl, by rw [v4, e, hlen], K4, fun i hi => ?_, fun i hi => ?_⟩, q9⟩, hl, hc, by rw [hs, e]⟩
  · have hi' : i < cs.length := by omega
    rw [v5 i (by omega), hcv i hi']; simp [List.getD_eq_getElem?_getD, hi']
  · have hi' : i < cs.length := by omega
    simp only [List.getD_eq_getElem?_getD, List.getElem?_map, List.getElem?_eq_getElem hi', Option.map_some, Option.getD_some]
    exact fits_lo8 _
end StrChars.Road
namespace StrChars.Road
open Jvm Sem ClassFile Op Lib Jvm.Stand Jvm.Free Jvm.Free.XT
/-- WHAT COMES BACK, in the writer's own shape -/
def QV (Z : State) (x : Addr) (N : Int32) (bs : List Int32) (h : Heap) (n0 : Nat) (v : Option Value) (h' : Heap) (L : List Loc) : Prop := v = none ∧ RoadKit.Fr n0 L ∧ RoadKit.Keep h h' [x] ∧ RoadKit.Exa Z h' x ST ∧ RoadKit.Fld Z h' x ST "coder" "B" (.int 0) ∧
  ∃ (t : Addr) (kb : ClassId), n0 ≤ t ∧ h.size ≤ t ∧ ¬ t = x ∧ RoadKit.Fld Z h' x ST "value" "[B" (.ref t) ∧ RoadKit.Arv Z h' t kb .byte N (bs.map Value.int) (.int 0)
/-- **new String(chars) AT A CALL, FOR THE WRITER**: a char[] of n known ints, each 0 to 255 -/
theorem backV {p : Program} {l : Launch} {e : Env} {R : Room} {s : State} {args : Array Value} {below : List Frame} {len W : Nat} {Z : State} {a0 : Array Value} {h : Heap} (hZ : Z.Warmed39 s.vm) (hw : ∀ d ∈ words, d.before a0 Z = true) {kI : Nat} (wi : (Jvm.Cond.instantiable ST kI).before a0 Z = true)
    {x b : Addr} {kC : ClassId} {cs bs : List Int32} {d v0 c0 : Value} {z N : Int32} {n n0 : Nat} (hx0 : n0 ≤ x) (hh0 : n0 ≤ h.size) (E : RoadKit.Exa Z h x ST) (V : RoadKit.Fld Z h x ST "value" "[B" v0) (C : RoadKit.Fld Z h x ST "coder" "B" c0) (K : RoadKit.Arv Z h b kC .char N (cs.map Value.int) d) (S : RoadKit.Sta Z h ST "COMPACT_STRINGS" "Z" (.int z)) (hz : ¬ z = 0)
    (hn : cs.length = n) (hN : N = Int32.ofNat n) (l0 : 0 < n) (l2 : n ≤ 4000) (hp : ∀ c ∈ cs, ¬ c < 0 ∧ ¬ (255 : Int32) < c) (hb : bs = cs.map (fun c => c.toInt8.toInt32)) (hfr : 4 ≤ R.frames) (hlo : W + 65 ≤ R.locals) :
    Back l R p e below s args (⟨"java/lang/String", "<init>", "([C)V"⟩ : MethodName) len W (fun P a => a = #[.ref x, .ref b] ∧ P.U.heap = h ∧ P.cells + 1 ≤ R.cells ∧ P.slots + n ≤ R.slots)
      (fun P _ v B => ∃ L, QV Z x N bs h n0 v B.U.heap L ∧ B.locs = P.locs ++ L ∧ B.cells = P.cells + 1 ∧ B.slots = P.slots + n) := by
  subst hn hN hb
  refine Back.mono (backArv hZ hw wi E V C K S hz (n32 (by omega)) l0 (by omega) (fun c hc => (hp c hc).2) hfr hlo) (fun P a hp => hp) (fun P a v B hp hq => ?_)
  obtain ⟨L, ⟨q1, q2, q3, q4, q5, q6, q7, ⟨kb, v1, v2⟩, q9⟩, hl, hc, hs⟩ := hq
  exact ⟨L, ⟨q1, fun y hy => by rw [q2 y hy]; exact hx0, q3, q5, q7, h.size, kb, hh0, Nat.le_refl _, Nat.ne_of_gt E.lt, q6, by rw [List.map_map]; exact v2⟩, hl, hc, hs⟩
end StrChars.Road
end Jvm.Pilot.@@N@@
namespace Jvm.Pilot.@@N@@
open Jvm Jvm.ClassFile Sem Op Lib Jvm.Free Jvm.Stand Jvm.LawKit Jvm.RoadKit Bundle Jvm.Pilot.@@N@@.Jvm.D
theorem own_and255 (x : Int32) : ¬ nar .char ((x &&& (255 : Int32)).toUInt32.toUInt16.toUInt32.toInt32) < 0 ∧ ¬ (255 : Int32) < nar .char ((x &&& (255 : Int32)).toUInt32.toUInt16.toUInt32.toInt32) := by
  have h := c_i2c (x &&& (255 : Int32)); have h2 := c_and x 255 (by decide)
  have h3 := c_i2c ((x &&& (255 : Int32)).toUInt32.toUInt16.toUInt32.toInt32)
  have e : (255 : Int32).toInt = 255 := by decide
  have z : (0 : Int32).toInt = 0 := by decide
  show ¬ ((x &&& (255 : Int32)).toUInt32.toUInt16.toUInt32.toInt32).toUInt32.toUInt16.toUInt32.toInt32 < 0 ∧ ¬ (255 : Int32) < ((x &&& (255 : Int32)).toUInt32.toUInt16.toUInt32.toInt32).toUInt32.toUInt16.toUInt32.toInt32
  simp only [Int32.lt_iff_toInt_lt]
  omega
theorem own_ix (x : Int64) (h1 : ¬ lcmpW x (-128 : Int64) < (0 : Int32)) (h2 : ¬ (0 : Int32) < lcmpW x (127 : Int64)) : ¬ (x.toInt32 + (128 : Int32)) < 0 ∧ (x.toInt32 + (128 : Int32)) < (256 : Int32) := by
  rw [lw_lt] at h1; rw [lw_gt] at h2
  have e1 : (-128 : Int64).toInt = -128 := by decide
  have e2 : (127 : Int64).toInt = 127 := by decide
  have e3 : (128 : Int32).toInt = 128 := by decide
  have e4 : (256 : Int32).toInt = 256 := by decide
  have e5 : (0 : Int32).toInt = 0 := by decide
  simp only [Int64.lt_iff_toInt_lt, e1, e2] at h1 h2
  have a := c_l2i x; have b := c_iadd x.toInt32 128; have c := rng32 x.toInt32; have d := rng32 (x.toInt32 + 128)
  simp only [Int32.lt_iff_toInt_lt, e4, e5]
  omega
theorem ef_0 (m : MethodId) (x0 : Addr) : entryFrame m #[(.ref x0)] 1 = mkF m 0 #[.val (.ref x0)] [] := by first | (simp [entryFrame, mkF, argsToLocals, Value.category]; done) | rfl
theorem d_jdk_30_method_1_code_0 : decode jdk_30_method_1_code 0 = .ok (.aload_n 0, 1) := by decide +kernel
theorem d_jdk_30_method_1_code_1 : decode jdk_30_method_1_code 1 = .ok (.invokespecial 1, 3) := by decide +kernel
theorem d_jdk_30_method_1_code_4 : decode jdk_30_method_1_code 4 = .ok (.return_, 1) := by decide +kernel
theorem pn_4 : plainName "java/lang/Record" = true := by first | (simp [plainName, overriddenIn]; done) | decide +kernel
set_option maxRecDepth 65536 in
set_option maxHeartbeats 40000000 in
theorem rm_rec (l : Launch) (Z : State) (a0 : Array Value) (hw : ∀ d ∈ tables_1, d.before a0 Z = true) (ws : List Jvm.Cond) (a : Addr) (h0 : Heap) (n0 : Nat) (Z0 : n0 ≤ h0.size) (O0 : Old Z n0 h0)  :
    Ctr l Z (⟨"java/lang/Record", "<init>", "()V"⟩ : MethodName) jdk_30_method_1_code 1 ((Option.none : Option Jvm.ClassFile.FieldType)) ws ({ frames := 1, cells := 0, slots := 0, locals := 12 } : Room) #[(.ref a)] h0 (fun v h L => v = none ∧ Fr n0 L ∧ Keep h0 h []) := by
  refine Ctr.of (MetFree.of_bodySF (plainFor_of_name pn_4) hisR ?_)
  intro p e s m args below meth c s₁ Bd hml0 hP hK
  obtain ⟨rfl, hZ, hh⟩ := hP
  have hx := Bd.exec
  have hby := Bd.bytes
  have hml : c.maxLocals = 1 := hml0
  have hown : s.vm.findClass "java/lang/Record" = some m.cls := findClass_of_methodNamed Bd.named
  have hnm := (name_of_methodNamed Bd.named Bd.method).1
  have X0 : Stand p l e ({ frames := 1, cells := 0, slots := 0, locals := 12 } : Room) s m #[(.ref a)] below meth c s₁ [] 0 0 := Stand.of_body Bd
  have e0 : s₁.heap = h0 := by rw [← hh, Bd.state]; rfl
  have N0 := Fr.nil n0
  have K0 : Keep h0 h0 [] := Keep.refl h0 []
  show OwnGo p e below s (fun v h L => v = none ∧ Fr n0 L ∧ Keep h0 h []) ({ frames := 1, cells := 0, slots := 0, locals := 12 } : Room).cells ({ frames := 1, cells := 0, slots := 0, locals := 12 } : Room).slots _
  refine gs (S' := s₁.setTop (mkF m 0 #[.val (.ref a)] [])) (fun tg kg => castTop (ef_0 m a) kg) ?_
  have c1 : ∀ tg, Steps p.tables e below (s₁.setTop (mkF m 1 #[.val (.ref a)] [(.ref a)])) tg → Steps p.tables e below (s₁.setTop (mkF m 0 #[.val (.ref a)] [])) tg := fun tg kg => by
    refine XS.aloadN X0.here hx rfl (hb hby d_jdk_30_method_1_code_0) rfl rfl ?_
    show Steps p.tables e below (s₁.setTop (mkF m 1 #[.val (.ref a)] [(.ref a)])) tg
    exact kg
  refine gs c1 ?_
  obtain ⟨T2, X2, e2, st2⟩ := initO X0 hx hZ hown (hw _ (List.mem_of_getElem? (i := 41) rfl)) (hw _ (List.mem_of_getElem? (i := 12) rfl)) (hw _ (List.mem_of_getElem? (i := 13) rfl)) e0 (g := (mkF m 1 #[.val (.ref a)] [(.ref a)])) rfl (by rw [hml]; rfl) rfl (hb hby d_jdk_30_method_1_code_1) (by decide) (W := 0) (by show 2 * 0 + _ ≤ _; exact Nat.le_of_eq rfl) (by decide)
  refine gs st2 ?_
  show OwnGo p e below s _ _ _ (T2.setTop (mkF m 4 #[.val (.ref a)] []))
  refine gout (v := none) X2 Bd.notSynchronized (fun _ => rfl) (by decide) (by decide) ?_ (fun fs hr => X2.returnOut hx Bd.returns (hb hby d_jdk_30_method_1_code_4) hr)
  rw [e2]
  exact ⟨rfl, N0, K0⟩
theorem ef_5 (m : MethodId) (x0 : Addr) : entryFrame m #[(.ref x0)] 1 = mkF m 0 #[.val (.ref x0)] [] := by first | (simp [entryFrame, mkF, argsToLocals, Value.category]; done) | rfl
theorem d_jdk_18_method_1_code_0 : decode jdk_18_method_1_code 0 = .ok (.aload_n 0, 1) := by decide +kernel
theorem d_jdk_18_method_1_code_1 : decode jdk_18_method_1_code 1 = .ok (.invokespecial 1, 3) := by decide +kernel
theorem d_jdk_18_method_1_code_4 : decode jdk_18_method_1_code 4 = .ok (.return_, 1) := by decide +kernel
theorem pn_9 : plainName "java/lang/Number" = true := by first | (simp [plainName, overriddenIn]; done) | decide +kernel
set_option maxRecDepth 65536 in
set_option maxHeartbeats 40000000 in
theorem rm_num (l : Launch) (Z : State) (a0 : Array Value) (hw : ∀ d ∈ tables_1, d.before a0 Z = true) (ws : List Jvm.Cond) (a : Addr) (h0 : Heap) (n0 : Nat) (Z0 : n0 ≤ h0.size) (O0 : Old Z n0 h0)  :
    Ctr l Z (⟨"java/lang/Number", "<init>", "()V"⟩ : MethodName) jdk_18_method_1_code 1 ((Option.none : Option Jvm.ClassFile.FieldType)) ws ({ frames := 1, cells := 0, slots := 0, locals := 12 } : Room) #[(.ref a)] h0 (fun v h L => v = none ∧ Fr n0 L ∧ Keep h0 h []) := by
  refine Ctr.of (MetFree.of_bodySF (plainFor_of_name pn_9) hisR ?_)
  intro p e s m args below meth c s₁ Bd hml0 hP hK
  obtain ⟨rfl, hZ, hh⟩ := hP
  have hx := Bd.exec
  have hby := Bd.bytes
  have hml : c.maxLocals = 1 := hml0
  have hown : s.vm.findClass "java/lang/Number" = some m.cls := findClass_of_methodNamed Bd.named
  have hnm := (name_of_methodNamed Bd.named Bd.method).1
  have X0 : Stand p l e ({ frames := 1, cells := 0, slots := 0, locals := 12 } : Room) s m #[(.ref a)] below meth c s₁ [] 0 0 := Stand.of_body Bd
  have e0 : s₁.heap = h0 := by rw [← hh, Bd.state]; rfl
  have N0 := Fr.nil n0
  have K0 : Keep h0 h0 [] := Keep.refl h0 []
  show OwnGo p e below s (fun v h L => v = none ∧ Fr n0 L ∧ Keep h0 h []) ({ frames := 1, cells := 0, slots := 0, locals := 12 } : Room).cells ({ frames := 1, cells := 0, slots := 0, locals := 12 } : Room).slots _
  refine gs (S' := s₁.setTop (mkF m 0 #[.val (.ref a)] [])) (fun tg kg => castTop (ef_5 m a) kg) ?_
  have c1 : ∀ tg, Steps p.tables e below (s₁.setTop (mkF m 1 #[.val (.ref a)] [(.ref a)])) tg → Steps p.tables e below (s₁.setTop (mkF m 0 #[.val (.ref a)] [])) tg := fun tg kg => by
    refine XS.aloadN X0.here hx rfl (hb hby d_jdk_18_method_1_code_0) rfl rfl ?_
    show Steps p.tables e below (s₁.setTop (mkF m 1 #[.val (.ref a)] [(.ref a)])) tg
    exact kg
  refine gs c1 ?_
  obtain ⟨T2, X2, e2, st2⟩ := initO X0 hx hZ hown (hw _ (List.mem_of_getElem? (i := 73) rfl)) (hw _ (List.mem_of_getElem? (i := 12) rfl)) (hw _ (List.mem_of_getElem? (i := 13) rfl)) e0 (g := (mkF m 1 #[.val (.ref a)] [(.ref a)])) rfl (by rw [hml]; rfl) rfl (hb hby d_jdk_18_method_1_code_1) (by decide) (W := 0) (by show 2 * 0 + _ ≤ _; exact Nat.le_of_eq rfl) (by decide)
  refine gs st2 ?_
  show OwnGo p e below s _ _ _ (T2.setTop (mkF m 4 #[.val (.ref a)] []))
  refine gout (v := none) X2 Bd.notSynchronized (fun _ => rfl) (by decide) (by decide) ?_ (fun fs hr => X2.returnOut hx Bd.returns (hb hby d_jdk_18_method_1_code_4) hr)
  rw [e2]
  exact ⟨rfl, N0, K0⟩
theorem ef_10 (m : MethodId) (x0 : Addr) (x1 : Int64) : entryFrame m #[(.ref x0), (.long x1)] 3 = mkF m 0 #[.val (.ref x0), .val (.long x1), .second] [] := by first | (simp [entryFrame, mkF, argsToLocals, Value.category]; done) | rfl
theorem d_jdk_35_method_26_code_0 : decode jdk_35_method_26_code 0 = .ok (.aload_n 0, 1) := by decide +kernel
theorem d_jdk_35_method_26_code_1 : decode jdk_35_method_26_code 1 = .ok (.invokespecial 270, 3) := by decide +kernel
theorem pd_13 : parseMethodDescriptor "()V" = some ⟨[], none⟩ := by decide +kernel
theorem d_jdk_35_method_26_code_4 : decode jdk_35_method_26_code 4 = .ok (.aload_n 0, 1) := by decide +kernel
theorem d_jdk_35_method_26_code_5 : decode jdk_35_method_26_code 5 = .ok (.lload_n 1, 1) := by decide +kernel
theorem d_jdk_35_method_26_code_6 : decode jdk_35_method_26_code 6 = .ok (.putfield 273, 3) := by decide +kernel
theorem d_jdk_35_method_26_code_9 : decode jdk_35_method_26_code 9 = .ok (.return_, 1) := by decide +kernel
theorem pn_18 : plainName "java/lang/Long" = true := by first | (simp [plainName, overriddenIn]; done) | decide +kernel
set_option maxRecDepth 65536 in
set_option maxHeartbeats 40000000 in
theorem rm_long (l : Launch) (Z : State) (a0 : Array Value) (hw : ∀ d ∈ tables_1, d.before a0 Z = true) (ws : List Jvm.Cond) (a : Addr) (q : Int64) (h0 : Heap) (n0 : Nat) (Z0 : n0 ≤ h0.size) (O0 : Old Z n0 h0) (E_a : Exa Z h0 a "java/lang/Long") (F_v : Fld Z h0 a "java/lang/Long" "value" "J" (.long (0 : Int64))) (g_a : n0 ≤ a) :
    Ctr l Z (⟨"java/lang/Long", "<init>", "(J)V"⟩ : MethodName) jdk_35_method_26_code 3 ((Option.none : Option Jvm.ClassFile.FieldType)) ws ({ frames := 2, cells := 0, slots := 0, locals := 24 } : Room) #[(.ref a), (.long q)] h0 (fun v h L => v = none ∧ Fr n0 L ∧ Keep h0 h [a]) := by
  refine Ctr.of (MetFree.of_bodySF (plainFor_of_name pn_18) hisR ?_)
  intro p e s m args below meth c s₁ Bd hml0 hP hK
  obtain ⟨rfl, hZ, hh⟩ := hP
  have hx := Bd.exec
  have hby := Bd.bytes
  have hml : c.maxLocals = 3 := hml0
  have hown : s.vm.findClass "java/lang/Long" = some m.cls := findClass_of_methodNamed Bd.named
  have hnm := (name_of_methodNamed Bd.named Bd.method).1
  have X0 : Stand p l e ({ frames := 2, cells := 0, slots := 0, locals := 24 } : Room) s m #[(.ref a), (.long q)] below meth c s₁ [] 0 0 := Stand.of_body Bd
  have e0 : s₁.heap = h0 := by rw [← hh, Bd.state]; rfl
  have N0 := Fr.nil n0
  have K0 : Keep h0 h0 [a] := Keep.refl h0 [a]
  show OwnGo p e below s (fun v h L => v = none ∧ Fr n0 L ∧ Keep h0 h [a]) ({ frames := 2, cells := 0, slots := 0, locals := 24 } : Room).cells ({ frames := 2, cells := 0, slots := 0, locals := 24 } : Room).slots _
  refine gs (S' := s₁.setTop (mkF m 0 #[.val (.ref a), .val (.long q), .second] [])) (fun tg kg => castTop (ef_10 m a q) kg) ?_
  have c1 : ∀ tg, Steps p.tables e below (s₁.setTop (mkF m 1 #[.val (.ref a), .val (.long q), .second] [(.ref a)])) tg → Steps p.tables e below (s₁.setTop (mkF m 0 #[.val (.ref a), .val (.long q), .second] [])) tg := fun tg kg => by
    refine XS.aloadN X0.here hx rfl (hb hby d_jdk_35_method_26_code_0) rfl rfl ?_
    show Steps p.tables e below (s₁.setTop (mkF m 1 #[.val (.ref a), .val (.long q), .second] [(.ref a)])) tg
    exact kg
  refine gs c1 ?_
  obtain ⟨_, _, ⟨T2, L2, k2, n2⟩, -, X2, ⟨Lc2, hQ2, l2, y2, z2⟩, st2⟩ := X0.specialBack hx (y := (⟨"java/lang/Number", "<init>", "()V"⟩ : MethodName)) rfl hown (mvT hZ (hw _ (List.mem_of_getElem? (i := 67) rfl))) (mvT hZ (hw _ (List.mem_of_getElem? (i := 68) rfl))) (mvT hZ (hw _ (List.mem_of_getElem? (i := 72) rfl))) (by decide) (backC (W := 0) (rm_num l Z a0 hw [] a h0 n0 Z0 O0 ) hZ (hw _ (List.mem_of_getElem? (i := 72) rfl)) (hw _ (List.mem_of_getElem? (i := 71) rfl)) (by decide) (by decide)) (g := (mkF m 1 #[.val (.ref a), .val (.long q), .second] [(.ref a)])) rfl (by rw [hml]; rfl) (Steps.refl _) (a := a) (argsL := []) (rest := []) (lenOf pd_13 rfl) rfl (by show 2 * 0 + _ ≤ _; exact Nat.le_of_eq rfl) (hb hby d_jdk_35_method_26_code_1) (fun _ _ => ⟨rfl, e0, (by decide : 0 + 0 ≤ _), (by decide : 0 + 0 ≤ _)⟩)
  dsimp only [Pt.U, Pt.locs, Pt.cells, Pt.slots] at X2 l2 y2 z2 st2 hQ2
  subst l2 y2 z2
  obtain ⟨rfl, N2q, K2q⟩ := hQ2
  have N2 := Fr.app N0 N2q
  have Z3 : n0 ≤ T2.heap.size := Nat.le_trans Z0 K2q.1
  have O3 : Old Z n0 T2.heap := O0.keep K2q all0
  have K3 : Keep h0 T2.heap [a] := K0.trans K2q all0
  refine gs (fun _ k => st2.trans k) ?_
  show OwnGo p e below s _ _ _ (T2.setTop (mkF m 4 #[.val (.ref a), .val (.long q), .second] []))
  have c4 : ∀ tg, Steps p.tables e below (T2.setTop (mkF m 6 #[.val (.ref a), .val (.long q), .second] [(.long q), (.ref a)])) tg → Steps p.tables e below (T2.setTop (mkF m 4 #[.val (.ref a), .val (.long q), .second] [])) tg := fun tg kg => by
    refine XS.aloadN X2.here hx rfl (hb hby d_jdk_35_method_26_code_4) rfl rfl ?_
    show Steps p.tables e below (T2.setTop (mkF m 5 #[.val (.ref a), .val (.long q), .second] [(.ref a)])) tg
    refine XS.lloadN X2.here hx rfl (hb hby d_jdk_35_method_26_code_5) rfl ?_
    show Steps p.tables e below (T2.setTop (mkF m 6 #[.val (.ref a), .val (.long q), .second] [(.long q), (.ref a)])) tg
    exact kg
  refine gs c4 ?_
  have f5 := (F_v.keep K2q nin0)
  have f6 := (E_a.keep K2q)
  obtain ⟨T7, h7, X7, e7, W7, st7⟩ := putF X2 hx hZ hown (host := "") (Or.inl (hw _ (List.mem_of_getElem? (i := 74) rfl))) Via.refl rfl f5 f6 (Or.inr ⟨(hw _ (List.mem_of_getElem? (i := 75) rfl)), rfl, hnm⟩) (hw _ (List.mem_of_getElem? (i := 62) rfl)) (ty := .long) (by decide) rfl rfl (g := (mkF m 6 #[.val (.ref a), .val (.long q), .second] [(.long q), (.ref a)])) rfl rfl (hb hby d_jdk_35_method_26_code_6)
  have N7 := Fr.snoc X7 N2 g_a
  have Fw7 := f5.same W7
  have Z8 : n0 ≤ h7.size := Nat.le_trans Z3 (Keep.of_wr W7).1
  have O8 : Old Z n0 h7 := O3.wr W7 g_a
  have K8 : Keep h0 h7 [a] := K3.wr W7 (Or.inl (List.mem_of_getElem? (i := 0) rfl))
  refine gs st7 ?_
  show OwnGo p e below s _ _ _ (T7.setTop (mkF m 9 #[.val (.ref a), .val (.long q), .second] []))
  refine gout (v := none) X7 Bd.notSynchronized (fun _ => rfl) (by decide) (by decide) ?_ (fun fs hr => X7.returnOut hx Bd.returns (hb hby d_jdk_35_method_26_code_9) hr)
  rw [e7]
  exact ⟨rfl, N7, K8⟩
theorem ef_19 (m : MethodId) (x0 : Int64) : entryFrame m #[(.long x0)] 3 = mkF m 0 #[.val (.long x0), .second, .unset] [] := by first | (simp [entryFrame, mkF, argsToLocals, Value.category]; done) | rfl
theorem d_jdk_35_method_24_code_0 : decode jdk_35_method_24_code 0 = .ok (.sipush 128, 3) := by decide +kernel
theorem d_jdk_35_method_24_code_3 : decode jdk_35_method_24_code 3 = .ok (.istore_n 2, 1) := by decide +kernel
theorem d_jdk_35_method_24_code_4 : decode jdk_35_method_24_code 4 = .ok (.lload_n 0, 1) := by decide +kernel
theorem d_jdk_35_method_24_code_5 : decode jdk_35_method_24_code 5 = .ok (.ldc2_w 230, 3) := by decide +kernel
theorem d_jdk_35_method_24_code_8 : decode jdk_35_method_24_code 8 = .ok (.lcmp, 1) := by decide +kernel
theorem d_jdk_35_method_24_code_9 : decode jdk_35_method_24_code 9 = .ok (.ifCond .lt 22, 3) := by decide +kernel
theorem d_jdk_35_method_24_code_31 : decode jdk_35_method_24_code 31 = .ok (.new 1, 3) := by decide +kernel
theorem d_jdk_35_method_24_code_34 : decode jdk_35_method_24_code 34 = .ok (.dup, 1) := by decide +kernel
theorem d_jdk_35_method_24_code_35 : decode jdk_35_method_24_code 35 = .ok (.lload_n 0, 1) := by decide +kernel
theorem d_jdk_35_method_24_code_36 : decode jdk_35_method_24_code 36 = .ok (.invokespecial 240, 3) := by decide +kernel
theorem pd_30 : parseMethodDescriptor "(J)V" = some ⟨[.long], none⟩ := by decide +kernel
theorem d_jdk_35_method_24_code_39 : decode jdk_35_method_24_code 39 = .ok (.areturn, 1) := by decide +kernel
theorem d_jdk_35_method_24_code_12 : decode jdk_35_method_24_code 12 = .ok (.lload_n 0, 1) := by decide +kernel
theorem d_jdk_35_method_24_code_13 : decode jdk_35_method_24_code 13 = .ok (.ldc2_w 232, 3) := by decide +kernel
theorem d_jdk_35_method_24_code_16 : decode jdk_35_method_24_code 16 = .ok (.lcmp, 1) := by decide +kernel
theorem d_jdk_35_method_24_code_17 : decode jdk_35_method_24_code 17 = .ok (.ifCond .gt 14, 3) := by decide +kernel
theorem d_jdk_35_method_24_code_20 : decode jdk_35_method_24_code 20 = .ok (.getstatic 234, 3) := by decide +kernel
theorem d_jdk_35_method_24_code_23 : decode jdk_35_method_24_code 23 = .ok (.lload_n 0, 1) := by decide +kernel
theorem d_jdk_35_method_24_code_24 : decode jdk_35_method_24_code 24 = .ok (.l2i, 1) := by decide +kernel
theorem d_jdk_35_method_24_code_25 : decode jdk_35_method_24_code 25 = .ok (.sipush 128, 3) := by decide +kernel
theorem d_jdk_35_method_24_code_28 : decode jdk_35_method_24_code 28 = .ok (.iadd, 1) := by decide +kernel
theorem d_jdk_35_method_24_code_29 : decode jdk_35_method_24_code 29 = .ok (.aaload, 1) := by decide +kernel
theorem d_jdk_35_method_24_code_30 : decode jdk_35_method_24_code 30 = .ok (.areturn, 1) := by decide +kernel
set_option maxRecDepth 65536 in
set_option maxHeartbeats 40000000 in
theorem rm_vo (l : Launch) (Z : State) (a0 : Array Value) (hw : ∀ d ∈ tables_1, d.before a0 Z = true) (ws : List Jvm.Cond) (q : Int64) (ca : Addr) (cc : Cell) (val : Int32 → Value) (h0 : Heap) (n0 : Nat) (Z0 : n0 ≤ h0.size) (O0 : Old Z n0 h0) (S_c : Sta Z Z.heap "java/lang/Long$LongCache" "cache" "[Ljava/lang/Long;" (.ref ca)) (Bx : Bxs Z ca cc "java/lang/Long" "J" (256 : Int32) val) :
    Ctr l Z (⟨"java/lang/Long", "valueOf", "(J)Ljava/lang/Long;"⟩ : MethodName) jdk_35_method_24_code 3 ((Option.some (Jvm.ClassFile.FieldType.object "java/lang/Long"))) ws ({ frames := 3, cells := 1, slots := 1, locals := 40 } : Room) #[(.long q)] h0 (fun v h L => ∃ a : Addr, v = some (.ref a) ∧ Fr n0 L ∧ Keep h0 h []) := by
  refine Ctr.of (MetFree.of_bodySF (plainFor_of_name pn_18) hisR ?_)
  intro p e s m args below meth c s₁ Bd hml0 hP hK
  obtain ⟨rfl, hZ, hh⟩ := hP
  have hx := Bd.exec
  have hby := Bd.bytes
  have hml : c.maxLocals = 3 := hml0
  have hown : s.vm.findClass "java/lang/Long" = some m.cls := findClass_of_methodNamed Bd.named
  have hnm := (name_of_methodNamed Bd.named Bd.method).1
  have X0 : Stand p l e ({ frames := 3, cells := 1, slots := 1, locals := 40 } : Room) s m #[(.long q)] below meth c s₁ [] 0 0 := Stand.of_body Bd
  have e0 : s₁.heap = h0 := by rw [← hh, Bd.state]; rfl
  have N0 := Fr.nil n0
  have K0 : Keep h0 h0 [] := Keep.refl h0 []
  show OwnGo p e below s (fun v h L => ∃ a : Addr, v = some (.ref a) ∧ Fr n0 L ∧ Keep h0 h []) ({ frames := 3, cells := 1, slots := 1, locals := 40 } : Room).cells ({ frames := 3, cells := 1, slots := 1, locals := 40 } : Room).slots _
  refine gs (S' := s₁.setTop (mkF m 0 #[.val (.long q), .second, .unset] [])) (fun tg kg => castTop (ef_19 m q) kg) ?_
  have c1 : ∀ tg, Steps p.tables e below (s₁.setTop (mkF m 9 #[.val (.long q), .second, .val (.int (128 : Int32))] [(.int (lcmpW q (-128 : Int64)))])) tg → Steps p.tables e below (s₁.setTop (mkF m 0 #[.val (.long q), .second, .unset] [])) tg := fun tg kg => by
    refine XS.sipush X0.here hx rfl (hb hby d_jdk_35_method_24_code_0) ?_
    show Steps p.tables e below (s₁.setTop (mkF m 3 #[.val (.long q), .second, .unset] [(.int (128 : Int32))])) tg
    refine XS.istoreN X0.here hx rfl (hb hby d_jdk_35_method_24_code_3) rfl (l' := #[.val (.long q), .second, .val (.int (128 : Int32))]) rfl ?_
    show Steps p.tables e below (s₁.setTop (mkF m 4 #[.val (.long q), .second, .val (.int (128 : Int32))] [])) tg
    refine XS.lloadN X0.here hx rfl (hb hby d_jdk_35_method_24_code_4) rfl ?_
    show Steps p.tables e below (s₁.setTop (mkF m 5 #[.val (.long q), .second, .val (.int (128 : Int32))] [(.long q)])) tg
    refine X0.ldc2Long hx hown (mvT hZ (hw _ (List.mem_of_getElem? (i := 57) rfl))) (g := (mkF m 5 #[.val (.long q), .second, .val (.int (128 : Int32))] [(.long q)])) rfl (hb hby d_jdk_35_method_24_code_5) _ ?_
    show Steps p.tables e below (s₁.setTop (mkF m 8 #[.val (.long q), .second, .val (.int (128 : Int32))] [(.long (-128 : Int64)), (.long q)])) tg
    refine XS.lcmp X0.here hx rfl (hb hby d_jdk_35_method_24_code_8) rfl ?_
    show Steps p.tables e below (s₁.setTop (mkF m 9 #[.val (.long q), .second, .val (.int (128 : Int32))] [(.int (lcmpW q (-128 : Int64)))])) tg
    exact kg
  refine gs c1 ?_
  by_cases hc2 : (lcmpW q (-128 : Int64)) < (0 : Int32)
  · have c3 : ∀ tg, Steps p.tables e below (s₁.setTop (mkF m 31 #[.val (.long q), .second, .val (.int (128 : Int32))] [])) tg → Steps p.tables e below (s₁.setTop (mkF m 9 #[.val (.long q), .second, .val (.int (128 : Int32))] [(.int (lcmpW q (-128 : Int64)))])) tg := fun tg kg => by
      refine XS.ifYes X0.here hx rfl (pc0 := 9) (pc' := 31) rfl (hb hby d_jdk_35_method_24_code_9) rfl ((if0 _ _).trans (tlt hc2).1) (by decide) (by decide) ?_
      show Steps p.tables e below (s₁.setTop (mkF m 31 #[.val (.long q), .second, .val (.int (128 : Int32))] [])) tg
      exact kg
    refine gs c3 ?_
    obtain ⟨T4, h4, X4, e4, E4, A4, D4, -, st4⟩ := newO X0 hx hZ hown (hw _ (List.mem_of_getElem? (i := 61) rfl)) (hw _ (List.mem_of_getElem? (i := 62) rfl)) (hw _ (List.mem_of_getElem? (i := 55) rfl)) e0 (g := (mkF m 31 #[.val (.long q), .second, .val (.int (128 : Int32))] [])) rfl (hb hby d_jdk_35_method_24_code_31) (by decide) (by decide)
    obtain ⟨b4, q4⟩ : ∃ z, z = h0.size := ⟨_, rfl⟩
    rw [← q4] at A4 D4 st4
    have g_b4 : n0 ≤ b4 := Nat.le_trans Z0 (Nat.le_of_eq q4.symm)
    have sz_b4 : h0.size ≤ b4 := Nat.le_trans K0.1 (Nat.le_of_eq q4.symm)
    have Z5 : n0 ≤ h4.size := Nat.le_trans Z0 E4.1
    have O5 : Old Z n0 h4 := O0.ext E4
    have K5 : Keep h0 h4 [] := K0.ext E4
    have F_value_b4 : Fld Z h4 b4 "java/lang/Long" "value" "J" (.long (0 : Int64)) := D4 (Or.inr (hw _ (List.mem_of_getElem? (i := 75) rfl))) (ty := .long) (by decide)
    refine gs st4 ?_
    show OwnGo p e below s _ _ _ (T4.setTop (mkF m 34 #[.val (.long q), .second, .val (.int (128 : Int32))] [(.ref b4)]))
    have c6 : ∀ tg, Steps p.tables e below (T4.setTop (mkF m 36 #[.val (.long q), .second, .val (.int (128 : Int32))] [(.long q), (.ref b4), (.ref b4)])) tg → Steps p.tables e below (T4.setTop (mkF m 34 #[.val (.long q), .second, .val (.int (128 : Int32))] [(.ref b4)])) tg := fun tg kg => by
      refine XS.dup X4.here hx rfl (hb hby d_jdk_35_method_24_code_34) rfl rfl ?_
      show Steps p.tables e below (T4.setTop (mkF m 35 #[.val (.long q), .second, .val (.int (128 : Int32))] [(.ref b4), (.ref b4)])) tg
      refine XS.lloadN X4.here hx rfl (hb hby d_jdk_35_method_24_code_35) rfl ?_
      show Steps p.tables e below (T4.setTop (mkF m 36 #[.val (.long q), .second, .val (.int (128 : Int32))] [(.long q), (.ref b4), (.ref b4)])) tg
      exact kg
    refine gs c6 ?_
    obtain ⟨_, _, ⟨T7, L7, k7, n7⟩, -, X7, ⟨Lc7, hQ7, l7, y7, z7⟩, st7⟩ := X4.specialBack hx (y := (⟨"java/lang/Long", "<init>", "(J)V"⟩ : MethodName)) rfl hown (mvT hZ (hw _ (List.mem_of_getElem? (i := 63) rfl))) (mvT hZ (hw _ (List.mem_of_getElem? (i := 64) rfl))) (mvT hZ (hw _ (List.mem_of_getElem? (i := 66) rfl))) (by decide) (backC (W := 1) (rm_long l Z a0 hw [] b4 q h4 n0 Z5 O5 A4 F_value_b4 g_b4) hZ (hw _ (List.mem_of_getElem? (i := 66) rfl)) (hw _ (List.mem_of_getElem? (i := 55) rfl)) (by decide) (by decide)) (g := (mkF m 36 #[.val (.long q), .second, .val (.int (128 : Int32))] [(.long q), (.ref b4), (.ref b4)])) rfl (by rw [hml]; rfl) (Steps.refl _) (a := b4) (argsL := [(.long q)]) (rest := [(.ref b4)]) (lenOf pd_30 rfl) rfl (by show 2 * 0 + _ ≤ _; exact Nat.le_of_eq rfl) (hb hby d_jdk_35_method_24_code_36) (fun _ _ => ⟨rfl, e4, (by decide : 1 + 0 ≤ _), (by decide : 1 + 0 ≤ _)⟩)
    dsimp only [Pt.U, Pt.locs, Pt.cells, Pt.slots] at X7 l7 y7 z7 st7 hQ7
    subst l7 y7 z7
    obtain ⟨rfl, N7q, K7q⟩ := hQ7
    have N7 := Fr.app N0 N7q
    have Z8 : n0 ≤ T7.heap.size := Nat.le_trans Z5 K7q.1
    have O8 : Old Z n0 T7.heap := O5.keep K7q (allS g_b4 all0)
    have K8 : Keep h0 T7.heap [] := K5.trans K7q (allS (Or.inr sz_b4) all0)
    refine gs (fun _ k => st7.trans k) ?_
    show OwnGo p e below s _ _ _ (T7.setTop (mkF m 39 #[.val (.long q), .second, .val (.int (128 : Int32))] [(.ref b4)]))
    refine gout (v := some (.ref b4)) X7 Bd.notSynchronized (fun h => by rw [Bd.returns] at h; cases h) (by decide) (by decide) ?_ (fun fs hr => retOut X7 hx Bd.returns rfl (Or.inr (Or.inr (Or.inr (Or.inr ⟨rfl, rfl, rfl⟩)))) (hb hby d_jdk_35_method_24_code_39) hr)
    exact ⟨_, rfl, N7, K8⟩
  · have c9 : ∀ tg, Steps p.tables e below (s₁.setTop (mkF m 17 #[.val (.long q), .second, .val (.int (128 : Int32))] [(.int (lcmpW q (127 : Int64)))])) tg → Steps p.tables e below (s₁.setTop (mkF m 9 #[.val (.long q), .second, .val (.int (128 : Int32))] [(.int (lcmpW q (-128 : Int64)))])) tg := fun tg kg => by
      refine XS.ifNo X0.here hx rfl (hb hby d_jdk_35_method_24_code_9) rfl ((if0 _ _).trans (flt hc2).1) ?_
      show Steps p.tables e below (s₁.setTop (mkF m 12 #[.val (.long q), .second, .val (.int (128 : Int32))] [])) tg
      refine XS.lloadN X0.here hx rfl (hb hby d_jdk_35_method_24_code_12) rfl ?_
      show Steps p.tables e below (s₁.setTop (mkF m 13 #[.val (.long q), .second, .val (.int (128 : Int32))] [(.long q)])) tg
      refine X0.ldc2Long hx hown (mvT hZ (hw _ (List.mem_of_getElem? (i := 58) rfl))) (g := (mkF m 13 #[.val (.long q), .second, .val (.int (128 : Int32))] [(.long q)])) rfl (hb hby d_jdk_35_method_24_code_13) _ ?_
      show Steps p.tables e below (s₁.setTop (mkF m 16 #[.val (.long q), .second, .val (.int (128 : Int32))] [(.long (127 : Int64)), (.long q)])) tg
      refine XS.lcmp X0.here hx rfl (hb hby d_jdk_35_method_24_code_16) rfl ?_
      show Steps p.tables e below (s₁.setTop (mkF m 17 #[.val (.long q), .second, .val (.int (128 : Int32))] [(.int (lcmpW q (127 : Int64)))])) tg
      exact kg
    refine gs c9 ?_
    by_cases hc10 : (0 : Int32) < (lcmpW q (127 : Int64))
    · have c11 : ∀ tg, Steps p.tables e below (s₁.setTop (mkF m 31 #[.val (.long q), .second, .val (.int (128 : Int32))] [])) tg → Steps p.tables e below (s₁.setTop (mkF m 17 #[.val (.long q), .second, .val (.int (128 : Int32))] [(.int (lcmpW q (127 : Int64)))])) tg := fun tg kg => by
        refine XS.ifYes X0.here hx rfl (pc0 := 17) (pc' := 31) rfl (hb hby d_jdk_35_method_24_code_17) rfl ((if0 _ _).trans (tlt hc10).2.2.1) (by decide) (by decide) ?_
        show Steps p.tables e below (s₁.setTop (mkF m 31 #[.val (.long q), .second, .val (.int (128 : Int32))] [])) tg
        exact kg
      refine gs c11 ?_
      obtain ⟨T12, h12, X12, e12, E12, A12, D12, -, st12⟩ := newO X0 hx hZ hown (hw _ (List.mem_of_getElem? (i := 61) rfl)) (hw _ (List.mem_of_getElem? (i := 62) rfl)) (hw _ (List.mem_of_getElem? (i := 55) rfl)) e0 (g := (mkF m 31 #[.val (.long q), .second, .val (.int (128 : Int32))] [])) rfl (hb hby d_jdk_35_method_24_code_31) (by decide) (by decide)
      obtain ⟨b12, q12⟩ : ∃ z, z = h0.size := ⟨_, rfl⟩
      rw [← q12] at A12 D12 st12
      have g_b12 : n0 ≤ b12 := Nat.le_trans Z0 (Nat.le_of_eq q12.symm)
      have sz_b12 : h0.size ≤ b12 := Nat.le_trans K0.1 (Nat.le_of_eq q12.symm)
      have Z13 : n0 ≤ h12.size := Nat.le_trans Z0 E12.1
      have O13 : Old Z n0 h12 := O0.ext E12
      have K13 : Keep h0 h12 [] := K0.ext E12
      have F_value_b12 : Fld Z h12 b12 "java/lang/Long" "value" "J" (.long (0 : Int64)) := D12 (Or.inr (hw _ (List.mem_of_getElem? (i := 75) rfl))) (ty := .long) (by decide)
      refine gs st12 ?_
      show OwnGo p e below s _ _ _ (T12.setTop (mkF m 34 #[.val (.long q), .second, .val (.int (128 : Int32))] [(.ref b12)]))
      have c14 : ∀ tg, Steps p.tables e below (T12.setTop (mkF m 36 #[.val (.long q), .second, .val (.int (128 : Int32))] [(.long q), (.ref b12), (.ref b12)])) tg → Steps p.tables e below (T12.setTop (mkF m 34 #[.val (.long q), .second, .val (.int (128 : Int32))] [(.ref b12)])) tg := fun tg kg => by
        refine XS.dup X12.here hx rfl (hb hby d_jdk_35_method_24_code_34) rfl rfl ?_
        show Steps p.tables e below (T12.setTop (mkF m 35 #[.val (.long q), .second, .val (.int (128 : Int32))] [(.ref b12), (.ref b12)])) tg
        refine XS.lloadN X12.here hx rfl (hb hby d_jdk_35_method_24_code_35) rfl ?_
        show Steps p.tables e below (T12.setTop (mkF m 36 #[.val (.long q), .second, .val (.int (128 : Int32))] [(.long q), (.ref b12), (.ref b12)])) tg
        exact kg
      refine gs c14 ?_
      obtain ⟨_, _, ⟨T15, L15, k15, n15⟩, -, X15, ⟨Lc15, hQ15, l15, y15, z15⟩, st15⟩ := X12.specialBack hx (y := (⟨"java/lang/Long", "<init>", "(J)V"⟩ : MethodName)) rfl hown (mvT hZ (hw _ (List.mem_of_getElem? (i := 63) rfl))) (mvT hZ (hw _ (List.mem_of_getElem? (i := 64) rfl))) (mvT hZ (hw _ (List.mem_of_getElem? (i := 66) rfl))) (by decide) (backC (W := 1) (rm_long l Z a0 hw [] b12 q h12 n0 Z13 O13 A12 F_value_b12 g_b12) hZ (hw _ (List.mem_of_getElem? (i := 66) rfl)) (hw _ (List.mem_of_getElem? (i := 55) rfl)) (by decide) (by decide)) (g := (mkF m 36 #[.val (.long q), .second, .val (.int (128 : Int32))] [(.long q), (.ref b12), (.ref b12)])) rfl (by rw [hml]; rfl) (Steps.refl _) (a := b12) (argsL := [(.long q)]) (rest := [(.ref b12)]) (lenOf pd_30 rfl) rfl (by show 2 * 0 + _ ≤ _; exact Nat.le_of_eq rfl) (hb hby d_jdk_35_method_24_code_36) (fun _ _ => ⟨rfl, e12, (by decide : 1 + 0 ≤ _), (by decide : 1 + 0 ≤ _)⟩)
      dsimp only [Pt.U, Pt.locs, Pt.cells, Pt.slots] at X15 l15 y15 z15 st15 hQ15
      subst l15 y15 z15
      obtain ⟨rfl, N15q, K15q⟩ := hQ15
      have N15 := Fr.app N0 N15q
      have Z16 : n0 ≤ T15.heap.size := Nat.le_trans Z13 K15q.1
      have O16 : Old Z n0 T15.heap := O13.keep K15q (allS g_b12 all0)
      have K16 : Keep h0 T15.heap [] := K13.trans K15q (allS (Or.inr sz_b12) all0)
      refine gs (fun _ k => st15.trans k) ?_
      show OwnGo p e below s _ _ _ (T15.setTop (mkF m 39 #[.val (.long q), .second, .val (.int (128 : Int32))] [(.ref b12)]))
      refine gout (v := some (.ref b12)) X15 Bd.notSynchronized (fun h => by rw [Bd.returns] at h; cases h) (by decide) (by decide) ?_ (fun fs hr => retOut X15 hx Bd.returns rfl (Or.inr (Or.inr (Or.inr (Or.inr ⟨rfl, rfl, rfl⟩)))) (hb hby d_jdk_35_method_24_code_39) hr)
      exact ⟨_, rfl, N15, K16⟩
    · have c17 : ∀ tg, Steps p.tables e below (s₁.setTop (mkF m 20 #[.val (.long q), .second, .val (.int (128 : Int32))] [])) tg → Steps p.tables e below (s₁.setTop (mkF m 17 #[.val (.long q), .second, .val (.int (128 : Int32))] [(.int (lcmpW q (127 : Int64)))])) tg := fun tg kg => by
        refine XS.ifNo X0.here hx rfl (hb hby d_jdk_35_method_24_code_17) rfl ((if0 _ _).trans (flt hc10).2.2.1) ?_
        show Steps p.tables e below (s₁.setTop (mkF m 20 #[.val (.long q), .second, .val (.int (128 : Int32))] [])) tg
        exact kg
      refine gs c17 ?_
      obtain ⟨T18, X18, e18, st18⟩ := getS2 X0 hx hZ hown (host := "") (Or.inl (hw _ (List.mem_of_getElem? (i := 59) rfl))) Via.refl e0 (S_c.ext O0.2) (g := (mkF m 20 #[.val (.long q), .second, .val (.int (128 : Int32))] [])) rfl (hb hby d_jdk_35_method_24_code_20)
      refine gs st18 ?_
      show OwnGo p e below s _ _ _ (T18.setTop (mkF m 23 #[.val (.long q), .second, .val (.int (128 : Int32))] [(.ref ca)]))
      have c19 : ∀ tg, Steps p.tables e below (T18.setTop (mkF m 29 #[.val (.long q), .second, .val (.int (128 : Int32))] [(.int ((q.toInt32) + (128 : Int32))), (.ref ca)])) tg → Steps p.tables e below (T18.setTop (mkF m 23 #[.val (.long q), .second, .val (.int (128 : Int32))] [(.ref ca)])) tg := fun tg kg => by
        refine XS.lloadN X18.here hx rfl (hb hby d_jdk_35_method_24_code_23) rfl ?_
        show Steps p.tables e below (T18.setTop (mkF m 24 #[.val (.long q), .second, .val (.int (128 : Int32))] [(.long q), (.ref ca)])) tg
        refine XS.l2i X18.here hx rfl (hb hby d_jdk_35_method_24_code_24) rfl ?_
        show Steps p.tables e below (T18.setTop (mkF m 25 #[.val (.long q), .second, .val (.int (128 : Int32))] [(.int (q.toInt32)), (.ref ca)])) tg
        refine XS.sipush X18.here hx rfl (hb hby d_jdk_35_method_24_code_25) ?_
        show Steps p.tables e below (T18.setTop (mkF m 28 #[.val (.long q), .second, .val (.int (128 : Int32))] [(.int (128 : Int32)), (.int (q.toInt32)), (.ref ca)])) tg
        refine XS.iadd X18.here hx rfl (hb hby d_jdk_35_method_24_code_28) rfl ?_
        show Steps p.tables e below (T18.setTop (mkF m 29 #[.val (.long q), .second, .val (.int (128 : Int32))] [(.int ((q.toInt32) + (128 : Int32))), (.ref ca)])) tg
        exact kg
      refine gs c19 ?_
      have Ax := Bx.ext O0.2
      have hin := inb_of Ax.2.1 (own_ix q hc2 hc10)
      obtain ⟨bx, hat, -⟩ := Bx.2.2.2 _ hin
      have c20 : ∀ tg, Steps p.tables e below (T18.setTop (mkF m 30 #[.val (.long q), .second, .val (.int (128 : Int32))] [(.ref bx)])) tg → Steps p.tables e below (T18.setTop (mkF m 29 #[.val (.long q), .second, .val (.int (128 : Int32))] [(.int ((q.toInt32) + (128 : Int32))), (.ref ca)])) tg := fun tg kg => by
        refine X18.aaload hx (j := ((q.toInt32) + (128 : Int32))) (v := (.ref bx)) (by rw [e18]; exact Ax.1.1) (State.isArrayOf_alike hZ.alike Ax.1.2.1) rfl Ax.1.2.2 hin hat (g := (mkF m 29 #[.val (.long q), .second, .val (.int (128 : Int32))] [(.int ((q.toInt32) + (128 : Int32))), (.ref ca)])) rfl rfl (hb hby d_jdk_35_method_24_code_29) _ ?_
        show Steps p.tables e below (T18.setTop (mkF m 30 #[.val (.long q), .second, .val (.int (128 : Int32))] [(.ref bx)])) tg
        exact kg
      refine gs c20 ?_
      refine gout (v := some (.ref bx)) X18 Bd.notSynchronized (fun h => by rw [Bd.returns] at h; cases h) (by decide) (by decide) ?_ (fun fs hr => retOut X18 hx Bd.returns rfl (Or.inr (Or.inr (Or.inr (Or.inr ⟨rfl, rfl, rfl⟩)))) (hb hby d_jdk_35_method_24_code_30) hr)
      rw [e18]
      exact ⟨_, rfl, N0, K0⟩
theorem ef_43 (m : MethodId) (x0 : Addr) (x1 : Int64) (x2 : Addr) (x3 : Addr) : entryFrame m #[(.ref x0), (.long x1), (.ref x2), (.ref x3)] 5 = mkF m 0 #[.val (.ref x0), .val (.long x1), .second, .val (.ref x2), .val (.ref x3)] [] := by first | (simp [entryFrame, mkF, argsToLocals, Value.category]; done) | rfl
theorem d_prog_16_method_1_code_0 : decode prog_16_method_1_code 0 = .ok (.aload_n 0, 1) := by decide +kernel
theorem d_prog_16_method_1_code_1 : decode prog_16_method_1_code 1 = .ok (.invokespecial 1, 3) := by decide +kernel
theorem d_prog_16_method_1_code_4 : decode prog_16_method_1_code 4 = .ok (.aload_n 0, 1) := by decide +kernel
theorem d_prog_16_method_1_code_5 : decode prog_16_method_1_code 5 = .ok (.lload_n 1, 1) := by decide +kernel
theorem d_prog_16_method_1_code_6 : decode prog_16_method_1_code 6 = .ok (.putfield 7, 3) := by decide +kernel
theorem d_prog_16_method_1_code_9 : decode prog_16_method_1_code 9 = .ok (.aload_n 0, 1) := by decide +kernel
theorem d_prog_16_method_1_code_10 : decode prog_16_method_1_code 10 = .ok (.aload_n 3, 1) := by decide +kernel
theorem d_prog_16_method_1_code_11 : decode prog_16_method_1_code 11 = .ok (.putfield 13, 3) := by decide +kernel
theorem d_prog_16_method_1_code_14 : decode prog_16_method_1_code 14 = .ok (.aload_n 0, 1) := by decide +kernel
theorem d_prog_16_method_1_code_15 : decode prog_16_method_1_code 15 = .ok (.aload 4, 2) := by decide +kernel
theorem d_prog_16_method_1_code_17 : decode prog_16_method_1_code 17 = .ok (.putfield 17, 3) := by decide +kernel
theorem d_prog_16_method_1_code_20 : decode prog_16_method_1_code 20 = .ok (.return_, 1) := by decide +kernel
theorem pn_56 : plainName "com/example/ledgergate/ledgergate/access/User" = true := by first | (simp [plainName, overriddenIn]; done) | decide +kernel
set_option maxRecDepth 65536 in
set_option maxHeartbeats 40000000 in
theorem rm_user_ref (l : Launch) (Z : State) (a0 : Array Value) (hw : ∀ d ∈ tables_1, d.before a0 Z = true) (ws : List Jvm.Cond) (a : Addr) (q : Int64) (t : Addr) (s1 : Addr) (h0 : Heap) (n0 : Nat) (Z0 : n0 ≤ h0.size) (O0 : Old Z n0 h0) (E_a : Exa Z h0 a "com/example/ledgergate/ledgergate/access/User") (F_0 : Fld Z h0 a "com/example/ledgergate/ledgergate/access/User" "id" "J" (.long (0 : Int64))) (F_1 : Fld Z h0 a "com/example/ledgergate/ledgergate/access/User" "tenantId" "Ljava/lang/Long;" .null) (F_2 : Fld Z h0 a "com/example/ledgergate/ledgergate/access/User" "loginName" "Ljava/lang/String;" .null) (g_a : n0 ≤ a) :
    Ctr l Z (⟨"com/example/ledgergate/ledgergate/access/User", "<init>", "(JLjava/lang/Long;Ljava/lang/String;)V"⟩ : MethodName) prog_16_method_1_code 5 ((Option.none : Option Jvm.ClassFile.FieldType)) ws ({ frames := 2, cells := 0, slots := 0, locals := 24 } : Room) #[(.ref a), (.long q), (.ref t), (.ref s1)] h0 (fun v h L => v = none ∧ Fr n0 L ∧ Keep h0 h [a] ∧ Fld Z h a "com/example/ledgergate/ledgergate/access/User" "tenantId" "Ljava/lang/Long;" (.ref t)) := by
  refine Ctr.of (MetFree.of_bodySF (plainFor_of_name pn_56) hisR ?_)
  intro p e s m args below meth c s₁ Bd hml0 hP hK
  obtain ⟨rfl, hZ, hh⟩ := hP
  have hx := Bd.exec
  have hby := Bd.bytes
  have hml : c.maxLocals = 5 := hml0
  have hown : s.vm.findClass "com/example/ledgergate/ledgergate/access/User" = some m.cls := findClass_of_methodNamed Bd.named
  have hnm := (name_of_methodNamed Bd.named Bd.method).1
  have X0 : Stand p l e ({ frames := 2, cells := 0, slots := 0, locals := 24 } : Room) s m #[(.ref a), (.long q), (.ref t), (.ref s1)] below meth c s₁ [] 0 0 := Stand.of_body Bd
  have e0 : s₁.heap = h0 := by rw [← hh, Bd.state]; rfl
  have N0 := Fr.nil n0
  have K0 : Keep h0 h0 [a] := Keep.refl h0 [a]
  show OwnGo p e below s (fun v h L => v = none ∧ Fr n0 L ∧ Keep h0 h [a] ∧ Fld Z h a "com/example/ledgergate/ledgergate/access/User" "tenantId" "Ljava/lang/Long;" (.ref t)) ({ frames := 2, cells := 0, slots := 0, locals := 24 } : Room).cells ({ frames := 2, cells := 0, slots := 0, locals := 24 } : Room).slots _
  refine gs (S' := s₁.setTop (mkF m 0 #[.val (.ref a), .val (.long q), .second, .val (.ref t), .val (.ref s1)] [])) (fun tg kg => castTop (ef_43 m a q t s1) kg) ?_
  have c1 : ∀ tg, Steps p.tables e below (s₁.setTop (mkF m 1 #[.val (.ref a), .val (.long q), .second, .val (.ref t), .val (.ref s1)] [(.ref a)])) tg → Steps p.tables e below (s₁.setTop (mkF m 0 #[.val (.ref a), .val (.long q), .second, .val (.ref t), .val (.ref s1)] [])) tg := fun tg kg => by
    refine XS.aloadN X0.here hx rfl (hb hby d_prog_16_method_1_code_0) rfl rfl ?_
    show Steps p.tables e below (s₁.setTop (mkF m 1 #[.val (.ref a), .val (.long q), .second, .val (.ref t), .val (.ref s1)] [(.ref a)])) tg
    exact kg
  refine gs c1 ?_
  obtain ⟨_, _, ⟨T2, L2, k2, n2⟩, -, X2, ⟨Lc2, hQ2, l2, y2, z2⟩, st2⟩ := X0.specialBack hx (y := (⟨"java/lang/Record", "<init>", "()V"⟩ : MethodName)) rfl hown (mvT hZ (hw _ (List.mem_of_getElem? (i := 36) rfl))) (mvT hZ (hw _ (List.mem_of_getElem? (i := 37) rfl))) (mvT hZ (hw _ (List.mem_of_getElem? (i := 40) rfl))) (by decide) (backC (W := 0) (rm_rec l Z a0 hw [] a h0 n0 Z0 O0 ) hZ (hw _ (List.mem_of_getElem? (i := 40) rfl)) (hw _ (List.mem_of_getElem? (i := 39) rfl)) (by decide) (by decide)) (g := (mkF m 1 #[.val (.ref a), .val (.long q), .second, .val (.ref t), .val (.ref s1)] [(.ref a)])) rfl (by rw [hml]; rfl) (Steps.refl _) (a := a) (argsL := []) (rest := []) (lenOf pd_13 rfl) rfl (by show 2 * 0 + _ ≤ _; exact Nat.le_of_eq rfl) (hb hby d_prog_16_method_1_code_1) (fun _ _ => ⟨rfl, e0, (by decide : 0 + 0 ≤ _), (by decide : 0 + 0 ≤ _)⟩)
  dsimp only [Pt.U, Pt.locs, Pt.cells, Pt.slots] at X2 l2 y2 z2 st2 hQ2
  subst l2 y2 z2
  obtain ⟨rfl, N2q, K2q⟩ := hQ2
  have N2 := Fr.app N0 N2q
  have Z3 : n0 ≤ T2.heap.size := Nat.le_trans Z0 K2q.1
  have O3 : Old Z n0 T2.heap := O0.keep K2q all0
  have K3 : Keep h0 T2.heap [a] := K0.trans K2q all0
  refine gs (fun _ k => st2.trans k) ?_
  show OwnGo p e below s _ _ _ (T2.setTop (mkF m 4 #[.val (.ref a), .val (.long q), .second, .val (.ref t), .val (.ref s1)] []))
  have c4 : ∀ tg, Steps p.tables e below (T2.setTop (mkF m 6 #[.val (.ref a), .val (.long q), .second, .val (.ref t), .val (.ref s1)] [(.long q), (.ref a)])) tg → Steps p.tables e below (T2.setTop (mkF m 4 #[.val (.ref a), .val (.long q), .second, .val (.ref t), .val (.ref s1)] [])) tg := fun tg kg => by
    refine XS.aloadN X2.here hx rfl (hb hby d_prog_16_method_1_code_4) rfl rfl ?_
    show Steps p.tables e below (T2.setTop (mkF m 5 #[.val (.ref a), .val (.long q), .second, .val (.ref t), .val (.ref s1)] [(.ref a)])) tg
    refine XS.lloadN X2.here hx rfl (hb hby d_prog_16_method_1_code_5) rfl ?_
    show Steps p.tables e below (T2.setTop (mkF m 6 #[.val (.ref a), .val (.long q), .second, .val (.ref t), .val (.ref s1)] [(.long q), (.ref a)])) tg
    exact kg
  refine gs c4 ?_
  have f5 := (F_0.keep K2q nin0)
  have f6 := (E_a.keep K2q)
  obtain ⟨T7, h7, X7, e7, W7, st7⟩ := putF X2 hx hZ hown (host := "") (Or.inl (hw _ (List.mem_of_getElem? (i := 42) rfl))) Via.refl rfl f5 f6 (Or.inr ⟨(hw _ (List.mem_of_getElem? (i := 43) rfl)), rfl, hnm⟩) (hw _ (List.mem_of_getElem? (i := 31) rfl)) (ty := .long) (by decide) rfl rfl (g := (mkF m 6 #[.val (.ref a), .val (.long q), .second, .val (.ref t), .val (.ref s1)] [(.long q), (.ref a)])) rfl rfl (hb hby d_prog_16_method_1_code_6)
  have N7 := Fr.snoc X7 N2 g_a
  have Fw7 := f5.same W7
  have Z8 : n0 ≤ h7.size := Nat.le_trans Z3 (Keep.of_wr W7).1
  have O8 : Old Z n0 h7 := O3.wr W7 g_a
  have K8 : Keep h0 h7 [a] := K3.wr W7 (Or.inl (List.mem_of_getElem? (i := 0) rfl))
  refine gs st7 ?_
  show OwnGo p e below s _ _ _ (T7.setTop (mkF m 9 #[.val (.ref a), .val (.long q), .second, .val (.ref t), .val (.ref s1)] []))
  have c9 : ∀ tg, Steps p.tables e below (T7.setTop (mkF m 11 #[.val (.ref a), .val (.long q), .second, .val (.ref t), .val (.ref s1)] [(.ref t), (.ref a)])) tg → Steps p.tables e below (T7.setTop (mkF m 9 #[.val (.ref a), .val (.long q), .second, .val (.ref t), .val (.ref s1)] [])) tg := fun tg kg => by
    refine XS.aloadN X7.here hx rfl (hb hby d_prog_16_method_1_code_9) rfl rfl ?_
    show Steps p.tables e below (T7.setTop (mkF m 10 #[.val (.ref a), .val (.long q), .second, .val (.ref t), .val (.ref s1)] [(.ref a)])) tg
    refine XS.aloadN X7.here hx rfl (hb hby d_prog_16_method_1_code_10) rfl rfl ?_
    show Steps p.tables e below (T7.setTop (mkF m 11 #[.val (.ref a), .val (.long q), .second, .val (.ref t), .val (.ref s1)] [(.ref t), (.ref a)])) tg
    exact kg
  refine gs c9 ?_
  have f10 := ((F_1.keep K2q nin0).other W7 (Or.inr (slot_ne (Or.inr (hw _ (List.mem_of_getElem? (i := 45) rfl))) (Or.inr (hw _ (List.mem_of_getElem? (i := 43) rfl))) (by decide) (t := (.object "java/lang/Long")) (t' := .long) (by decide) (by decide))))
  have f11 := (f6.wr W7)
  obtain ⟨T12, h12, X12, e12, W12, st12⟩ := putF X7 hx hZ hown (host := "") (Or.inl (hw _ (List.mem_of_getElem? (i := 44) rfl))) Via.refl e7 f10 f11 (Or.inr ⟨(hw _ (List.mem_of_getElem? (i := 45) rfl)), rfl, hnm⟩) (hw _ (List.mem_of_getElem? (i := 31) rfl)) (ty := (.object "java/lang/Long")) (by decide) rfl rfl (g := (mkF m 11 #[.val (.ref a), .val (.long q), .second, .val (.ref t), .val (.ref s1)] [(.ref t), (.ref a)])) rfl rfl (hb hby d_prog_16_method_1_code_11)
  have N12 := Fr.snoc X12 N7 g_a
  have Fw12 := f10.same W12
  have Z13 : n0 ≤ h12.size := Nat.le_trans Z8 (Keep.of_wr W12).1
  have O13 : Old Z n0 h12 := O8.wr W12 g_a
  have K13 : Keep h0 h12 [a] := K8.wr W12 (Or.inl (List.mem_of_getElem? (i := 0) rfl))
  refine gs st12 ?_
  show OwnGo p e below s _ _ _ (T12.setTop (mkF m 14 #[.val (.ref a), .val (.long q), .second, .val (.ref t), .val (.ref s1)] []))
  have c14 : ∀ tg, Steps p.tables e below (T12.setTop (mkF m 17 #[.val (.ref a), .val (.long q), .second, .val (.ref t), .val (.ref s1)] [(.ref s1), (.ref a)])) tg → Steps p.tables e below (T12.setTop (mkF m 14 #[.val (.ref a), .val (.long q), .second, .val (.ref t), .val (.ref s1)] [])) tg := fun tg kg => by
    refine XS.aloadN X12.here hx rfl (hb hby d_prog_16_method_1_code_14) rfl rfl ?_
    show Steps p.tables e below (T12.setTop (mkF m 15 #[.val (.ref a), .val (.long q), .second, .val (.ref t), .val (.ref s1)] [(.ref a)])) tg
    refine XS.aload X12.here hx rfl (hb hby d_prog_16_method_1_code_15) rfl rfl ?_
    show Steps p.tables e below (T12.setTop (mkF m 17 #[.val (.ref a), .val (.long q), .second, .val (.ref t), .val (.ref s1)] [(.ref s1), (.ref a)])) tg
    exact kg
  refine gs c14 ?_
  have f15 := (((F_2.keep K2q nin0).other W7 (Or.inr (slot_ne (Or.inr (hw _ (List.mem_of_getElem? (i := 47) rfl))) (Or.inr (hw _ (List.mem_of_getElem? (i := 43) rfl))) (by decide) (t := (.object "java/lang/String")) (t' := .long) (by decide) (by decide)))).other W12 (Or.inr (slot_ne (Or.inr (hw _ (List.mem_of_getElem? (i := 47) rfl))) (Or.inr (hw _ (List.mem_of_getElem? (i := 45) rfl))) (by decide) (t := (.object "java/lang/String")) (t' := (.object "java/lang/Long")) (by decide) (by decide))))
  have f16 := (f11.wr W12)
  obtain ⟨T17, h17, X17, e17, W17, st17⟩ := putF X12 hx hZ hown (host := "") (Or.inl (hw _ (List.mem_of_getElem? (i := 46) rfl))) Via.refl e12 f15 f16 (Or.inr ⟨(hw _ (List.mem_of_getElem? (i := 47) rfl)), rfl, hnm⟩) (hw _ (List.mem_of_getElem? (i := 31) rfl)) (ty := (.object "java/lang/String")) (by decide) rfl rfl (g := (mkF m 17 #[.val (.ref a), .val (.long q), .second, .val (.ref t), .val (.ref s1)] [(.ref s1), (.ref a)])) rfl rfl (hb hby d_prog_16_method_1_code_17)
  have N17 := Fr.snoc X17 N12 g_a
  have Fw17 := f15.same W17
  have Z18 : n0 ≤ h17.size := Nat.le_trans Z13 (Keep.of_wr W17).1
  have O18 : Old Z n0 h17 := O13.wr W17 g_a
  have K18 : Keep h0 h17 [a] := K13.wr W17 (Or.inl (List.mem_of_getElem? (i := 0) rfl))
  refine gs st17 ?_
  show OwnGo p e below s _ _ _ (T17.setTop (mkF m 20 #[.val (.ref a), .val (.long q), .second, .val (.ref t), .val (.ref s1)] []))
  have f19 := (Fw12.other W17 (Or.inr (slot_ne (Or.inr (hw _ (List.mem_of_getElem? (i := 45) rfl))) (Or.inr (hw _ (List.mem_of_getElem? (i := 47) rfl))) (by decide) (t := (.object "java/lang/Long")) (t' := (.object "java/lang/String")) (by decide) (by decide))))
  refine gout (v := none) X17 Bd.notSynchronized (fun _ => rfl) (by decide) (by decide) ?_ (fun fs hr => X17.returnOut hx Bd.returns (hb hby d_prog_16_method_1_code_20) hr)
  rw [e17]
  exact ⟨rfl, N17, K18, f19⟩
theorem ef_57 (m : MethodId) (x0 : Addr) : entryFrame m #[(.ref x0)] 1 = mkF m 0 #[.val (.ref x0)] [] := by first | (simp [entryFrame, mkF, argsToLocals, Value.category]; done) | rfl
theorem d_prog_16_method_2_code_0 : decode prog_16_method_2_code 0 = .ok (.aload_n 0, 1) := by decide +kernel
theorem d_prog_16_method_2_code_1 : decode prog_16_method_2_code 1 = .ok (.getfield 13, 3) := by decide +kernel
theorem d_prog_16_method_2_code_4 : decode prog_16_method_2_code 4 = .ok (.ifnonnull 7, 3) := by decide +kernel
theorem d_prog_16_method_2_code_11 : decode prog_16_method_2_code 11 = .ok (.iconst 0, 1) := by decide +kernel
theorem d_prog_16_method_2_code_12 : decode prog_16_method_2_code 12 = .ok (.ireturn, 1) := by decide +kernel
set_option maxRecDepth 65536 in
set_option maxHeartbeats 40000000 in
theorem rm_adm_ref (l : Launch) (Z : State) (a0 : Array Value) (hw : ∀ d ∈ tables_1, d.before a0 Z = true) (ws : List Jvm.Cond) (a : Addr) (t : Addr) (h0 : Heap) (n0 : Nat) (Z0 : n0 ≤ h0.size) (O0 : Old Z n0 h0) (F_t : Fld Z h0 a "com/example/ledgergate/ledgergate/access/User" "tenantId" "Ljava/lang/Long;" (.ref t)) :
    Ctr l Z (⟨"com/example/ledgergate/ledgergate/access/User", "isPlatformAdmin", "()Z"⟩ : MethodName) prog_16_method_2_code 1 ((Option.some Jvm.ClassFile.FieldType.boolean)) ws ({ frames := 0, cells := 0, slots := 0, locals := 0 } : Room) #[(.ref a)] h0 (fun v h L => v = some (.int 0) ∧ Fr n0 L ∧ Keep h0 h []) := by
  refine Ctr.of (MetFree.of_bodySF (plainFor_of_name pn_56) hisR ?_)
  intro p e s m args below meth c s₁ Bd hml0 hP hK
  obtain ⟨rfl, hZ, hh⟩ := hP
  have hx := Bd.exec
  have hby := Bd.bytes
  have hml : c.maxLocals = 1 := hml0
  have hown : s.vm.findClass "com/example/ledgergate/ledgergate/access/User" = some m.cls := findClass_of_methodNamed Bd.named
  have hnm := (name_of_methodNamed Bd.named Bd.method).1
  have X0 : Stand p l e ({ frames := 0, cells := 0, slots := 0, locals := 0 } : Room) s m #[(.ref a)] below meth c s₁ [] 0 0 := Stand.of_body Bd
  have e0 : s₁.heap = h0 := by rw [← hh, Bd.state]; rfl
  have N0 := Fr.nil n0
  have K0 : Keep h0 h0 [] := Keep.refl h0 []
  show OwnGo p e below s (fun v h L => v = some (.int 0) ∧ Fr n0 L ∧ Keep h0 h []) ({ frames := 0, cells := 0, slots := 0, locals := 0 } : Room).cells ({ frames := 0, cells := 0, slots := 0, locals := 0 } : Room).slots _
  refine gs (S' := s₁.setTop (mkF m 0 #[.val (.ref a)] [])) (fun tg kg => castTop (ef_57 m a) kg) ?_
  have c1 : ∀ tg, Steps p.tables e below (s₁.setTop (mkF m 1 #[.val (.ref a)] [(.ref a)])) tg → Steps p.tables e below (s₁.setTop (mkF m 0 #[.val (.ref a)] [])) tg := fun tg kg => by
    refine XS.aloadN X0.here hx rfl (hb hby d_prog_16_method_2_code_0) rfl rfl ?_
    show Steps p.tables e below (s₁.setTop (mkF m 1 #[.val (.ref a)] [(.ref a)])) tg
    exact kg
  refine gs c1 ?_
  obtain ⟨T2, X2, e2, st2⟩ := getF X0 hx hZ hown (host := "") (Or.inl (hw _ (List.mem_of_getElem? (i := 44) rfl))) Via.refl e0 F_t (g := (mkF m 1 #[.val (.ref a)] [(.ref a)])) rfl rfl (hb hby d_prog_16_method_2_code_1)
  refine gs st2 ?_
  show OwnGo p e below s _ _ _ (T2.setTop (mkF m 4 #[.val (.ref a)] [(.ref t)]))
  have c3 : ∀ tg, Steps p.tables e below (T2.setTop (mkF m 12 #[.val (.ref a)] [(.int (0 : Int32))])) tg → Steps p.tables e below (T2.setTop (mkF m 4 #[.val (.ref a)] [(.ref t)])) tg := fun tg kg => by
    refine XS.ifnonnullYes X2.here hx rfl (pc0 := 4) (pc' := 11) rfl (hb hby d_prog_16_method_2_code_4) rfl (by decide) (by decide) ?_
    show Steps p.tables e below (T2.setTop (mkF m 11 #[.val (.ref a)] [])) tg
    refine XS.iconst X2.here hx rfl (hb hby d_prog_16_method_2_code_11) ?_
    show Steps p.tables e below (T2.setTop (mkF m 12 #[.val (.ref a)] [(.int (0 : Int32))])) tg
    exact kg
  refine gs c3 ?_
  refine gout (v := some (.int (0 : Int32))) X2 Bd.notSynchronized (fun h => by rw [Bd.returns] at h; cases h) (by decide) (by decide) ?_ (fun fs hr => retN X2 hx (t := .boolean) Bd.returns (by simp) (hb hby d_prog_16_method_2_code_12) hr)
  rw [e2]
  exact ⟨rfl, N0, K0⟩
theorem ef_63 (m : MethodId) (x0 : Addr) (x1 : Int64) (x3 : Addr) : entryFrame m #[(.ref x0), (.long x1), .null, (.ref x3)] 5 = mkF m 0 #[.val (.ref x0), .val (.long x1), .second, .val .null, .val (.ref x3)] [] := by first | (simp [entryFrame, mkF, argsToLocals, Value.category]; done) | rfl
set_option maxRecDepth 65536 in
set_option maxHeartbeats 40000000 in
theorem rm_user_null (l : Launch) (Z : State) (a0 : Array Value) (hw : ∀ d ∈ tables_1, d.before a0 Z = true) (ws : List Jvm.Cond) (a : Addr) (q : Int64) (s1 : Addr) (h0 : Heap) (n0 : Nat) (Z0 : n0 ≤ h0.size) (O0 : Old Z n0 h0) (E_a : Exa Z h0 a "com/example/ledgergate/ledgergate/access/User") (F_0 : Fld Z h0 a "com/example/ledgergate/ledgergate/access/User" "id" "J" (.long (0 : Int64))) (F_1 : Fld Z h0 a "com/example/ledgergate/ledgergate/access/User" "tenantId" "Ljava/lang/Long;" .null) (F_2 : Fld Z h0 a "com/example/ledgergate/ledgergate/access/User" "loginName" "Ljava/lang/String;" .null) (g_a : n0 ≤ a) :
    Ctr l Z (⟨"com/example/ledgergate/ledgergate/access/User", "<init>", "(JLjava/lang/Long;Ljava/lang/String;)V"⟩ : MethodName) prog_16_method_1_code 5 ((Option.none : Option Jvm.ClassFile.FieldType)) ws ({ frames := 2, cells := 0, slots := 0, locals := 24 } : Room) #[(.ref a), (.long q), .null, (.ref s1)] h0 (fun v h L => v = none ∧ Fr n0 L ∧ Keep h0 h [a] ∧ Fld Z h a "com/example/ledgergate/ledgergate/access/User" "tenantId" "Ljava/lang/Long;" .null) := by
  refine Ctr.of (MetFree.of_bodySF (plainFor_of_name pn_56) hisR ?_)
  intro p e s m args below meth c s₁ Bd hml0 hP hK
  obtain ⟨rfl, hZ, hh⟩ := hP
  have hx := Bd.exec
  have hby := Bd.bytes
  have hml : c.maxLocals = 5 := hml0
  have hown : s.vm.findClass "com/example/ledgergate/ledgergate/access/User" = some m.cls := findClass_of_methodNamed Bd.named
  have hnm := (name_of_methodNamed Bd.named Bd.method).1
  have X0 : Stand p l e ({ frames := 2, cells := 0, slots := 0, locals := 24 } : Room) s m #[(.ref a), (.long q), .null, (.ref s1)] below meth c s₁ [] 0 0 := Stand.of_body Bd
  have e0 : s₁.heap = h0 := by rw [← hh, Bd.state]; rfl
  have N0 := Fr.nil n0
  have K0 : Keep h0 h0 [a] := Keep.refl h0 [a]
  show OwnGo p e below s (fun v h L => v = none ∧ Fr n0 L ∧ Keep h0 h [a] ∧ Fld Z h a "com/example/ledgergate/ledgergate/access/User" "tenantId" "Ljava/lang/Long;" .null) ({ frames := 2, cells := 0, slots := 0, locals := 24 } : Room).cells ({ frames := 2, cells := 0, slots := 0, locals := 24 } : Room).slots _
  refine gs (S' := s₁.setTop (mkF m 0 #[.val (.ref a), .val (.long q), .second, .val .null, .val (.ref s1)] [])) (fun tg kg => castTop (ef_63 m a q s1) kg) ?_
  have c1 : ∀ tg, Steps p.tables e below (s₁.setTop (mkF m 1 #[.val (.ref a), .val (.long q), .second, .val .null, .val (.ref s1)] [(.ref a)])) tg → Steps p.tables e below (s₁.setTop (mkF m 0 #[.val (.ref a), .val (.long q), .second, .val .null, .val (.ref s1)] [])) tg := fun tg kg => by
    refine XS.aloadN X0.here hx rfl (hb hby d_prog_16_method_1_code_0) rfl rfl ?_
    show Steps p.tables e below (s₁.setTop (mkF m 1 #[.val (.ref a), .val (.long q), .second, .val .null, .val (.ref s1)] [(.ref a)])) tg
    exact kg
  refine gs c1 ?_
  obtain ⟨_, _, ⟨T2, L2, k2, n2⟩, -, X2, ⟨Lc2, hQ2, l2, y2, z2⟩, st2⟩ := X0.specialBack hx (y := (⟨"java/lang/Record", "<init>", "()V"⟩ : MethodName)) rfl hown (mvT hZ (hw _ (List.mem_of_getElem? (i := 36) rfl))) (mvT hZ (hw _ (List.mem_of_getElem? (i := 37) rfl))) (mvT hZ (hw _ (List.mem_of_getElem? (i := 40) rfl))) (by decide) (backC (W := 0) (rm_rec l Z a0 hw [] a h0 n0 Z0 O0 ) hZ (hw _ (List.mem_of_getElem? (i := 40) rfl)) (hw _ (List.mem_of_getElem? (i := 39) rfl)) (by decide) (by decide)) (g := (mkF m 1 #[.val (.ref a), .val (.long q), .second, .val .null, .val (.ref s1)] [(.ref a)])) rfl (by rw [hml]; rfl) (Steps.refl _) (a := a) (argsL := []) (rest := []) (lenOf pd_13 rfl) rfl (by show 2 * 0 + _ ≤ _; exact Nat.le_of_eq rfl) (hb hby d_prog_16_method_1_code_1) (fun _ _ => ⟨rfl, e0, (by decide : 0 + 0 ≤ _), (by decide : 0 + 0 ≤ _)⟩)
  dsimp only [Pt.U, Pt.locs, Pt.cells, Pt.slots] at X2 l2 y2 z2 st2 hQ2
  subst l2 y2 z2
  obtain ⟨rfl, N2q, K2q⟩ := hQ2
  have N2 := Fr.app N0 N2q
  have Z3 : n0 ≤ T2.heap.size := Nat.le_trans Z0 K2q.1
  have O3 : Old Z n0 T2.heap := O0.keep K2q all0
  have K3 : Keep h0 T2.heap [a] := K0.trans K2q all0
  refine gs (fun _ k => st2.trans k) ?_
  show OwnGo p e below s _ _ _ (T2.setTop (mkF m 4 #[.val (.ref a), .val (.long q), .second, .val .null, .val (.ref s1)] []))
  have c4 : ∀ tg, Steps p.tables e below (T2.setTop (mkF m 6 #[.val (.ref a), .val (.long q), .second, .val .null, .val (.ref s1)] [(.long q), (.ref a)])) tg → Steps p.tables e below (T2.setTop (mkF m 4 #[.val (.ref a), .val (.long q), .second, .val .null, .val (.ref s1)] [])) tg := fun tg kg => by
    refine XS.aloadN X2.here hx rfl (hb hby d_prog_16_method_1_code_4) rfl rfl ?_
    show Steps p.tables e below (T2.setTop (mkF m 5 #[.val (.ref a), .val (.long q), .second, .val .null, .val (.ref s1)] [(.ref a)])) tg
    refine XS.lloadN X2.here hx rfl (hb hby d_prog_16_method_1_code_5) rfl ?_
    show Steps p.tables e below (T2.setTop (mkF m 6 #[.val (.ref a), .val (.long q), .second, .val .null, .val (.ref s1)] [(.long q), (.ref a)])) tg
    exact kg
  refine gs c4 ?_
  have f5 := (F_0.keep K2q nin0)
  have f6 := (E_a.keep K2q)
  obtain ⟨T7, h7, X7, e7, W7, st7⟩ := putF X2 hx hZ hown (host := "") (Or.inl (hw _ (List.mem_of_getElem? (i := 42) rfl))) Via.refl rfl f5 f6 (Or.inr ⟨(hw _ (List.mem_of_getElem? (i := 43) rfl)), rfl, hnm⟩) (hw _ (List.mem_of_getElem? (i := 31) rfl)) (ty := .long) (by decide) rfl rfl (g := (mkF m 6 #[.val (.ref a), .val (.long q), .second, .val .null, .val (.ref s1)] [(.long q), (.ref a)])) rfl rfl (hb hby d_prog_16_method_1_code_6)
  have N7 := Fr.snoc X7 N2 g_a
  have Fw7 := f5.same W7
  have Z8 : n0 ≤ h7.size := Nat.le_trans Z3 (Keep.of_wr W7).1
  have O8 : Old Z n0 h7 := O3.wr W7 g_a
  have K8 : Keep h0 h7 [a] := K3.wr W7 (Or.inl (List.mem_of_getElem? (i := 0) rfl))
  refine gs st7 ?_
  show OwnGo p e below s _ _ _ (T7.setTop (mkF m 9 #[.val (.ref a), .val (.long q), .second, .val .null, .val (.ref s1)] []))
  have c9 : ∀ tg, Steps p.tables e below (T7.setTop (mkF m 11 #[.val (.ref a), .val (.long q), .second, .val .null, .val (.ref s1)] [.null, (.ref a)])) tg → Steps p.tables e below (T7.setTop (mkF m 9 #[.val (.ref a), .val (.long q), .second, .val .null, .val (.ref s1)] [])) tg := fun tg kg => by
    refine XS.aloadN X7.here hx rfl (hb hby d_prog_16_method_1_code_9) rfl rfl ?_
    show Steps p.tables e below (T7.setTop (mkF m 10 #[.val (.ref a), .val (.long q), .second, .val .null, .val (.ref s1)] [(.ref a)])) tg
    refine XS.aloadN X7.here hx rfl (hb hby d_prog_16_method_1_code_10) rfl rfl ?_
    show Steps p.tables e below (T7.setTop (mkF m 11 #[.val (.ref a), .val (.long q), .second, .val .null, .val (.ref s1)] [.null, (.ref a)])) tg
    exact kg
  refine gs c9 ?_
  have f10 := ((F_1.keep K2q nin0).other W7 (Or.inr (slot_ne (Or.inr (hw _ (List.mem_of_getElem? (i := 45) rfl))) (Or.inr (hw _ (List.mem_of_getElem? (i := 43) rfl))) (by decide) (t := (.object "java/lang/Long")) (t' := .long) (by decide) (by decide))))
  have f11 := (f6.wr W7)
  obtain ⟨T12, h12, X12, e12, W12, st12⟩ := putF X7 hx hZ hown (host := "") (Or.inl (hw _ (List.mem_of_getElem? (i := 44) rfl))) Via.refl e7 f10 f11 (Or.inr ⟨(hw _ (List.mem_of_getElem? (i := 45) rfl)), rfl, hnm⟩) (hw _ (List.mem_of_getElem? (i := 31) rfl)) (ty := (.object "java/lang/Long")) (by decide) rfl rfl (g := (mkF m 11 #[.val (.ref a), .val (.long q), .second, .val .null, .val (.ref s1)] [.null, (.ref a)])) rfl rfl (hb hby d_prog_16_method_1_code_11)
  have N12 := Fr.snoc X12 N7 g_a
  have Fw12 := f10.same W12
  have Z13 : n0 ≤ h12.size := Nat.le_trans Z8 (Keep.of_wr W12).1
  have O13 : Old Z n0 h12 := O8.wr W12 g_a
  have K13 : Keep h0 h12 [a] := K8.wr W12 (Or.inl (List.mem_of_getElem? (i := 0) rfl))
  refine gs st12 ?_
  show OwnGo p e below s _ _ _ (T12.setTop (mkF m 14 #[.val (.ref a), .val (.long q), .second, .val .null, .val (.ref s1)] []))
  have c14 : ∀ tg, Steps p.tables e below (T12.setTop (mkF m 17 #[.val (.ref a), .val (.long q), .second, .val .null, .val (.ref s1)] [(.ref s1), (.ref a)])) tg → Steps p.tables e below (T12.setTop (mkF m 14 #[.val (.ref a), .val (.long q), .second, .val .null, .val (.ref s1)] [])) tg := fun tg kg => by
    refine XS.aloadN X12.here hx rfl (hb hby d_prog_16_method_1_code_14) rfl rfl ?_
    show Steps p.tables e below (T12.setTop (mkF m 15 #[.val (.ref a), .val (.long q), .second, .val .null, .val (.ref s1)] [(.ref a)])) tg
    refine XS.aload X12.here hx rfl (hb hby d_prog_16_method_1_code_15) rfl rfl ?_
    show Steps p.tables e below (T12.setTop (mkF m 17 #[.val (.ref a), .val (.long q), .second, .val .null, .val (.ref s1)] [(.ref s1), (.ref a)])) tg
    exact kg
  refine gs c14 ?_
  have f15 := (((F_2.keep K2q nin0).other W7 (Or.inr (slot_ne (Or.inr (hw _ (List.mem_of_getElem? (i := 47) rfl))) (Or.inr (hw _ (List.mem_of_getElem? (i := 43) rfl))) (by decide) (t := (.object "java/lang/String")) (t' := .long) (by decide) (by decide)))).other W12 (Or.inr (slot_ne (Or.inr (hw _ (List.mem_of_getElem? (i := 47) rfl))) (Or.inr (hw _ (List.mem_of_getElem? (i := 45) rfl))) (by decide) (t := (.object "java/lang/String")) (t' := (.object "java/lang/Long")) (by decide) (by decide))))
  have f16 := (f11.wr W12)
  obtain ⟨T17, h17, X17, e17, W17, st17⟩ := putF X12 hx hZ hown (host := "") (Or.inl (hw _ (List.mem_of_getElem? (i := 46) rfl))) Via.refl e12 f15 f16 (Or.inr ⟨(hw _ (List.mem_of_getElem? (i := 47) rfl)), rfl, hnm⟩) (hw _ (List.mem_of_getElem? (i := 31) rfl)) (ty := (.object "java/lang/String")) (by decide) rfl rfl (g := (mkF m 17 #[.val (.ref a), .val (.long q), .second, .val .null, .val (.ref s1)] [(.ref s1), (.ref a)])) rfl rfl (hb hby d_prog_16_method_1_code_17)
  have N17 := Fr.snoc X17 N12 g_a
  have Fw17 := f15.same W17
  have Z18 : n0 ≤ h17.size := Nat.le_trans Z13 (Keep.of_wr W17).1
  have O18 : Old Z n0 h17 := O13.wr W17 g_a
  have K18 : Keep h0 h17 [a] := K13.wr W17 (Or.inl (List.mem_of_getElem? (i := 0) rfl))
  refine gs st17 ?_
  show OwnGo p e below s _ _ _ (T17.setTop (mkF m 20 #[.val (.ref a), .val (.long q), .second, .val .null, .val (.ref s1)] []))
  have f19 := (Fw12.other W17 (Or.inr (slot_ne (Or.inr (hw _ (List.mem_of_getElem? (i := 45) rfl))) (Or.inr (hw _ (List.mem_of_getElem? (i := 47) rfl))) (by decide) (t := (.object "java/lang/Long")) (t' := (.object "java/lang/String")) (by decide) (by decide))))
  refine gout (v := none) X17 Bd.notSynchronized (fun _ => rfl) (by decide) (by decide) ?_ (fun fs hr => X17.returnOut hx Bd.returns (hb hby d_prog_16_method_1_code_20) hr)
  rw [e17]
  exact ⟨rfl, N17, K18, f19⟩
theorem ef_64 (m : MethodId) (x0 : Addr) : entryFrame m #[(.ref x0)] 1 = mkF m 0 #[.val (.ref x0)] [] := by first | (simp [entryFrame, mkF, argsToLocals, Value.category]; done) | rfl
theorem d_prog_16_method_2_code_7 : decode prog_16_method_2_code 7 = .ok (.iconst 1, 1) := by decide +kernel
theorem d_prog_16_method_2_code_8 : decode prog_16_method_2_code 8 = .ok (.goto 4, 3) := by decide +kernel
set_option maxRecDepth 65536 in
set_option maxHeartbeats 40000000 in
theorem rm_adm_null (l : Launch) (Z : State) (a0 : Array Value) (hw : ∀ d ∈ tables_1, d.before a0 Z = true) (ws : List Jvm.Cond) (a : Addr) (h0 : Heap) (n0 : Nat) (Z0 : n0 ≤ h0.size) (O0 : Old Z n0 h0) (F_t : Fld Z h0 a "com/example/ledgergate/ledgergate/access/User" "tenantId" "Ljava/lang/Long;" .null) :
    Ctr l Z (⟨"com/example/ledgergate/ledgergate/access/User", "isPlatformAdmin", "()Z"⟩ : MethodName) prog_16_method_2_code 1 ((Option.some Jvm.ClassFile.FieldType.boolean)) ws ({ frames := 0, cells := 0, slots := 0, locals := 0 } : Room) #[(.ref a)] h0 (fun v h L => v = some (.int 1) ∧ Fr n0 L ∧ Keep h0 h []) := by
  refine Ctr.of (MetFree.of_bodySF (plainFor_of_name pn_56) hisR ?_)
  intro p e s m args below meth c s₁ Bd hml0 hP hK
  obtain ⟨rfl, hZ, hh⟩ := hP
  have hx := Bd.exec
  have hby := Bd.bytes
  have hml : c.maxLocals = 1 := hml0
  have hown : s.vm.findClass "com/example/ledgergate/ledgergate/access/User" = some m.cls := findClass_of_methodNamed Bd.named
  have hnm := (name_of_methodNamed Bd.named Bd.method).1
  have X0 : Stand p l e ({ frames := 0, cells := 0, slots := 0, locals := 0 } : Room) s m #[(.ref a)] below meth c s₁ [] 0 0 := Stand.of_body Bd
  have e0 : s₁.heap = h0 := by rw [← hh, Bd.state]; rfl
  have N0 := Fr.nil n0
  have K0 : Keep h0 h0 [] := Keep.refl h0 []
  show OwnGo p e below s (fun v h L => v = some (.int 1) ∧ Fr n0 L ∧ Keep h0 h []) ({ frames := 0, cells := 0, slots := 0, locals := 0 } : Room).cells ({ frames := 0, cells := 0, slots := 0, locals := 0 } : Room).slots _
  refine gs (S' := s₁.setTop (mkF m 0 #[.val (.ref a)] [])) (fun tg kg => castTop (ef_64 m a) kg) ?_
  have c1 : ∀ tg, Steps p.tables e below (s₁.setTop (mkF m 1 #[.val (.ref a)] [(.ref a)])) tg → Steps p.tables e below (s₁.setTop (mkF m 0 #[.val (.ref a)] [])) tg := fun tg kg => by
    refine XS.aloadN X0.here hx rfl (hb hby d_prog_16_method_2_code_0) rfl rfl ?_
    show Steps p.tables e below (s₁.setTop (mkF m 1 #[.val (.ref a)] [(.ref a)])) tg
    exact kg
  refine gs c1 ?_
  obtain ⟨T2, X2, e2, st2⟩ := getF X0 hx hZ hown (host := "") (Or.inl (hw _ (List.mem_of_getElem? (i := 44) rfl))) Via.refl e0 F_t (g := (mkF m 1 #[.val (.ref a)] [(.ref a)])) rfl rfl (hb hby d_prog_16_method_2_code_1)
  refine gs st2 ?_
  show OwnGo p e below s _ _ _ (T2.setTop (mkF m 4 #[.val (.ref a)] [.null]))
  have c3 : ∀ tg, Steps p.tables e below (T2.setTop (mkF m 12 #[.val (.ref a)] [(.int (1 : Int32))])) tg → Steps p.tables e below (T2.setTop (mkF m 4 #[.val (.ref a)] [.null])) tg := fun tg kg => by
    refine XS.ifnonnullNo X2.here hx rfl (hb hby d_prog_16_method_2_code_4) rfl ?_
    show Steps p.tables e below (T2.setTop (mkF m 7 #[.val (.ref a)] [])) tg
    refine XS.iconst X2.here hx rfl (hb hby d_prog_16_method_2_code_7) ?_
    show Steps p.tables e below (T2.setTop (mkF m 8 #[.val (.ref a)] [(.int (1 : Int32))])) tg
    refine XS.goto X2.here hx rfl (pc0 := 8) (pc' := 12) rfl (hb hby d_prog_16_method_2_code_8) (by decide) (by decide) ?_
    show Steps p.tables e below (T2.setTop (mkF m 12 #[.val (.ref a)] [(.int (1 : Int32))])) tg
    exact kg
  refine gs c3 ?_
  refine gout (v := some (.int (1 : Int32))) X2 Bd.notSynchronized (fun h => by rw [Bd.returns] at h; cases h) (by decide) (by decide) ?_ (fun fs hr => retN X2 hx (t := .boolean) Bd.returns (by simp) (hb hby d_prog_16_method_2_code_12) hr)
  rw [e2]
  exact ⟨rfl, N0, K0⟩
theorem ef_67 (m : MethodId) (x0 : Int64) (x1 : Int64) (x2 : Int32) (x3 : Int32) (x4 : Int32) : entryFrame m #[(.long x0), (.long x1), (.int x2), (.int x3), (.int x4)] maxLocals = mkF m 0 #[.val (.long x0), .second, .val (.long x1), .second, .val (.int x2), .val (.int x3), .val (.int x4), .unset, .unset, .unset, .unset, .unset, .unset] [] := by first | (simp [entryFrame, mkF, argsToLocals, Value.category, maxLocals]; done) | rfl
theorem pd_68 : parseMethodDescriptor "([C)V" = some ⟨[(.array .char)], none⟩ := by decide +kernel
theorem pd_69 : parseMethodDescriptor "(JLjava/lang/Long;Ljava/lang/String;)V" = some ⟨[.long, (.object "java/lang/Long"), (.object "java/lang/String")], none⟩ := by decide +kernel
theorem pd_70 : parseMethodDescriptor "()Z" = some ⟨[], some .boolean⟩ := by decide +kernel
theorem pd_71 : parseMethodDescriptor "(J)Ljava/lang/Long;" = some ⟨[.long], some (.object "java/lang/Long")⟩ := by decide +kernel
theorem pn_72 : plainName "com/example/ledgergate/ledgergate/access/UserIsPlatformAdminPinLaw" = true := by first | (simp [plainName, overriddenIn]; done) | decide +kernel
set_option maxRecDepth 65536 in
set_option maxHeartbeats 40000000 in
theorem rm_law (l : Launch) (Z : State) (a0 : Array Value) (hw : ∀ d ∈ tables_1, d.before a0 Z = true) (ws : List Jvm.Cond) (i0 : Int64) (i1 : Int64) (i2 : Int32) (i3 : Int32) (i4 : Int32) (z : Int32) (ca : Addr) (cc : Cell) (val : Int32 → Value) (h0 : Heap) (n0 : Nat) (Z0 : n0 ≤ h0.size) (O0 : Old Z n0 h0) (S0 : Sta Z Z.heap "java/lang/String" "COMPACT_STRINGS" "Z" (.int z)) (hz : ¬ z = 0) (S_c : Sta Z Z.heap "java/lang/Long$LongCache" "cache" "[Ljava/lang/Long;" (.ref ca)) (Bx : Bxs Z ca cc "java/lang/Long" "J" (256 : Int32) val) :
    Ctr l Z x code maxLocals ret ws room_1 #[(.long i0), (.long i1), (.int i2), (.int i3), (.int i4)] h0 (fun v h L => v = some (.int 1) ∧ Fr n0 L) := by
  refine Ctr.of (MetFree.of_bodySF (plainFor_of_name pn_72) hisR ?_)
  intro p e s m args below meth c s₁ Bd hml0 hP hK
  obtain ⟨rfl, hZ, hh⟩ := hP
  have hx := Bd.exec
  have hby := Bd.bytes
  have hml : c.maxLocals = 13 := hml0
  have hown : s.vm.findClass "com/example/ledgergate/ledgergate/access/UserIsPlatformAdminPinLaw" = some m.cls := findClass_of_methodNamed Bd.named
  have hnm := (name_of_methodNamed Bd.named Bd.method).1
  have X0 : Stand p l e room_1 s m #[(.long i0), (.long i1), (.int i2), (.int i3), (.int i4)] below meth c s₁ [] 0 0 := Stand.of_body Bd
  have e0 : s₁.heap = h0 := by rw [← hh, Bd.state]; rfl
  have N0 := Fr.nil n0
  have K0 : Keep h0 h0 [] := Keep.refl h0 []
  show OwnGo p e below s (fun v h L => v = some (.int 1) ∧ Fr n0 L) room_1.cells room_1.slots _
  refine gs (S' := s₁.setTop (mkF m 0 #[.val (.long i0), .second, .val (.long i1), .second, .val (.int i2), .val (.int i3), .val (.int i4), .unset, .unset, .unset, .unset, .unset, .unset] [])) (fun tg kg => castTop (ef_67 m i0 i1 i2 i3 i4) kg) ?_
  have hws : ∀ d ∈ StrChars.Road.words, d.before a0 Z = true := fun d hd => hw d ((by decide +kernel : ∀ d ∈ StrChars.Road.words, d ∈ tables_1) d hd)
  have c1 : ∀ tg, Steps p.tables e below (s₁.setTop (mkF m 4 #[.val (.long i0), .second, .val (.long i1), .second, .val (.int i2), .val (.int i3), .val (.int i4), .unset, .unset, .unset, .unset, .unset, .unset] [(.int (i2 &&& (1 : Int32)))])) tg → Steps p.tables e below (s₁.setTop (mkF m 0 #[.val (.long i0), .second, .val (.long i1), .second, .val (.int i2), .val (.int i3), .val (.int i4), .unset, .unset, .unset, .unset, .unset, .unset] [])) tg := fun tg kg => by
    refine XS.iload X0.here hx rfl (hb hby at_0) rfl ?_
    show Steps p.tables e below (s₁.setTop (mkF m 2 #[.val (.long i0), .second, .val (.long i1), .second, .val (.int i2), .val (.int i3), .val (.int i4), .unset, .unset, .unset, .unset, .unset, .unset] [(.int i2)])) tg
    refine XS.iconst X0.here hx rfl (hb hby at_2) ?_
    show Steps p.tables e below (s₁.setTop (mkF m 3 #[.val (.long i0), .second, .val (.long i1), .second, .val (.int i2), .val (.int i3), .val (.int i4), .unset, .unset, .unset, .unset, .unset, .unset] [(.int (1 : Int32)), (.int i2)])) tg
    refine XS.iand X0.here hx rfl (hb hby at_3) rfl ?_
    show Steps p.tables e below (s₁.setTop (mkF m 4 #[.val (.long i0), .second, .val (.long i1), .second, .val (.int i2), .val (.int i3), .val (.int i4), .unset, .unset, .unset, .unset, .unset, .unset] [(.int (i2 &&& (1 : Int32)))])) tg
    exact kg
  refine gs c1 ?_
  by_cases hc2 : (i2 &&& (1 : Int32)) = (0 : Int32)
  · have c3 : ∀ tg, Steps p.tables e below (s₁.setTop (mkF m 29 #[.val (.long i0), .second, .val (.long i1), .second, .val (.int i2), .val (.int i3), .val (.int i4), .val (.int (0 : Int32)), .val .null, .unset, .unset, .unset, .unset] [(.int (2 : Int32))])) tg → Steps p.tables e below (s₁.setTop (mkF m 4 #[.val (.long i0), .second, .val (.long i1), .second, .val (.int i2), .val (.int i3), .val (.int i4), .unset, .unset, .unset, .unset, .unset, .unset] [(.int (i2 &&& (1 : Int32)))])) tg := fun tg kg => by
      refine XS.ifYes X0.here hx rfl (pc0 := 4) (pc' := 11) rfl (hb hby at_4) rfl ((if0 _ _).trans (teq hc2).1) (by decide) (by decide) ?_
      show Steps p.tables e below (s₁.setTop (mkF m 11 #[.val (.long i0), .second, .val (.long i1), .second, .val (.int i2), .val (.int i3), .val (.int i4), .unset, .unset, .unset, .unset, .unset, .unset] [])) tg
      refine XS.iconst X0.here hx rfl (hb hby at_11) ?_
      show Steps p.tables e below (s₁.setTop (mkF m 12 #[.val (.long i0), .second, .val (.long i1), .second, .val (.int i2), .val (.int i3), .val (.int i4), .unset, .unset, .unset, .unset, .unset, .unset] [(.int (0 : Int32))])) tg
      refine XS.istore X0.here hx rfl (hb hby at_12) rfl (l' := #[.val (.long i0), .second, .val (.long i1), .second, .val (.int i2), .val (.int i3), .val (.int i4), .val (.int (0 : Int32)), .unset, .unset, .unset, .unset, .unset]) rfl ?_
      show Steps p.tables e below (s₁.setTop (mkF m 14 #[.val (.long i0), .second, .val (.long i1), .second, .val (.int i2), .val (.int i3), .val (.int i4), .val (.int (0 : Int32)), .unset, .unset, .unset, .unset, .unset] [])) tg
      refine XS.aconstNull X0.here hx rfl (hb hby at_14) ?_
      show Steps p.tables e below (s₁.setTop (mkF m 15 #[.val (.long i0), .second, .val (.long i1), .second, .val (.int i2), .val (.int i3), .val (.int i4), .val (.int (0 : Int32)), .unset, .unset, .unset, .unset, .unset] [.null])) tg
      refine XS.astore X0.here hx rfl (hb hby at_15) rfl rfl (l' := #[.val (.long i0), .second, .val (.long i1), .second, .val (.int i2), .val (.int i3), .val (.int i4), .val (.int (0 : Int32)), .val .null, .unset, .unset, .unset, .unset]) rfl ?_
      show Steps p.tables e below (s₁.setTop (mkF m 17 #[.val (.long i0), .second, .val (.long i1), .second, .val (.int i2), .val (.int i3), .val (.int i4), .val (.int (0 : Int32)), .val .null, .unset, .unset, .unset, .unset] [])) tg
      refine XS.iload X0.here hx rfl (hb hby at_17) rfl ?_
      show Steps p.tables e below (s₁.setTop (mkF m 19 #[.val (.long i0), .second, .val (.long i1), .second, .val (.int i2), .val (.int i3), .val (.int i4), .val (.int (0 : Int32)), .val .null, .unset, .unset, .unset, .unset] [(.int (0 : Int32))])) tg
      refine XS.ifYes X0.here hx rfl (pc0 := 19) (pc' := 28) rfl (hb hby at_19) rfl ((if0 _ _).trans (teq (by decide : (0 : Int32) = (0 : Int32))).1) (by decide) (by decide) ?_
      show Steps p.tables e below (s₁.setTop (mkF m 28 #[.val (.long i0), .second, .val (.long i1), .second, .val (.int i2), .val (.int i3), .val (.int i4), .val (.int (0 : Int32)), .val .null, .unset, .unset, .unset, .unset] [])) tg
      refine XS.iconst X0.here hx rfl (hb hby at_28) ?_
      show Steps p.tables e below (s₁.setTop (mkF m 29 #[.val (.long i0), .second, .val (.long i1), .second, .val (.int i2), .val (.int i3), .val (.int i4), .val (.int (0 : Int32)), .val .null, .unset, .unset, .unset, .unset] [(.int (2 : Int32))])) tg
      exact kg
    refine gs c3 ?_
    obtain ⟨T4, h4, k4, X4, e4, E4, A4, st4⟩ := newP X0 hx hZ (hw _ (List.mem_of_getElem? (i := 0) rfl)) e0 (g := (mkF m 29 #[.val (.long i0), .second, .val (.long i1), .second, .val (.int i2), .val (.int i3), .val (.int i4), .val (.int (0 : Int32)), .val .null, .unset, .unset, .unset, .unset] [(.int (2 : Int32))])) rfl (hb hby at_29) rfl (by decide) (cap := 2) (by decide) (by decide) (by decide) (by decide)
    obtain ⟨b4, q4⟩ : ∃ z, z = h0.size := ⟨_, rfl⟩
    rw [← q4] at A4 st4
    have g_b4 : n0 ≤ b4 := Nat.le_trans Z0 (Nat.le_of_eq q4.symm)
    have sz_b4 : h0.size ≤ b4 := Nat.le_trans K0.1 (Nat.le_of_eq q4.symm)
    have Z5 : n0 ≤ h4.size := Nat.le_trans Z0 E4.1
    have O5 : Old Z n0 h4 := O0.ext E4
    have K5 : Keep h0 h4 [] := K0.ext E4
    have V4 : Arv Z h4 b4 k4 .char (2 : Int32) [(.int (0 : Int32)), (.int (0 : Int32))] (.int (0 : Int32)) := (Arv.new A4 (by decide)).pad (pad_rep [] (.int (0 : Int32)) 2)
    refine gs st4 ?_
    show OwnGo p e below s _ _ _ (T4.setTop (mkF m 31 #[.val (.long i0), .second, .val (.long i1), .second, .val (.int i2), .val (.int i3), .val (.int i4), .val (.int (0 : Int32)), .val .null, .unset, .unset, .unset, .unset] [(.ref b4)]))
    have c6 : ∀ tg, Steps p.tables e below (T4.setTop (mkF m 43 #[.val (.long i0), .second, .val (.long i1), .second, .val (.int i2), .val (.int i3), .val (.int i4), .val (.int (0 : Int32)), .val .null, .val (.ref b4), .unset, .unset, .unset] [(.int ((i3 &&& (255 : Int32)).toUInt32.toUInt16.toUInt32.toInt32)), (.int (0 : Int32)), (.ref b4)])) tg → Steps p.tables e below (T4.setTop (mkF m 31 #[.val (.long i0), .second, .val (.long i1), .second, .val (.int i2), .val (.int i3), .val (.int i4), .val (.int (0 : Int32)), .val .null, .unset, .unset, .unset, .unset] [(.ref b4)])) tg := fun tg kg => by
      refine XS.astore X4.here hx rfl (hb hby at_31) rfl rfl (l' := #[.val (.long i0), .second, .val (.long i1), .second, .val (.int i2), .val (.int i3), .val (.int i4), .val (.int (0 : Int32)), .val .null, .val (.ref b4), .unset, .unset, .unset]) rfl ?_
      show Steps p.tables e below (T4.setTop (mkF m 33 #[.val (.long i0), .second, .val (.long i1), .second, .val (.int i2), .val (.int i3), .val (.int i4), .val (.int (0 : Int32)), .val .null, .val (.ref b4), .unset, .unset, .unset] [])) tg
      refine XS.aload X4.here hx rfl (hb hby at_33) rfl rfl ?_
      show Steps p.tables e below (T4.setTop (mkF m 35 #[.val (.long i0), .second, .val (.long i1), .second, .val (.int i2), .val (.int i3), .val (.int i4), .val (.int (0 : Int32)), .val .null, .val (.ref b4), .unset, .unset, .unset] [(.ref b4)])) tg
      refine XS.iconst X4.here hx rfl (hb hby at_35) ?_
      show Steps p.tables e below (T4.setTop (mkF m 36 #[.val (.long i0), .second, .val (.long i1), .second, .val (.int i2), .val (.int i3), .val (.int i4), .val (.int (0 : Int32)), .val .null, .val (.ref b4), .unset, .unset, .unset] [(.int (0 : Int32)), (.ref b4)])) tg
      refine XS.iload X4.here hx rfl (hb hby at_36) rfl ?_
      show Steps p.tables e below (T4.setTop (mkF m 38 #[.val (.long i0), .second, .val (.long i1), .second, .val (.int i2), .val (.int i3), .val (.int i4), .val (.int (0 : Int32)), .val .null, .val (.ref b4), .unset, .unset, .unset] [(.int i3), (.int (0 : Int32)), (.ref b4)])) tg
      refine XS.sipush X4.here hx rfl (hb hby at_38) ?_
      show Steps p.tables e below (T4.setTop (mkF m 41 #[.val (.long i0), .second, .val (.long i1), .second, .val (.int i2), .val (.int i3), .val (.int i4), .val (.int (0 : Int32)), .val .null, .val (.ref b4), .unset, .unset, .unset] [(.int (255 : Int32)), (.int i3), (.int (0 : Int32)), (.ref b4)])) tg
      refine XS.iand X4.here hx rfl (hb hby at_41) rfl ?_
      show Steps p.tables e below (T4.setTop (mkF m 42 #[.val (.long i0), .second, .val (.long i1), .second, .val (.int i2), .val (.int i3), .val (.int i4), .val (.int (0 : Int32)), .val .null, .val (.ref b4), .unset, .unset, .unset] [(.int (i3 &&& (255 : Int32))), (.int (0 : Int32)), (.ref b4)])) tg
      refine XS.i2c X4.here hx rfl (hb hby at_42) rfl ?_
      show Steps p.tables e below (T4.setTop (mkF m 43 #[.val (.long i0), .second, .val (.long i1), .second, .val (.int i2), .val (.int i3), .val (.int i4), .val (.int (0 : Int32)), .val .null, .val (.ref b4), .unset, .unset, .unset] [(.int ((i3 &&& (255 : Int32)).toUInt32.toUInt16.toUInt32.toInt32)), (.int (0 : Int32)), (.ref b4)])) tg
      exact kg
    refine gs c6 ?_
    obtain ⟨cl7, A7, a7q, a7S, a7N, a7H, a7G⟩ := id V4
    obtain ⟨T7, h7, X7, e7, W7, st7⟩ := stC X4 hx hZ e4 A7 (j := (0 : Int32)) (inb_of a7S ⟨by decide, by decide⟩) (g := (mkF m 43 #[.val (.long i0), .second, .val (.long i1), .second, .val (.int i2), .val (.int i3), .val (.int i4), .val (.int (0 : Int32)), .val .null, .val (.ref b4), .unset, .unset, .unset] [(.int ((i3 &&& (255 : Int32)).toUInt32.toUInt16.toUInt32.toInt32)), (.int (0 : Int32)), (.ref b4)])) rfl rfl (hb hby at_43)
    have V7 : Arv Z h7 b4 k4 .char (2 : Int32) [(.int (nar .char ((i3 &&& (255 : Int32)).toUInt32.toUInt16.toUInt32.toInt32))), (.int (0 : Int32))] (.int (0 : Int32)) := Arv.set A7 a7q a7S a7N a7H a7G (fits_nar_char _) W7 0 rfl (Nat.le_of_ble_eq_true rfl)
    have N7 := Fr.snoc X7 N0 g_b4
    have Z8 : n0 ≤ h7.size := Nat.le_trans Z5 (Keep.of_wr W7).1
    have O8 : Old Z n0 h7 := O5.wr W7 g_b4
    have K8 : Keep h0 h7 [] := K5.wr W7 (Or.inr sz_b4)
    refine gs st7 ?_
    show OwnGo p e below s _ _ _ (T7.setTop (mkF m 44 #[.val (.long i0), .second, .val (.long i1), .second, .val (.int i2), .val (.int i3), .val (.int i4), .val (.int (0 : Int32)), .val .null, .val (.ref b4), .unset, .unset, .unset] []))
    have c9 : ∀ tg, Steps p.tables e below (T7.setTop (mkF m 54 #[.val (.long i0), .second, .val (.long i1), .second, .val (.int i2), .val (.int i3), .val (.int i4), .val (.int (0 : Int32)), .val .null, .val (.ref b4), .unset, .unset, .unset] [(.int ((i4 &&& (255 : Int32)).toUInt32.toUInt16.toUInt32.toInt32)), (.int (1 : Int32)), (.ref b4)])) tg → Steps p.tables e below (T7.setTop (mkF m 44 #[.val (.long i0), .second, .val (.long i1), .second, .val (.int i2), .val (.int i3), .val (.int i4), .val (.int (0 : Int32)), .val .null, .val (.ref b4), .unset, .unset, .unset] [])) tg := fun tg kg => by
      refine XS.aload X7.here hx rfl (hb hby at_44) rfl rfl ?_
      show Steps p.tables e below (T7.setTop (mkF m 46 #[.val (.long i0), .second, .val (.long i1), .second, .val (.int i2), .val (.int i3), .val (.int i4), .val (.int (0 : Int32)), .val .null, .val (.ref b4), .unset, .unset, .unset] [(.ref b4)])) tg
      refine XS.iconst X7.here hx rfl (hb hby at_46) ?_
      show Steps p.tables e below (T7.setTop (mkF m 47 #[.val (.long i0), .second, .val (.long i1), .second, .val (.int i2), .val (.int i3), .val (.int i4), .val (.int (0 : Int32)), .val .null, .val (.ref b4), .unset, .unset, .unset] [(.int (1 : Int32)), (.ref b4)])) tg
      refine XS.iload X7.here hx rfl (hb hby at_47) rfl ?_
      show Steps p.tables e below (T7.setTop (mkF m 49 #[.val (.long i0), .second, .val (.long i1), .second, .val (.int i2), .val (.int i3), .val (.int i4), .val (.int (0 : Int32)), .val .null, .val (.ref b4), .unset, .unset, .unset] [(.int i4), (.int (1 : Int32)), (.ref b4)])) tg
      refine XS.sipush X7.here hx rfl (hb hby at_49) ?_
      show Steps p.tables e below (T7.setTop (mkF m 52 #[.val (.long i0), .second, .val (.long i1), .second, .val (.int i2), .val (.int i3), .val (.int i4), .val (.int (0 : Int32)), .val .null, .val (.ref b4), .unset, .unset, .unset] [(.int (255 : Int32)), (.int i4), (.int (1 : Int32)), (.ref b4)])) tg
      refine XS.iand X7.here hx rfl (hb hby at_52) rfl ?_
      show Steps p.tables e below (T7.setTop (mkF m 53 #[.val (.long i0), .second, .val (.long i1), .second, .val (.int i2), .val (.int i3), .val (.int i4), .val (.int (0 : Int32)), .val .null, .val (.ref b4), .unset, .unset, .unset] [(.int (i4 &&& (255 : Int32))), (.int (1 : Int32)), (.ref b4)])) tg
      refine XS.i2c X7.here hx rfl (hb hby at_53) rfl ?_
      show Steps p.tables e below (T7.setTop (mkF m 54 #[.val (.long i0), .second, .val (.long i1), .second, .val (.int i2), .val (.int i3), .val (.int i4), .val (.int (0 : Int32)), .val .null, .val (.ref b4), .unset, .unset, .unset] [(.int ((i4 &&& (255 : Int32)).toUInt32.toUInt16.toUInt32.toInt32)), (.int (1 : Int32)), (.ref b4)])) tg
      exact kg
    refine gs c9 ?_
    obtain ⟨cl10, A10, a10q, a10S, a10N, a10H, a10G⟩ := id V7
    obtain ⟨T10, h10, X10, e10, W10, st10⟩ := stC X7 hx hZ e7 A10 (j := (1 : Int32)) (inb_of a10S ⟨by decide, by decide⟩) (g := (mkF m 54 #[.val (.long i0), .second, .val (.long i1), .second, .val (.int i2), .val (.int i3), .val (.int i4), .val (.int (0 : Int32)), .val .null, .val (.ref b4), .unset, .unset, .unset] [(.int ((i4 &&& (255 : Int32)).toUInt32.toUInt16.toUInt32.toInt32)), (.int (1 : Int32)), (.ref b4)])) rfl rfl (hb hby at_54)
    have V10 : Arv Z h10 b4 k4 .char (2 : Int32) [(.int (nar .char ((i3 &&& (255 : Int32)).toUInt32.toUInt16.toUInt32.toInt32))), (.int (nar .char ((i4 &&& (255 : Int32)).toUInt32.toUInt16.toUInt32.toInt32)))] (.int (0 : Int32)) := Arv.set A10 a10q a10S a10N a10H a10G (fits_nar_char _) W10 1 rfl (Nat.le_of_ble_eq_true rfl)
    have N10 := Fr.snoc X10 N7 g_b4
    have Z11 : n0 ≤ h10.size := Nat.le_trans Z8 (Keep.of_wr W10).1
    have O11 : Old Z n0 h10 := O8.wr W10 g_b4
    have K11 : Keep h0 h10 [] := K8.wr W10 (Or.inr sz_b4)
    refine gs st10 ?_
    show OwnGo p e below s _ _ _ (T10.setTop (mkF m 55 #[.val (.long i0), .second, .val (.long i1), .second, .val (.int i2), .val (.int i3), .val (.int i4), .val (.int (0 : Int32)), .val .null, .val (.ref b4), .unset, .unset, .unset] []))
    obtain ⟨T12, h12, X12, e12, E12, A12, D12, -, st12⟩ := newO X10 hx hZ hown (hw _ (List.mem_of_getElem? (i := 1) rfl)) (hw _ (List.mem_of_getElem? (i := 2) rfl)) (hw _ (List.mem_of_getElem? (i := 3) rfl)) e10 (g := (mkF m 55 #[.val (.long i0), .second, .val (.long i1), .second, .val (.int i2), .val (.int i3), .val (.int i4), .val (.int (0 : Int32)), .val .null, .val (.ref b4), .unset, .unset, .unset] [])) rfl (hb hby at_55) (by decide) (by decide)
    obtain ⟨b12, q12⟩ : ∃ z, z = h10.size := ⟨_, rfl⟩
    rw [← q12] at A12 D12 st12
    have g_b12 : n0 ≤ b12 := Nat.le_trans Z11 (Nat.le_of_eq q12.symm)
    have sz_b12 : h0.size ≤ b12 := Nat.le_trans K11.1 (Nat.le_of_eq q12.symm)
    have Z13 : n0 ≤ h12.size := Nat.le_trans Z11 E12.1
    have O13 : Old Z n0 h12 := O11.ext E12
    have K13 : Keep h0 h12 [] := K11.ext E12
    have F_coder_b12 : Fld Z h12 b12 "java/lang/String" "coder" "B" (.int (0 : Int32)) := D12 (Or.inr (hw _ (List.mem_of_getElem? (i := 27) rfl))) (ty := .byte) (by decide)
    have F_value_b12 : Fld Z h12 b12 "java/lang/String" "value" "[B" .null := D12 (Or.inr (hw _ (List.mem_of_getElem? (i := 29) rfl))) (ty := (.array .byte)) (by decide)
    refine gs st12 ?_
    show OwnGo p e below s _ _ _ (T12.setTop (mkF m 58 #[.val (.long i0), .second, .val (.long i1), .second, .val (.int i2), .val (.int i3), .val (.int i4), .val (.int (0 : Int32)), .val .null, .val (.ref b4), .unset, .unset, .unset] [(.ref b12)]))
    have c14 : ∀ tg, Steps p.tables e below (T12.setTop (mkF m 61 #[.val (.long i0), .second, .val (.long i1), .second, .val (.int i2), .val (.int i3), .val (.int i4), .val (.int (0 : Int32)), .val .null, .val (.ref b4), .unset, .unset, .unset] [(.ref b4), (.ref b12), (.ref b12)])) tg → Steps p.tables e below (T12.setTop (mkF m 58 #[.val (.long i0), .second, .val (.long i1), .second, .val (.int i2), .val (.int i3), .val (.int i4), .val (.int (0 : Int32)), .val .null, .val (.ref b4), .unset, .unset, .unset] [(.ref b12)])) tg := fun tg kg => by
      refine XS.dup X12.here hx rfl (hb hby at_58) rfl rfl ?_
      show Steps p.tables e below (T12.setTop (mkF m 59 #[.val (.long i0), .second, .val (.long i1), .second, .val (.int i2), .val (.int i3), .val (.int i4), .val (.int (0 : Int32)), .val .null, .val (.ref b4), .unset, .unset, .unset] [(.ref b12), (.ref b12)])) tg
      refine XS.aload X12.here hx rfl (hb hby at_59) rfl rfl ?_
      show Steps p.tables e below (T12.setTop (mkF m 61 #[.val (.long i0), .second, .val (.long i1), .second, .val (.int i2), .val (.int i3), .val (.int i4), .val (.int (0 : Int32)), .val .null, .val (.ref b4), .unset, .unset, .unset] [(.ref b4), (.ref b12), (.ref b12)])) tg
      exact kg
    refine gs c14 ?_
    have hp15 : ∀ c ∈ ([(nar .char ((i3 &&& (255 : Int32)).toUInt32.toUInt16.toUInt32.toInt32)), (nar .char ((i4 &&& (255 : Int32)).toUInt32.toUInt16.toUInt32.toInt32))] : List Int32), ¬ c < 0 ∧ ¬ (255 : Int32) < c := by
      intro c hc
      simp only [List.mem_cons, List.not_mem_nil, or_false] at hc
      rcases hc with rfl | rfl
      all_goals exact own_and255 _
    have f16 := (V10.ext E12)
    obtain ⟨_, _, ⟨T17, L17, k17, n17⟩, -, X17, ⟨Lc17, hQ17, l17, y17, z17⟩, st17⟩ := X12.specialBack hx (y := (⟨"java/lang/String", "<init>", "([C)V"⟩ : MethodName)) rfl hown (mvT hZ (hw _ (List.mem_of_getElem? (i := 4) rfl))) (mvT hZ (hw _ (List.mem_of_getElem? (i := 5) rfl))) (mvT hZ (hw _ (List.mem_of_getElem? (i := 6) rfl))) (by decide) (StrChars.Road.backV (W := 1) hZ hws (kI := 4) (hw _ (List.mem_of_getElem? (i := 2) rfl)) (cs := ([(nar .char ((i3 &&& (255 : Int32)).toUInt32.toUInt16.toUInt32.toInt32)), (nar .char ((i4 &&& (255 : Int32)).toUInt32.toUInt16.toUInt32.toInt32))] : List Int32)) (bs := ([(nar .char ((i3 &&& (255 : Int32)).toUInt32.toUInt16.toUInt32.toInt32)), (nar .char ((i4 &&& (255 : Int32)).toUInt32.toUInt16.toUInt32.toInt32))] : List Int32).map (fun c => c.toInt8.toInt32)) (n := 2) g_b12 Z13 A12 F_value_b12 F_coder_b12 f16 (S0.ext O13.2) hz rfl rfl (by decide) (by decide) hp15 rfl (by decide) (by decide)) (g := (mkF m 61 #[.val (.long i0), .second, .val (.long i1), .second, .val (.int i2), .val (.int i3), .val (.int i4), .val (.int (0 : Int32)), .val .null, .val (.ref b4), .unset, .unset, .unset] [(.ref b4), (.ref b12), (.ref b12)])) rfl (by rw [hml]; rfl) (Steps.refl _) (a := b12) (argsL := [(.ref b4)]) (rest := [(.ref b12)]) (lenOf pd_68 rfl) rfl (by show 2 * 0 + _ ≤ _; exact Nat.le_of_eq rfl) (hb hby at_61) (fun _ _ => ⟨rfl, e12, (by decide : 2 + 1 ≤ _), (by decide : 6 + 2 ≤ _)⟩)
    dsimp only [Pt.U, Pt.locs, Pt.cells, Pt.slots] at X17 l17 y17 z17 st17 hQ17
    subst l17 y17 z17
    obtain ⟨rfl, N17q, K17q, g17e, g17c, t17, kb17, -, g17t, -, g17v, g17a⟩ := hQ17
    have N17 := Fr.app N10 N17q
    have g_t17 : n0 ≤ t17 := Nat.le_trans Z13 g17t
    have sz_t17 : h0.size ≤ t17 := Nat.le_trans K13.1 g17t
    have Z18 : n0 ≤ T17.heap.size := Nat.le_trans Z13 K17q.1
    have O18 : Old Z n0 T17.heap := O13.keep K17q (allS g_b12 all0)
    have K18 : Keep h0 T17.heap [] := K13.trans K17q (allS (Or.inr sz_b12) all0)
    refine gs (fun _ k => st17.trans k) ?_
    show OwnGo p e below s _ _ _ (T17.setTop (mkF m 64 #[.val (.long i0), .second, .val (.long i1), .second, .val (.int i2), .val (.int i3), .val (.int i4), .val (.int (0 : Int32)), .val .null, .val (.ref b4), .unset, .unset, .unset] [(.ref b12)]))
    have c19 : ∀ tg, Steps p.tables e below (T17.setTop (mkF m 66 #[.val (.long i0), .second, .val (.long i1), .second, .val (.int i2), .val (.int i3), .val (.int i4), .val (.int (0 : Int32)), .val .null, .val (.ref b4), .val (.ref b12), .unset, .unset] [])) tg → Steps p.tables e below (T17.setTop (mkF m 64 #[.val (.long i0), .second, .val (.long i1), .second, .val (.int i2), .val (.int i3), .val (.int i4), .val (.int (0 : Int32)), .val .null, .val (.ref b4), .unset, .unset, .unset] [(.ref b12)])) tg := fun tg kg => by
      refine XS.astore X17.here hx rfl (hb hby at_64) rfl rfl (l' := #[.val (.long i0), .second, .val (.long i1), .second, .val (.int i2), .val (.int i3), .val (.int i4), .val (.int (0 : Int32)), .val .null, .val (.ref b4), .val (.ref b12), .unset, .unset]) rfl ?_
      show Steps p.tables e below (T17.setTop (mkF m 66 #[.val (.long i0), .second, .val (.long i1), .second, .val (.int i2), .val (.int i3), .val (.int i4), .val (.int (0 : Int32)), .val .null, .val (.ref b4), .val (.ref b12), .unset, .unset] [])) tg
      exact kg
    refine gs c19 ?_
    obtain ⟨T20, h20, X20, e20, E20, A20, D20, -, st20⟩ := newO X17 hx hZ hown (hw _ (List.mem_of_getElem? (i := 30) rfl)) (hw _ (List.mem_of_getElem? (i := 31) rfl)) (hw _ (List.mem_of_getElem? (i := 32) rfl)) rfl (g := (mkF m 66 #[.val (.long i0), .second, .val (.long i1), .second, .val (.int i2), .val (.int i3), .val (.int i4), .val (.int (0 : Int32)), .val .null, .val (.ref b4), .val (.ref b12), .unset, .unset] [])) rfl (hb hby at_66) (by decide) (by decide)
    obtain ⟨b20, q20⟩ : ∃ z, z = T17.heap.size := ⟨_, rfl⟩
    rw [← q20] at A20 D20 st20
    have g_b20 : n0 ≤ b20 := Nat.le_trans Z18 (Nat.le_of_eq q20.symm)
    have sz_b20 : h0.size ≤ b20 := Nat.le_trans K18.1 (Nat.le_of_eq q20.symm)
    have Z21 : n0 ≤ h20.size := Nat.le_trans Z18 E20.1
    have O21 : Old Z n0 h20 := O18.ext E20
    have K21 : Keep h0 h20 [] := K18.ext E20
    have F_id_b20 : Fld Z h20 b20 "com/example/ledgergate/ledgergate/access/User" "id" "J" (.long (0 : Int64)) := D20 (Or.inr (hw _ (List.mem_of_getElem? (i := 43) rfl))) (ty := .long) (by decide)
    have F_tenantId_b20 : Fld Z h20 b20 "com/example/ledgergate/ledgergate/access/User" "tenantId" "Ljava/lang/Long;" .null := D20 (Or.inr (hw _ (List.mem_of_getElem? (i := 45) rfl))) (ty := (.object "java/lang/Long")) (by decide)
    have F_loginName_b20 : Fld Z h20 b20 "com/example/ledgergate/ledgergate/access/User" "loginName" "Ljava/lang/String;" .null := D20 (Or.inr (hw _ (List.mem_of_getElem? (i := 47) rfl))) (ty := (.object "java/lang/String")) (by decide)
    refine gs st20 ?_
    show OwnGo p e below s _ _ _ (T20.setTop (mkF m 69 #[.val (.long i0), .second, .val (.long i1), .second, .val (.int i2), .val (.int i3), .val (.int i4), .val (.int (0 : Int32)), .val .null, .val (.ref b4), .val (.ref b12), .unset, .unset] [(.ref b20)]))
    have c22 : ∀ tg, Steps p.tables e below (T20.setTop (mkF m 75 #[.val (.long i0), .second, .val (.long i1), .second, .val (.int i2), .val (.int i3), .val (.int i4), .val (.int (0 : Int32)), .val .null, .val (.ref b4), .val (.ref b12), .unset, .unset] [(.ref b12), .null, (.long i0), (.ref b20), (.ref b20)])) tg → Steps p.tables e below (T20.setTop (mkF m 69 #[.val (.long i0), .second, .val (.long i1), .second, .val (.int i2), .val (.int i3), .val (.int i4), .val (.int (0 : Int32)), .val .null, .val (.ref b4), .val (.ref b12), .unset, .unset] [(.ref b20)])) tg := fun tg kg => by
      refine XS.dup X20.here hx rfl (hb hby at_69) rfl rfl ?_
      show Steps p.tables e below (T20.setTop (mkF m 70 #[.val (.long i0), .second, .val (.long i1), .second, .val (.int i2), .val (.int i3), .val (.int i4), .val (.int (0 : Int32)), .val .null, .val (.ref b4), .val (.ref b12), .unset, .unset] [(.ref b20), (.ref b20)])) tg
      refine XS.lloadN X20.here hx rfl (hb hby at_70) rfl ?_
      show Steps p.tables e below (T20.setTop (mkF m 71 #[.val (.long i0), .second, .val (.long i1), .second, .val (.int i2), .val (.int i3), .val (.int i4), .val (.int (0 : Int32)), .val .null, .val (.ref b4), .val (.ref b12), .unset, .unset] [(.long i0), (.ref b20), (.ref b20)])) tg
      refine XS.aload X20.here hx rfl (hb hby at_71) rfl rfl ?_
      show Steps p.tables e below (T20.setTop (mkF m 73 #[.val (.long i0), .second, .val (.long i1), .second, .val (.int i2), .val (.int i3), .val (.int i4), .val (.int (0 : Int32)), .val .null, .val (.ref b4), .val (.ref b12), .unset, .unset] [.null, (.long i0), (.ref b20), (.ref b20)])) tg
      refine XS.aload X20.here hx rfl (hb hby at_73) rfl rfl ?_
      show Steps p.tables e below (T20.setTop (mkF m 75 #[.val (.long i0), .second, .val (.long i1), .second, .val (.int i2), .val (.int i3), .val (.int i4), .val (.int (0 : Int32)), .val .null, .val (.ref b4), .val (.ref b12), .unset, .unset] [(.ref b12), .null, (.long i0), (.ref b20), (.ref b20)])) tg
      exact kg
    refine gs c22 ?_
    obtain ⟨_, _, ⟨T23, L23, k23, n23⟩, -, X23, ⟨Lc23, hQ23, l23, y23, z23⟩, st23⟩ := X20.specialBack hx (y := (⟨"com/example/ledgergate/ledgergate/access/User", "<init>", "(JLjava/lang/Long;Ljava/lang/String;)V"⟩ : MethodName)) rfl hown (mvT hZ (hw _ (List.mem_of_getElem? (i := 33) rfl))) (mvT hZ (hw _ (List.mem_of_getElem? (i := 34) rfl))) (mvT hZ (hw _ (List.mem_of_getElem? (i := 35) rfl))) (by decide) (backC (W := 1) (rm_user_null l Z a0 hw [] b20 i0 b12 h20 n0 Z21 O21 A20 F_id_b20 F_tenantId_b20 F_loginName_b20 g_b20) hZ (hw _ (List.mem_of_getElem? (i := 35) rfl)) (hw _ (List.mem_of_getElem? (i := 32) rfl)) (by decide) (by decide)) (g := (mkF m 75 #[.val (.long i0), .second, .val (.long i1), .second, .val (.int i2), .val (.int i3), .val (.int i4), .val (.int (0 : Int32)), .val .null, .val (.ref b4), .val (.ref b12), .unset, .unset] [(.ref b12), .null, (.long i0), (.ref b20), (.ref b20)])) rfl (by rw [hml]; rfl) (Steps.refl _) (a := b20) (argsL := [(.long i0), .null, (.ref b12)]) (rest := [(.ref b20)]) (lenOf pd_69 rfl) rfl (by show 2 * 0 + _ ≤ _; exact Nat.le_of_eq rfl) (hb hby at_75) (fun _ _ => ⟨rfl, e20, (by decide : 4 + 0 ≤ _), (by decide : 11 + 0 ≤ _)⟩)
    dsimp only [Pt.U, Pt.locs, Pt.cells, Pt.slots] at X23 l23 y23 z23 st23 hQ23
    subst l23 y23 z23
    obtain ⟨rfl, N23q, K23q, F23⟩ := hQ23
    have N23 := Fr.app N17 N23q
    have Z24 : n0 ≤ T23.heap.size := Nat.le_trans Z21 K23q.1
    have O24 : Old Z n0 T23.heap := O21.keep K23q (allS g_b20 all0)
    have K24 : Keep h0 T23.heap [] := K21.trans K23q (allS (Or.inr sz_b20) all0)
    refine gs (fun _ k => st23.trans k) ?_
    show OwnGo p e below s _ _ _ (T23.setTop (mkF m 78 #[.val (.long i0), .second, .val (.long i1), .second, .val (.int i2), .val (.int i3), .val (.int i4), .val (.int (0 : Int32)), .val .null, .val (.ref b4), .val (.ref b12), .unset, .unset] [(.ref b20)]))
    have c25 : ∀ tg, Steps p.tables e below (T23.setTop (mkF m 82 #[.val (.long i0), .second, .val (.long i1), .second, .val (.int i2), .val (.int i3), .val (.int i4), .val (.int (0 : Int32)), .val .null, .val (.ref b4), .val (.ref b12), .val (.ref b20), .unset] [(.ref b20)])) tg → Steps p.tables e below (T23.setTop (mkF m 78 #[.val (.long i0), .second, .val (.long i1), .second, .val (.int i2), .val (.int i3), .val (.int i4), .val (.int (0 : Int32)), .val .null, .val (.ref b4), .val (.ref b12), .unset, .unset] [(.ref b20)])) tg := fun tg kg => by
      refine XS.astore X23.here hx rfl (hb hby at_78) rfl rfl (l' := #[.val (.long i0), .second, .val (.long i1), .second, .val (.int i2), .val (.int i3), .val (.int i4), .val (.int (0 : Int32)), .val .null, .val (.ref b4), .val (.ref b12), .val (.ref b20), .unset]) rfl ?_
      show Steps p.tables e below (T23.setTop (mkF m 80 #[.val (.long i0), .second, .val (.long i1), .second, .val (.int i2), .val (.int i3), .val (.int i4), .val (.int (0 : Int32)), .val .null, .val (.ref b4), .val (.ref b12), .val (.ref b20), .unset] [])) tg
      refine XS.aload X23.here hx rfl (hb hby at_80) rfl rfl ?_
      show Steps p.tables e below (T23.setTop (mkF m 82 #[.val (.long i0), .second, .val (.long i1), .second, .val (.int i2), .val (.int i3), .val (.int i4), .val (.int (0 : Int32)), .val .null, .val (.ref b4), .val (.ref b12), .val (.ref b20), .unset] [(.ref b20)])) tg
      exact kg
    refine gs c25 ?_
    have f27 := (A20.keep K23q)
    obtain ⟨cq26, kq26, q26a, q26b, q26c⟩ := isOf hZ rfl f27
    obtain ⟨_, _, ⟨T26, L26, k26, n26⟩, -, X26, ⟨Lc26, hQ26, l26, y26, z26⟩, st26⟩ := X23.virtualBack hx (y := (⟨"com/example/ledgergate/ledgergate/access/User", "isPlatformAdmin", "()Z"⟩ : MethodName)) (z := (⟨"com/example/ledgergate/ledgergate/access/User", "isPlatformAdmin", "()Z"⟩ : MethodName)) hown (mvT hZ (hw _ (List.mem_of_getElem? (i := 48) rfl))) (mvT hZ (hw _ (List.mem_of_getElem? (i := 49) rfl))) (notFace_of_selects (args := #[]) (mvT hZ (hw _ (List.mem_of_getElem? (i := 51) rfl)))) (mvT hZ (hw _ (List.mem_of_getElem? (i := 51) rfl))) (mvT hZ (hw _ (List.mem_of_getElem? (i := 50) rfl))) (by decide) (backC (W := 0) (rm_adm_null l Z a0 hw [] b20 T23.heap n0 Z24 O24 F23) hZ (hw _ (List.mem_of_getElem? (i := 52) rfl)) (hw _ (List.mem_of_getElem? (i := 32) rfl)) (by decide) (by decide)) q26a q26c (g := (mkF m 82 #[.val (.long i0), .second, .val (.long i1), .second, .val (.int i2), .val (.int i3), .val (.int i4), .val (.int (0 : Int32)), .val .null, .val (.ref b4), .val (.ref b12), .val (.ref b20), .unset] [(.ref b20)])) rfl (by rw [hml]; rfl) (Steps.refl _) (argsL := []) (rest := []) (lenOf pd_70 rfl) rfl (by show 2 * 0 + _ ≤ _; exact Nat.le_of_eq rfl) (hb hby at_82) (fun _ _ => ⟨rfl, rfl, (by decide : 4 + 0 ≤ _), (by decide : 11 + 0 ≤ _)⟩)
    dsimp only [Pt.U, Pt.locs, Pt.cells, Pt.slots] at X26 l26 y26 z26 st26 hQ26
    subst l26 y26 z26
    obtain ⟨rfl, N26q, K26q⟩ := hQ26
    have N26 := Fr.app N23 N26q
    have Z28 : n0 ≤ T26.heap.size := Nat.le_trans Z24 K26q.1
    have O28 : Old Z n0 T26.heap := O24.keep K26q all0
    have K28 : Keep h0 T26.heap [] := K24.trans K26q all0
    refine gs (fun _ k => st26.trans k) ?_
    show OwnGo p e below s _ _ _ (T26.setTop (mkF m 85 #[.val (.long i0), .second, .val (.long i1), .second, .val (.int i2), .val (.int i3), .val (.int i4), .val (.int (0 : Int32)), .val .null, .val (.ref b4), .val (.ref b12), .val (.ref b20), .unset] [(.int (1 : Int32))]))
    have c29 : ∀ tg, Steps p.tables e below (T26.setTop (mkF m 107 #[.val (.long i0), .second, .val (.long i1), .second, .val (.int i2), .val (.int i3), .val (.int i4), .val (.int (0 : Int32)), .val .null, .val (.ref b4), .val (.ref b12), .val (.ref b20), .val (.int (1 : Int32))] [(.int (1 : Int32))])) tg → Steps p.tables e below (T26.setTop (mkF m 85 #[.val (.long i0), .second, .val (.long i1), .second, .val (.int i2), .val (.int i3), .val (.int i4), .val (.int (0 : Int32)), .val .null, .val (.ref b4), .val (.ref b12), .val (.ref b20), .unset] [(.int (1 : Int32))])) tg := fun tg kg => by
      refine XS.istore X26.here hx rfl (hb hby at_85) rfl (l' := #[.val (.long i0), .second, .val (.long i1), .second, .val (.int i2), .val (.int i3), .val (.int i4), .val (.int (0 : Int32)), .val .null, .val (.ref b4), .val (.ref b12), .val (.ref b20), .val (.int (1 : Int32))]) rfl ?_
      show Steps p.tables e below (T26.setTop (mkF m 87 #[.val (.long i0), .second, .val (.long i1), .second, .val (.int i2), .val (.int i3), .val (.int i4), .val (.int (0 : Int32)), .val .null, .val (.ref b4), .val (.ref b12), .val (.ref b20), .val (.int (1 : Int32))] [])) tg
      refine XS.iload X26.here hx rfl (hb hby at_87) rfl ?_
      show Steps p.tables e below (T26.setTop (mkF m 89 #[.val (.long i0), .second, .val (.long i1), .second, .val (.int i2), .val (.int i3), .val (.int i4), .val (.int (0 : Int32)), .val .null, .val (.ref b4), .val (.ref b12), .val (.ref b20), .val (.int (1 : Int32))] [(.int (1 : Int32))])) tg
      refine XS.iload X26.here hx rfl (hb hby at_89) rfl ?_
      show Steps p.tables e below (T26.setTop (mkF m 91 #[.val (.long i0), .second, .val (.long i1), .second, .val (.int i2), .val (.int i3), .val (.int i4), .val (.int (0 : Int32)), .val .null, .val (.ref b4), .val (.ref b12), .val (.ref b20), .val (.int (1 : Int32))] [(.int (0 : Int32)), (.int (1 : Int32))])) tg
      refine XS.ifNo X26.here hx rfl (hb hby at_91) rfl ((if0 _ _).trans (teq (by decide : (0 : Int32) = (0 : Int32))).2) ?_
      show Steps p.tables e below (T26.setTop (mkF m 94 #[.val (.long i0), .second, .val (.long i1), .second, .val (.int i2), .val (.int i3), .val (.int i4), .val (.int (0 : Int32)), .val .null, .val (.ref b4), .val (.ref b12), .val (.ref b20), .val (.int (1 : Int32))] [(.int (1 : Int32))])) tg
      refine XS.iconst X26.here hx rfl (hb hby at_94) ?_
      show Steps p.tables e below (T26.setTop (mkF m 95 #[.val (.long i0), .second, .val (.long i1), .second, .val (.int i2), .val (.int i3), .val (.int i4), .val (.int (0 : Int32)), .val .null, .val (.ref b4), .val (.ref b12), .val (.ref b20), .val (.int (1 : Int32))] [(.int (1 : Int32)), (.int (1 : Int32))])) tg
      refine XS.goto X26.here hx rfl (pc0 := 95) (pc' := 99) rfl (hb hby at_95) (by decide) (by decide) ?_
      show Steps p.tables e below (T26.setTop (mkF m 99 #[.val (.long i0), .second, .val (.long i1), .second, .val (.int i2), .val (.int i3), .val (.int i4), .val (.int (0 : Int32)), .val .null, .val (.ref b4), .val (.ref b12), .val (.ref b20), .val (.int (1 : Int32))] [(.int (1 : Int32)), (.int (1 : Int32))])) tg
      refine XS.icmpNo X26.here hx rfl (hb hby at_99) rfl (teq (by decide : (1 : Int32) = (1 : Int32))).2 ?_
      show Steps p.tables e below (T26.setTop (mkF m 102 #[.val (.long i0), .second, .val (.long i1), .second, .val (.int i2), .val (.int i3), .val (.int i4), .val (.int (0 : Int32)), .val .null, .val (.ref b4), .val (.ref b12), .val (.ref b20), .val (.int (1 : Int32))] [])) tg
      refine XS.iconst X26.here hx rfl (hb hby at_102) ?_
      show Steps p.tables e below (T26.setTop (mkF m 103 #[.val (.long i0), .second, .val (.long i1), .second, .val (.int i2), .val (.int i3), .val (.int i4), .val (.int (0 : Int32)), .val .null, .val (.ref b4), .val (.ref b12), .val (.ref b20), .val (.int (1 : Int32))] [(.int (1 : Int32))])) tg
      refine XS.goto X26.here hx rfl (pc0 := 103) (pc' := 107) rfl (hb hby at_103) (by decide) (by decide) ?_
      show Steps p.tables e below (T26.setTop (mkF m 107 #[.val (.long i0), .second, .val (.long i1), .second, .val (.int i2), .val (.int i3), .val (.int i4), .val (.int (0 : Int32)), .val .null, .val (.ref b4), .val (.ref b12), .val (.ref b20), .val (.int (1 : Int32))] [(.int (1 : Int32))])) tg
      exact kg
    refine gs c29 ?_
    refine gout (v := some (.int (1 : Int32))) X26 Bd.notSynchronized (fun h => by rw [Bd.returns] at h; cases h) (by decide) (by decide) ?_ (fun fs hr => retN X26 hx (t := .boolean) Bd.returns (by simp) (hb hby at_107) hr)
    exact ⟨rfl, N26⟩
  · have c30 : ∀ tg, Steps p.tables e below (s₁.setTop (mkF m 23 #[.val (.long i0), .second, .val (.long i1), .second, .val (.int i2), .val (.int i3), .val (.int i4), .val (.int (1 : Int32)), .val .null, .unset, .unset, .unset, .unset] [(.long i1)])) tg → Steps p.tables e below (s₁.setTop (mkF m 4 #[.val (.long i0), .second, .val (.long i1), .second, .val (.int i2), .val (.int i3), .val (.int i4), .unset, .unset, .unset, .unset, .unset, .unset] [(.int (i2 &&& (1 : Int32)))])) tg := fun tg kg => by
      refine XS.ifNo X0.here hx rfl (hb hby at_4) rfl ((if0 _ _).trans (feq hc2).1) ?_
      show Steps p.tables e below (s₁.setTop (mkF m 7 #[.val (.long i0), .second, .val (.long i1), .second, .val (.int i2), .val (.int i3), .val (.int i4), .unset, .unset, .unset, .unset, .unset, .unset] [])) tg
      refine XS.iconst X0.here hx rfl (hb hby at_7) ?_
      show Steps p.tables e below (s₁.setTop (mkF m 8 #[.val (.long i0), .second, .val (.long i1), .second, .val (.int i2), .val (.int i3), .val (.int i4), .unset, .unset, .unset, .unset, .unset, .unset] [(.int (1 : Int32))])) tg
      refine XS.goto X0.here hx rfl (pc0 := 8) (pc' := 12) rfl (hb hby at_8) (by decide) (by decide) ?_
      show Steps p.tables e below (s₁.setTop (mkF m 12 #[.val (.long i0), .second, .val (.long i1), .second, .val (.int i2), .val (.int i3), .val (.int i4), .unset, .unset, .unset, .unset, .unset, .unset] [(.int (1 : Int32))])) tg
      refine XS.istore X0.here hx rfl (hb hby at_12) rfl (l' := #[.val (.long i0), .second, .val (.long i1), .second, .val (.int i2), .val (.int i3), .val (.int i4), .val (.int (1 : Int32)), .unset, .unset, .unset, .unset, .unset]) rfl ?_
      show Steps p.tables e below (s₁.setTop (mkF m 14 #[.val (.long i0), .second, .val (.long i1), .second, .val (.int i2), .val (.int i3), .val (.int i4), .val (.int (1 : Int32)), .unset, .unset, .unset, .unset, .unset] [])) tg
      refine XS.aconstNull X0.here hx rfl (hb hby at_14) ?_
      show Steps p.tables e below (s₁.setTop (mkF m 15 #[.val (.long i0), .second, .val (.long i1), .second, .val (.int i2), .val (.int i3), .val (.int i4), .val (.int (1 : Int32)), .unset, .unset, .unset, .unset, .unset] [.null])) tg
      refine XS.astore X0.here hx rfl (hb hby at_15) rfl rfl (l' := #[.val (.long i0), .second, .val (.long i1), .second, .val (.int i2), .val (.int i3), .val (.int i4), .val (.int (1 : Int32)), .val .null, .unset, .unset, .unset, .unset]) rfl ?_
      show Steps p.tables e below (s₁.setTop (mkF m 17 #[.val (.long i0), .second, .val (.long i1), .second, .val (.int i2), .val (.int i3), .val (.int i4), .val (.int (1 : Int32)), .val .null, .unset, .unset, .unset, .unset] [])) tg
      refine XS.iload X0.here hx rfl (hb hby at_17) rfl ?_
      show Steps p.tables e below (s₁.setTop (mkF m 19 #[.val (.long i0), .second, .val (.long i1), .second, .val (.int i2), .val (.int i3), .val (.int i4), .val (.int (1 : Int32)), .val .null, .unset, .unset, .unset, .unset] [(.int (1 : Int32))])) tg
      refine XS.ifNo X0.here hx rfl (hb hby at_19) rfl ((if0 _ _).trans (feq (by decide : ¬ ((1 : Int32) = (0 : Int32)))).1) ?_
      show Steps p.tables e below (s₁.setTop (mkF m 22 #[.val (.long i0), .second, .val (.long i1), .second, .val (.int i2), .val (.int i3), .val (.int i4), .val (.int (1 : Int32)), .val .null, .unset, .unset, .unset, .unset] [])) tg
      refine XS.lloadN X0.here hx rfl (hb hby at_22) rfl ?_
      show Steps p.tables e below (s₁.setTop (mkF m 23 #[.val (.long i0), .second, .val (.long i1), .second, .val (.int i2), .val (.int i3), .val (.int i4), .val (.int (1 : Int32)), .val .null, .unset, .unset, .unset, .unset] [(.long i1)])) tg
      exact kg
    refine gs c30 ?_
    obtain ⟨_, _, ⟨T31, L31, k31, n31⟩, -, X31, ⟨Lc31, hQ31, l31, y31, z31⟩, st31⟩ := Jvm.LawKit.callS X0 hx (y := (⟨"java/lang/Long", "valueOf", "(J)Ljava/lang/Long;"⟩ : MethodName)) hown (mvT hZ (hw _ (List.mem_of_getElem? (i := 53) rfl))) (mvT hZ (hw _ (List.mem_of_getElem? (i := 54) rfl))) (mvT hZ (hw _ (List.mem_of_getElem? (i := 55) rfl))) (mvT hZ (hw _ (List.mem_of_getElem? (i := 56) rfl))) (by decide) (backC (W := 0) (rm_vo l Z a0 hw [] i1 ca cc val h0 n0 Z0 O0 S_c Bx) hZ (hw _ (List.mem_of_getElem? (i := 56) rfl)) (hw _ (List.mem_of_getElem? (i := 55) rfl)) (by decide) (by decide)) (g := (mkF m 23 #[.val (.long i0), .second, .val (.long i1), .second, .val (.int i2), .val (.int i3), .val (.int i4), .val (.int (1 : Int32)), .val .null, .unset, .unset, .unset, .unset] [(.long i1)])) rfl (by rw [hml]; rfl) (argsL := [(.long i1)]) (rest := []) (lenOf pd_71 rfl) rfl (by show 2 * 0 + _ ≤ _; exact Nat.le_of_eq rfl) (hb hby at_23) (fun _ _ => ⟨rfl, e0, (by decide : 0 + 1 ≤ _), (by decide : 0 + 1 ≤ _)⟩)
    dsimp only [Pt.U, Pt.locs, Pt.cells, Pt.slots] at X31 l31 y31 z31 st31 hQ31
    subst l31 y31 z31
    obtain ⟨a31, rfl, N31q, K31q⟩ := hQ31
    have N31 := Fr.app N0 N31q
    have Z32 : n0 ≤ T31.heap.size := Nat.le_trans Z0 K31q.1
    have O32 : Old Z n0 T31.heap := O0.keep K31q all0
    have K32 : Keep h0 T31.heap [] := K0.trans K31q all0
    refine gs st31 ?_
    show OwnGo p e below s _ _ _ (T31.setTop (mkF m 26 #[.val (.long i0), .second, .val (.long i1), .second, .val (.int i2), .val (.int i3), .val (.int i4), .val (.int (1 : Int32)), .val .null, .unset, .unset, .unset, .unset] [(.ref a31)]))
    have c33 : ∀ tg, Steps p.tables e below (T31.setTop (mkF m 29 #[.val (.long i0), .second, .val (.long i1), .second, .val (.int i2), .val (.int i3), .val (.int i4), .val (.int (1 : Int32)), .val (.ref a31), .unset, .unset, .unset, .unset] [(.int (2 : Int32))])) tg → Steps p.tables e below (T31.setTop (mkF m 26 #[.val (.long i0), .second, .val (.long i1), .second, .val (.int i2), .val (.int i3), .val (.int i4), .val (.int (1 : Int32)), .val .null, .unset, .unset, .unset, .unset] [(.ref a31)])) tg := fun tg kg => by
      refine XS.astore X31.here hx rfl (hb hby at_26) rfl rfl (l' := #[.val (.long i0), .second, .val (.long i1), .second, .val (.int i2), .val (.int i3), .val (.int i4), .val (.int (1 : Int32)), .val (.ref a31), .unset, .unset, .unset, .unset]) rfl ?_
      show Steps p.tables e below (T31.setTop (mkF m 28 #[.val (.long i0), .second, .val (.long i1), .second, .val (.int i2), .val (.int i3), .val (.int i4), .val (.int (1 : Int32)), .val (.ref a31), .unset, .unset, .unset, .unset] [])) tg
      refine XS.iconst X31.here hx rfl (hb hby at_28) ?_
      show Steps p.tables e below (T31.setTop (mkF m 29 #[.val (.long i0), .second, .val (.long i1), .second, .val (.int i2), .val (.int i3), .val (.int i4), .val (.int (1 : Int32)), .val (.ref a31), .unset, .unset, .unset, .unset] [(.int (2 : Int32))])) tg
      exact kg
    refine gs c33 ?_
    obtain ⟨T34, h34, k34, X34, e34, E34, A34, st34⟩ := newP X31 hx hZ (hw _ (List.mem_of_getElem? (i := 0) rfl)) rfl (g := (mkF m 29 #[.val (.long i0), .second, .val (.long i1), .second, .val (.int i2), .val (.int i3), .val (.int i4), .val (.int (1 : Int32)), .val (.ref a31), .unset, .unset, .unset, .unset] [(.int (2 : Int32))])) rfl (hb hby at_29) rfl (by decide) (cap := 2) (by decide) (by decide) (by decide) (by decide)
    obtain ⟨b34, q34⟩ : ∃ z, z = T31.heap.size := ⟨_, rfl⟩
    rw [← q34] at A34 st34
    have g_b34 : n0 ≤ b34 := Nat.le_trans Z32 (Nat.le_of_eq q34.symm)
    have sz_b34 : h0.size ≤ b34 := Nat.le_trans K32.1 (Nat.le_of_eq q34.symm)
    have Z35 : n0 ≤ h34.size := Nat.le_trans Z32 E34.1
    have O35 : Old Z n0 h34 := O32.ext E34
    have K35 : Keep h0 h34 [] := K32.ext E34
    have V34 : Arv Z h34 b34 k34 .char (2 : Int32) [(.int (0 : Int32)), (.int (0 : Int32))] (.int (0 : Int32)) := (Arv.new A34 (by decide)).pad (pad_rep [] (.int (0 : Int32)) 2)
    refine gs st34 ?_
    show OwnGo p e below s _ _ _ (T34.setTop (mkF m 31 #[.val (.long i0), .second, .val (.long i1), .second, .val (.int i2), .val (.int i3), .val (.int i4), .val (.int (1 : Int32)), .val (.ref a31), .unset, .unset, .unset, .unset] [(.ref b34)]))
    have c36 : ∀ tg, Steps p.tables e below (T34.setTop (mkF m 43 #[.val (.long i0), .second, .val (.long i1), .second, .val (.int i2), .val (.int i3), .val (.int i4), .val (.int (1 : Int32)), .val (.ref a31), .val (.ref b34), .unset, .unset, .unset] [(.int ((i3 &&& (255 : Int32)).toUInt32.toUInt16.toUInt32.toInt32)), (.int (0 : Int32)), (.ref b34)])) tg → Steps p.tables e below (T34.setTop (mkF m 31 #[.val (.long i0), .second, .val (.long i1), .second, .val (.int i2), .val (.int i3), .val (.int i4), .val (.int (1 : Int32)), .val (.ref a31), .unset, .unset, .unset, .unset] [(.ref b34)])) tg := fun tg kg => by
      refine XS.astore X34.here hx rfl (hb hby at_31) rfl rfl (l' := #[.val (.long i0), .second, .val (.long i1), .second, .val (.int i2), .val (.int i3), .val (.int i4), .val (.int (1 : Int32)), .val (.ref a31), .val (.ref b34), .unset, .unset, .unset]) rfl ?_
      show Steps p.tables e below (T34.setTop (mkF m 33 #[.val (.long i0), .second, .val (.long i1), .second, .val (.int i2), .val (.int i3), .val (.int i4), .val (.int (1 : Int32)), .val (.ref a31), .val (.ref b34), .unset, .unset, .unset] [])) tg
      refine XS.aload X34.here hx rfl (hb hby at_33) rfl rfl ?_
      show Steps p.tables e below (T34.setTop (mkF m 35 #[.val (.long i0), .second, .val (.long i1), .second, .val (.int i2), .val (.int i3), .val (.int i4), .val (.int (1 : Int32)), .val (.ref a31), .val (.ref b34), .unset, .unset, .unset] [(.ref b34)])) tg
      refine XS.iconst X34.here hx rfl (hb hby at_35) ?_
      show Steps p.tables e below (T34.setTop (mkF m 36 #[.val (.long i0), .second, .val (.long i1), .second, .val (.int i2), .val (.int i3), .val (.int i4), .val (.int (1 : Int32)), .val (.ref a31), .val (.ref b34), .unset, .unset, .unset] [(.int (0 : Int32)), (.ref b34)])) tg
      refine XS.iload X34.here hx rfl (hb hby at_36) rfl ?_
      show Steps p.tables e below (T34.setTop (mkF m 38 #[.val (.long i0), .second, .val (.long i1), .second, .val (.int i2), .val (.int i3), .val (.int i4), .val (.int (1 : Int32)), .val (.ref a31), .val (.ref b34), .unset, .unset, .unset] [(.int i3), (.int (0 : Int32)), (.ref b34)])) tg
      refine XS.sipush X34.here hx rfl (hb hby at_38) ?_
      show Steps p.tables e below (T34.setTop (mkF m 41 #[.val (.long i0), .second, .val (.long i1), .second, .val (.int i2), .val (.int i3), .val (.int i4), .val (.int (1 : Int32)), .val (.ref a31), .val (.ref b34), .unset, .unset, .unset] [(.int (255 : Int32)), (.int i3), (.int (0 : Int32)), (.ref b34)])) tg
      refine XS.iand X34.here hx rfl (hb hby at_41) rfl ?_
      show Steps p.tables e below (T34.setTop (mkF m 42 #[.val (.long i0), .second, .val (.long i1), .second, .val (.int i2), .val (.int i3), .val (.int i4), .val (.int (1 : Int32)), .val (.ref a31), .val (.ref b34), .unset, .unset, .unset] [(.int (i3 &&& (255 : Int32))), (.int (0 : Int32)), (.ref b34)])) tg
      refine XS.i2c X34.here hx rfl (hb hby at_42) rfl ?_
      show Steps p.tables e below (T34.setTop (mkF m 43 #[.val (.long i0), .second, .val (.long i1), .second, .val (.int i2), .val (.int i3), .val (.int i4), .val (.int (1 : Int32)), .val (.ref a31), .val (.ref b34), .unset, .unset, .unset] [(.int ((i3 &&& (255 : Int32)).toUInt32.toUInt16.toUInt32.toInt32)), (.int (0 : Int32)), (.ref b34)])) tg
      exact kg
    refine gs c36 ?_
    obtain ⟨cl37, A37, a37q, a37S, a37N, a37H, a37G⟩ := id V34
    obtain ⟨T37, h37, X37, e37, W37, st37⟩ := stC X34 hx hZ e34 A37 (j := (0 : Int32)) (inb_of a37S ⟨by decide, by decide⟩) (g := (mkF m 43 #[.val (.long i0), .second, .val (.long i1), .second, .val (.int i2), .val (.int i3), .val (.int i4), .val (.int (1 : Int32)), .val (.ref a31), .val (.ref b34), .unset, .unset, .unset] [(.int ((i3 &&& (255 : Int32)).toUInt32.toUInt16.toUInt32.toInt32)), (.int (0 : Int32)), (.ref b34)])) rfl rfl (hb hby at_43)
    have V37 : Arv Z h37 b34 k34 .char (2 : Int32) [(.int (nar .char ((i3 &&& (255 : Int32)).toUInt32.toUInt16.toUInt32.toInt32))), (.int (0 : Int32))] (.int (0 : Int32)) := Arv.set A37 a37q a37S a37N a37H a37G (fits_nar_char _) W37 0 rfl (Nat.le_of_ble_eq_true rfl)
    have N37 := Fr.snoc X37 N31 g_b34
    have Z38 : n0 ≤ h37.size := Nat.le_trans Z35 (Keep.of_wr W37).1
    have O38 : Old Z n0 h37 := O35.wr W37 g_b34
    have K38 : Keep h0 h37 [] := K35.wr W37 (Or.inr sz_b34)
    refine gs st37 ?_
    show OwnGo p e below s _ _ _ (T37.setTop (mkF m 44 #[.val (.long i0), .second, .val (.long i1), .second, .val (.int i2), .val (.int i3), .val (.int i4), .val (.int (1 : Int32)), .val (.ref a31), .val (.ref b34), .unset, .unset, .unset] []))
    have c39 : ∀ tg, Steps p.tables e below (T37.setTop (mkF m 54 #[.val (.long i0), .second, .val (.long i1), .second, .val (.int i2), .val (.int i3), .val (.int i4), .val (.int (1 : Int32)), .val (.ref a31), .val (.ref b34), .unset, .unset, .unset] [(.int ((i4 &&& (255 : Int32)).toUInt32.toUInt16.toUInt32.toInt32)), (.int (1 : Int32)), (.ref b34)])) tg → Steps p.tables e below (T37.setTop (mkF m 44 #[.val (.long i0), .second, .val (.long i1), .second, .val (.int i2), .val (.int i3), .val (.int i4), .val (.int (1 : Int32)), .val (.ref a31), .val (.ref b34), .unset, .unset, .unset] [])) tg := fun tg kg => by
      refine XS.aload X37.here hx rfl (hb hby at_44) rfl rfl ?_
      show Steps p.tables e below (T37.setTop (mkF m 46 #[.val (.long i0), .second, .val (.long i1), .second, .val (.int i2), .val (.int i3), .val (.int i4), .val (.int (1 : Int32)), .val (.ref a31), .val (.ref b34), .unset, .unset, .unset] [(.ref b34)])) tg
      refine XS.iconst X37.here hx rfl (hb hby at_46) ?_
      show Steps p.tables e below (T37.setTop (mkF m 47 #[.val (.long i0), .second, .val (.long i1), .second, .val (.int i2), .val (.int i3), .val (.int i4), .val (.int (1 : Int32)), .val (.ref a31), .val (.ref b34), .unset, .unset, .unset] [(.int (1 : Int32)), (.ref b34)])) tg
      refine XS.iload X37.here hx rfl (hb hby at_47) rfl ?_
      show Steps p.tables e below (T37.setTop (mkF m 49 #[.val (.long i0), .second, .val (.long i1), .second, .val (.int i2), .val (.int i3), .val (.int i4), .val (.int (1 : Int32)), .val (.ref a31), .val (.ref b34), .unset, .unset, .unset] [(.int i4), (.int (1 : Int32)), (.ref b34)])) tg
      refine XS.sipush X37.here hx rfl (hb hby at_49) ?_
      show Steps p.tables e below (T37.setTop (mkF m 52 #[.val (.long i0), .second, .val (.long i1), .second, .val (.int i2), .val (.int i3), .val (.int i4), .val (.int (1 : Int32)), .val (.ref a31), .val (.ref b34), .unset, .unset, .unset] [(.int (255 : Int32)), (.int i4), (.int (1 : Int32)), (.ref b34)])) tg
      refine XS.iand X37.here hx rfl (hb hby at_52) rfl ?_
      show Steps p.tables e below (T37.setTop (mkF m 53 #[.val (.long i0), .second, .val (.long i1), .second, .val (.int i2), .val (.int i3), .val (.int i4), .val (.int (1 : Int32)), .val (.ref a31), .val (.ref b34), .unset, .unset, .unset] [(.int (i4 &&& (255 : Int32))), (.int (1 : Int32)), (.ref b34)])) tg
      refine XS.i2c X37.here hx rfl (hb hby at_53) rfl ?_
      show Steps p.tables e below (T37.setTop (mkF m 54 #[.val (.long i0), .second, .val (.long i1), .second, .val (.int i2), .val (.int i3), .val (.int i4), .val (.int (1 : Int32)), .val (.ref a31), .val (.ref b34), .unset, .unset, .unset] [(.int ((i4 &&& (255 : Int32)).toUInt32.toUInt16.toUInt32.toInt32)), (.int (1 : Int32)), (.ref b34)])) tg
      exact kg
    refine gs c39 ?_
    obtain ⟨cl40, A40, a40q, a40S, a40N, a40H, a40G⟩ := id V37
    obtain ⟨T40, h40, X40, e40, W40, st40⟩ := stC X37 hx hZ e37 A40 (j := (1 : Int32)) (inb_of a40S ⟨by decide, by decide⟩) (g := (mkF m 54 #[.val (.long i0), .second, .val (.long i1), .second, .val (.int i2), .val (.int i3), .val (.int i4), .val (.int (1 : Int32)), .val (.ref a31), .val (.ref b34), .unset, .unset, .unset] [(.int ((i4 &&& (255 : Int32)).toUInt32.toUInt16.toUInt32.toInt32)), (.int (1 : Int32)), (.ref b34)])) rfl rfl (hb hby at_54)
    have V40 : Arv Z h40 b34 k34 .char (2 : Int32) [(.int (nar .char ((i3 &&& (255 : Int32)).toUInt32.toUInt16.toUInt32.toInt32))), (.int (nar .char ((i4 &&& (255 : Int32)).toUInt32.toUInt16.toUInt32.toInt32)))] (.int (0 : Int32)) := Arv.set A40 a40q a40S a40N a40H a40G (fits_nar_char _) W40 1 rfl (Nat.le_of_ble_eq_true rfl)
    have N40 := Fr.snoc X40 N37 g_b34
    have Z41 : n0 ≤ h40.size := Nat.le_trans Z38 (Keep.of_wr W40).1
    have O41 : Old Z n0 h40 := O38.wr W40 g_b34
    have K41 : Keep h0 h40 [] := K38.wr W40 (Or.inr sz_b34)
    refine gs st40 ?_
    show OwnGo p e below s _ _ _ (T40.setTop (mkF m 55 #[.val (.long i0), .second, .val (.long i1), .second, .val (.int i2), .val (.int i3), .val (.int i4), .val (.int (1 : Int32)), .val (.ref a31), .val (.ref b34), .unset, .unset, .unset] []))
    obtain ⟨T42, h42, X42, e42, E42, A42, D42, -, st42⟩ := newO X40 hx hZ hown (hw _ (List.mem_of_getElem? (i := 1) rfl)) (hw _ (List.mem_of_getElem? (i := 2) rfl)) (hw _ (List.mem_of_getElem? (i := 3) rfl)) e40 (g := (mkF m 55 #[.val (.long i0), .second, .val (.long i1), .second, .val (.int i2), .val (.int i3), .val (.int i4), .val (.int (1 : Int32)), .val (.ref a31), .val (.ref b34), .unset, .unset, .unset] [])) rfl (hb hby at_55) (by decide) (by decide)
    obtain ⟨b42, q42⟩ : ∃ z, z = h40.size := ⟨_, rfl⟩
    rw [← q42] at A42 D42 st42
    have g_b42 : n0 ≤ b42 := Nat.le_trans Z41 (Nat.le_of_eq q42.symm)
    have sz_b42 : h0.size ≤ b42 := Nat.le_trans K41.1 (Nat.le_of_eq q42.symm)
    have Z43 : n0 ≤ h42.size := Nat.le_trans Z41 E42.1
    have O43 : Old Z n0 h42 := O41.ext E42
    have K43 : Keep h0 h42 [] := K41.ext E42
    have F_coder_b42 : Fld Z h42 b42 "java/lang/String" "coder" "B" (.int (0 : Int32)) := D42 (Or.inr (hw _ (List.mem_of_getElem? (i := 27) rfl))) (ty := .byte) (by decide)
    have F_value_b42 : Fld Z h42 b42 "java/lang/String" "value" "[B" .null := D42 (Or.inr (hw _ (List.mem_of_getElem? (i := 29) rfl))) (ty := (.array .byte)) (by decide)
    refine gs st42 ?_
    show OwnGo p e below s _ _ _ (T42.setTop (mkF m 58 #[.val (.long i0), .second, .val (.long i1), .second, .val (.int i2), .val (.int i3), .val (.int i4), .val (.int (1 : Int32)), .val (.ref a31), .val (.ref b34), .unset, .unset, .unset] [(.ref b42)]))
    have c44 : ∀ tg, Steps p.tables e below (T42.setTop (mkF m 61 #[.val (.long i0), .second, .val (.long i1), .second, .val (.int i2), .val (.int i3), .val (.int i4), .val (.int (1 : Int32)), .val (.ref a31), .val (.ref b34), .unset, .unset, .unset] [(.ref b34), (.ref b42), (.ref b42)])) tg → Steps p.tables e below (T42.setTop (mkF m 58 #[.val (.long i0), .second, .val (.long i1), .second, .val (.int i2), .val (.int i3), .val (.int i4), .val (.int (1 : Int32)), .val (.ref a31), .val (.ref b34), .unset, .unset, .unset] [(.ref b42)])) tg := fun tg kg => by
      refine XS.dup X42.here hx rfl (hb hby at_58) rfl rfl ?_
      show Steps p.tables e below (T42.setTop (mkF m 59 #[.val (.long i0), .second, .val (.long i1), .second, .val (.int i2), .val (.int i3), .val (.int i4), .val (.int (1 : Int32)), .val (.ref a31), .val (.ref b34), .unset, .unset, .unset] [(.ref b42), (.ref b42)])) tg
      refine XS.aload X42.here hx rfl (hb hby at_59) rfl rfl ?_
      show Steps p.tables e below (T42.setTop (mkF m 61 #[.val (.long i0), .second, .val (.long i1), .second, .val (.int i2), .val (.int i3), .val (.int i4), .val (.int (1 : Int32)), .val (.ref a31), .val (.ref b34), .unset, .unset, .unset] [(.ref b34), (.ref b42), (.ref b42)])) tg
      exact kg
    refine gs c44 ?_
    have hp45 : ∀ c ∈ ([(nar .char ((i3 &&& (255 : Int32)).toUInt32.toUInt16.toUInt32.toInt32)), (nar .char ((i4 &&& (255 : Int32)).toUInt32.toUInt16.toUInt32.toInt32))] : List Int32), ¬ c < 0 ∧ ¬ (255 : Int32) < c := by
      intro c hc
      simp only [List.mem_cons, List.not_mem_nil, or_false] at hc
      rcases hc with rfl | rfl
      all_goals exact own_and255 _
    have f46 := (V40.ext E42)
    obtain ⟨_, _, ⟨T47, L47, k47, n47⟩, -, X47, ⟨Lc47, hQ47, l47, y47, z47⟩, st47⟩ := X42.specialBack hx (y := (⟨"java/lang/String", "<init>", "([C)V"⟩ : MethodName)) rfl hown (mvT hZ (hw _ (List.mem_of_getElem? (i := 4) rfl))) (mvT hZ (hw _ (List.mem_of_getElem? (i := 5) rfl))) (mvT hZ (hw _ (List.mem_of_getElem? (i := 6) rfl))) (by decide) (StrChars.Road.backV (W := 1) hZ hws (kI := 4) (hw _ (List.mem_of_getElem? (i := 2) rfl)) (cs := ([(nar .char ((i3 &&& (255 : Int32)).toUInt32.toUInt16.toUInt32.toInt32)), (nar .char ((i4 &&& (255 : Int32)).toUInt32.toUInt16.toUInt32.toInt32))] : List Int32)) (bs := ([(nar .char ((i3 &&& (255 : Int32)).toUInt32.toUInt16.toUInt32.toInt32)), (nar .char ((i4 &&& (255 : Int32)).toUInt32.toUInt16.toUInt32.toInt32))] : List Int32).map (fun c => c.toInt8.toInt32)) (n := 2) g_b42 Z43 A42 F_value_b42 F_coder_b42 f46 (S0.ext O43.2) hz rfl rfl (by decide) (by decide) hp45 rfl (by decide) (by decide)) (g := (mkF m 61 #[.val (.long i0), .second, .val (.long i1), .second, .val (.int i2), .val (.int i3), .val (.int i4), .val (.int (1 : Int32)), .val (.ref a31), .val (.ref b34), .unset, .unset, .unset] [(.ref b34), (.ref b42), (.ref b42)])) rfl (by rw [hml]; rfl) (Steps.refl _) (a := b42) (argsL := [(.ref b34)]) (rest := [(.ref b42)]) (lenOf pd_68 rfl) rfl (by show 2 * 0 + _ ≤ _; exact Nat.le_of_eq rfl) (hb hby at_61) (fun _ _ => ⟨rfl, e42, (by decide : 3 + 1 ≤ _), (by decide : 7 + 2 ≤ _)⟩)
    dsimp only [Pt.U, Pt.locs, Pt.cells, Pt.slots] at X47 l47 y47 z47 st47 hQ47
    subst l47 y47 z47
    obtain ⟨rfl, N47q, K47q, g47e, g47c, t47, kb47, -, g47t, -, g47v, g47a⟩ := hQ47
    have N47 := Fr.app N40 N47q
    have g_t47 : n0 ≤ t47 := Nat.le_trans Z43 g47t
    have sz_t47 : h0.size ≤ t47 := Nat.le_trans K43.1 g47t
    have Z48 : n0 ≤ T47.heap.size := Nat.le_trans Z43 K47q.1
    have O48 : Old Z n0 T47.heap := O43.keep K47q (allS g_b42 all0)
    have K48 : Keep h0 T47.heap [] := K43.trans K47q (allS (Or.inr sz_b42) all0)
    refine gs (fun _ k => st47.trans k) ?_
    show OwnGo p e below s _ _ _ (T47.setTop (mkF m 64 #[.val (.long i0), .second, .val (.long i1), .second, .val (.int i2), .val (.int i3), .val (.int i4), .val (.int (1 : Int32)), .val (.ref a31), .val (.ref b34), .unset, .unset, .unset] [(.ref b42)]))
    have c49 : ∀ tg, Steps p.tables e below (T47.setTop (mkF m 66 #[.val (.long i0), .second, .val (.long i1), .second, .val (.int i2), .val (.int i3), .val (.int i4), .val (.int (1 : Int32)), .val (.ref a31), .val (.ref b34), .val (.ref b42), .unset, .unset] [])) tg → Steps p.tables e below (T47.setTop (mkF m 64 #[.val (.long i0), .second, .val (.long i1), .second, .val (.int i2), .val (.int i3), .val (.int i4), .val (.int (1 : Int32)), .val (.ref a31), .val (.ref b34), .unset, .unset, .unset] [(.ref b42)])) tg := fun tg kg => by
      refine XS.astore X47.here hx rfl (hb hby at_64) rfl rfl (l' := #[.val (.long i0), .second, .val (.long i1), .second, .val (.int i2), .val (.int i3), .val (.int i4), .val (.int (1 : Int32)), .val (.ref a31), .val (.ref b34), .val (.ref b42), .unset, .unset]) rfl ?_
      show Steps p.tables e below (T47.setTop (mkF m 66 #[.val (.long i0), .second, .val (.long i1), .second, .val (.int i2), .val (.int i3), .val (.int i4), .val (.int (1 : Int32)), .val (.ref a31), .val (.ref b34), .val (.ref b42), .unset, .unset] [])) tg
      exact kg
    refine gs c49 ?_
    obtain ⟨T50, h50, X50, e50, E50, A50, D50, -, st50⟩ := newO X47 hx hZ hown (hw _ (List.mem_of_getElem? (i := 30) rfl)) (hw _ (List.mem_of_getElem? (i := 31) rfl)) (hw _ (List.mem_of_getElem? (i := 32) rfl)) rfl (g := (mkF m 66 #[.val (.long i0), .second, .val (.long i1), .second, .val (.int i2), .val (.int i3), .val (.int i4), .val (.int (1 : Int32)), .val (.ref a31), .val (.ref b34), .val (.ref b42), .unset, .unset] [])) rfl (hb hby at_66) (by decide) (by decide)
    obtain ⟨b50, q50⟩ : ∃ z, z = T47.heap.size := ⟨_, rfl⟩
    rw [← q50] at A50 D50 st50
    have g_b50 : n0 ≤ b50 := Nat.le_trans Z48 (Nat.le_of_eq q50.symm)
    have sz_b50 : h0.size ≤ b50 := Nat.le_trans K48.1 (Nat.le_of_eq q50.symm)
    have Z51 : n0 ≤ h50.size := Nat.le_trans Z48 E50.1
    have O51 : Old Z n0 h50 := O48.ext E50
    have K51 : Keep h0 h50 [] := K48.ext E50
    have F_id_b50 : Fld Z h50 b50 "com/example/ledgergate/ledgergate/access/User" "id" "J" (.long (0 : Int64)) := D50 (Or.inr (hw _ (List.mem_of_getElem? (i := 43) rfl))) (ty := .long) (by decide)
    have F_tenantId_b50 : Fld Z h50 b50 "com/example/ledgergate/ledgergate/access/User" "tenantId" "Ljava/lang/Long;" .null := D50 (Or.inr (hw _ (List.mem_of_getElem? (i := 45) rfl))) (ty := (.object "java/lang/Long")) (by decide)
    have F_loginName_b50 : Fld Z h50 b50 "com/example/ledgergate/ledgergate/access/User" "loginName" "Ljava/lang/String;" .null := D50 (Or.inr (hw _ (List.mem_of_getElem? (i := 47) rfl))) (ty := (.object "java/lang/String")) (by decide)
    refine gs st50 ?_
    show OwnGo p e below s _ _ _ (T50.setTop (mkF m 69 #[.val (.long i0), .second, .val (.long i1), .second, .val (.int i2), .val (.int i3), .val (.int i4), .val (.int (1 : Int32)), .val (.ref a31), .val (.ref b34), .val (.ref b42), .unset, .unset] [(.ref b50)]))
    have c52 : ∀ tg, Steps p.tables e below (T50.setTop (mkF m 75 #[.val (.long i0), .second, .val (.long i1), .second, .val (.int i2), .val (.int i3), .val (.int i4), .val (.int (1 : Int32)), .val (.ref a31), .val (.ref b34), .val (.ref b42), .unset, .unset] [(.ref b42), (.ref a31), (.long i0), (.ref b50), (.ref b50)])) tg → Steps p.tables e below (T50.setTop (mkF m 69 #[.val (.long i0), .second, .val (.long i1), .second, .val (.int i2), .val (.int i3), .val (.int i4), .val (.int (1 : Int32)), .val (.ref a31), .val (.ref b34), .val (.ref b42), .unset, .unset] [(.ref b50)])) tg := fun tg kg => by
      refine XS.dup X50.here hx rfl (hb hby at_69) rfl rfl ?_
      show Steps p.tables e below (T50.setTop (mkF m 70 #[.val (.long i0), .second, .val (.long i1), .second, .val (.int i2), .val (.int i3), .val (.int i4), .val (.int (1 : Int32)), .val (.ref a31), .val (.ref b34), .val (.ref b42), .unset, .unset] [(.ref b50), (.ref b50)])) tg
      refine XS.lloadN X50.here hx rfl (hb hby at_70) rfl ?_
      show Steps p.tables e below (T50.setTop (mkF m 71 #[.val (.long i0), .second, .val (.long i1), .second, .val (.int i2), .val (.int i3), .val (.int i4), .val (.int (1 : Int32)), .val (.ref a31), .val (.ref b34), .val (.ref b42), .unset, .unset] [(.long i0), (.ref b50), (.ref b50)])) tg
      refine XS.aload X50.here hx rfl (hb hby at_71) rfl rfl ?_
      show Steps p.tables e below (T50.setTop (mkF m 73 #[.val (.long i0), .second, .val (.long i1), .second, .val (.int i2), .val (.int i3), .val (.int i4), .val (.int (1 : Int32)), .val (.ref a31), .val (.ref b34), .val (.ref b42), .unset, .unset] [(.ref a31), (.long i0), (.ref b50), (.ref b50)])) tg
      refine XS.aload X50.here hx rfl (hb hby at_73) rfl rfl ?_
      show Steps p.tables e below (T50.setTop (mkF m 75 #[.val (.long i0), .second, .val (.long i1), .second, .val (.int i2), .val (.int i3), .val (.int i4), .val (.int (1 : Int32)), .val (.ref a31), .val (.ref b34), .val (.ref b42), .unset, .unset] [(.ref b42), (.ref a31), (.long i0), (.ref b50), (.ref b50)])) tg
      exact kg
    refine gs c52 ?_
    obtain ⟨_, _, ⟨T53, L53, k53, n53⟩, -, X53, ⟨Lc53, hQ53, l53, y53, z53⟩, st53⟩ := X50.specialBack hx (y := (⟨"com/example/ledgergate/ledgergate/access/User", "<init>", "(JLjava/lang/Long;Ljava/lang/String;)V"⟩ : MethodName)) rfl hown (mvT hZ (hw _ (List.mem_of_getElem? (i := 33) rfl))) (mvT hZ (hw _ (List.mem_of_getElem? (i := 34) rfl))) (mvT hZ (hw _ (List.mem_of_getElem? (i := 35) rfl))) (by decide) (backC (W := 1) (rm_user_ref l Z a0 hw [] b50 i0 a31 b42 h50 n0 Z51 O51 A50 F_id_b50 F_tenantId_b50 F_loginName_b50 g_b50) hZ (hw _ (List.mem_of_getElem? (i := 35) rfl)) (hw _ (List.mem_of_getElem? (i := 32) rfl)) (by decide) (by decide)) (g := (mkF m 75 #[.val (.long i0), .second, .val (.long i1), .second, .val (.int i2), .val (.int i3), .val (.int i4), .val (.int (1 : Int32)), .val (.ref a31), .val (.ref b34), .val (.ref b42), .unset, .unset] [(.ref b42), (.ref a31), (.long i0), (.ref b50), (.ref b50)])) rfl (by rw [hml]; rfl) (Steps.refl _) (a := b50) (argsL := [(.long i0), (.ref a31), (.ref b42)]) (rest := [(.ref b50)]) (lenOf pd_69 rfl) rfl (by show 2 * 0 + _ ≤ _; exact Nat.le_of_eq rfl) (hb hby at_75) (fun _ _ => ⟨rfl, e50, (by decide : 5 + 0 ≤ _), (by decide : 12 + 0 ≤ _)⟩)
    dsimp only [Pt.U, Pt.locs, Pt.cells, Pt.slots] at X53 l53 y53 z53 st53 hQ53
    subst l53 y53 z53
    obtain ⟨rfl, N53q, K53q, F53⟩ := hQ53
    have N53 := Fr.app N47 N53q
    have Z54 : n0 ≤ T53.heap.size := Nat.le_trans Z51 K53q.1
    have O54 : Old Z n0 T53.heap := O51.keep K53q (allS g_b50 all0)
    have K54 : Keep h0 T53.heap [] := K51.trans K53q (allS (Or.inr sz_b50) all0)
    refine gs (fun _ k => st53.trans k) ?_
    show OwnGo p e below s _ _ _ (T53.setTop (mkF m 78 #[.val (.long i0), .second, .val (.long i1), .second, .val (.int i2), .val (.int i3), .val (.int i4), .val (.int (1 : Int32)), .val (.ref a31), .val (.ref b34), .val (.ref b42), .unset, .unset] [(.ref b50)]))
    have c55 : ∀ tg, Steps p.tables e below (T53.setTop (mkF m 82 #[.val (.long i0), .second, .val (.long i1), .second, .val (.int i2), .val (.int i3), .val (.int i4), .val (.int (1 : Int32)), .val (.ref a31), .val (.ref b34), .val (.ref b42), .val (.ref b50), .unset] [(.ref b50)])) tg → Steps p.tables e below (T53.setTop (mkF m 78 #[.val (.long i0), .second, .val (.long i1), .second, .val (.int i2), .val (.int i3), .val (.int i4), .val (.int (1 : Int32)), .val (.ref a31), .val (.ref b34), .val (.ref b42), .unset, .unset] [(.ref b50)])) tg := fun tg kg => by
      refine XS.astore X53.here hx rfl (hb hby at_78) rfl rfl (l' := #[.val (.long i0), .second, .val (.long i1), .second, .val (.int i2), .val (.int i3), .val (.int i4), .val (.int (1 : Int32)), .val (.ref a31), .val (.ref b34), .val (.ref b42), .val (.ref b50), .unset]) rfl ?_
      show Steps p.tables e below (T53.setTop (mkF m 80 #[.val (.long i0), .second, .val (.long i1), .second, .val (.int i2), .val (.int i3), .val (.int i4), .val (.int (1 : Int32)), .val (.ref a31), .val (.ref b34), .val (.ref b42), .val (.ref b50), .unset] [])) tg
      refine XS.aload X53.here hx rfl (hb hby at_80) rfl rfl ?_
      show Steps p.tables e below (T53.setTop (mkF m 82 #[.val (.long i0), .second, .val (.long i1), .second, .val (.int i2), .val (.int i3), .val (.int i4), .val (.int (1 : Int32)), .val (.ref a31), .val (.ref b34), .val (.ref b42), .val (.ref b50), .unset] [(.ref b50)])) tg
      exact kg
    refine gs c55 ?_
    have f57 := (A50.keep K53q)
    obtain ⟨cq56, kq56, q56a, q56b, q56c⟩ := isOf hZ rfl f57
    obtain ⟨_, _, ⟨T56, L56, k56, n56⟩, -, X56, ⟨Lc56, hQ56, l56, y56, z56⟩, st56⟩ := X53.virtualBack hx (y := (⟨"com/example/ledgergate/ledgergate/access/User", "isPlatformAdmin", "()Z"⟩ : MethodName)) (z := (⟨"com/example/ledgergate/ledgergate/access/User", "isPlatformAdmin", "()Z"⟩ : MethodName)) hown (mvT hZ (hw _ (List.mem_of_getElem? (i := 48) rfl))) (mvT hZ (hw _ (List.mem_of_getElem? (i := 49) rfl))) (notFace_of_selects (args := #[]) (mvT hZ (hw _ (List.mem_of_getElem? (i := 51) rfl)))) (mvT hZ (hw _ (List.mem_of_getElem? (i := 51) rfl))) (mvT hZ (hw _ (List.mem_of_getElem? (i := 50) rfl))) (by decide) (backC (W := 0) (rm_adm_ref l Z a0 hw [] b50 a31 T53.heap n0 Z54 O54 F53) hZ (hw _ (List.mem_of_getElem? (i := 52) rfl)) (hw _ (List.mem_of_getElem? (i := 32) rfl)) (by decide) (by decide)) q56a q56c (g := (mkF m 82 #[.val (.long i0), .second, .val (.long i1), .second, .val (.int i2), .val (.int i3), .val (.int i4), .val (.int (1 : Int32)), .val (.ref a31), .val (.ref b34), .val (.ref b42), .val (.ref b50), .unset] [(.ref b50)])) rfl (by rw [hml]; rfl) (Steps.refl _) (argsL := []) (rest := []) (lenOf pd_70 rfl) rfl (by show 2 * 0 + _ ≤ _; exact Nat.le_of_eq rfl) (hb hby at_82) (fun _ _ => ⟨rfl, rfl, (by decide : 5 + 0 ≤ _), (by decide : 12 + 0 ≤ _)⟩)
    dsimp only [Pt.U, Pt.locs, Pt.cells, Pt.slots] at X56 l56 y56 z56 st56 hQ56
    subst l56 y56 z56
    obtain ⟨rfl, N56q, K56q⟩ := hQ56
    have N56 := Fr.app N53 N56q
    have Z58 : n0 ≤ T56.heap.size := Nat.le_trans Z54 K56q.1
    have O58 : Old Z n0 T56.heap := O54.keep K56q all0
    have K58 : Keep h0 T56.heap [] := K54.trans K56q all0
    refine gs (fun _ k => st56.trans k) ?_
    show OwnGo p e below s _ _ _ (T56.setTop (mkF m 85 #[.val (.long i0), .second, .val (.long i1), .second, .val (.int i2), .val (.int i3), .val (.int i4), .val (.int (1 : Int32)), .val (.ref a31), .val (.ref b34), .val (.ref b42), .val (.ref b50), .unset] [(.int (0 : Int32))]))
    have c59 : ∀ tg, Steps p.tables e below (T56.setTop (mkF m 107 #[.val (.long i0), .second, .val (.long i1), .second, .val (.int i2), .val (.int i3), .val (.int i4), .val (.int (1 : Int32)), .val (.ref a31), .val (.ref b34), .val (.ref b42), .val (.ref b50), .val (.int (0 : Int32))] [(.int (1 : Int32))])) tg → Steps p.tables e below (T56.setTop (mkF m 85 #[.val (.long i0), .second, .val (.long i1), .second, .val (.int i2), .val (.int i3), .val (.int i4), .val (.int (1 : Int32)), .val (.ref a31), .val (.ref b34), .val (.ref b42), .val (.ref b50), .unset] [(.int (0 : Int32))])) tg := fun tg kg => by
      refine XS.istore X56.here hx rfl (hb hby at_85) rfl (l' := #[.val (.long i0), .second, .val (.long i1), .second, .val (.int i2), .val (.int i3), .val (.int i4), .val (.int (1 : Int32)), .val (.ref a31), .val (.ref b34), .val (.ref b42), .val (.ref b50), .val (.int (0 : Int32))]) rfl ?_
      show Steps p.tables e below (T56.setTop (mkF m 87 #[.val (.long i0), .second, .val (.long i1), .second, .val (.int i2), .val (.int i3), .val (.int i4), .val (.int (1 : Int32)), .val (.ref a31), .val (.ref b34), .val (.ref b42), .val (.ref b50), .val (.int (0 : Int32))] [])) tg
      refine XS.iload X56.here hx rfl (hb hby at_87) rfl ?_
      show Steps p.tables e below (T56.setTop (mkF m 89 #[.val (.long i0), .second, .val (.long i1), .second, .val (.int i2), .val (.int i3), .val (.int i4), .val (.int (1 : Int32)), .val (.ref a31), .val (.ref b34), .val (.ref b42), .val (.ref b50), .val (.int (0 : Int32))] [(.int (0 : Int32))])) tg
      refine XS.iload X56.here hx rfl (hb hby at_89) rfl ?_
      show Steps p.tables e below (T56.setTop (mkF m 91 #[.val (.long i0), .second, .val (.long i1), .second, .val (.int i2), .val (.int i3), .val (.int i4), .val (.int (1 : Int32)), .val (.ref a31), .val (.ref b34), .val (.ref b42), .val (.ref b50), .val (.int (0 : Int32))] [(.int (1 : Int32)), (.int (0 : Int32))])) tg
      refine XS.ifYes X56.here hx rfl (pc0 := 91) (pc' := 98) rfl (hb hby at_91) rfl ((if0 _ _).trans (feq (by decide : ¬ ((1 : Int32) = (0 : Int32)))).2) (by decide) (by decide) ?_
      show Steps p.tables e below (T56.setTop (mkF m 98 #[.val (.long i0), .second, .val (.long i1), .second, .val (.int i2), .val (.int i3), .val (.int i4), .val (.int (1 : Int32)), .val (.ref a31), .val (.ref b34), .val (.ref b42), .val (.ref b50), .val (.int (0 : Int32))] [(.int (0 : Int32))])) tg
      refine XS.iconst X56.here hx rfl (hb hby at_98) ?_
      show Steps p.tables e below (T56.setTop (mkF m 99 #[.val (.long i0), .second, .val (.long i1), .second, .val (.int i2), .val (.int i3), .val (.int i4), .val (.int (1 : Int32)), .val (.ref a31), .val (.ref b34), .val (.ref b42), .val (.ref b50), .val (.int (0 : Int32))] [(.int (0 : Int32)), (.int (0 : Int32))])) tg
      refine XS.icmpNo X56.here hx rfl (hb hby at_99) rfl (teq (by decide : (0 : Int32) = (0 : Int32))).2 ?_
      show Steps p.tables e below (T56.setTop (mkF m 102 #[.val (.long i0), .second, .val (.long i1), .second, .val (.int i2), .val (.int i3), .val (.int i4), .val (.int (1 : Int32)), .val (.ref a31), .val (.ref b34), .val (.ref b42), .val (.ref b50), .val (.int (0 : Int32))] [])) tg
      refine XS.iconst X56.here hx rfl (hb hby at_102) ?_
      show Steps p.tables e below (T56.setTop (mkF m 103 #[.val (.long i0), .second, .val (.long i1), .second, .val (.int i2), .val (.int i3), .val (.int i4), .val (.int (1 : Int32)), .val (.ref a31), .val (.ref b34), .val (.ref b42), .val (.ref b50), .val (.int (0 : Int32))] [(.int (1 : Int32))])) tg
      refine XS.goto X56.here hx rfl (pc0 := 103) (pc' := 107) rfl (hb hby at_103) (by decide) (by decide) ?_
      show Steps p.tables e below (T56.setTop (mkF m 107 #[.val (.long i0), .second, .val (.long i1), .second, .val (.int i2), .val (.int i3), .val (.int i4), .val (.int (1 : Int32)), .val (.ref a31), .val (.ref b34), .val (.ref b42), .val (.ref b50), .val (.int (0 : Int32))] [(.int (1 : Int32))])) tg
      exact kg
    refine gs c59 ?_
    refine gout (v := some (.int (1 : Int32))) X56 Bd.notSynchronized (fun h => by rw [Bd.returns] at h; cases h) (by decide) (by decide) ?_ (fun fs hr => retN X56 hx (t := .boolean) Bd.returns (by simp) (hb hby at_107) hr)
    exact ⟨rfl, N56⟩
theorem own_len {Z : State} {args : Array Value} {t : Term} {a : Addr} {c : Cell} {ty : FieldType} {z : Int32} (et : t.eval args Z none [] Z = some (.ref a)) (A : Arr Z Z.heap a c ty) (hl : (Term.length t).eval args Z none [] Z = some (.int z)) : c.slots.size < 2 ^ 31 ∧ c.slots.size.toInt32 = z := by
  have q := A.fin (Vm.Alike.refl _)
  simp [Term.eval, et, q] at hl
  exact ⟨hl.1, hl.2⟩
theorem own_sub {Z : State} {args : Array Value} {j : Int32} (hj : ¬ j < 0) : (Term.sub (Term.index 0) (Term.int 128)).eval args Z none [j.toNatClampNeg] Z = some (.int (j - 128)) := by
  have h := idx_at (args := args) (first := Z) (s := Z) (o := none) hj
  simp only [Term.eval] at h ⊢
  rw [h]
  rfl
set_option maxRecDepth 65536 in
set_option maxHeartbeats 40000000 in
theorem comes_1 {Post : Tables → Env → Array Value → State → Outcome → State → Prop} (hpost : ∀ tb e args s v u, (limb_1_1.after args s (.returned v) u = true ∧ limb_1_2.after args s (.returned v) u = true ∧ True) → FrameEnd s (.returned v) u (Jvm.fieldLocs frame_1_writes args s ++ Jvm.arrayLocs frame_1_arrays args s ++ Jvm.staticLocs frame_1_statics s) 24 128 → Post tb e args s (.returned v) u) :
    ArmFor flags0 classFile x code maxLocals ret World_1 tables_1 room_1 Calls_1 rest_1 Pre_1 Post := by
  intro l hfl _ _ p e ha hc hk s m args below hf hA hF happ hP
  obtain ⟨hcalls, hrest, hpre⟩ := hP
  obtain ⟨-, -, -, hnamed, -, -, -, hat⟩ := (Spec.applies_iff hf).mp happ
  obtain ⟨hg, hn⟩ := and_e (Cond.before_iff.mp (show (Jvm.Cond.and given_1 narrow_1).before args s = true from hpre))
  obtain ⟨hcnt, ga0⟩ := and_e hg
  obtain ⟨gi0, ga1⟩ := and_e ga0
  obtain ⟨gi1, ga2⟩ := and_e ga1
  obtain ⟨gi2, ga3⟩ := and_e ga2
  obtain ⟨gi3, ga4⟩ := and_e ga3
  have gi4 := ga4
  obtain ⟨w0, w1, w2, w3, w4, rfl⟩ : ∃ w0 w1 w2 w3 w4 : Value, args = #[w0, w1, w2, w3, w4] := by
    have hs : args.size = 5 := by simpa [Cond.value, given_1] using hcnt
    obtain ⟨L⟩ := args
    match L, hs with
    | [w0, w1, w2, w3, w4], _ => exact ⟨w0, w1, w2, w3, w4, rfl⟩
  have hw := fun d (hd : d ∈ tables_1) => atoms_spec (ws := Jvm.Cond.code x code maxLocals ret :: tables_1) hat d (List.mem_cons_of_mem _ hd)
  obtain ⟨hsets, hown0⟩ := atoms_of _ (rest_1_c_eq ▸ (show rest_1_c.before _ s = true from hrest))
  have hfit : Fit s := fun {y c} hc i hi => by
    obtain ⟨ha, rfl⟩ := Array.getElem?_eq_some_iff.mp hc
    have q := List.all_eq_true.mp ((Array.all_eq_true_iff_forall_mem.mp hF) _ (Array.getElem_mem ha)) i (List.mem_range.mpr hi)
    simpa [Array.getElem?_eq_getElem hi] using q
  obtain ⟨i0, ei0⟩ := isL_v gi0
  obtain rfl : w0 = (.long i0) := Option.some.inj ei0
  obtain ⟨i1, ei1⟩ := isL_v gi1
  obtain rfl : w1 = (.long i1) := Option.some.inj ei1
  obtain ⟨i2, ei2⟩ := is_v gi2
  obtain rfl : w2 = (.int i2) := Option.some.inj ei2
  obtain ⟨i3, ei3⟩ := is_v gi3
  obtain rfl : w3 = (.int i3) := Option.some.inj ei3
  obtain ⟨i4, ei4⟩ := is_v gi4
  obtain rfl : w4 = (.int i4) := Option.some.inj ei4
  have n5 := not_v (Cond.before_iff.mp (hsets _ (List.mem_of_getElem? (i := 2) rfl)))
  obtain ⟨cz, ecz⟩ := is_v (Cond.before_iff.mp (hsets _ (List.mem_of_getElem? (i := 1) rfl)))
  have Scz : Sta s s.heap "java/lang/String" "COMPACT_STRINGS" "Z" (.int cz) := Sta.start ecz (Or.inl (hsets _ (List.mem_of_getElem? (i := 0) rfl)))
  have hcz : ¬ (cz = (0 : Int32)) := gotF (Cond.eq_ints ecz (Term.int_eval (0))) n5
  obtain ⟨ca, eca⟩ := arr_v (Cond.before_iff.mp (hsets _ (List.mem_of_getElem? (i := 11) rfl)))
  have S_c : Sta s s.heap "java/lang/Long$LongCache" "cache" "[Ljava/lang/Long;" (.ref ca) := Sta.start eca (Or.inl (hsets _ (List.mem_of_getElem? (i := 10) rfl)))
  obtain ⟨cc, Acc⟩ := Arr.start eca (Cond.before_iff.mp (hsets _ (List.mem_of_getElem? (i := 11) rfl)))
  have lcc := eqv_i (Term.int_eval (256)) (Cond.before_iff.mp (hsets _ (List.mem_of_getElem? (i := 13) rfl)))
  obtain ⟨qcc, scc⟩ := own_len eca Acc lcc
  have Bx : Bxs s ca cc "java/lang/Long" "J" (256 : Int32) (fun j => .long (j - 128).toInt64) := Bxs.start (fun _ => eca) Acc qcc scc (by decide) (Cond.before_iff.mp (hsets _ (List.mem_of_getElem? (i := 14) rfl))) (fun X j hj h => eqv_l (i2l_at (own_sub hj)) h)
  obtain ⟨n, o, h1, h2, h3, _, L, rfl, ⟨rfl, N⟩, hq⟩ := rm_law l s _ hw tables_1 i0 i1 i2 i3 i4 cz ca cc _ s.heap s.heap.size (Nat.le_refl _) (Old.start s) Scz hcz S_c Bx p e ha hc hk s m _ below hf ((Spec.applies_iff_loose hf).mp happ).1 ⟨rfl, State.Warmed39.refl s, rfl⟩ trivial
  refine ⟨n, _, h1, h2, h3, hpost _ _ _ _ _ _ ⟨Cond.after_iff.mpr rfl, Cond.after_iff.mpr (eq_i res_at (Term.int_eval (1)) rfl), trivial⟩ ⟨hq.1, hq.2.1, (hq.2.2.sift fun y hy => Or.inr (N y hy)).mono (by decide) (by decide)⟩⟩
theorem main_1_1 : Claimed_1_1 := comes_1 fun _ _ _ _ _ _ h hF => ⟨h.1, hF⟩
theorem main_1_2 : Claimed_1_2 := comes_1 fun _ _ _ _ _ _ h hF => ⟨h.2.1, hF⟩
end Jvm.Pilot.@@N@@
namespace Jvm.Pilot.@@N@@
open Jvm Jvm.ClassFile Sem Op Lib Jvm.Free Jvm.Stand Jvm.Pilot.@@N@@.Jvm.D
/-! MADE BY PROGRAM (witnessworld.py) out of the Statement's table words and the real class files: 25 classes; the members and pool entries that the words name. The judged class is class 1, her method 1. -/
namespace start1
open Jvm.ClassFile
def u (s : String) : CpInfo := .utf8 (stringToUtf16 s)
/-- a pool by its gaps: so many unusable entries, then the entry; so many at the end -/
def gap : Nat → List CpInfo → List CpInfo
  | 0, r => r
  | n + 1, r => .unusable :: gap n r
def poolList (es : List (Nat × CpInfo)) (last : Nat) : List CpInfo := es.foldr (fun e r => gap e.1 (e.2 :: r)) (gap last [])
def pool (es : List (Nat × CpInfo)) (last : Nat) : Array CpInfo := ⟨poolList es last⟩
def fileOf (pool : Array CpInfo) (this : Nat) (attrs : Array Attribute := #[]) (ms : Array MethodInfo := #[]) (fl : Nat := 33) (sup : Nat := 0) (ifs : Array Nat := #[]) (fds : Array FieldInfo := #[]) : ClassFile where
  minorVersion := 0
  majorVersion := 65
  constantPool := pool
  accessFlags := fl
  thisClass := this
  superClass := sup
  interfaces := ifs
  fields := fds
  methods := ms
  attributes := attrs
def plain (name : String) (sup : Option ClassId) : Class where
  name := name
  kind := .ordinary
  loader := none
  accessFlags := 33
  super := sup
  interfaces := #[]
  cf := none
  fields := #[]
  methods := #[]
  instanceTypes := #[]
  staticTypes := #[]
  resolved := #[]
  callSites := []
  init := .initialized
  statics := none
  mirror := none

def pool0 : Array CpInfo := pool [(5, u "<init>"), (0, u "()V"), (1, .class_ 10), (1, u "java/lang/Object")] 113

def k0c0 : Code := { maxStack := 0, maxLocals := 1, code := object_method_1_code, exceptionTable := #[], attributes := #[] }
def k0m0 : Method := { name := "<init>", desc := "()V", sig := { parameters := [], returnType := none }, accessFlags := 1, code := some k0c0 }
/-- java/lang/Object -/
def k0 : Class := { plain "java/lang/Object" none with
  accessFlags := 33
  interfaces := #[]
  cf := some (fileOf pool0 8 #[] #[{ accessFlags := 1, nameIndex := 5, descriptorIndex := 6, attributes := #[] }] 33 0 #[] #[])
  fields := #[]
  methods := #[k0m0]
  instanceTypes := #[]
  staticTypes := #[]
  resolved := Array.replicate 124 none
  statics := none }

def pool1 : Array CpInfo := pool [(2, .class_ 4), (1, u "java/lang/Object"), (0, u "<init>"), (0, u "()V"), (0, .methodref 8 9), (0, .class_ 10), (0, .nameAndType 11 12), (0, u "java/lang/Long"), (0, u "valueOf"), (0, u "(J)Ljava/lang/Long;"), (0, .class_ 14), (0, u "java/lang/String"), (0, .methodref 13 16), (0, .nameAndType 5 17), (0, u "([C)V"), (0, .class_ 19), (0, u "com/example/ledgergate/ledgergate/access/User"), (0, .methodref 18 21), (0, .nameAndType 5 22), (0, u "(JLjava/lang/Long;Ljava/lang/String;)V"), (0, .methodref 18 24), (0, .nameAndType 25 26), (0, u "isPlatformAdmin"), (0, u "()Z"), (0, .class_ 28), (0, u "com/example/ledgergate/ledgergate/access/UserIsPlatformAdminPinLaw"), (2, u "law"), (0, u "(JJIII)Z")] 5

def k1m0 : Method := { name := "<init>", desc := "()V", sig := { parameters := [], returnType := none }, accessFlags := 1, code := none }
def k1c1 : Code := { maxStack := 6, maxLocals := 13, code := code, exceptionTable := #[], attributes := #[] }
def k1m1 : Method := { name := "law", desc := "(JJIII)Z", sig := { parameters := [.long, .long, .int, .int, .int], returnType := some .boolean }, accessFlags := 9, code := some k1c1 }
/-- com/example/ledgergate/ledgergate/access/UserIsPlatformAdminPinLaw -/
def k1 : Class := { plain "com/example/ledgergate/ledgergate/access/UserIsPlatformAdminPinLaw" (some 0) with
  accessFlags := 49
  interfaces := #[]
  cf := some (fileOf pool1 27 #[] #[{ accessFlags := 1, nameIndex := 5, descriptorIndex := 6, attributes := #[] }, { accessFlags := 9, nameIndex := 31, descriptorIndex := 32, attributes := #[] }] 49 2 #[] #[])
  fields := #[]
  methods := #[k1m0, k1m1]
  instanceTypes := #[]
  staticTypes := #[]
  resolved := Array.replicate 38 none
  statics := none }

def pool2 : Array CpInfo := pool [(1, .class_ 2), (0, u "java/io/Serializable"), (0, .class_ 4), (0, u "java/lang/Object")] 2

/-- java/io/Serializable -/
def k2 : Class := { plain "java/io/Serializable" (some 0) with
  accessFlags := 1537
  interfaces := #[]
  cf := some (fileOf pool2 1 #[] #[] 1537 3 #[] #[])
  fields := #[]
  methods := #[]
  instanceTypes := #[]
  staticTypes := #[]
  resolved := Array.replicate 7 none
  statics := none }

def pool3 : Array CpInfo := pool [(1, .class_ 2), (0, u "java/lang/Comparable"), (0, .class_ 4), (0, u "java/lang/Object")] 7

/-- java/lang/Comparable -/
def k3 : Class := { plain "java/lang/Comparable" (some 0) with
  accessFlags := 1537
  interfaces := #[]
  cf := some (fileOf pool3 1 #[] #[] 1537 3 #[] #[])
  fields := #[]
  methods := #[]
  instanceTypes := #[]
  staticTypes := #[]
  resolved := Array.replicate 12 none
  statics := none }

def pool4 : Array CpInfo := pool [(2, .class_ 4), (1, u "java/lang/CharSequence"), (42, .class_ 48), (0, u "java/lang/CharSequence$1CodePointIterator"), (10, .class_ 60), (0, u "java/lang/CharSequence$1CharIterator"), (5, .class_ 67), (0, u "java/lang/Object")] 63

/-- java/lang/CharSequence -/
def k4 : Class := { plain "java/lang/CharSequence" (some 0) with
  accessFlags := 1537
  interfaces := #[]
  cf := some (fileOf pool4 2 #[.nestMembers #[47, 59]] #[] 1537 66 #[] #[])
  fields := #[]
  methods := #[]
  instanceTypes := #[]
  staticTypes := #[]
  resolved := Array.replicate 131 none
  statics := none }

def pool5 : Array CpInfo := pool [(1, .class_ 2), (0, u "java/lang/constant/Constable"), (0, .class_ 4), (0, u "java/lang/Object")] 6

/-- java/lang/constant/Constable -/
def k5 : Class := { plain "java/lang/constant/Constable" (some 0) with
  accessFlags := 1537
  interfaces := #[]
  cf := some (fileOf pool5 1 #[] #[] 1537 3 #[] #[])
  fields := #[]
  methods := #[]
  instanceTypes := #[]
  staticTypes := #[]
  resolved := Array.replicate 11 none
  statics := none }

def pool6 : Array CpInfo := pool [(1, .class_ 2), (0, u "java/lang/constant/ConstantDesc"), (0, .class_ 4), (0, u "java/lang/Object")] 32

/-- java/lang/constant/ConstantDesc -/
def k6 : Class := { plain "java/lang/constant/ConstantDesc" (some 0) with
  accessFlags := 1537
  interfaces := #[]
  cf := some (fileOf pool6 1 #[] #[] 1537 3 #[] #[])
  fields := #[]
  methods := #[]
  instanceTypes := #[]
  staticTypes := #[]
  resolved := Array.replicate 37 none
  statics := none }

def pool7 : Array CpInfo := pool [(1, .methodref 2 3), (0, .class_ 4), (0, .nameAndType 5 6), (0, u "java/lang/Object"), (0, u "<init>"), (0, u "()V"), (2, .fieldref 10 11), (0, .class_ 12), (0, .nameAndType 13 14), (0, u "java/lang/String"), (0, u "value"), (0, u "[B"), (0, .fieldref 10 16), (0, .nameAndType 17 18), (0, u "coder"), (0, u "B"), (2, u "hash"), (0, u "I"), (2, u "hashIsZero"), (0, u "Z"), (0, .methodref 10 28), (0, .nameAndType 5 29), (0, u "([CIILjava/lang/Void;)V"), (8, .fieldref 10 39), (0, .nameAndType 40 26), (0, u "COMPACT_STRINGS"), (1, .class_ 44), (1, u "java/lang/StringUTF16"), (0, u "compress"), (1, .methodref 42 48), (0, .nameAndType 49 50), (0, u "coderFromArrayLen"), (0, u "([BI)B"), (126, .methodref 42 178), (0, .nameAndType 45 179), (0, u "([CII)[B"), (395, .class_ 576), (0, u "java/lang/CharSequence"), (22, u "CASE_INSENSITIVE_ORDER"), (0, u "Ljava/util/Comparator;"), (409, u "([C)V"), (90, u "serialPersistentFields"), (0, u "[Ljava/io/ObjectStreamField;"), (0, .class_ 1104), (0, u "java/lang/String$CaseInsensitiveComparator"), (1, .class_ 1107), (0, u "java/io/Serializable"), (0, .class_ 1109), (0, u "java/lang/Comparable"), (0, .class_ 1111), (0, u "java/lang/constant/Constable"), (0, .class_ 1113), (0, u "java/lang/constant/ConstantDesc"), (2, u "serialVersionUID"), (0, u "J"), (3, u "REPL"), (0, u "C"), (2, u "LATIN1"), (1, u "UTF16")] 323

def k7m0 : Method := { name := "<init>", desc := "()V", sig := { parameters := [], returnType := none }, accessFlags := 1, code := none }
def k7c1 : Code := { maxStack := 5, maxLocals := 2, code := jdk_42_method_3_code, exceptionTable := #[], attributes := #[] }
def k7m1 : Method := { name := "<init>", desc := "([C)V", sig := { parameters := [(.array .char)], returnType := none }, accessFlags := 1, code := some k7c1 }
def k7c2 : Code := { maxStack := 4, maxLocals := 6, code := jdk_42_method_149_code, exceptionTable := #[], attributes := #[] }
def k7m2 : Method := { name := "<init>", desc := "([CIILjava/lang/Void;)V", sig := { parameters := [(.array .char), .int, .int, (.object "java/lang/Void")], returnType := none }, accessFlags := 2, code := some k7c2 }
/-- java/lang/String -/
def k7 : Class := { plain "java/lang/String" (some 0) with
  accessFlags := 49
  interfaces := #[2, 3, 4, 5, 6]
  cf := some (fileOf pool7 10 #[.nestMembers #[1103]] #[{ accessFlags := 1, nameIndex := 5, descriptorIndex := 6, attributes := #[] }, { accessFlags := 1, nameIndex := 5, descriptorIndex := 1010, attributes := #[] }, { accessFlags := 2, nameIndex := 5, descriptorIndex := 29, attributes := #[] }] 49 2 #[1106, 1108, 575, 1110, 1112] #[{ accessFlags := 18, nameIndex := 13, descriptorIndex := 14, attributes := #[] }, { accessFlags := 18, nameIndex := 17, descriptorIndex := 18, attributes := #[] }, { accessFlags := 2, nameIndex := 21, descriptorIndex := 22, attributes := #[] }, { accessFlags := 2, nameIndex := 25, descriptorIndex := 26, attributes := #[] }, { accessFlags := 26, nameIndex := 1116, descriptorIndex := 1117, attributes := #[] }, { accessFlags := 24, nameIndex := 40, descriptorIndex := 26, attributes := #[] }, { accessFlags := 26, nameIndex := 1101, descriptorIndex := 1102, attributes := #[] }, { accessFlags := 26, nameIndex := 1121, descriptorIndex := 1122, attributes := #[] }, { accessFlags := 25, nameIndex := 599, descriptorIndex := 600, attributes := #[] }, { accessFlags := 24, nameIndex := 1125, descriptorIndex := 18, attributes := #[] }, { accessFlags := 24, nameIndex := 1127, descriptorIndex := 18, attributes := #[] }])
  fields := #[{ name := "value", type := (.array .byte), accessFlags := 18, slot := 0, constantValue := 0 }, { name := "coder", type := .byte, accessFlags := 18, slot := 1, constantValue := 0 }, { name := "hash", type := .int, accessFlags := 2, slot := 2, constantValue := 0 }, { name := "hashIsZero", type := .boolean, accessFlags := 2, slot := 3, constantValue := 0 }, { name := "serialVersionUID", type := .long, accessFlags := 26, slot := 0, constantValue := 0 }, { name := "COMPACT_STRINGS", type := .boolean, accessFlags := 24, slot := 1, constantValue := 0 }, { name := "serialPersistentFields", type := (.array (.object "java/io/ObjectStreamField")), accessFlags := 26, slot := 2, constantValue := 0 }, { name := "REPL", type := .char, accessFlags := 26, slot := 3, constantValue := 0 }, { name := "CASE_INSENSITIVE_ORDER", type := (.object "java/util/Comparator"), accessFlags := 25, slot := 4, constantValue := 0 }, { name := "LATIN1", type := .byte, accessFlags := 24, slot := 5, constantValue := 0 }, { name := "UTF16", type := .byte, accessFlags := 24, slot := 6, constantValue := 0 }]
  methods := #[k7m0, k7m1, k7m2]
  instanceTypes := #[(.array .byte), .byte, .int, .boolean]
  staticTypes := #[.long, .boolean, (.array (.object "java/io/ObjectStreamField")), .char, (.object "java/util/Comparator"), .byte, .byte]
  resolved := Array.replicate 1451 none
  statics := some 0 }

def pool8 : Array CpInfo := pool [(6, .class_ 8), (1, u "java/lang/Object"), (0, u "<init>"), (0, u "()V"), (1, .class_ 14), (1, u "java/lang/StringUTF16"), (31, u "$assertionsDisabled"), (0, u "Z"), (13, u "HI_BYTE_SHIFT"), (0, u "I"), (2, u "LO_BYTE_SHIFT"), (49, .methodref 12 116), (0, .nameAndType 117 118), (0, u "compress"), (0, u "([CI[BII)I"), (3, u "([CII)[B"), (138, u "coderFromArrayLen"), (0, u "([BI)B"), (106, .class_ 371), (1, u "java/lang/StringUTF16$LinesSpliterator"), (58, u "MAX_LENGTH"), (196, .class_ 628), (0, u "java/lang/StringUTF16$CodePointsSpliterator"), (0, .class_ 630), (0, u "java/lang/StringUTF16$CharsSpliterator")] 4

def k8m0 : Method := { name := "<init>", desc := "()V", sig := { parameters := [], returnType := none }, accessFlags := 0, code := none }
def k8c1 : Code := { maxStack := 2, maxLocals := 2, code := jdk_52_method_15_code, exceptionTable := #[], attributes := #[] }
def k8m1 : Method := { name := "coderFromArrayLen", desc := "([BI)B", sig := { parameters := [(.array .byte), .int], returnType := some .byte }, accessFlags := 8, code := some k8c1 }
def k8c2 : Code := { maxStack := 5, maxLocals := 6, code := jdk_52_method_16_code, exceptionTable := #[], attributes := #[] }
def k8m2 : Method := { name := "compress", desc := "([CII)[B", sig := { parameters := [(.array .char), .int, .int], returnType := some (.array .byte) }, accessFlags := 9, code := some k8c2 }
def k8c3 : Code := { maxStack := 3, maxLocals := 7, code := jdk_52_method_21_code, exceptionTable := #[], attributes := #[] }
def k8m3 : Method := { name := "compress", desc := "([CI[BII)I", sig := { parameters := [(.array .char), .int, (.array .byte), .int, .int], returnType := some .int }, accessFlags := 9, code := some k8c3 }
/-- java/lang/StringUTF16 -/
def k8 : Class := { plain "java/lang/StringUTF16" (some 0) with
  accessFlags := 48
  interfaces := #[]
  cf := some (fileOf pool8 12 #[.nestMembers #[627, 629, 369]] #[{ accessFlags := 0, nameIndex := 9, descriptorIndex := 10, attributes := #[] }, { accessFlags := 8, nameIndex := 261, descriptorIndex := 262, attributes := #[] }, { accessFlags := 9, nameIndex := 117, descriptorIndex := 122, attributes := #[] }, { accessFlags := 9, nameIndex := 117, descriptorIndex := 118, attributes := #[] }] 48 6 #[] #[{ accessFlags := 26, nameIndex := 61, descriptorIndex := 62, attributes := #[] }, { accessFlags := 26, nameIndex := 65, descriptorIndex := 62, attributes := #[] }, { accessFlags := 24, nameIndex := 430, descriptorIndex := 62, attributes := #[] }, { accessFlags := 4120, nameIndex := 46, descriptorIndex := 47, attributes := #[] }])
  fields := #[{ name := "HI_BYTE_SHIFT", type := .int, accessFlags := 26, slot := 0, constantValue := 0 }, { name := "LO_BYTE_SHIFT", type := .int, accessFlags := 26, slot := 1, constantValue := 0 }, { name := "MAX_LENGTH", type := .int, accessFlags := 24, slot := 2, constantValue := 0 }, { name := "$assertionsDisabled", type := .boolean, accessFlags := 4120, slot := 3, constantValue := 0 }]
  methods := #[k8m0, k8m1, k8m2, k8m3]
  instanceTypes := #[]
  staticTypes := #[.int, .int, .int, .boolean]
  resolved := Array.replicate 635 none
  statics := none }

def pool9 : Array CpInfo := pool [(1, .methodref 2 3), (0, .class_ 4), (0, .nameAndType 5 6), (0, u "java/lang/Object"), (0, u "<init>"), (0, u "()V"), (0, .class_ 8), (0, u "java/lang/Record")] 13

def k9c0 : Code := { maxStack := 1, maxLocals := 1, code := jdk_30_method_1_code, exceptionTable := #[], attributes := #[] }
def k9m0 : Method := { name := "<init>", desc := "()V", sig := { parameters := [], returnType := none }, accessFlags := 4, code := some k9c0 }
/-- java/lang/Record -/
def k9 : Class := { plain "java/lang/Record" (some 0) with
  accessFlags := 1057
  interfaces := #[]
  cf := some (fileOf pool9 7 #[] #[{ accessFlags := 4, nameIndex := 5, descriptorIndex := 6, attributes := #[] }] 1057 2 #[] #[])
  fields := #[]
  methods := #[k9m0]
  instanceTypes := #[]
  staticTypes := #[]
  resolved := Array.replicate 22 none
  statics := none }

def pool10 : Array CpInfo := pool [(1, .methodref 2 3), (0, .class_ 4), (0, .nameAndType 5 6), (0, u "java/lang/Record"), (0, u "<init>"), (0, u "()V"), (0, .fieldref 8 9), (0, .class_ 10), (0, .nameAndType 11 12), (0, u "com/example/ledgergate/ledgergate/access/User"), (0, u "id"), (0, u "J"), (0, .fieldref 8 14), (0, .nameAndType 15 16), (0, u "tenantId"), (0, u "Ljava/lang/Long;"), (0, .fieldref 8 18), (0, .nameAndType 19 20), (0, u "loginName"), (0, u "Ljava/lang/String;"), (12, u "(JLjava/lang/Long;Ljava/lang/String;)V"), (3, u "isPlatformAdmin"), (0, u "()Z")] 28

def k10c0 : Code := { maxStack := 3, maxLocals := 5, code := prog_16_method_1_code, exceptionTable := #[], attributes := #[] }
def k10m0 : Method := { name := "<init>", desc := "(JLjava/lang/Long;Ljava/lang/String;)V", sig := { parameters := [.long, (.object "java/lang/Long"), (.object "java/lang/String")], returnType := none }, accessFlags := 1, code := some k10c0 }
def k10c1 : Code := { maxStack := 1, maxLocals := 1, code := prog_16_method_2_code, exceptionTable := #[], attributes := #[] }
def k10m1 : Method := { name := "isPlatformAdmin", desc := "()Z", sig := { parameters := [], returnType := some .boolean }, accessFlags := 1, code := some k10c1 }
/-- com/example/ledgergate/ledgergate/access/User -/
def k10 : Class := { plain "com/example/ledgergate/ledgergate/access/User" (some 9) with
  accessFlags := 49
  interfaces := #[]
  cf := some (fileOf pool10 8 #[] #[{ accessFlags := 1, nameIndex := 5, descriptorIndex := 33, attributes := #[] }, { accessFlags := 1, nameIndex := 37, descriptorIndex := 38, attributes := #[] }] 49 2 #[] #[{ accessFlags := 18, nameIndex := 11, descriptorIndex := 12, attributes := #[] }, { accessFlags := 18, nameIndex := 15, descriptorIndex := 16, attributes := #[] }, { accessFlags := 18, nameIndex := 19, descriptorIndex := 20, attributes := #[] }])
  fields := #[{ name := "id", type := .long, accessFlags := 18, slot := 0, constantValue := 0 }, { name := "tenantId", type := (.object "java/lang/Long"), accessFlags := 18, slot := 1, constantValue := 0 }, { name := "loginName", type := (.object "java/lang/String"), accessFlags := 18, slot := 2, constantValue := 0 }]
  methods := #[k10m0, k10m1]
  instanceTypes := #[.long, (.object "java/lang/Long"), (.object "java/lang/String")]
  staticTypes := #[]
  resolved := Array.replicate 67 none
  statics := none }

def pool11 : Array CpInfo := pool [(1, .methodref 2 3), (0, .class_ 4), (0, .nameAndType 5 6), (0, u "java/lang/Object"), (0, u "<init>"), (0, u "()V"), (1, .class_ 10), (1, u "java/lang/Number"), (2, .class_ 14), (0, u "java/io/Serializable"), (0, u "serialVersionUID"), (0, u "J")] 20

def k11c0 : Code := { maxStack := 1, maxLocals := 1, code := jdk_18_method_1_code, exceptionTable := #[], attributes := #[] }
def k11m0 : Method := { name := "<init>", desc := "()V", sig := { parameters := [], returnType := none }, accessFlags := 1, code := some k11c0 }
/-- java/lang/Number -/
def k11 : Class := { plain "java/lang/Number" (some 0) with
  accessFlags := 1057
  interfaces := #[2]
  cf := some (fileOf pool11 8 #[] #[{ accessFlags := 1, nameIndex := 5, descriptorIndex := 6, attributes := #[] }] 1057 2 #[13] #[{ accessFlags := 26, nameIndex := 15, descriptorIndex := 16, attributes := #[] }])
  fields := #[{ name := "serialVersionUID", type := .long, accessFlags := 26, slot := 0, constantValue := 0 }]
  methods := #[k11m0]
  instanceTypes := #[]
  staticTypes := #[.long]
  resolved := Array.replicate 37 none
  statics := none }

def pool12 : Array CpInfo := pool [(1, .class_ 2), (0, u "java/lang/Long"), (55, .nameAndType 59 60), (0, u "<init>"), (0, u "()V"), (24, u "valueOf"), (143, u "(J)Ljava/lang/Long;"), (0, .long 18446744073709551488), (1, .long 127), (1, .fieldref 235 236), (0, .class_ 237), (0, .nameAndType 238 239), (0, u "java/lang/Long$LongCache"), (0, u "cache"), (0, u "[Ljava/lang/Long;"), (0, .methodref 1 241), (0, .nameAndType 59 242), (0, u "(J)V"), (27, .methodref 271 58), (0, .class_ 272), (0, u "java/lang/Number"), (0, .fieldref 1 274), (0, .nameAndType 275 276), (0, u "value"), (0, u "J"), (84, u "TYPE"), (0, u "Ljava/lang/Class;"), (0, .class_ 364), (0, u "java/lang/Comparable"), (0, .class_ 366), (0, u "java/lang/constant/Constable"), (0, .class_ 368), (0, u "java/lang/constant/ConstantDesc"), (0, u "MIN_VALUE"), (1, u "MAX_VALUE"), (4, u "SIZE"), (0, u "I"), (1, u "BYTES"), (1, u "serialVersionUID")] 142

def k12c0 : Code := { maxStack := 4, maxLocals := 3, code := jdk_35_method_24_code, exceptionTable := #[], attributes := #[] }
def k12m0 : Method := { name := "valueOf", desc := "(J)Ljava/lang/Long;", sig := { parameters := [.long], returnType := some (.object "java/lang/Long") }, accessFlags := 9, code := some k12c0 }
def k12c1 : Code := { maxStack := 3, maxLocals := 3, code := jdk_35_method_26_code, exceptionTable := #[], attributes := #[] }
def k12m1 : Method := { name := "<init>", desc := "(J)V", sig := { parameters := [.long], returnType := none }, accessFlags := 1, code := some k12c1 }
/-- java/lang/Long -/
def k12 : Class := { plain "java/lang/Long" (some 11) with
  accessFlags := 49
  interfaces := #[3, 5, 6]
  cf := some (fileOf pool12 1 #[.nestMembers #[235]] #[{ accessFlags := 9, nameIndex := 85, descriptorIndex := 229, attributes := #[] }, { accessFlags := 1, nameIndex := 59, descriptorIndex := 242, attributes := #[] }] 49 271 #[363, 365, 367] #[{ accessFlags := 25, nameIndex := 369, descriptorIndex := 276, attributes := #[] }, { accessFlags := 25, nameIndex := 371, descriptorIndex := 276, attributes := #[] }, { accessFlags := 25, nameIndex := 361, descriptorIndex := 362, attributes := #[] }, { accessFlags := 18, nameIndex := 275, descriptorIndex := 276, attributes := #[] }, { accessFlags := 25, nameIndex := 376, descriptorIndex := 377, attributes := #[] }, { accessFlags := 25, nameIndex := 379, descriptorIndex := 377, attributes := #[] }, { accessFlags := 26, nameIndex := 381, descriptorIndex := 276, attributes := #[] }])
  fields := #[{ name := "MIN_VALUE", type := .long, accessFlags := 25, slot := 0, constantValue := 0 }, { name := "MAX_VALUE", type := .long, accessFlags := 25, slot := 1, constantValue := 0 }, { name := "TYPE", type := (.object "java/lang/Class"), accessFlags := 25, slot := 2, constantValue := 0 }, { name := "value", type := .long, accessFlags := 18, slot := 0, constantValue := 0 }, { name := "SIZE", type := .int, accessFlags := 25, slot := 3, constantValue := 0 }, { name := "BYTES", type := .int, accessFlags := 25, slot := 4, constantValue := 0 }, { name := "serialVersionUID", type := .long, accessFlags := 26, slot := 5, constantValue := 0 }]
  methods := #[k12m0, k12m1]
  instanceTypes := #[.long]
  staticTypes := #[.long, .long, (.object "java/lang/Class"), .int, .int, .long]
  resolved := Array.replicate 524 none
  statics := none }

def pool13 : Array CpInfo := pool [(2, .class_ 4), (1, u "java/lang/Object"), (0, u "<init>"), (0, u "()V"), (0, .class_ 8), (0, u "java/lang/Long"), (7, .class_ 18), (1, u "java/lang/Long$LongCache"), (0, u "$assertionsDisabled"), (0, u "Z"), (8, u "archivedCache"), (0, u "[Ljava/lang/Long;"), (7, u "cache")] 24

def k13m0 : Method := { name := "<init>", desc := "()V", sig := { parameters := [], returnType := none }, accessFlags := 2, code := none }
/-- java/lang/Long$LongCache -/
def k13 : Class := { plain "java/lang/Long$LongCache" (some 0) with
  accessFlags := 48
  interfaces := #[]
  cf := some (fileOf pool13 16 #[.nestHost 7] #[{ accessFlags := 2, nameIndex := 5, descriptorIndex := 6, attributes := #[] }] 48 2 #[] #[{ accessFlags := 24, nameIndex := 38, descriptorIndex := 30, attributes := #[] }, { accessFlags := 8, nameIndex := 29, descriptorIndex := 30, attributes := #[] }, { accessFlags := 4120, nameIndex := 19, descriptorIndex := 20, attributes := #[] }])
  fields := #[{ name := "cache", type := (.array (.object "java/lang/Long")), accessFlags := 24, slot := 0, constantValue := 0 }, { name := "archivedCache", type := (.array (.object "java/lang/Long")), accessFlags := 8, slot := 1, constantValue := 0 }, { name := "$assertionsDisabled", type := .boolean, accessFlags := 4120, slot := 2, constantValue := 0 }]
  methods := #[k13m0]
  instanceTypes := #[]
  staticTypes := #[(.array (.object "java/lang/Long")), (.array (.object "java/lang/Long")), .boolean]
  resolved := Array.replicate 63 none
  statics := some 1 }

def pool14 : Array CpInfo := pool [(4, .class_ 6), (1, u "java/lang/Object"), (0, u "<init>"), (0, u "()V"), (5, .class_ 16), (1, u "java/lang/StringLatin1"), (104, u "$assertionsDisabled"), (0, u "Z"), (98, .class_ 223), (1, u "java/lang/StringLatin1$LinesSpliterator"), (166, .class_ 391), (0, u "java/lang/StringLatin1$CharsSpliterator")] 3

def k14m0 : Method := { name := "<init>", desc := "()V", sig := { parameters := [], returnType := none }, accessFlags := 0, code := none }
/-- java/lang/StringLatin1 -/
def k14 : Class := { plain "java/lang/StringLatin1" (some 0) with
  accessFlags := 48
  interfaces := #[]
  cf := some (fileOf pool14 14 #[.nestMembers #[390, 221]] #[{ accessFlags := 0, nameIndex := 7, descriptorIndex := 8, attributes := #[] }] 48 4 #[] #[{ accessFlags := 4120, nameIndex := 121, descriptorIndex := 122, attributes := #[] }])
  fields := #[{ name := "$assertionsDisabled", type := .boolean, accessFlags := 4120, slot := 0, constantValue := 0 }]
  methods := #[k14m0]
  instanceTypes := #[]
  staticTypes := #[.boolean]
  resolved := Array.replicate 395 none
  statics := none }

def pool15 : Array CpInfo := pool [(2, .class_ 4), (1, u "java/lang/Object"), (0, u "<init>"), (0, u "()V"), (17, .class_ 26), (1, u "jdk/internal/util/Preconditions"), (28, .class_ 56), (0, u "jdk/internal/util/Preconditions$4"), (57, .class_ 115), (0, u "jdk/internal/util/Preconditions$1"), (7, u "SIOOBE_FORMATTER"), (0, u "Ljava/util/function/BiFunction;"), (0, .class_ 126), (0, u "jdk/internal/util/Preconditions$2"), (3, u "AIOOBE_FORMATTER"), (0, .class_ 132), (0, u "jdk/internal/util/Preconditions$3"), (3, u "IOOBE_FORMATTER")] 57

def k15m0 : Method := { name := "<init>", desc := "()V", sig := { parameters := [], returnType := none }, accessFlags := 1, code := none }
/-- jdk/internal/util/Preconditions -/
def k15 : Class := { plain "jdk/internal/util/Preconditions" (some 0) with
  accessFlags := 33
  interfaces := #[]
  cf := some (fileOf pool15 24 #[.nestMembers #[55, 131, 125, 114]] #[{ accessFlags := 1, nameIndex := 5, descriptorIndex := 6, attributes := #[] }] 33 2 #[] #[{ accessFlags := 25, nameIndex := 123, descriptorIndex := 124, attributes := #[] }, { accessFlags := 25, nameIndex := 130, descriptorIndex := 124, attributes := #[] }, { accessFlags := 25, nameIndex := 136, descriptorIndex := 124, attributes := #[] }])
  fields := #[{ name := "SIOOBE_FORMATTER", type := (.object "java/util/function/BiFunction"), accessFlags := 25, slot := 0, constantValue := 0 }, { name := "AIOOBE_FORMATTER", type := (.object "java/util/function/BiFunction"), accessFlags := 25, slot := 1, constantValue := 0 }, { name := "IOOBE_FORMATTER", type := (.object "java/util/function/BiFunction"), accessFlags := 25, slot := 2, constantValue := 0 }]
  methods := #[k15m0]
  instanceTypes := #[]
  staticTypes := #[(.object "java/util/function/BiFunction"), (.object "java/util/function/BiFunction"), (.object "java/util/function/BiFunction")]
  resolved := Array.replicate 194 none
  statics := some 2 }

def pool16 : Array CpInfo := pool [(9, u "<init>"), (6, .class_ 18), (1, u "java/lang/Object"), (0, u "()V"), (1, .class_ 23), (1, u "jdk/internal/util/ArraysSupport"), (0, u "LOG2_ARRAY_LONG_INDEX_SCALE"), (0, u "I"), (2, u "U"), (0, u "Ljdk/internal/misc/Unsafe;"), (8, u "BIG_ENDIAN"), (0, u "Z"), (8, u "LOG2_BYTE_BIT_SIZE"), (4, u "LOG2_ARRAY_INT_INDEX_SCALE"), (54, u "JLA"), (0, u "Ljdk/internal/access/JavaLangAccess;"), (11, u "LOG2_ARRAY_BOOLEAN_INDEX_SCALE"), (9, u "LOG2_ARRAY_BYTE_INDEX_SCALE"), (5, u "LOG2_ARRAY_CHAR_INDEX_SCALE"), (5, u "LOG2_ARRAY_SHORT_INDEX_SCALE"), (18, u "LOG2_ARRAY_FLOAT_INDEX_SCALE"), (24, u "LOG2_ARRAY_DOUBLE_INDEX_SCALE"), (89, u "T_BOOLEAN"), (2, u "T_CHAR"), (1, u "T_FLOAT"), (1, u "T_DOUBLE"), (1, u "T_BYTE"), (1, u "T_SHORT"), (1, u "T_INT"), (1, u "T_LONG"), (1, u "SOFT_MAX_ARRAY_LENGTH")] 83

def k16m0 : Method := { name := "<init>", desc := "()V", sig := { parameters := [], returnType := none }, accessFlags := 2, code := none }
/-- jdk/internal/util/ArraysSupport -/
def k16 : Class := { plain "jdk/internal/util/ArraysSupport" (some 0) with
  accessFlags := 33
  interfaces := #[]
  cf := some (fileOf pool16 21 #[] #[{ accessFlags := 2, nameIndex := 9, descriptorIndex := 19, attributes := #[] }] 33 16 #[] #[{ accessFlags := 24, nameIndex := 28, descriptorIndex := 29, attributes := #[] }, { accessFlags := 26, nameIndex := 38, descriptorIndex := 39, attributes := #[] }, { accessFlags := 25, nameIndex := 121, descriptorIndex := 25, attributes := #[] }, { accessFlags := 25, nameIndex := 131, descriptorIndex := 25, attributes := #[] }, { accessFlags := 25, nameIndex := 137, descriptorIndex := 25, attributes := #[] }, { accessFlags := 25, nameIndex := 143, descriptorIndex := 25, attributes := #[] }, { accessFlags := 25, nameIndex := 53, descriptorIndex := 25, attributes := #[] }, { accessFlags := 25, nameIndex := 24, descriptorIndex := 25, attributes := #[] }, { accessFlags := 25, nameIndex := 162, descriptorIndex := 25, attributes := #[] }, { accessFlags := 25, nameIndex := 187, descriptorIndex := 25, attributes := #[] }, { accessFlags := 26, nameIndex := 48, descriptorIndex := 25, attributes := #[] }, { accessFlags := 25, nameIndex := 277, descriptorIndex := 25, attributes := #[] }, { accessFlags := 25, nameIndex := 280, descriptorIndex := 25, attributes := #[] }, { accessFlags := 25, nameIndex := 282, descriptorIndex := 25, attributes := #[] }, { accessFlags := 25, nameIndex := 284, descriptorIndex := 25, attributes := #[] }, { accessFlags := 25, nameIndex := 286, descriptorIndex := 25, attributes := #[] }, { accessFlags := 25, nameIndex := 288, descriptorIndex := 25, attributes := #[] }, { accessFlags := 25, nameIndex := 290, descriptorIndex := 25, attributes := #[] }, { accessFlags := 25, nameIndex := 292, descriptorIndex := 25, attributes := #[] }, { accessFlags := 26, nameIndex := 108, descriptorIndex := 109, attributes := #[] }, { accessFlags := 25, nameIndex := 294, descriptorIndex := 25, attributes := #[] }])
  fields := #[{ name := "U", type := (.object "jdk/internal/misc/Unsafe"), accessFlags := 24, slot := 0, constantValue := 0 }, { name := "BIG_ENDIAN", type := .boolean, accessFlags := 26, slot := 1, constantValue := 0 }, { name := "LOG2_ARRAY_BOOLEAN_INDEX_SCALE", type := .int, accessFlags := 25, slot := 2, constantValue := 0 }, { name := "LOG2_ARRAY_BYTE_INDEX_SCALE", type := .int, accessFlags := 25, slot := 3, constantValue := 0 }, { name := "LOG2_ARRAY_CHAR_INDEX_SCALE", type := .int, accessFlags := 25, slot := 4, constantValue := 0 }, { name := "LOG2_ARRAY_SHORT_INDEX_SCALE", type := .int, accessFlags := 25, slot := 5, constantValue := 0 }, { name := "LOG2_ARRAY_INT_INDEX_SCALE", type := .int, accessFlags := 25, slot := 6, constantValue := 0 }, { name := "LOG2_ARRAY_LONG_INDEX_SCALE", type := .int, accessFlags := 25, slot := 7, constantValue := 0 }, { name := "LOG2_ARRAY_FLOAT_INDEX_SCALE", type := .int, accessFlags := 25, slot := 8, constantValue := 0 }, { name := "LOG2_ARRAY_DOUBLE_INDEX_SCALE", type := .int, accessFlags := 25, slot := 9, constantValue := 0 }, { name := "LOG2_BYTE_BIT_SIZE", type := .int, accessFlags := 26, slot := 10, constantValue := 0 }, { name := "T_BOOLEAN", type := .int, accessFlags := 25, slot := 11, constantValue := 0 }, { name := "T_CHAR", type := .int, accessFlags := 25, slot := 12, constantValue := 0 }, { name := "T_FLOAT", type := .int, accessFlags := 25, slot := 13, constantValue := 0 }, { name := "T_DOUBLE", type := .int, accessFlags := 25, slot := 14, constantValue := 0 }, { name := "T_BYTE", type := .int, accessFlags := 25, slot := 15, constantValue := 0 }, { name := "T_SHORT", type := .int, accessFlags := 25, slot := 16, constantValue := 0 }, { name := "T_INT", type := .int, accessFlags := 25, slot := 17, constantValue := 0 }, { name := "T_LONG", type := .int, accessFlags := 25, slot := 18, constantValue := 0 }, { name := "JLA", type := (.object "jdk/internal/access/JavaLangAccess"), accessFlags := 26, slot := 19, constantValue := 0 }, { name := "SOFT_MAX_ARRAY_LENGTH", type := .int, accessFlags := 25, slot := 20, constantValue := 0 }]
  methods := #[k16m0]
  instanceTypes := #[]
  staticTypes := #[(.object "jdk/internal/misc/Unsafe"), .boolean, .int, .int, .int, .int, .int, .int, .int, .int, .int, .int, .int, .int, .int, .int, .int, .int, .int, (.object "jdk/internal/access/JavaLangAccess"), .int]
  resolved := Array.replicate 378 none
  statics := none }

def pool17 : Array CpInfo := pool [(1, u "java/lang/Cloneable"), (0, .class_ 1), (0, u "java/lang/Object"), (0, .class_ 3)] 3

/-- java/lang/Cloneable -/
def k17 : Class := { plain "java/lang/Cloneable" (some 0) with
  accessFlags := 1537
  interfaces := #[]
  cf := some (fileOf pool17 2 #[] #[] 1537 4 #[] #[])
  fields := #[]
  methods := #[]
  instanceTypes := #[]
  staticTypes := #[]
  resolved := Array.replicate 8 none
  statics := none }

/-- the primitive byte -/
def k18 : Class := { plain "byte" none with kind := .primitive 'B', accessFlags := 0x411 }
/-- [B -/
def k19 : Class := { plain "[B" (some 0) with kind := .array 18 .byte, interfaces := #[17, 2], accessFlags := 1041 }

/-- the primitive char -/
def k20 : Class := { plain "char" none with kind := .primitive 'C', accessFlags := 0x411 }
/-- [C -/
def k21 : Class := { plain "[C" (some 0) with kind := .array 20 .char, interfaces := #[17, 2], accessFlags := 1041 }

/-- the primitive int -/
def k22 : Class := { plain "int" none with kind := .primitive 'I', accessFlags := 0x411 }
/-- [I -/
def k23 : Class := { plain "[I" (some 0) with kind := .array 22 .int, interfaces := #[17, 2], accessFlags := 1041 }

/-- [Ljava/lang/Long; -/
def k24 : Class := { plain "[Ljava/lang/Long;" (some 0) with kind := .array 12 (.object "java/lang/Long"), interfaces := #[17, 2], accessFlags := 1041 }

def heap : Heap := #[{ cls := 7, slots := #[.long 0, .int 1, .null, .int 0, .null, .int 0, .int 0], vm := .statics 7 },
  { cls := 13, slots := #[.ref 3, .null, .int 0], vm := .statics 13 },
  { cls := 15, slots := #[.null, .null, .null], vm := .statics 15 },
  { cls := 24, slots := #[.ref 4, .ref 5, .ref 6, .ref 7, .ref 8, .ref 9, .ref 10, .ref 11, .ref 12, .ref 13, .ref 14, .ref 15, .ref 16, .ref 17, .ref 18, .ref 19, .ref 20, .ref 21, .ref 22, .ref 23, .ref 24, .ref 25, .ref 26, .ref 27, .ref 28, .ref 29, .ref 30, .ref 31, .ref 32, .ref 33, .ref 34, .ref 35, .ref 36, .ref 37, .ref 38, .ref 39, .ref 40, .ref 41, .ref 42, .ref 43, .ref 44, .ref 45, .ref 46, .ref 47, .ref 48, .ref 49, .ref 50, .ref 51, .ref 52, .ref 53, .ref 54, .ref 55, .ref 56, .ref 57, .ref 58, .ref 59, .ref 60, .ref 61, .ref 62, .ref 63, .ref 64, .ref 65, .ref 66, .ref 67, .ref 68, .ref 69, .ref 70, .ref 71, .ref 72, .ref 73, .ref 74, .ref 75, .ref 76, .ref 77, .ref 78, .ref 79, .ref 80, .ref 81, .ref 82, .ref 83, .ref 84, .ref 85, .ref 86, .ref 87, .ref 88, .ref 89, .ref 90, .ref 91, .ref 92, .ref 93, .ref 94, .ref 95, .ref 96, .ref 97, .ref 98, .ref 99, .ref 100, .ref 101, .ref 102, .ref 103, .ref 104, .ref 105, .ref 106, .ref 107, .ref 108, .ref 109, .ref 110, .ref 111, .ref 112, .ref 113, .ref 114, .ref 115, .ref 116, .ref 117, .ref 118, .ref 119, .ref 120, .ref 121, .ref 122, .ref 123, .ref 124, .ref 125, .ref 126, .ref 127, .ref 128, .ref 129, .ref 130, .ref 131, .ref 132, .ref 133, .ref 134, .ref 135, .ref 136, .ref 137, .ref 138, .ref 139, .ref 140, .ref 141, .ref 142, .ref 143, .ref 144, .ref 145, .ref 146, .ref 147, .ref 148, .ref 149, .ref 150, .ref 151, .ref 152, .ref 153, .ref 154, .ref 155, .ref 156, .ref 157, .ref 158, .ref 159, .ref 160, .ref 161, .ref 162, .ref 163, .ref 164, .ref 165, .ref 166, .ref 167, .ref 168, .ref 169, .ref 170, .ref 171, .ref 172, .ref 173, .ref 174, .ref 175, .ref 176, .ref 177, .ref 178, .ref 179, .ref 180, .ref 181, .ref 182, .ref 183, .ref 184, .ref 185, .ref 186, .ref 187, .ref 188, .ref 189, .ref 190, .ref 191, .ref 192, .ref 193, .ref 194, .ref 195, .ref 196, .ref 197, .ref 198, .ref 199, .ref 200, .ref 201, .ref 202, .ref 203, .ref 204, .ref 205, .ref 206, .ref 207, .ref 208, .ref 209, .ref 210, .ref 211, .ref 212, .ref 213, .ref 214, .ref 215, .ref 216, .ref 217, .ref 218, .ref 219, .ref 220, .ref 221, .ref 222, .ref 223, .ref 224, .ref 225, .ref 226, .ref 227, .ref 228, .ref 229, .ref 230, .ref 231, .ref 232, .ref 233, .ref 234, .ref 235, .ref 236, .ref 237, .ref 238, .ref 239, .ref 240, .ref 241, .ref 242, .ref 243, .ref 244, .ref 245, .ref 246, .ref 247, .ref 248, .ref 249, .ref 250, .ref 251, .ref 252, .ref 253, .ref 254, .ref 255, .ref 256, .ref 257, .ref 258, .ref 259], vm := .none },
  { cls := 12, slots := #[.long (-128)], vm := .none },
  { cls := 12, slots := #[.long (-127)], vm := .none },
  { cls := 12, slots := #[.long (-126)], vm := .none },
  { cls := 12, slots := #[.long (-125)], vm := .none },
  { cls := 12, slots := #[.long (-124)], vm := .none },
  { cls := 12, slots := #[.long (-123)], vm := .none },
  { cls := 12, slots := #[.long (-122)], vm := .none },
  { cls := 12, slots := #[.long (-121)], vm := .none },
  { cls := 12, slots := #[.long (-120)], vm := .none },
  { cls := 12, slots := #[.long (-119)], vm := .none },
  { cls := 12, slots := #[.long (-118)], vm := .none },
  { cls := 12, slots := #[.long (-117)], vm := .none },
  { cls := 12, slots := #[.long (-116)], vm := .none },
  { cls := 12, slots := #[.long (-115)], vm := .none },
  { cls := 12, slots := #[.long (-114)], vm := .none },
  { cls := 12, slots := #[.long (-113)], vm := .none },
  { cls := 12, slots := #[.long (-112)], vm := .none },
  { cls := 12, slots := #[.long (-111)], vm := .none },
  { cls := 12, slots := #[.long (-110)], vm := .none },
  { cls := 12, slots := #[.long (-109)], vm := .none },
  { cls := 12, slots := #[.long (-108)], vm := .none },
  { cls := 12, slots := #[.long (-107)], vm := .none },
  { cls := 12, slots := #[.long (-106)], vm := .none },
  { cls := 12, slots := #[.long (-105)], vm := .none },
  { cls := 12, slots := #[.long (-104)], vm := .none },
  { cls := 12, slots := #[.long (-103)], vm := .none },
  { cls := 12, slots := #[.long (-102)], vm := .none },
  { cls := 12, slots := #[.long (-101)], vm := .none },
  { cls := 12, slots := #[.long (-100)], vm := .none },
  { cls := 12, slots := #[.long (-99)], vm := .none },
  { cls := 12, slots := #[.long (-98)], vm := .none },
  { cls := 12, slots := #[.long (-97)], vm := .none },
  { cls := 12, slots := #[.long (-96)], vm := .none },
  { cls := 12, slots := #[.long (-95)], vm := .none },
  { cls := 12, slots := #[.long (-94)], vm := .none },
  { cls := 12, slots := #[.long (-93)], vm := .none },
  { cls := 12, slots := #[.long (-92)], vm := .none },
  { cls := 12, slots := #[.long (-91)], vm := .none },
  { cls := 12, slots := #[.long (-90)], vm := .none },
  { cls := 12, slots := #[.long (-89)], vm := .none },
  { cls := 12, slots := #[.long (-88)], vm := .none },
  { cls := 12, slots := #[.long (-87)], vm := .none },
  { cls := 12, slots := #[.long (-86)], vm := .none },
  { cls := 12, slots := #[.long (-85)], vm := .none },
  { cls := 12, slots := #[.long (-84)], vm := .none },
  { cls := 12, slots := #[.long (-83)], vm := .none },
  { cls := 12, slots := #[.long (-82)], vm := .none },
  { cls := 12, slots := #[.long (-81)], vm := .none },
  { cls := 12, slots := #[.long (-80)], vm := .none },
  { cls := 12, slots := #[.long (-79)], vm := .none },
  { cls := 12, slots := #[.long (-78)], vm := .none },
  { cls := 12, slots := #[.long (-77)], vm := .none },
  { cls := 12, slots := #[.long (-76)], vm := .none },
  { cls := 12, slots := #[.long (-75)], vm := .none },
  { cls := 12, slots := #[.long (-74)], vm := .none },
  { cls := 12, slots := #[.long (-73)], vm := .none },
  { cls := 12, slots := #[.long (-72)], vm := .none },
  { cls := 12, slots := #[.long (-71)], vm := .none },
  { cls := 12, slots := #[.long (-70)], vm := .none },
  { cls := 12, slots := #[.long (-69)], vm := .none },
  { cls := 12, slots := #[.long (-68)], vm := .none },
  { cls := 12, slots := #[.long (-67)], vm := .none },
  { cls := 12, slots := #[.long (-66)], vm := .none },
  { cls := 12, slots := #[.long (-65)], vm := .none },
  { cls := 12, slots := #[.long (-64)], vm := .none },
  { cls := 12, slots := #[.long (-63)], vm := .none },
  { cls := 12, slots := #[.long (-62)], vm := .none },
  { cls := 12, slots := #[.long (-61)], vm := .none },
  { cls := 12, slots := #[.long (-60)], vm := .none },
  { cls := 12, slots := #[.long (-59)], vm := .none },
  { cls := 12, slots := #[.long (-58)], vm := .none },
  { cls := 12, slots := #[.long (-57)], vm := .none },
  { cls := 12, slots := #[.long (-56)], vm := .none },
  { cls := 12, slots := #[.long (-55)], vm := .none },
  { cls := 12, slots := #[.long (-54)], vm := .none },
  { cls := 12, slots := #[.long (-53)], vm := .none },
  { cls := 12, slots := #[.long (-52)], vm := .none },
  { cls := 12, slots := #[.long (-51)], vm := .none },
  { cls := 12, slots := #[.long (-50)], vm := .none },
  { cls := 12, slots := #[.long (-49)], vm := .none },
  { cls := 12, slots := #[.long (-48)], vm := .none },
  { cls := 12, slots := #[.long (-47)], vm := .none },
  { cls := 12, slots := #[.long (-46)], vm := .none },
  { cls := 12, slots := #[.long (-45)], vm := .none },
  { cls := 12, slots := #[.long (-44)], vm := .none },
  { cls := 12, slots := #[.long (-43)], vm := .none },
  { cls := 12, slots := #[.long (-42)], vm := .none },
  { cls := 12, slots := #[.long (-41)], vm := .none },
  { cls := 12, slots := #[.long (-40)], vm := .none },
  { cls := 12, slots := #[.long (-39)], vm := .none },
  { cls := 12, slots := #[.long (-38)], vm := .none },
  { cls := 12, slots := #[.long (-37)], vm := .none },
  { cls := 12, slots := #[.long (-36)], vm := .none },
  { cls := 12, slots := #[.long (-35)], vm := .none },
  { cls := 12, slots := #[.long (-34)], vm := .none },
  { cls := 12, slots := #[.long (-33)], vm := .none },
  { cls := 12, slots := #[.long (-32)], vm := .none },
  { cls := 12, slots := #[.long (-31)], vm := .none },
  { cls := 12, slots := #[.long (-30)], vm := .none },
  { cls := 12, slots := #[.long (-29)], vm := .none },
  { cls := 12, slots := #[.long (-28)], vm := .none },
  { cls := 12, slots := #[.long (-27)], vm := .none },
  { cls := 12, slots := #[.long (-26)], vm := .none },
  { cls := 12, slots := #[.long (-25)], vm := .none },
  { cls := 12, slots := #[.long (-24)], vm := .none },
  { cls := 12, slots := #[.long (-23)], vm := .none },
  { cls := 12, slots := #[.long (-22)], vm := .none },
  { cls := 12, slots := #[.long (-21)], vm := .none },
  { cls := 12, slots := #[.long (-20)], vm := .none },
  { cls := 12, slots := #[.long (-19)], vm := .none },
  { cls := 12, slots := #[.long (-18)], vm := .none },
  { cls := 12, slots := #[.long (-17)], vm := .none },
  { cls := 12, slots := #[.long (-16)], vm := .none },
  { cls := 12, slots := #[.long (-15)], vm := .none },
  { cls := 12, slots := #[.long (-14)], vm := .none },
  { cls := 12, slots := #[.long (-13)], vm := .none },
  { cls := 12, slots := #[.long (-12)], vm := .none },
  { cls := 12, slots := #[.long (-11)], vm := .none },
  { cls := 12, slots := #[.long (-10)], vm := .none },
  { cls := 12, slots := #[.long (-9)], vm := .none },
  { cls := 12, slots := #[.long (-8)], vm := .none },
  { cls := 12, slots := #[.long (-7)], vm := .none },
  { cls := 12, slots := #[.long (-6)], vm := .none },
  { cls := 12, slots := #[.long (-5)], vm := .none },
  { cls := 12, slots := #[.long (-4)], vm := .none },
  { cls := 12, slots := #[.long (-3)], vm := .none },
  { cls := 12, slots := #[.long (-2)], vm := .none },
  { cls := 12, slots := #[.long (-1)], vm := .none },
  { cls := 12, slots := #[.long (0)], vm := .none },
  { cls := 12, slots := #[.long (1)], vm := .none },
  { cls := 12, slots := #[.long (2)], vm := .none },
  { cls := 12, slots := #[.long (3)], vm := .none },
  { cls := 12, slots := #[.long (4)], vm := .none },
  { cls := 12, slots := #[.long (5)], vm := .none },
  { cls := 12, slots := #[.long (6)], vm := .none },
  { cls := 12, slots := #[.long (7)], vm := .none },
  { cls := 12, slots := #[.long (8)], vm := .none },
  { cls := 12, slots := #[.long (9)], vm := .none },
  { cls := 12, slots := #[.long (10)], vm := .none },
  { cls := 12, slots := #[.long (11)], vm := .none },
  { cls := 12, slots := #[.long (12)], vm := .none },
  { cls := 12, slots := #[.long (13)], vm := .none },
  { cls := 12, slots := #[.long (14)], vm := .none },
  { cls := 12, slots := #[.long (15)], vm := .none },
  { cls := 12, slots := #[.long (16)], vm := .none },
  { cls := 12, slots := #[.long (17)], vm := .none },
  { cls := 12, slots := #[.long (18)], vm := .none },
  { cls := 12, slots := #[.long (19)], vm := .none },
  { cls := 12, slots := #[.long (20)], vm := .none },
  { cls := 12, slots := #[.long (21)], vm := .none },
  { cls := 12, slots := #[.long (22)], vm := .none },
  { cls := 12, slots := #[.long (23)], vm := .none },
  { cls := 12, slots := #[.long (24)], vm := .none },
  { cls := 12, slots := #[.long (25)], vm := .none },
  { cls := 12, slots := #[.long (26)], vm := .none },
  { cls := 12, slots := #[.long (27)], vm := .none },
  { cls := 12, slots := #[.long (28)], vm := .none },
  { cls := 12, slots := #[.long (29)], vm := .none },
  { cls := 12, slots := #[.long (30)], vm := .none },
  { cls := 12, slots := #[.long (31)], vm := .none },
  { cls := 12, slots := #[.long (32)], vm := .none },
  { cls := 12, slots := #[.long (33)], vm := .none },
  { cls := 12, slots := #[.long (34)], vm := .none },
  { cls := 12, slots := #[.long (35)], vm := .none },
  { cls := 12, slots := #[.long (36)], vm := .none },
  { cls := 12, slots := #[.long (37)], vm := .none },
  { cls := 12, slots := #[.long (38)], vm := .none },
  { cls := 12, slots := #[.long (39)], vm := .none },
  { cls := 12, slots := #[.long (40)], vm := .none },
  { cls := 12, slots := #[.long (41)], vm := .none },
  { cls := 12, slots := #[.long (42)], vm := .none },
  { cls := 12, slots := #[.long (43)], vm := .none },
  { cls := 12, slots := #[.long (44)], vm := .none },
  { cls := 12, slots := #[.long (45)], vm := .none },
  { cls := 12, slots := #[.long (46)], vm := .none },
  { cls := 12, slots := #[.long (47)], vm := .none },
  { cls := 12, slots := #[.long (48)], vm := .none },
  { cls := 12, slots := #[.long (49)], vm := .none },
  { cls := 12, slots := #[.long (50)], vm := .none },
  { cls := 12, slots := #[.long (51)], vm := .none },
  { cls := 12, slots := #[.long (52)], vm := .none },
  { cls := 12, slots := #[.long (53)], vm := .none },
  { cls := 12, slots := #[.long (54)], vm := .none },
  { cls := 12, slots := #[.long (55)], vm := .none },
  { cls := 12, slots := #[.long (56)], vm := .none },
  { cls := 12, slots := #[.long (57)], vm := .none },
  { cls := 12, slots := #[.long (58)], vm := .none },
  { cls := 12, slots := #[.long (59)], vm := .none },
  { cls := 12, slots := #[.long (60)], vm := .none },
  { cls := 12, slots := #[.long (61)], vm := .none },
  { cls := 12, slots := #[.long (62)], vm := .none },
  { cls := 12, slots := #[.long (63)], vm := .none },
  { cls := 12, slots := #[.long (64)], vm := .none },
  { cls := 12, slots := #[.long (65)], vm := .none },
  { cls := 12, slots := #[.long (66)], vm := .none },
  { cls := 12, slots := #[.long (67)], vm := .none },
  { cls := 12, slots := #[.long (68)], vm := .none },
  { cls := 12, slots := #[.long (69)], vm := .none },
  { cls := 12, slots := #[.long (70)], vm := .none },
  { cls := 12, slots := #[.long (71)], vm := .none },
  { cls := 12, slots := #[.long (72)], vm := .none },
  { cls := 12, slots := #[.long (73)], vm := .none },
  { cls := 12, slots := #[.long (74)], vm := .none },
  { cls := 12, slots := #[.long (75)], vm := .none },
  { cls := 12, slots := #[.long (76)], vm := .none },
  { cls := 12, slots := #[.long (77)], vm := .none },
  { cls := 12, slots := #[.long (78)], vm := .none },
  { cls := 12, slots := #[.long (79)], vm := .none },
  { cls := 12, slots := #[.long (80)], vm := .none },
  { cls := 12, slots := #[.long (81)], vm := .none },
  { cls := 12, slots := #[.long (82)], vm := .none },
  { cls := 12, slots := #[.long (83)], vm := .none },
  { cls := 12, slots := #[.long (84)], vm := .none },
  { cls := 12, slots := #[.long (85)], vm := .none },
  { cls := 12, slots := #[.long (86)], vm := .none },
  { cls := 12, slots := #[.long (87)], vm := .none },
  { cls := 12, slots := #[.long (88)], vm := .none },
  { cls := 12, slots := #[.long (89)], vm := .none },
  { cls := 12, slots := #[.long (90)], vm := .none },
  { cls := 12, slots := #[.long (91)], vm := .none },
  { cls := 12, slots := #[.long (92)], vm := .none },
  { cls := 12, slots := #[.long (93)], vm := .none },
  { cls := 12, slots := #[.long (94)], vm := .none },
  { cls := 12, slots := #[.long (95)], vm := .none },
  { cls := 12, slots := #[.long (96)], vm := .none },
  { cls := 12, slots := #[.long (97)], vm := .none },
  { cls := 12, slots := #[.long (98)], vm := .none },
  { cls := 12, slots := #[.long (99)], vm := .none },
  { cls := 12, slots := #[.long (100)], vm := .none },
  { cls := 12, slots := #[.long (101)], vm := .none },
  { cls := 12, slots := #[.long (102)], vm := .none },
  { cls := 12, slots := #[.long (103)], vm := .none },
  { cls := 12, slots := #[.long (104)], vm := .none },
  { cls := 12, slots := #[.long (105)], vm := .none },
  { cls := 12, slots := #[.long (106)], vm := .none },
  { cls := 12, slots := #[.long (107)], vm := .none },
  { cls := 12, slots := #[.long (108)], vm := .none },
  { cls := 12, slots := #[.long (109)], vm := .none },
  { cls := 12, slots := #[.long (110)], vm := .none },
  { cls := 12, slots := #[.long (111)], vm := .none },
  { cls := 12, slots := #[.long (112)], vm := .none },
  { cls := 12, slots := #[.long (113)], vm := .none },
  { cls := 12, slots := #[.long (114)], vm := .none },
  { cls := 12, slots := #[.long (115)], vm := .none },
  { cls := 12, slots := #[.long (116)], vm := .none },
  { cls := 12, slots := #[.long (117)], vm := .none },
  { cls := 12, slots := #[.long (118)], vm := .none },
  { cls := 12, slots := #[.long (119)], vm := .none },
  { cls := 12, slots := #[.long (120)], vm := .none },
  { cls := 12, slots := #[.long (121)], vm := .none },
  { cls := 12, slots := #[.long (122)], vm := .none },
  { cls := 12, slots := #[.long (123)], vm := .none },
  { cls := 12, slots := #[.long (124)], vm := .none },
  { cls := 12, slots := #[.long (125)], vm := .none },
  { cls := 12, slots := #[.long (126)], vm := .none },
  { cls := 12, slots := #[.long (127)], vm := .none }]
def classes : Array Class := #[k0, k1, k2, k3, k4, k5, k6, k7, k8, k9, k10, k11, k12, k13, k14, k15, k16, k17, k18, k19, k20, k21, k22, k23, k24]
def interned : List (Array UInt16 × Addr) := []
def slotsUsed : Nat := 525
def theMethod : MethodId := ⟨1, 1⟩
def args0 : Array Value := #[.long 1, .long 2, .int 3, .int 4, .int 5]
def aboutOver (below : List Frame) : State where
  vm := { classes := classes, interned := interned.toArray }
  heap := heap
  slotsUsed := slotsUsed
  threads := #[{ frames := .invoking theMethod args0 :: below }]
def below0 : List Frame := [.native { method := ⟨0, 0⟩, args := #[] }]
def about1 : State := aboutOver below0
def p0 : Program := .bare "" "" ""
def e0 : Env := launch0.env 0 0 0
theorem w_frames : about1.frames = Frame.invoking theMethod args0 :: below0 := rfl
set_option maxRecDepth 65536 in
theorem w_args : argsFit about1.vm theMethod args0 = true := by decide +kernel
set_option maxRecDepth 65536 in
theorem w_heap : heapFits about1 = true := by decide +kernel
set_option maxRecDepth 65536 in
theorem w_runnable : about1.curStatus? = some .runnable := by decide +kernel
set_option maxRecDepth 65536 in
theorem w_alone : about1.alone = true := by decide +kernel
set_option maxRecDepth 65536 in
theorem w_named : about1.methodNamed? x = some theMethod := by decide +kernel
set_option maxRecDepth 65536 in
theorem w_hears : about1.hears theMethod below0 = true := by decide +kernel
set_option maxRecDepth 65536 in
theorem w_ripe : about1.ripe theMethod args0 below0 = true := by decide +kernel
theorem w_running : about1.status = .running := rfl
set_option maxRecDepth 65536 in
theorem w_room : about1.hasRoom e0.platform room_1 = true :=
  launch0.hasRoom_least _ room_1 (by decide +kernel) (by decide +kernel) (by decide +kernel) (by decide +kernel) (by decide +kernel) (by decide +kernel)
theorem allAtoms_all (ts : List Jvm.Cond) (a : Array Jvm.Value) (st : Jvm.State) : (allAtoms ts).before a st = ts.all (fun c => c.before a st) := by
  induction ts with
  | nil => rfl
  | cons c t ih =>
    show (Jvm.Cond.and c (allAtoms t)).before a st = _
    rw [Jvm.Cond.before_and, ih, List.all_cons]
def words1 : List Jvm.Cond := Jvm.Cond.code x code maxLocals ret :: tables_1
/-- a 'code' word, met by the world's own term for the bytes: nothing is compared byte by byte -/
theorem code_word {y : MethodName} {bytes : ByteArray} {mx : Nat} {rt : Option FieldType} {a : Array Value} {s : State} {m : MethodId} {meth : Method} {c : Code} (h1 : s.methodNamed? y = some m) (h2 : s.vm.method? m = some meth) (h3 : meth.code = some c) (h4 : c.code = bytes)
    (h5 : (c.maxLocals == mx && c.exceptionTable.isEmpty && decide (c.maxStack ≤ mostOperands) && decide (meth.sig.returnType = rt) && !meth.locks && decide (parseMethodDescriptor y.desc = some meth.sig)) = true) : (Jvm.Cond.code y bytes mx rt).before a s = true := by
  simp only [Bool.and_eq_true, beq_iff_eq, Bool.not_eq_true', decide_eq_true_eq] at h5
  obtain ⟨⟨⟨⟨⟨g1, g2⟩, g3⟩, g4⟩, g5⟩, g6⟩ := h5
  simp [Cond.before, Cond.holds, Cond.value, h1, h2, h3, h4, g1, g2, g3, g4, g5, g6]
def isCode : Jvm.Cond → Bool
  | .code _ _ _ _ => true
  | _ => false
theorem all_split {L : List Jvm.Cond} {P : Jvm.Cond → Bool} (h1 : L.all (fun c => isCode c || P c) = true) (h2 : ∀ c ∈ L.filter isCode, P c = true) : L.all P = true := by
  refine List.all_eq_true.mpr fun c hc => ?_
  have h := List.all_eq_true.mp h1 c hc
  rcases Bool.eq_false_or_eq_true (isCode c) with hi | hi
  · exact h2 c (List.mem_filter.mpr ⟨hc, hi⟩)
  · simpa [hi] using h
set_option maxRecDepth 65536 in
theorem w_c0 : (Jvm.Cond.code x code maxLocals ret).before args0 about1 = true := code_word (m := ⟨1, 1⟩) (meth := k1m1) (c := k1c1) (by decide +kernel) rfl rfl rfl (by decide +kernel)
set_option maxRecDepth 65536 in
theorem w_c1 : (Jvm.Cond.code ({ cls := "java/lang/String", name := "<init>", desc := "([C)V" } : Jvm.MethodName) jdk_42_method_3_code (2 : Nat) (Option.none : Option Jvm.ClassFile.FieldType)).before args0 about1 = true := code_word (m := ⟨7, 1⟩) (meth := k7m1) (c := k7c1) (by decide +kernel) rfl rfl rfl (by decide +kernel)
set_option maxRecDepth 65536 in
theorem w_c2 : (Jvm.Cond.code ({ cls := "java/lang/String", name := "<init>", desc := "([CIILjava/lang/Void;)V" } : Jvm.MethodName) jdk_42_method_149_code (6 : Nat) (Option.none : Option Jvm.ClassFile.FieldType)).before args0 about1 = true := code_word (m := ⟨7, 2⟩) (meth := k7m2) (c := k7c2) (by decide +kernel) rfl rfl rfl (by decide +kernel)
set_option maxRecDepth 65536 in
theorem w_c3 : (Jvm.Cond.code ({ cls := "java/lang/Object", name := "<init>", desc := "()V" } : Jvm.MethodName) object_method_1_code (1 : Nat) (Option.none : Option Jvm.ClassFile.FieldType)).before args0 about1 = true := code_word (m := ⟨0, 0⟩) (meth := k0m0) (c := k0c0) (by decide +kernel) rfl rfl rfl (by decide +kernel)
set_option maxRecDepth 65536 in
theorem w_c4 : (Jvm.Cond.code ({ cls := "java/lang/StringUTF16", name := "compress", desc := "([CII)[B" } : Jvm.MethodName) jdk_52_method_16_code (6 : Nat) (Option.some (Jvm.ClassFile.FieldType.array Jvm.ClassFile.FieldType.byte))).before args0 about1 = true := code_word (m := ⟨8, 2⟩) (meth := k8m2) (c := k8c2) (by decide +kernel) rfl rfl rfl (by decide +kernel)
set_option maxRecDepth 65536 in
theorem w_c5 : (Jvm.Cond.code ({ cls := "java/lang/StringUTF16", name := "compress", desc := "([CI[BII)I" } : Jvm.MethodName) jdk_52_method_21_code (7 : Nat) (Option.some Jvm.ClassFile.FieldType.int)).before args0 about1 = true := code_word (m := ⟨8, 3⟩) (meth := k8m3) (c := k8c3) (by decide +kernel) rfl rfl rfl (by decide +kernel)
set_option maxRecDepth 65536 in
theorem w_c6 : (Jvm.Cond.code ({ cls := "java/lang/StringUTF16", name := "coderFromArrayLen", desc := "([BI)B" } : Jvm.MethodName) jdk_52_method_15_code (2 : Nat) (Option.some Jvm.ClassFile.FieldType.byte)).before args0 about1 = true := code_word (m := ⟨8, 1⟩) (meth := k8m1) (c := k8c1) (by decide +kernel) rfl rfl rfl (by decide +kernel)
set_option maxRecDepth 65536 in
theorem w_c7 : (Jvm.Cond.code ({ cls := "com/example/ledgergate/ledgergate/access/User", name := "<init>", desc := "(JLjava/lang/Long;Ljava/lang/String;)V" } : Jvm.MethodName) prog_16_method_1_code (5 : Nat) (Option.none : Option Jvm.ClassFile.FieldType)).before args0 about1 = true := code_word (m := ⟨10, 0⟩) (meth := k10m0) (c := k10c0) (by decide +kernel) rfl rfl rfl (by decide +kernel)
set_option maxRecDepth 65536 in
theorem w_c8 : (Jvm.Cond.code ({ cls := "java/lang/Record", name := "<init>", desc := "()V" } : Jvm.MethodName) jdk_30_method_1_code (1 : Nat) (Option.none : Option Jvm.ClassFile.FieldType)).before args0 about1 = true := code_word (m := ⟨9, 0⟩) (meth := k9m0) (c := k9c0) (by decide +kernel) rfl rfl rfl (by decide +kernel)
set_option maxRecDepth 65536 in
theorem w_c9 : (Jvm.Cond.code ({ cls := "com/example/ledgergate/ledgergate/access/User", name := "isPlatformAdmin", desc := "()Z" } : Jvm.MethodName) prog_16_method_2_code (1 : Nat) (Option.some Jvm.ClassFile.FieldType.boolean)).before args0 about1 = true := code_word (m := ⟨10, 1⟩) (meth := k10m1) (c := k10c1) (by decide +kernel) rfl rfl rfl (by decide +kernel)
set_option maxRecDepth 65536 in
theorem w_c10 : (Jvm.Cond.code ({ cls := "java/lang/Long", name := "valueOf", desc := "(J)Ljava/lang/Long;" } : Jvm.MethodName) jdk_35_method_24_code (3 : Nat) (Option.some (Jvm.ClassFile.FieldType.object "java/lang/Long"))).before args0 about1 = true := code_word (m := ⟨12, 0⟩) (meth := k12m0) (c := k12c0) (by decide +kernel) rfl rfl rfl (by decide +kernel)
set_option maxRecDepth 65536 in
theorem w_c11 : (Jvm.Cond.code ({ cls := "java/lang/Long", name := "<init>", desc := "(J)V" } : Jvm.MethodName) jdk_35_method_26_code (3 : Nat) (Option.none : Option Jvm.ClassFile.FieldType)).before args0 about1 = true := code_word (m := ⟨12, 1⟩) (meth := k12m1) (c := k12c1) (by decide +kernel) rfl rfl rfl (by decide +kernel)
set_option maxRecDepth 65536 in
theorem w_c12 : (Jvm.Cond.code ({ cls := "java/lang/Number", name := "<init>", desc := "()V" } : Jvm.MethodName) jdk_18_method_1_code (1 : Nat) (Option.none : Option Jvm.ClassFile.FieldType)).before args0 about1 = true := code_word (m := ⟨11, 0⟩) (meth := k11m0) (c := k11c0) (by decide +kernel) rfl rfl rfl (by decide +kernel)
def codes1 : List Jvm.Cond := [Jvm.Cond.code x code maxLocals ret, Jvm.Cond.code ({ cls := "java/lang/String", name := "<init>", desc := "([C)V" } : Jvm.MethodName) jdk_42_method_3_code (2 : Nat) (Option.none : Option Jvm.ClassFile.FieldType), Jvm.Cond.code ({ cls := "java/lang/String", name := "<init>", desc := "([CIILjava/lang/Void;)V" } : Jvm.MethodName) jdk_42_method_149_code (6 : Nat) (Option.none : Option Jvm.ClassFile.FieldType), Jvm.Cond.code ({ cls := "java/lang/Object", name := "<init>", desc := "()V" } : Jvm.MethodName) object_method_1_code (1 : Nat) (Option.none : Option Jvm.ClassFile.FieldType), Jvm.Cond.code ({ cls := "java/lang/StringUTF16", name := "compress", desc := "([CII)[B" } : Jvm.MethodName) jdk_52_method_16_code (6 : Nat) (Option.some (Jvm.ClassFile.FieldType.array Jvm.ClassFile.FieldType.byte)), Jvm.Cond.code ({ cls := "java/lang/StringUTF16", name := "compress", desc := "([CI[BII)I" } : Jvm.MethodName) jdk_52_method_21_code (7 : Nat) (Option.some Jvm.ClassFile.FieldType.int), Jvm.Cond.code ({ cls := "java/lang/StringUTF16", name := "coderFromArrayLen", desc := "([BI)B" } : Jvm.MethodName) jdk_52_method_15_code (2 : Nat) (Option.some Jvm.ClassFile.FieldType.byte), Jvm.Cond.code ({ cls := "com/example/ledgergate/ledgergate/access/User", name := "<init>", desc := "(JLjava/lang/Long;Ljava/lang/String;)V" } : Jvm.MethodName) prog_16_method_1_code (5 : Nat) (Option.none : Option Jvm.ClassFile.FieldType), Jvm.Cond.code ({ cls := "java/lang/Record", name := "<init>", desc := "()V" } : Jvm.MethodName) jdk_30_method_1_code (1 : Nat) (Option.none : Option Jvm.ClassFile.FieldType), Jvm.Cond.code ({ cls := "com/example/ledgergate/ledgergate/access/User", name := "isPlatformAdmin", desc := "()Z" } : Jvm.MethodName) prog_16_method_2_code (1 : Nat) (Option.some Jvm.ClassFile.FieldType.boolean), Jvm.Cond.code ({ cls := "java/lang/Long", name := "valueOf", desc := "(J)Ljava/lang/Long;" } : Jvm.MethodName) jdk_35_method_24_code (3 : Nat) (Option.some (Jvm.ClassFile.FieldType.object "java/lang/Long")), Jvm.Cond.code ({ cls := "java/lang/Long", name := "<init>", desc := "(J)V" } : Jvm.MethodName) jdk_35_method_26_code (3 : Nat) (Option.none : Option Jvm.ClassFile.FieldType), Jvm.Cond.code ({ cls := "java/lang/Number", name := "<init>", desc := "()V" } : Jvm.MethodName) jdk_18_method_1_code (1 : Nat) (Option.none : Option Jvm.ClassFile.FieldType)]
set_option maxRecDepth 65536 in
theorem codes_eq : words1.filter isCode = codes1 := rfl
theorem w_codes : ∀ c ∈ words1.filter isCode, c.before args0 about1 = true := by
  rw [codes_eq]
  intro c hc
  simp only [codes1, List.mem_cons, List.not_mem_nil, or_false] at hc
  rcases hc with rfl | rfl | rfl | rfl | rfl | rfl | rfl | rfl | rfl | rfl | rfl | rfl | rfl
  · exact w_c0
  · exact w_c1
  · exact w_c2
  · exact w_c3
  · exact w_c4
  · exact w_c5
  · exact w_c6
  · exact w_c7
  · exact w_c8
  · exact w_c9
  · exact w_c10
  · exact w_c11
  · exact w_c12
set_option maxRecDepth 65536 in
theorem w_t1 : (words1.take 24).all (fun c => isCode c || c.before args0 about1) = true := by decide +kernel
set_option maxRecDepth 65536 in
theorem w_t2 : ((words1.drop 24).take 24).all (fun c => isCode c || c.before args0 about1) = true := by decide +kernel
set_option maxRecDepth 65536 in
theorem w_t3 : (((words1.drop 24).drop 24).take 24).all (fun c => isCode c || c.before args0 about1) = true := by decide +kernel
set_option maxRecDepth 65536 in
theorem w_t4 : (((words1.drop 24).drop 24).drop 24).all (fun c => isCode c || c.before args0 about1) = true := by decide +kernel
theorem w_tables : (allAtoms (Jvm.Cond.code x code maxLocals ret :: tables_1)).before args0 about1 = true := by
  rw [allAtoms_all]
  show words1.all (fun c => c.before args0 about1) = true
  refine all_split ?_ w_codes
  rw [← List.take_append_drop 24 words1, List.all_append, w_t1, ← List.take_append_drop 24 (words1.drop 24), List.all_append, w_t2, ← List.take_append_drop 24 ((words1.drop 24).drop 24), List.all_append, w_t3, w_t4]
  rfl
set_option maxRecDepth 65536 in
theorem w_rest : rest_1_c.before args0 about1 = true := by decide +kernel
set_option maxRecDepth 65536 in
theorem w_case : (Jvm.Cond.and given_1 narrow_1).before args0 about1 = true := by decide +kernel
theorem w_applies : (headSpec (Jvm.Cond.code x code maxLocals ret :: tables_1) room_1).applies x e0.platform about1 = true :=
  (Spec.applies_iff w_frames).mpr ⟨w_running, w_runnable, w_alone, w_named, w_hears, w_ripe, w_room, w_tables⟩
theorem atStart : AtStart classFile x code maxLocals ret World_1 tables_1 room_1 Calls_1 rest_1 Pre_1 launch0 p0 e0 about1 theMethod args0 below0 :=
  ⟨lists_1, trivial, launch0.admits_env _ _ _, launch0.least_env, fairChoices_fair.cas, fairChoices_fair.clock, w_frames, w_args, w_heap, w_applies, trivial, w_rest, w_case⟩
end start1
theorem witness_1 : WitnessClaimed_1 := ⟨start1.p0, start1.e0, start1.about1, start1.theMethod, start1.args0, start1.below0, start1.atStart⟩
end Jvm.Pilot.@@N@@
