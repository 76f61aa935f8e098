import JvmDerived
import JvmDerived.Pilot.@@N@@Statement
import JvmDerived.Pilot.@@N@@Code
set_option linter.unusedVariables false
set_option linter.unusedSimpArgs false
namespace Jvm.RoadKit
open Sem ClassFile Op Lib Jvm.Stand Jvm.Free Jvm.LawKit
section New
variable {p : Program} {l : Launch} {e : Env} {R : Room} {s : State} {m : MethodId} {args : Array Value} {below : List Frame} {meth : Method} {c : Code} {T : State} {locs : List Loc} {cells slots : Nat}
theorem retI (X : Stand p l e R s m args below meth c T locs cells slots) (hx : p.tables.exec = Jvm.exec) {pc : Nat} {Ls : Array Slot} {z : Int32} {rest : List Value} (hret : meth.sig.returnType = some .int) (hd : decode c.code pc = .ok (.ireturn, 1)) {fs : List Frame}
    (hl : ∀ (f : JFrame) (acts : List Action), f.method = m → f.locked = none → f.entered = [] → (doReturn e (T.setTop f) acts (some (.int z))).1 = T.setFrames fs) : Steps p.tables e below (T.setTop (mkF m pc Ls (.int z :: rest))) (T.setFrames fs) := by
  have hm' : T.vm.method? m = some meth := X.method'
  have hn : narrow .int (.int z) = .int z := rfl
  show Steps p.tables e below (T.setTop { method := m, pc := pc, locals := Ls, stack := _ :: rest, locked := none }) _
  jvm_step X.here [X.here.top, hx, hd, hm', hret, hn]
  first | (intro acts; rw [hl _ acts rfl rfl rfl]) | rw [hl _ _ rfl rfl rfl]
  exact Steps.refl _
/-- what is left of a walk: from S the run comes to its end, and Q is said of that -/
def OwnGo (p : Program) (e : Env) (below : List Frame) (s : State) (Q : Option Value → Heap → List Loc → Prop) (k n : Nat) (S : State) : Prop :=
  ∃ s₂ o, Steps p.tables e below S s₂ ∧ s₂.status = .running ∧ Ended s₂ below o ∧ ∃ v L, o = .returned v ∧ Q v s₂.heap L ∧ FrameEnd s o s₂ L k n
theorem gs {Q : Option Value → Heap → List Loc → Prop} {k n : Nat} {S S' : State} (f : ∀ t, Steps p.tables e below S' t → Steps p.tables e below S t) (h : OwnGo p e below s Q k n S') : OwnGo p e below s Q k n S := by
  obtain ⟨s₂, o, h1, r⟩ := h; exact ⟨s₂, o, f _ h1, r⟩
theorem gout {Q : Option Value → Heap → List Loc → Prop} {k n : Nat} {S : State} (X : Stand p l e R s m args below meth c T locs cells slots) (hlk : meth.locks = false) {v : Option Value} (hv : meth.sig.returnType = none → v = none) (hk : cells ≤ k) (hn : slots ≤ n) (hq : Q v T.heap locs)
    (st : ∀ fs, (∀ (f : JFrame) (acts : List Action), f.method = m → f.locked = none → f.entered = [] → (doReturn e (T.setTop f) acts v).1 = T.setFrames fs) → Steps p.tables e below S (T.setFrames fs)) : OwnGo p e below s Q k n S := by
  obtain ⟨fs, hr, hrun, hended, hW, hsame⟩ := X.leave (v := v) hv hlk
  exact ⟨_, _, st fs hr, hrun, hended, v, _, rfl, hq, ⟨v, rfl⟩, hW, hsame.mono hk hn⟩
/-- .. where String constants may be loaded on the way -/
def OwnGoW (p : Program) (e : Env) (below : List Frame) (s : State) (Z : State) (EL : List (String × Nat)) (Q : Option Value → Heap → List Loc → Prop) (k n : Nat) (S : State) : Prop :=
  ∃ s₂ o, Steps p.tables e below S s₂ ∧ s₂.status = .running ∧ Ended s₂ below o ∧ ∃ v L, o = .returned v ∧ Q v s₂.heap L ∧ CHr Z EL s.vm s.heap s₂.vm s₂.heap ∧ ReturnedEndW s o s₂ L k n
theorem gsW {Z : State} {EL : List (String × Nat)} {Q : Option Value → Heap → List Loc → Prop} {k n : Nat} {S S' : State} (f : ∀ t, Steps p.tables e below S' t → Steps p.tables e below S t) (h : OwnGoW p e below s Z EL Q k n S') : OwnGoW p e below s Z EL Q k n S := by
  obtain ⟨s₂, o, h1, r⟩ := h; exact ⟨s₂, o, f _ h1, r⟩
theorem goutW {Z : State} {a0 : Array Value} {EL : List (String × Nat)} {Q : Option Value → Heap → List Loc → Prop} {k n k0 : Nat} {S : State} {vm1 : Vm} {h0 h : Heap} (X : Stand p l e R (s.setVm vm1) m args below meth c T locs cells slots) (hS : s.Since vm1 k0) (hkk : k0 ≤ h.size) (hZ : Z.Warmed39 (s.setVm vm1).vm) (hEL : EW Z a0 EL) (hh : s.heap = h0) (eT : T.heap = h) (hR : CHr Z EL s.vm h0 vm1 h)
    (hlk : meth.locks = false) {v : Option Value} (hv : meth.sig.returnType = none → v = none) (hk : cells ≤ k) (hn : slots ≤ n) (hq : Q v h locs)
    (st : ∀ fs, (∀ (f : JFrame) (acts : List Action), f.method = m → f.locked = none → f.entered = [] → (doReturn e (T.setTop f) acts v).1 = T.setFrames fs) → Steps p.tables e below S (T.setFrames fs)) : OwnGoW p e below s Z EL Q k n S := by
  subst eT hh
  obtain ⟨fs, hr, hrun, hended, hE⟩ := X.leaveW hS hkk (v := v) hv hlk
  exact ⟨_, _, st fs hr, hrun, hended, v, _, rfl, hq, hR.trans (show CHr Z EL vm1 T.heap T.vm T.heap from CHv.at X hZ hEL hR.1), hE.1, hE.2.1, hE.2.2.1, hE.2.2.2.mono hk hn⟩
end New
def CtrW (l : Launch) (Z : State) (EL : List (String × Nat)) (y : MethodName) (bytes : ByteArray) (maxL : Nat) (ret : Option FieldType) (ws : List Jvm.Cond) (R : Room) (as' : Array Value) (h0 : Heap) (Q : Option Value → Heap → List Loc → Prop) : Prop :=
  MetFree l y (head1 (Jvm.Cond.code y bytes maxL ret :: ws) R) (fun a U => a = as' ∧ Z.Warmed39 U.vm ∧ U.heap = h0 ∧ CHv Z EL U.vm h0) (fun _ _ _ _ _ => True) (fun _ U o U' => ∃ v L, o = .returned v ∧ Q v U'.heap L ∧ CHr Z EL U.vm U.heap U'.vm U'.heap ∧ ReturnedEndW U o U' L R.cells R.slots)
/-- a method's contract -/
def Ctr (l : Launch) (Z : State) (y : MethodName) (bytes : ByteArray) (maxL : Nat) (ret : Option FieldType) (ws : List Jvm.Cond) (R : Room) (as' : Array Value) (h0 : Heap) (Q : Option Value → Heap → List Loc → Prop) : Prop :=
  MetFree l y (head1 (Jvm.Cond.code y bytes maxL ret :: ws) R) (fun a U => a = as' ∧ Z.Warmed39 U.vm ∧ U.heap = h0) (fun _ _ _ _ _ => True) (fun _ U o U' => ∃ v L, o = .returned v ∧ Q v U'.heap L ∧ FrameEnd U o U' L R.cells R.slots)
section Own
variable {p : Program} {l : Launch} {e : Env} {R : Room} {s Z : State} {args a0 : Array Value} {below : List Frame} {y : MethodName} {bytes : ByteArray} {maxL : Nat} {ret : Option FieldType} {rm : Room} {len W : Nat} {as' : Array Value} {h : Heap} {Q : Option Value → Heap → List Loc → Prop} {EL : List (String × Nat)} {vm0 : Vm} {ws : List Jvm.Cond}
theorem Ctr.of (hM : MetFree l y (head1 (Jvm.Cond.code y bytes maxL ret :: ws) R) (fun a U => a = as' ∧ Z.Warmed39 U.vm ∧ U.heap = h) (fun _ _ _ _ _ => True) (fun _ U o U' => ∃ v L, o = .returned v ∧ Q v U'.heap L ∧ FrameEnd U o U' L R.cells R.slots)) : Ctr l Z y bytes maxL ret ws R as' h Q := hM
theorem CtrW.of (hM : MetFree l y (head1 (Jvm.Cond.code y bytes maxL ret :: ws) R) (fun a U => a = as' ∧ Z.Warmed39 U.vm ∧ U.heap = h ∧ CHv Z EL U.vm h) (fun _ _ _ _ _ => True) (fun _ U o U' => ∃ v L, o = .returned v ∧ Q v U'.heap L ∧ CHr Z EL U.vm U.heap U'.vm U'.heap ∧ ReturnedEndW U o U' L R.cells R.slots)) : CtrW l Z EL y bytes maxL ret ws R as' h Q := hM
theorem backC (hM : Ctr l Z y bytes maxL ret [] rm as' h Q) (hZ : Z.Warmed39 s.vm) (wc : (Cond.code y bytes maxL ret).before a0 Z = true) (wz : (Cond.initialized y.cls).before a0 Z = true) (hf : rm.frames + 1 ≤ R.frames) (hl : W + (maxL + 11) + rm.locals ≤ R.locals) :
    Back l R p e below s args y len W (fun A a => a = as' ∧ A.U.heap = h ∧ A.cells + rm.cells ≤ R.cells ∧ A.slots + rm.slots ≤ R.slots)
      (fun A _ v B => ∃ L, Q v B.U.heap L ∧ B.locs = A.locs ++ L ∧ B.cells = A.cells + rm.cells ∧ B.slots = A.slots + rm.slots) := backOf (Q := Q) hM hZ wc wz hf hl
theorem backCW (hM : CtrW l Z EL y bytes maxL ret [] rm as' h Q) (hZ : Z.Warmed39 vm0) (wc : (Cond.code y bytes maxL ret).before a0 Z = true) (wz : (Cond.initialized y.cls).before a0 Z = true) (hf : rm.frames + 1 ≤ R.frames) (hl : W + (maxL + 11) + rm.locals ≤ R.locals) (hEL : EW Z a0 EL) (H : CHv Z EL vm0 h) :
    BackS l R p e below (s.setVm vm0) args y len W (fun A a => a = as' ∧ A.U.heap = h ∧ A.cells + rm.cells ≤ R.cells ∧ A.slots + rm.slots ≤ R.slots)
      (fun A _ v B => ∃ L, Q v B.U.heap L ∧ B.locs = A.locs ++ L ∧ B.cells = A.cells + rm.cells ∧ B.slots = A.slots + rm.slots ∧ CHr Z EL vm0 h B.U.vm B.U.heap) := backOfSH (Q := Q) hM hZ wc wz hf hl hEL H
end Own
end Jvm.RoadKit
/- laws to paste: Road.backV (cut by pick.py; bodies as the Statement names them) -/
namespace Jvm.Pilot.@@N@@
namespace StrChars
open Jvm Sem ClassFile Op Lib Jvm.Stand Jvm.Free.XT Jvm.Free.ALB Jvm.Free.JM Jvm.Free
open Jvm.Lib.Cold (StaticIs)
/-- a char array whose places are chars -/
def Ch (a : Addr) (A : Cell) (U : State) : Prop := Arr .char a A U ∧ Typed .char A
theorem Ch.mv {a : Addr} {A : Cell} {U U' : State} (h : Ch a A U) (hal : U.vm.Alike U'.vm) (hh : U'.heap = U.heap) : Ch a A U' := ⟨h.1.mv hal hh, h.2⟩
theorem Ch.keep {a : Addr} {A : Cell} {U U' : State} (h : Ch a A U) (hal : U.vm.Alike U'.vm) (hk : U'.heap[a]? = some A) : Ch a A U' := ⟨h.1.keep hal hk, h.2⟩
/-- what place i of a char[]'s cell holds -/
def cv (A : Cell) (i : Nat) : Int32 := match A.slots[i]? with | some (.int x) => x | _ => 0
theorem Ch.get {a : Addr} {A : Cell} {U : State} (h : Ch a A U) {i : Nat} (hi : i < A.slots.size) : A.slots[i]? = some (.int (cv A i)) := by
  have e := Array.getElem?_eq_getElem hi
  have f := h.2 i _ e
  unfold cv; rw [e]
  generalize A.slots[i] = v at f
  cases v <;> simp [fits] at f ⊢
/-- the byte that i2b leaves of a char -/
def lo8 (x : Int32) : Int32 := x.toInt8.toInt32
theorem fits_lo8 (y : Int32) : fits .byte (.int (lo8 y)) = true := by
  have h1 := y.toInt8.le_toInt
  have h2 := y.toInt8.toInt_lt
  simp only [lo8, fits, Bool.and_eq_true, decide_eq_true_eq, Int32.le_iff_toInt_le, Int8.toInt_toInt32, show (-128 : Int32).toInt = -128 from by decide, show (127 : Int32).toInt = 127 from by decide]
  omega
/-- A' is A but that each place j of lo .. hi - 1 holds f j -/
def Laid (A A' : Cell) (lo hi : Nat) (f : Nat → Value) : Prop := A'.cls = A.cls ∧ A'.vm = A.vm ∧ A'.slots.size = A.slots.size ∧ ∀ i, A'.slots[i]? = if lo ≤ i ∧ i < hi then some (f i) else A.slots[i]?
theorem Laid.zero (A : Cell) (lo : Nat) (f : Nat → Value) : Laid A A lo (lo + 0) f := ⟨rfl, rfl, rfl, fun i => by rw [if_neg (by omega)]⟩
theorem Laid.step {A Ak : Cell} {lo k : Nat} {f : Nat → Value} {v : Value} (h : Laid A Ak lo k f) (hlo : lo ≤ k) (hk : k < Ak.slots.size) (hv : v = f k) : Laid A (Ak.setSlot k v) lo (k + 1) f := by
  refine ⟨h.1, h.2.1, by simpa [Cell.setSlot] using h.2.2.1, fun i => ?_⟩
  by_cases e : k = i
  · subst e; rw [Cell.slots_setSlot_self v hk, if_pos (by omega), hv]
  · rw [Cell.slots_setSlot_ne v e, h.2.2.2 i]
    by_cases q : lo ≤ i ∧ i < k
    · rw [if_pos q, if_pos (by omega)]
    · rw [if_neg q, if_neg (by omega)]
def U16 : String := "java/lang/StringUTF16"
namespace Cmp5
def yN : MethodName := ⟨"java/lang/StringUTF16", "compress", "([CI[BII)I"⟩
abbrev yB : ByteArray := jdk_52_method_21_code
theorem d0 : decode yB 0 = .ok (.iconst 0, 1) := by decide +kernel
theorem d1 : decode yB 1 = .ok (.istore 5, 2) := by decide +kernel
theorem d3 : decode yB 3 = .ok (.iload 5, 2) := by decide +kernel
theorem d5 : decode yB 5 = .ok (.iload 4, 2) := by decide +kernel
theorem d7 : decode yB 7 = .ok (.if_icmp (.ge) 37, 3) := by decide +kernel
theorem d10 : decode yB 10 = .ok (.aload_n 0, 1) := by decide +kernel
theorem d11 : decode yB 11 = .ok (.iload_n 1, 1) := by decide +kernel
theorem d12 : decode yB 12 = .ok (.caload, 1) := by decide +kernel
theorem d13 : decode yB 13 = .ok (.istore 6, 2) := by decide +kernel
theorem d15 : decode yB 15 = .ok (.iload 6, 2) := by decide +kernel
theorem d17 : decode yB 17 = .ok (.sipush 255, 3) := by decide +kernel
theorem d20 : decode yB 20 = .ok (.if_icmp (.le) 6, 3) := by decide +kernel
theorem d26 : decode yB 26 = .ok (.aload_n 2, 1) := by decide +kernel
theorem d27 : decode yB 27 = .ok (.iload_n 3, 1) := by decide +kernel
theorem d28 : decode yB 28 = .ok (.iload 6, 2) := by decide +kernel
theorem d30 : decode yB 30 = .ok (.i2b, 1) := by decide +kernel
theorem d31 : decode yB 31 = .ok (.bastore, 1) := by decide +kernel
theorem d32 : decode yB 32 = .ok (.iinc 1 1, 3) := by decide +kernel
theorem d35 : decode yB 35 = .ok (.iinc 3 1, 3) := by decide +kernel
theorem d38 : decode yB 38 = .ok (.iinc 5 1, 3) := by decide +kernel
theorem d41 : decode yB 41 = .ok (.goto (-38), 3) := by decide +kernel
theorem d44 : decode yB 44 = .ok (.iload 4, 2) := by decide +kernel
theorem d46 : decode yB 46 = .ok (.ireturn, 1) := by decide +kernel
def site : List Cond := []
def tab : Cond := tabOf yN yB 7 (some .int) site
def P (b : Addr) (A : Cell) (d : Addr) (B : Cell) (o q len : Nat) (args : Array Value) (s : State) : Prop := args = #[.ref b, .int (Int32.ofNat o), .ref d, .int (Int32.ofNat q), .int (Int32.ofNat len)] ∧ Ch b A s ∧ Arr .byte d B s ∧ b ≠ d ∧ o + len ≤ A.slots.size ∧ q + len ≤ B.slots.size ∧ ∀ i, i < len → ¬ 255 < cv A (o + i)
def E (b : Addr) (A : Cell) (d : Addr) (B : Cell) (o q len : Nat) (r : Option Value) (s u : State) : Prop := r = some (.int (Int32.ofNat len)) ∧ ∃ B', Put d B' s u ∧ Laid B B' q (q + len) (fun j => Value.int (lo8 (cv A (o + (j - q)))))
/-- no char of the range above 255: len; the places written hold each char's low byte -/
theorem law (l : Launch) (b : Addr) (A : Cell) (d : Addr) (B : Cell) (o q len : Nat) : Law l yN 5 5 0 0 yB 7 (some .int) site (P b A d B o q len) (E b A d B o q len) (copyLocs d q len) 0 0 := by
  refine Law.of_walk (plainFor_of_name (by decide +kernel)) (by decide +kernel) (by decide +kernel) (by decide) (fun _ _ h => by rw [h.1]; rfl) (fun _ U U' hal hh h => ⟨h.1, h.2.1.mv hal hh, h.2.2.1.mv hal hh, h.2.2.2⟩) (fun r U U' V V' h1 hal h2 h => ⟨h.1, h.2.elim fun B' q => ⟨B', q.1.mv h1 h2, q.2⟩⟩) ?_
  intro p e s m args below meth c s₁ X0 hexec hbytes hml hret hlk hnm hown hh0 W hP
  obtain ⟨rfl, hA, hB, hne, l1, l2, hp⟩ := hP
  have c1 : Steps p.tables e below (s₁.setTop (entryFrame m #[.ref b, .int (Int32.ofNat o), .ref d, .int (Int32.ofNat q), .int (Int32.ofNat len)] 7)) (s₁.setTop (mkF m 0 #[.val (.ref b), .val (.int (Int32.ofNat o)), .val (.ref d), .val (.int (Int32.ofNat q)), .val (.int (Int32.ofNat len)), .unset, .unset] [])) := entry rfl
  have hA0 := hA.1.mv X0.warmed.alike hh0
  have hB0 := hB.mv X0.warmed.alike hh0
  have a31 := hA.1.2.2.2
  have c2 : Steps p.tables e below (s₁.setTop (entryFrame m #[.ref b, .int (Int32.ofNat o), .ref d, .int (Int32.ofNat q), .int (Int32.ofNat len)] 7)) (s₁.setTop (mkF m 3 #[.val (.ref b), .val (.int (Int32.ofNat o)), .val (.ref d), .val (.int (Int32.ofNat q)), .val (.int (Int32.ofNat len)), .val (.int 0), .unset] [])) := c1.trans (by
    refine iconstV X0.here hexec rfl 0 (hb hbytes d0) (by decide) ?_
    refine XS.istore X0.here hexec rfl (hb hbytes d1) rfl rfl ?_
    exact Steps.refl _)
  have loop : ∀ (r i : Nat), i + r = len → ∀ (z : Slot), (z = .unset ∨ ∃ w, z = .val w ∧ w.category = 1) → ∀ (Tl : State) (Bk : Cell), Stand p l e { frames := 0, locals := 0, cells := 0, slots := 0 } s m #[.ref b, .int (Int32.ofNat o), .ref d, .int (Int32.ofNat q), .int (Int32.ofNat len)] below meth c Tl ([] ++ copyLocs d q i) 0 0 → Put d Bk s₁ Tl → Laid B Bk q (q + i) (fun j => Value.int (lo8 (cv A (o + (j - q))))) →
      Steps p.tables e below (s₁.setTop (entryFrame m #[.ref b, .int (Int32.ofNat o), .ref d, .int (Int32.ofNat q), .int (Int32.ofNat len)] 7)) (Tl.setTop (mkF m 3 #[.val (.ref b), .val (.int (Int32.ofNat (o + i))), .val (.ref d), .val (.int (Int32.ofNat (q + i))), .val (.int (Int32.ofNat len)), .val (.int (Int32.ofNat i)), z] [])) → ∃ (T' : State) (B' : Cell) (z' : Slot), Stand p l e { frames := 0, locals := 0, cells := 0, slots := 0 } s m #[.ref b, .int (Int32.ofNat o), .ref d, .int (Int32.ofNat q), .int (Int32.ofNat len)] below meth c T' ([] ++ copyLocs d q len) 0 0 ∧ Put d B' s₁ T' ∧ Laid B B' q (q + len) (fun j => Value.int (lo8 (cv A (o + (j - q))))) ∧
      Steps p.tables e below (s₁.setTop (entryFrame m #[.ref b, .int (Int32.ofNat o), .ref d, .int (Int32.ofNat q), .int (Int32.ofNat len)] 7)) (T'.setTop (mkF m 3 #[.val (.ref b), .val (.int (Int32.ofNat (o + len))), .val (.ref d), .val (.int (Int32.ofNat (q + len))), .val (.int (Int32.ofNat len)), .val (.int (Int32.ofNat len)), z'] [])) := by
    intro r
    induction r with
    | zero =>
      intro i hi z hz Tl Bk Xl pl fl cl
      have hil : i = len := by omega
      rw [hil] at Xl fl cl
      exact ⟨Tl, Bk, z, Xl, pl, fl, cl⟩
    | succ r ih =>
      intro i hi z hz Tl Bk Xl pl fl cl
      have all := X0.warmed.alike.symm.trans Xl.warmed.alike
      have hAl := hA0.keep all (pl.other hne hA0.1)
      have hBk := hB0.like all pl.1 fl.1 fl.2.1 fl.2.2.1
      have hlt : q + i < Bk.slots.size := by rw [fl.2.2.1]; omega
      have c3 : Steps p.tables e below (s₁.setTop (entryFrame m #[.ref b, .int (Int32.ofNat o), .ref d, .int (Int32.ofNat q), .int (Int32.ofNat len)] 7)) (Tl.setTop (mkF m 12 #[.val (.ref b), .val (.int (Int32.ofNat (o + i))), .val (.ref d), .val (.int (Int32.ofNat (q + i))), .val (.int (Int32.ofNat len)), .val (.int (Int32.ofNat i)), z] [.int (Int32.ofNat (o + i)), .ref b])) := cl.trans (by
        refine XS.iload Xl.here hexec rfl (hb hbytes d3) rfl ?_
        refine XS.iload Xl.here hexec rfl (hb hbytes d5) rfl ?_
        refine XS.icmpNo Xl.here hexec rfl (hb hbytes d7) rfl (ii_ge_f (lt32 (by omega) (by omega))) ?_
        refine XS.aloadN Xl.here hexec rfl (hb hbytes d10) rfl rfl ?_
        refine XS.iloadN Xl.here hexec rfl (hb hbytes d11) rfl ?_
        exact Steps.refl _)
      have c4 : Steps p.tables e below (s₁.setTop (entryFrame m #[.ref b, .int (Int32.ofNat o), .ref d, .int (Int32.ofNat q), .int (Int32.ofNat len)] 7)) (Tl.setTop (mkF m 13 #[.val (.ref b), .val (.int (Int32.ofNat (o + i))), .val (.ref d), .val (.int (Int32.ofNat (q + i))), .val (.int (Int32.ofNat len)), .val (.int (Int32.ofNat i)), z] [.int (cv A (o + i))])) := c3.trans (by
        refine Xl.aget hexec hAl rfl (hA.get (i := o + i) (by omega)) rfl rfl (hb hbytes d12) ?_
        exact Steps.refl _)
      have c5 : Steps p.tables e below (s₁.setTop (entryFrame m #[.ref b, .int (Int32.ofNat o), .ref d, .int (Int32.ofNat q), .int (Int32.ofNat len)] 7)) (Tl.setTop (mkF m 15 #[.val (.ref b), .val (.int (Int32.ofNat (o + i))), .val (.ref d), .val (.int (Int32.ofNat (q + i))), .val (.int (Int32.ofNat len)), .val (.int (Int32.ofNat i)), .val (.int (cv A (o + i)))] [])) := c4.trans (by
        refine XS.istoreS Xl.here hexec rfl (hb hbytes d13) rfl rfl hz ?_
        exact Steps.refl _)
      have c6 : Steps p.tables e below (s₁.setTop (entryFrame m #[.ref b, .int (Int32.ofNat o), .ref d, .int (Int32.ofNat q), .int (Int32.ofNat len)] 7)) (Tl.setTop (mkF m 31 #[.val (.ref b), .val (.int (Int32.ofNat (o + i))), .val (.ref d), .val (.int (Int32.ofNat (q + i))), .val (.int (Int32.ofNat len)), .val (.int (Int32.ofNat i)), .val (.int (cv A (o + i)))] [.int (lo8 (cv A (o + i))), .int (Int32.ofNat (q + i)), .ref d])) := c5.trans (by
        refine XS.iload Xl.here hexec rfl (hb hbytes d15) rfl ?_
        refine sipushV Xl.here hexec rfl 255 (hb hbytes d17) (by decide) ?_
        refine XS.icmpYes Xl.here hexec rfl (pc0 := 20) rfl (hb hbytes d20) rfl (ii_le_t (hp i (by omega))) (by decide) rfl ?_
        refine XS.aloadN Xl.here hexec rfl (hb hbytes d26) rfl rfl ?_
        refine XS.iloadN Xl.here hexec rfl (hb hbytes d27) rfl ?_
        refine XS.iload Xl.here hexec rfl (hb hbytes d28) rfl ?_
        refine i2b Xl.here hexec rfl (hb hbytes d30) rfl ?_
        exact Steps.refl _)
      obtain ⟨T7, X7, p7, st7⟩ := Xl.aput hexec hBk rfl hlt rfl (fits_lo8 (cv A (o + i))) (g := (mkF m 31 #[.val (.ref b), .val (.int (Int32.ofNat (o + i))), .val (.ref d), .val (.int (Int32.ofNat (q + i))), .val (.int (Int32.ofNat len)), .val (.int (Int32.ofNat i)), .val (.int (cv A (o + i)))] [.int (lo8 (cv A (o + i))), .int (Int32.ofNat (q + i)), .ref d])) rfl (rest := []) rfl (hb hbytes d31)
      have c8 : Steps p.tables e below (s₁.setTop (entryFrame m #[.ref b, .int (Int32.ofNat o), .ref d, .int (Int32.ofNat q), .int (Int32.ofNat len)] 7)) (T7.setTop (mkF m 32 #[.val (.ref b), .val (.int (Int32.ofNat (o + i))), .val (.ref d), .val (.int (Int32.ofNat (q + i))), .val (.int (Int32.ofNat len)), .val (.int (Int32.ofNat i)), .val (.int (cv A (o + i)))] [])) := c6.trans (st7 _ (Steps.refl _))
      have c9 : Steps p.tables e below (s₁.setTop (entryFrame m #[.ref b, .int (Int32.ofNat o), .ref d, .int (Int32.ofNat q), .int (Int32.ofNat len)] 7)) (T7.setTop (mkF m 3 #[.val (.ref b), .val (.int (Int32.ofNat (o + i) + 1)), .val (.ref d), .val (.int (Int32.ofNat (q + i) + 1)), .val (.int (Int32.ofNat len)), .val (.int (Int32.ofNat i + 1)), .val (.int (cv A (o + i)))] [])) := c8.trans (by
        refine iincV X7.here hexec rfl 1 (hb hbytes d32) (by decide) rfl rfl ?_
        refine iincV X7.here hexec rfl 1 (hb hbytes d35) (by decide) rfl rfl ?_
        refine iincV X7.here hexec rfl 1 (hb hbytes d38) (by decide) rfl rfl ?_
        refine XS.goto X7.here hexec rfl (pc0 := 41) rfl (hb hbytes d41) (by decide) rfl ?_
        exact Steps.refl _)
      have c10 : Steps p.tables e below (s₁.setTop (entryFrame m #[.ref b, .int (Int32.ofNat o), .ref d, .int (Int32.ofNat q), .int (Int32.ofNat len)] 7)) (T7.setTop (mkF m 3 #[.val (.ref b), .val (.int (Int32.ofNat (o + (i + 1)))), .val (.ref d), .val (.int (Int32.ofNat (q + (i + 1)))), .val (.int (Int32.ofNat len)), .val (.int (Int32.ofNat (i + 1))), .val (.int (cv A (o + i)))] [])) := by
        have := c9
        rw [succ32, succ32, succ32] at this
        exact this
      exact ih (i + 1) (by omega) _ (Or.inr ⟨_, rfl, rfl⟩) T7 _ (by rw [copyLocs_step, ← List.append_assoc]; exact X7) (pl.trans p7) (fl.step (by omega) hlt (by simp)) c10
  obtain ⟨T9, B9, z9, X9, p9, f9, g9⟩ := loop len 0 (by omega) .unset (Or.inl rfl) s₁ B (by simpa [copyLocs] using X0) ⟨hB0.1, fun _ _ => rfl, rfl⟩ (Laid.zero _ _ _) c2
  have c11 : Steps p.tables e below (s₁.setTop (entryFrame m #[.ref b, .int (Int32.ofNat o), .ref d, .int (Int32.ofNat q), .int (Int32.ofNat len)] 7)) (T9.setTop (mkF m 46 #[.val (.ref b), .val (.int (Int32.ofNat (o + len))), .val (.ref d), .val (.int (Int32.ofNat (q + len))), .val (.int (Int32.ofNat len)), .val (.int (Int32.ofNat len)), z9] [.int (Int32.ofNat len)])) := g9.trans (by
    refine XS.iload X9.here hexec rfl (hb hbytes d3) rfl ?_
    refine XS.iload X9.here hexec rfl (hb hbytes d5) rfl ?_
    refine XS.icmpYes X9.here hexec rfl (pc0 := 7) rfl (hb hbytes d7) rfl (ii_ge_t (nlt32 (by omega) (Nat.le_refl _))) (by decide) rfl ?_
    refine XS.iload X9.here hexec rfl (hb hbytes d44) rfl ?_
    exact Steps.refl _)
  exact ⟨T9, some (.int (Int32.ofNat len)), _, _, _, X9, by simp, rfl, rfl, (fun h => by cases h), ⟨rfl, B9, p9.from hh0, f9⟩, fun fs hl => c11.trans (X9.ireturnOut hexec hret rfl (Or.inl rfl) (hb hbytes d46) hl)⟩
end Cmp5
namespace Cmp3
def yN : MethodName := ⟨"java/lang/StringUTF16", "compress", "([CII)[B"⟩
abbrev yB : ByteArray := jdk_52_method_16_code
theorem d0 : decode yB 0 = .ok (.iload_n 2, 1) := by decide +kernel
theorem d1 : decode yB 1 = .ok (.newarray .byte, 2) := by decide +kernel
theorem d3 : decode yB 3 = .ok (.astore_n 3, 1) := by decide +kernel
theorem d4 : decode yB 4 = .ok (.aload_n 0, 1) := by decide +kernel
theorem d5 : decode yB 5 = .ok (.iload_n 1, 1) := by decide +kernel
theorem d6 : decode yB 6 = .ok (.aload_n 3, 1) := by decide +kernel
theorem d7 : decode yB 7 = .ok (.iconst 0, 1) := by decide +kernel
theorem d8 : decode yB 8 = .ok (.iload_n 2, 1) := by decide +kernel
theorem d9 : decode yB 9 = .ok (.invokestatic 115, 3) := by decide +kernel
theorem d12 : decode yB 12 = .ok (.istore 4, 2) := by decide +kernel
theorem d14 : decode yB 14 = .ok (.iload 4, 2) := by decide +kernel
theorem d16 : decode yB 16 = .ok (.iload_n 2, 1) := by decide +kernel
theorem d17 : decode yB 17 = .ok (.if_icmp (.eq) 40, 3) := by decide +kernel
theorem d57 : decode yB 57 = .ok (.aload_n 3, 1) := by decide +kernel
theorem d58 : decode yB 58 = .ok (.areturn, 1) := by decide +kernel
def site : List Cond := [.arrayClass .byte, Cmp5.tab] ++ staticW U16 115 Cmp5.yN
def tab : Cond := tabOf yN yB 6 (some (.array .byte)) site
def P (b : Addr) (A : Cell) (o len : Nat) (args : Array Value) (s : State) : Prop := args = #[.ref b, .int (Int32.ofNat o), .int (Int32.ofNat len)] ∧ Ch b A s ∧ o + len ≤ A.slots.size ∧ len ≤ 536870912 ∧ ∀ i, i < len → ¬ 255 < cv A (o + i)
def E (b : Addr) (A : Cell) (o len : Nat) (r : Option Value) (s u : State) : Prop := NewArr .byte "[B" len (fun j => .int (lo8 (cv A (o + j)))) r s u ∧ u.heap.size = s.heap.size + 1
/-- no char of the range above 255: a new byte[] of their low bytes -/
theorem law (l : Launch) (b : Addr) (A : Cell) (o len : Nat) : Law l yN 3 3 1 18 yB 6 (some (.array .byte)) site (P b A o len) (E b A o len) [] 1 len := by
  refine Law.of_walk (plainFor_of_name (by decide +kernel)) (by decide +kernel) (by decide +kernel) (by decide) (fun _ _ h => by rw [h.1]; rfl) (fun _ U U' hal hh h => ⟨h.1, h.2.1.mv hal hh, h.2.2⟩) (fun r U U' V V' h1 hal h2 h => ⟨NewArr.mv r U U' V V' h1 hal h2 h.1, by rw [h1, h2]; exact h.2⟩) ?_
  intro p e s m args below meth c s₁ X0 hexec hbytes hml hret hlk hnm hown hh0 W hP
  obtain ⟨rfl, hA, l1, l2, hp⟩ := hP
  have a31 := hA.1.2.2.2
  have c1 : Steps p.tables e below (s₁.setTop (entryFrame m #[.ref b, .int (Int32.ofNat o), .int (Int32.ofNat len)] 6)) (s₁.setTop (mkF m 0 #[.val (.ref b), .val (.int (Int32.ofNat o)), .val (.int (Int32.ofNat len)), .unset, .unset, .unset] [])) := entry rfl
  have c2 : Steps p.tables e below (s₁.setTop (entryFrame m #[.ref b, .int (Int32.ofNat o), .int (Int32.ofNat len)] 6)) (s₁.setTop (mkF m 1 #[.val (.ref b), .val (.int (Int32.ofNat o)), .val (.int (Int32.ofNat len)), .unset, .unset, .unset] [.int (Int32.ofNat len)])) := c1.trans (by
    refine XS.iloadN X0.here hexec rfl (hb hbytes d0) rfl ?_
    exact Steps.refl _)
  obtain ⟨T3, B3, X3, ba3, bs3, bv3, bh3, bf3, st3⟩ := X0.anew hexec (atype := .byte) (wk W (.arrayClass .byte)) rfl (by show len * 1 ≤ _; omega) (by omega) (g := (mkF m 1 #[.val (.ref b), .val (.int (Int32.ofNat o)), .val (.int (Int32.ofNat len)), .unset, .unset, .unset] [.int (Int32.ofNat len)])) rfl (hb hbytes d1) (rest := []) rfl (Nat.le_refl _) (by show 0 + len ≤ len; omega)
  rw [hh0] at ba3 st3
  have kp3 : XT.Kept s T3 := (XT.Kept.of_eq hh0).push bh3
  have hA3 := hA.keep X3.warmed.alike (kp3 _ _ hA.1.1)
  have hne : b ≠ s.heap.size := hA.1.ne
  have c4 : Steps p.tables e below (s₁.setTop (entryFrame m #[.ref b, .int (Int32.ofNat o), .int (Int32.ofNat len)] 6)) (T3.setTop (mkF m 3 #[.val (.ref b), .val (.int (Int32.ofNat o)), .val (.int (Int32.ofNat len)), .unset, .unset, .unset] [.ref s.heap.size])) := c2.trans (st3 _ (Steps.refl _))
  have c5 : Steps p.tables e below (s₁.setTop (entryFrame m #[.ref b, .int (Int32.ofNat o), .int (Int32.ofNat len)] 6)) (T3.setTop (mkF m 9 #[.val (.ref b), .val (.int (Int32.ofNat o)), .val (.int (Int32.ofNat len)), .val (.ref s.heap.size), .unset, .unset] [.int (Int32.ofNat len), .int 0, .ref s.heap.size, .int (Int32.ofNat o), .ref b])) := c4.trans (by
    refine XS.astoreN X3.here hexec rfl (hb hbytes d3) rfl rfl rfl ?_
    refine XS.aloadN X3.here hexec rfl (hb hbytes d4) rfl rfl ?_
    refine XS.iloadN X3.here hexec rfl (hb hbytes d5) rfl ?_
    refine XS.aloadN X3.here hexec rfl (hb hbytes d6) rfl rfl ?_
    refine iconstV X3.here hexec rfl 0 (hb hbytes d7) (by decide) ?_
    refine XS.iloadN X3.here hexec rfl (hb hbytes d8) rfl ?_
    exact Steps.refl _)
  obtain ⟨v6, T6, X6, E6, g6⟩ := X3.callS hexec (Cmp5.law l b A s.heap.size B3 o 0 len) hown (wks W (staticW U16 115 Cmp5.yN)) (wk W Cmp5.tab) (W := 0) (Nat.le_of_ble_eq_true rfl) (Nat.le_of_ble_eq_true rfl) (Nat.le_refl _) (by show 0 + len + 0 ≤ len; omega) (g := (mkF m 9 #[.val (.ref b), .val (.int (Int32.ofNat o)), .val (.int (Int32.ofNat len)), .val (.ref s.heap.size), .unset, .unset] [.int (Int32.ofNat len), .int (Int32.ofNat 0), .ref s.heap.size, .int (Int32.ofNat o), .ref b])) rfl (by rw [hml]; rfl) c5 (argsL := [.ref b, .int (Int32.ofNat o), .ref s.heap.size, .int (Int32.ofNat 0), .int (Int32.ofNat len)]) (rest := []) rfl rfl (by show 2 * 0 + 0 ≤ _; decide) (hb hbytes d9) (⟨rfl, hA3, ba3, hne, l1, by rw [bs3]; simp, hp⟩)
  obtain ⟨rfl, B6, p6, f6⟩ := E6
  have c7 : Steps p.tables e below (s₁.setTop (entryFrame m #[.ref b, .int (Int32.ofNat o), .int (Int32.ofNat len)] 6)) (T6.setTop (mkF m 12 #[.val (.ref b), .val (.int (Int32.ofNat o)), .val (.int (Int32.ofNat len)), .val (.ref s.heap.size), .unset, .unset] [.int (Int32.ofNat len)])) := g6
  have c8 : Steps p.tables e below (s₁.setTop (entryFrame m #[.ref b, .int (Int32.ofNat o), .int (Int32.ofNat len)] 6)) (T6.setTop (mkF m 58 #[.val (.ref b), .val (.int (Int32.ofNat o)), .val (.int (Int32.ofNat len)), .val (.ref s.heap.size), .val (.int (Int32.ofNat len)), .unset] [.ref s.heap.size])) := c7.trans (by
    refine XS.istore X6.here hexec rfl (hb hbytes d12) rfl rfl ?_
    refine XS.iload X6.here hexec rfl (hb hbytes d14) rfl ?_
    refine XS.iloadN X6.here hexec rfl (hb hbytes d16) rfl ?_
    refine XS.icmpYes X6.here hexec rfl (pc0 := 17) rfl (hb hbytes d17) rfl (ii_eq_t rfl) (by decide) rfl ?_
    refine XS.aloadN X6.here hexec rfl (hb hbytes d57) rfl rfl ?_
    exact Steps.refl _)
  have X8 := X6.wide (L' := []) (cells' := 1) (slots' := len) (fun x hx hlt => by
    simp only [List.nil_append, copyLocs, List.mem_map, List.mem_range] at hx
    obtain ⟨i, -, rfl⟩ := hx
    exact absurd hlt (Nat.lt_irrefl _)) (Nat.le_refl _) (by omega)
  exact ⟨T6, some (.ref s.heap.size), _, _, _, X8, rfl, rfl, rfl, (fun h => by cases h), ⟨⟨rfl, B6, ba3.like (X3.warmed.alike.symm.trans X6.warmed.alike) p6.1 f6.1 f6.2.1 f6.2.2.1, f6.2.1.trans bv3, by rw [X6.warmed.alike.findClass, f6.1]; exact bf3, by rw [f6.2.2.1, bs3]; simp, fun j hj => by rw [f6.2.2.2 j, if_pos (by omega)]; rfl, kp3.put p6 (Nat.le_refl _)⟩, by rw [p6.2.2, bh3, hh0]; simp⟩, fun fs hl => c8.trans (X8.areturnOut hexec rfl hret rfl (hb hbytes d58) hl)⟩
end Cmp3
namespace CodL
def yN : MethodName := ⟨"java/lang/StringUTF16", "coderFromArrayLen", "([BI)B"⟩
abbrev yB : ByteArray := jdk_52_method_15_code
theorem d0 : decode yB 0 = .ok (.iload_n 1, 1) := by decide +kernel
theorem d1 : decode yB 1 = .ok (.aload_n 0, 1) := by decide +kernel
theorem d2 : decode yB 2 = .ok (.arraylength, 1) := by decide +kernel
theorem d3 : decode yB 3 = .ok (.isub, 1) := by decide +kernel
theorem d4 : decode yB 4 = .ok (.bipush 31, 2) := by decide +kernel
theorem d6 : decode yB 6 = .ok (.iushr, 1) := by decide +kernel
theorem d7 : decode yB 7 = .ok (.i2b, 1) := by decide +kernel
theorem d8 : decode yB 8 = .ok (.ireturn, 1) := by decide +kernel
def site : List Cond := []
def tab : Cond := tabOf yN yB 2 (some .byte) site
def P (d : Addr) (B : Cell) (args : Array Value) (s : State) : Prop := args = #[.ref d, .int (Int32.ofNat B.slots.size)] ∧ Arr .byte d B s
def E (r : Option Value) (s u : State) : Prop := XT.PureE (some (.int 0)) r s u
/-- an array as long as the number of chars: LATIN1 -/
theorem law (l : Launch) (d : Addr) (B : Cell) : Law l yN 2 2 0 0 yB 2 (some .byte) site (P d B) E [] 0 0 := by
  refine Law.of_walk (plainFor_of_name (by decide +kernel)) (by decide +kernel) (by decide +kernel) (by decide) (fun _ _ h => by rw [h.1]; rfl) (fun _ U U' hal hh h => ⟨h.1, h.2.mv hal hh⟩) (fun r U U' V V' h1 hal h2 h => XT.PureE.mv r U U' V V' h1 hal h2 h) ?_
  intro p e s m args below meth c s₁ X0 hexec hbytes hml hret hlk hnm hown hh0 W hP
  obtain ⟨rfl, hB⟩ := hP
  have hB0 := hB.mv X0.warmed.alike hh0
  have c1 : Steps p.tables e below (s₁.setTop (entryFrame m #[.ref d, .int (Int32.ofNat B.slots.size)] 2)) (s₁.setTop (mkF m 0 #[.val (.ref d), .val (.int (Int32.ofNat B.slots.size))] [])) := entry rfl
  have c2 : Steps p.tables e below (s₁.setTop (entryFrame m #[.ref d, .int (Int32.ofNat B.slots.size)] 2)) (s₁.setTop (mkF m 2 #[.val (.ref d), .val (.int (Int32.ofNat B.slots.size))] [.ref d, .int (Int32.ofNat B.slots.size)])) := c1.trans (by
    refine XS.iloadN X0.here hexec rfl (hb hbytes d0) rfl ?_
    refine XS.aloadN X0.here hexec rfl (hb hbytes d1) rfl rfl ?_
    exact Steps.refl _)
  have c3 : Steps p.tables e below (s₁.setTop (entryFrame m #[.ref d, .int (Int32.ofNat B.slots.size)] 2)) (s₁.setTop (mkF m 8 #[.val (.ref d), .val (.int (Int32.ofNat B.slots.size))] [.int (lo8 (ushr (Int32.ofNat B.slots.size - Int32.ofNat B.slots.size) 31))])) := c2.trans (by
    refine X0.alen hexec hB0 rfl rfl (hb hbytes d2) ?_
    refine XS.isub X0.here hexec rfl (hb hbytes d3) rfl ?_
    refine bipushV X0.here hexec rfl 31 (hb hbytes d4) (by decide) ?_
    refine iushr X0.here hexec rfl (hb hbytes d6) rfl ?_
    refine i2b X0.here hexec rfl (hb hbytes d7) rfl ?_
    exact Steps.refl _)
  have e0 : lo8 (ushr (Int32.ofNat B.slots.size - Int32.ofNat B.slots.size) 31) = 0 := by rw [Int32.sub_self]; decide
  rw [e0] at c3
  exact ⟨s₁, some (.int 0), _, _, _, X0, rfl, rfl, rfl, (fun h => by cases h), ⟨rfl, hh0⟩, fun fs hl => c3.trans (X0.ireturnOut hexec hret rfl (Or.inr (Or.inr (Or.inl rfl))) (hb hbytes d8) hl)⟩
end CodL
/-- the String at a is Latin-1 over a new byte[] (the heap's one new cell): the low bytes of the len chars of A from o on; every cell but a is kept -/
def Got (a : Addr) (D : Cell) (fV fC : Field) (A : Cell) (o len : Nat) (r : Option Value) (s u : State) : Prop := r = none ∧ ∃ D' V : Cell, Blank "java/lang/String" a D' u ∧ Same D D' [fV.slot, fC.slot] ∧ D'.slots[fV.slot]? = some (.ref s.heap.size) ∧ D'.slots[fC.slot]? = some (.int 0) ∧ Arr .byte s.heap.size V u ∧ V.vm = .none ∧ u.vm.findClass "[B" = some V.cls ∧ V.slots.size = len ∧ (∀ j, j < len → V.slots[j]? = some (.int (lo8 (cv A (o + j))))) ∧ (∀ (y : Addr) (c : Cell), y ≠ a → s.heap[y]? = some c → u.heap[y]? = some c) ∧ u.heap.size = s.heap.size + 1
theorem Got.mv {a : Addr} {D A : Cell} {fV fC : Field} {o len : Nat} : ∀ r (U U' V V' : State), U'.heap = U.heap → V.vm.Alike V'.vm → V'.heap = V.heap → Got a D fV fC A o len r U V → Got a D fV fC A o len r U' V' :=
  fun r U U' V V' h1 hal h2 ⟨e0, D', X, a1, a2, a3, a4, a5, a6, a7, a8, a9, a10, a11⟩ => ⟨e0, D', X, a1.mv hal h2, a2, by rw [h1]; exact a3, a4, by rw [h1]; exact a5.mv hal h2, a6, by rw [hal.findClass]; exact a7, a8, a9, by rw [h1, h2]; exact a10, by rw [h1, h2]; exact a11⟩
namespace New4
def yN : MethodName := ⟨"java/lang/String", "<init>", "([CIILjava/lang/Void;)V"⟩
abbrev yB : ByteArray := jdk_42_method_149_code
theorem d0 : decode yB 0 = .ok (.aload_n 0, 1) := by decide +kernel
theorem d1 : decode yB 1 = .ok (.invokespecial 1, 3) := by decide +kernel
theorem d4 : decode yB 4 = .ok (.iload_n 3, 1) := by decide +kernel
theorem d5 : decode yB 5 = .ok (.ifCond (.ne) 22, 3) := by decide +kernel
theorem d27 : decode yB 27 = .ok (.getstatic 38, 3) := by decide +kernel
theorem d30 : decode yB 30 = .ok (.ifCond (.eq) 28, 3) := by decide +kernel
theorem d33 : decode yB 33 = .ok (.aload_n 1, 1) := by decide +kernel
theorem d34 : decode yB 34 = .ok (.iload_n 2, 1) := by decide +kernel
theorem d35 : decode yB 35 = .ok (.iload_n 3, 1) := by decide +kernel
theorem d36 : decode yB 36 = .ok (.invokestatic 177, 3) := by decide +kernel
theorem d39 : decode yB 39 = .ok (.astore 5, 2) := by decide +kernel
theorem d41 : decode yB 41 = .ok (.aload_n 0, 1) := by decide +kernel
theorem d42 : decode yB 42 = .ok (.aload 5, 2) := by decide +kernel
theorem d44 : decode yB 44 = .ok (.iload_n 3, 1) := by decide +kernel
theorem d45 : decode yB 45 = .ok (.invokestatic 47, 3) := by decide +kernel
theorem d48 : decode yB 48 = .ok (.putfield 15, 3) := by decide +kernel
theorem d51 : decode yB 51 = .ok (.aload_n 0, 1) := by decide +kernel
theorem d52 : decode yB 52 = .ok (.aload 5, 2) := by decide +kernel
theorem d54 : decode yB 54 = .ok (.putfield 9, 3) := by decide +kernel
theorem d57 : decode yB 57 = .ok (.return_, 1) := by decide +kernel
def site : List Cond := [.fieldLink "java/lang/String" 38 "java/lang/String" "COMPACT_STRINGS" "Z", Cmp3.tab, CodL.tab, .laysFinal "java/lang/String" "java/lang/String" "value" "[B", .fieldLink "java/lang/String" 9 "java/lang/String" "value" "[B", .laysFinal "java/lang/String" "java/lang/String" "coder" "B", .fieldLink "java/lang/String" 15 "java/lang/String" "coder" "B"] ++ objW "java/lang/String" 1 ++ staticW "java/lang/String" 177 Cmp3.yN ++ staticW "java/lang/String" 47 CodL.yN
def tab : Cond := tabOf yN yB 6 none site
def P (a : Addr) (D : Cell) (fV fC : Field) (b : Addr) (A : Cell) (z : Int32) (o len : Nat) (args : Array Value) (s : State) : Prop := args = #[.ref a, .ref b, .int (Int32.ofNat o), .int (Int32.ofNat len), .null] ∧ Blank "java/lang/String" a D s ∧ Found "java/lang/String" "value" "[B" fV s ∧ Found "java/lang/String" "coder" "B" fC s ∧ Ch b A s ∧ StaticIs s "java/lang/String" "COMPACT_STRINGS" "Z" (.int z) ∧ ¬ z = 0 ∧ 0 < len ∧ o + len ≤ A.slots.size ∧ len ≤ 536870912 ∧ ∀ i, i < len → ¬ 255 < cv A (o + i)
def E (a : Addr) (D : Cell) (fV fC : Field) (A : Cell) (o len : Nat) (r : Option Value) (s u : State) : Prop := Got a D fV fC A o len r s u
/-- len > 0, no char of the range above 255: a Latin-1 String of their low bytes -/
theorem law (l : Launch) (a : Addr) (D : Cell) (fV fC : Field) (b : Addr) (A : Cell) (z : Int32) (o len : Nat) : Law l yN 5 4 2 35 yB 6 none site (P a D fV fC b A z o len) (E a D fV fC A o len) [⟨a, fC.slot⟩, ⟨a, fV.slot⟩] 1 len := by
  refine Law.of_walk (plainFor_of_name (by decide +kernel)) (by decide +kernel) (by decide +kernel) (by decide) (fun _ _ h => by rw [h.1]; rfl) (fun _ U U' hal hh h => ⟨h.1, h.2.1.mv hal hh, h.2.2.1.al hal, h.2.2.2.1.al hal, h.2.2.2.2.1.mv hal hh, h.2.2.2.2.2.1.there hal hh, h.2.2.2.2.2.2⟩) (fun r U U' V V' h1 hal h2 h => Got.mv r U U' V V' h1 hal h2 h) ?_
  intro p e s m args below meth c s₁ X0 hexec hbytes hml hret hlk hnm hown hh0 W hP
  obtain ⟨rfl, hB, f1, f2, hA, s1, hz, l0, l1, l2, hp⟩ := hP
  have a31 := hA.1.2.2.2
  have c1 : Steps p.tables e below (s₁.setTop (entryFrame m #[.ref a, .ref b, .int (Int32.ofNat o), .int (Int32.ofNat len), .null] 6)) (s₁.setTop (mkF m 0 #[.val (.ref a), .val (.ref b), .val (.int (Int32.ofNat o)), .val (.int (Int32.ofNat len)), .val .null, .unset] [])) := entry rfl
  have c2 : Steps p.tables e below (s₁.setTop (entryFrame m #[.ref a, .ref b, .int (Int32.ofNat o), .int (Int32.ofNat len), .null] 6)) (s₁.setTop (mkF m 1 #[.val (.ref a), .val (.ref b), .val (.int (Int32.ofNat o)), .val (.int (Int32.ofNat len)), .val .null, .unset] [.ref a])) := c1.trans (by
    refine XS.aloadN X0.here hexec rfl (hb hbytes d0) rfl rfl ?_
    exact Steps.refl _)
  obtain ⟨T3, X3, q3, st3⟩ := X0.oinit hexec hown (wks W (objW "java/lang/String" 1)) (g := (mkF m 1 #[.val (.ref a), .val (.ref b), .val (.int (Int32.ofNat o)), .val (.int (Int32.ofNat len)), .val .null, .unset] [.ref a])) rfl (by rw [hml]; rfl) (rest := []) rfl (hb hbytes d1) (W := 0) (by show 2 * 0 + 0 ≤ _; decide) (Nat.le_of_ble_eq_true rfl) (Nat.le_of_ble_eq_true rfl)
  have hh3 := q3.trans hh0
  have c4 : Steps p.tables e below (s₁.setTop (entryFrame m #[.ref a, .ref b, .int (Int32.ofNat o), .int (Int32.ofNat len), .null] 6)) (T3.setTop (mkF m 27 #[.val (.ref a), .val (.ref b), .val (.int (Int32.ofNat o)), .val (.int (Int32.ofNat len)), .val .null, .unset] [])) := (c2.trans (st3 _ (Steps.refl _))).trans (by
    refine XS.iloadN X3.here hexec rfl (hb hbytes d4) rfl ?_
    refine XS.ifYes X3.here hexec rfl (pc0 := 5) rfl (hb hbytes d5) rfl (i0_ne_t (nz32 (by omega) l0)) (by decide) rfl ?_
    exact Steps.refl _)
  obtain ⟨T5, X5, q5, st5⟩ := X3.sget hexec hown (wk W (.fieldLink "java/lang/String" 38 "java/lang/String" "COMPACT_STRINGS" "Z")) s1 (fun _ _ h => by rw [hh3]; exact h) (g := (mkF m 27 #[.val (.ref a), .val (.ref b), .val (.int (Int32.ofNat o)), .val (.int (Int32.ofNat len)), .val .null, .unset] [])) rfl (hb hbytes d27)
  have hh5 := q5.trans hh3
  have c6 : Steps p.tables e below (s₁.setTop (entryFrame m #[.ref a, .ref b, .int (Int32.ofNat o), .int (Int32.ofNat len), .null] 6)) (T5.setTop (mkF m 30 #[.val (.ref a), .val (.ref b), .val (.int (Int32.ofNat o)), .val (.int (Int32.ofNat len)), .val .null, .unset] [.int z])) := c4.trans (st5 _ (Steps.refl _))
  have c7 : Steps p.tables e below (s₁.setTop (entryFrame m #[.ref a, .ref b, .int (Int32.ofNat o), .int (Int32.ofNat len), .null] 6)) (T5.setTop (mkF m 36 #[.val (.ref a), .val (.ref b), .val (.int (Int32.ofNat o)), .val (.int (Int32.ofNat len)), .val .null, .unset] [.int (Int32.ofNat len), .int (Int32.ofNat o), .ref b])) := c6.trans (by
    refine XS.ifNo X5.here hexec rfl (hb hbytes d30) rfl (i0_eq_f hz) ?_
    refine XS.aloadN X5.here hexec rfl (hb hbytes d33) rfl rfl ?_
    refine XS.iloadN X5.here hexec rfl (hb hbytes d34) rfl ?_
    refine XS.iloadN X5.here hexec rfl (hb hbytes d35) rfl ?_
    exact Steps.refl _)
  obtain ⟨v8, T8, X8, E8, g8⟩ := X5.callS hexec (Cmp3.law l b A o len) hown (wks W (staticW "java/lang/String" 177 Cmp3.yN)) (wk W Cmp3.tab) (W := 0) (Nat.le_of_ble_eq_true rfl) (Nat.le_of_ble_eq_true rfl) (Nat.le_refl _) (by show 0 + len ≤ len; omega) (g := (mkF m 36 #[.val (.ref a), .val (.ref b), .val (.int (Int32.ofNat o)), .val (.int (Int32.ofNat len)), .val .null, .unset] [.int (Int32.ofNat len), .int (Int32.ofNat o), .ref b])) rfl (by rw [hml]; rfl) c7 (argsL := [.ref b, .int (Int32.ofNat o), .int (Int32.ofNat len)]) (rest := []) rfl rfl (by show 2 * 0 + 0 ≤ _; decide) (hb hbytes d36) (⟨rfl, hA.mv X5.warmed.alike hh5, l1, l2, hp⟩)
  obtain ⟨e8, z8⟩ := E8
  obtain ⟨rfl, N, n1, n2, n3, n4, n5, n6⟩ := NewArr.mv _ T5 s _ _ hh5.symm (Vm.Alike.refl _) rfl e8
  rw [hh5] at z8
  have hB1 := hB.keep X8.warmed.alike (n6 _ _ hB.1)
  have hne : s.heap.size ≠ a := (Nat.ne_of_lt (Array.getElem?_eq_some_iff.mp hB.1).1).symm
  have c9 : Steps p.tables e below (s₁.setTop (entryFrame m #[.ref a, .ref b, .int (Int32.ofNat o), .int (Int32.ofNat len), .null] 6)) (T8.setTop (mkF m 39 #[.val (.ref a), .val (.ref b), .val (.int (Int32.ofNat o)), .val (.int (Int32.ofNat len)), .val .null, .unset] [.ref s.heap.size])) := g8
  have c10 : Steps p.tables e below (s₁.setTop (entryFrame m #[.ref a, .ref b, .int (Int32.ofNat o), .int (Int32.ofNat len), .null] 6)) (T8.setTop (mkF m 45 #[.val (.ref a), .val (.ref b), .val (.int (Int32.ofNat o)), .val (.int (Int32.ofNat len)), .val .null, .val (.ref s.heap.size)] [.int (Int32.ofNat N.slots.size), .ref s.heap.size, .ref a])) := by
    have hc : Steps p.tables e below (s₁.setTop (entryFrame m #[.ref a, .ref b, .int (Int32.ofNat o), .int (Int32.ofNat len), .null] 6)) (T8.setTop (mkF m 45 #[.val (.ref a), .val (.ref b), .val (.int (Int32.ofNat o)), .val (.int (Int32.ofNat len)), .val .null, .val (.ref s.heap.size)] [.int (Int32.ofNat len), .ref s.heap.size, .ref a])) := c9.trans (by
      refine XS.astore X8.here hexec rfl (hb hbytes d39) rfl rfl rfl ?_
      refine XS.aloadN X8.here hexec rfl (hb hbytes d41) rfl rfl ?_
      refine XS.aload X8.here hexec rfl (hb hbytes d42) rfl rfl ?_
      refine XS.iloadN X8.here hexec rfl (hb hbytes d44) rfl ?_
      exact Steps.refl _)
    rw [n4]; exact hc
  obtain ⟨v11, T11, X11, E11, g11⟩ := X8.callS hexec (CodL.law l s.heap.size N) hown (wks W (staticW "java/lang/String" 47 CodL.yN)) (wk W CodL.tab) (W := 1) (Nat.le_of_ble_eq_true rfl) (Nat.le_of_ble_eq_true rfl) (Nat.le_refl _) (by show 0 + len + 0 ≤ len; omega) (g := (mkF m 45 #[.val (.ref a), .val (.ref b), .val (.int (Int32.ofNat o)), .val (.int (Int32.ofNat len)), .val .null, .val (.ref s.heap.size)] [.int (Int32.ofNat N.slots.size), .ref s.heap.size, .ref a])) rfl (by rw [hml]; rfl) c10 (argsL := [.ref s.heap.size, .int (Int32.ofNat N.slots.size)]) (rest := [.ref a]) rfl rfl (by show 2 * 0 + (1 + 0) ≤ _; decide) (hb hbytes d45) (⟨rfl, n1⟩)
  obtain ⟨rfl, q11⟩ := E11
  have hB11 := hB1.mv (X8.warmed.alike.symm.trans X11.warmed.alike) q11
  have c12 : Steps p.tables e below (s₁.setTop (entryFrame m #[.ref a, .ref b, .int (Int32.ofNat o), .int (Int32.ofNat len), .null] 6)) (T11.setTop (mkF m 48 #[.val (.ref a), .val (.ref b), .val (.int (Int32.ofNat o)), .val (.int (Int32.ofNat len)), .val .null, .val (.ref s.heap.size)] [.int 0, .ref a])) := g11
  obtain ⟨T13, X13, p13, bl13, sl13, st13⟩ := X11.finit hexec hown (wk W (.fieldLink "java/lang/String" 15 "java/lang/String" "coder" "B")) (Or.inr ⟨_, (wk W (.laysFinal "java/lang/String" "java/lang/String" "coder" "B"))⟩) (Or.inl ⟨rfl, hnm⟩) f2 (Or.inl rfl) hB11 (t := .byte) (by decide +kernel) rfl (g := (mkF m 48 #[.val (.ref a), .val (.ref b), .val (.int (Int32.ofNat o)), .val (.int (Int32.ofNat len)), .val .null, .val (.ref s.heap.size)] [.int 0, .ref a])) rfl (rest := []) rfl (hb hbytes d48)
  have c14 : Steps p.tables e below (s₁.setTop (entryFrame m #[.ref a, .ref b, .int (Int32.ofNat o), .int (Int32.ofNat len), .null] 6)) (T13.setTop (mkF m 54 #[.val (.ref a), .val (.ref b), .val (.int (Int32.ofNat o)), .val (.int (Int32.ofNat len)), .val .null, .val (.ref s.heap.size)] [.ref s.heap.size, .ref a])) := (c12.trans (st13 _ (Steps.refl _))).trans (by
    refine XS.aloadN X13.here hexec rfl (hb hbytes d51) rfl rfl ?_
    refine XS.aload X13.here hexec rfl (hb hbytes d52) rfl rfl ?_
    exact Steps.refl _)
  obtain ⟨T15, X15, p15, bl15, sl15, st15⟩ := X13.finit hexec hown (wk W (.fieldLink "java/lang/String" 9 "java/lang/String" "value" "[B")) (Or.inr ⟨_, (wk W (.laysFinal "java/lang/String" "java/lang/String" "value" "[B"))⟩) (Or.inl ⟨rfl, hnm⟩) f1 (Or.inl rfl) bl13 (t := (.array .byte)) (by decide +kernel) rfl (g := (mkF m 54 #[.val (.ref a), .val (.ref b), .val (.int (Int32.ofNat o)), .val (.int (Int32.ofNat len)), .val .null, .val (.ref s.heap.size)] [.ref s.heap.size, .ref a])) rfl (rest := []) rfl (hb hbytes d54)
  have c16 : Steps p.tables e below (s₁.setTop (entryFrame m #[.ref a, .ref b, .int (Int32.ofNat o), .int (Int32.ofNat len), .null] 6)) (T15.setTop (mkF m 57 #[.val (.ref a), .val (.ref b), .val (.int (Int32.ofNat o)), .val (.int (Int32.ofNat len)), .val .null, .val (.ref s.heap.size)] [])) := c14.trans (st15 _ (Steps.refl _))
  have ap := apart (Or.inr ⟨_, (wk W (.laysFinal "java/lang/String" "java/lang/String" "value" "[B"))⟩) (Or.inr ⟨_, (wk W (.laysFinal "java/lang/String" "java/lang/String" "coder" "B"))⟩) f1 f2 (t₁ := .array .byte) (t₂ := .byte) (by decide +kernel) (by decide +kernel) (by decide)
  have al := X8.warmed.alike.symm.trans X15.warmed.alike
  have n7 : T11.heap[s.heap.size]? = some N := by rw [q11]; exact n1.1
  exact ⟨T15, none, _, _, _, X15, by simp, rfl, by omega, (fun _ => rfl), ⟨rfl, _, N, bl15, ((Same.refl D _).set _ (by simp)).set _ (by simp), sl15, (Cell.slots_setSlot_ne _ ap).trans sl13, n1.keep al (p15.other hne (p13.other hne n7)), n2, by rw [al.findClass]; exact n3, n4, n5, fun y c h1 h2 => p15.other h1 (p13.other h1 (by rw [q11]; exact n6 y c h2)), by rw [p15.2.2, p13.2.2, q11]; exact z8⟩, fun fs hl => c16.trans (X15.returnOut hexec hret (hb hbytes d57) hl)⟩
end New4
namespace New1
def yN : MethodName := ⟨"java/lang/String", "<init>", "([C)V"⟩
abbrev yB : ByteArray := jdk_42_method_3_code
theorem d0 : decode yB 0 = .ok (.aload_n 0, 1) := by decide +kernel
theorem d1 : decode yB 1 = .ok (.aload_n 1, 1) := by decide +kernel
theorem d2 : decode yB 2 = .ok (.iconst 0, 1) := by decide +kernel
theorem d3 : decode yB 3 = .ok (.aload_n 1, 1) := by decide +kernel
theorem d4 : decode yB 4 = .ok (.arraylength, 1) := by decide +kernel
theorem d5 : decode yB 5 = .ok (.aconst_null, 1) := by decide +kernel
theorem d6 : decode yB 6 = .ok (.invokespecial 27, 3) := by decide +kernel
theorem d9 : decode yB 9 = .ok (.return_, 1) := by decide +kernel
def site : List Cond := [New4.tab] ++ initW "java/lang/String" 27 New4.yN
def tab : Cond := tabOf yN yB 2 none site
def P (a : Addr) (D : Cell) (fV fC : Field) (b : Addr) (A : Cell) (z : Int32) (args : Array Value) (s : State) : Prop := args = #[.ref a, .ref b] ∧ Blank "java/lang/String" a D s ∧ Found "java/lang/String" "value" "[B" fV s ∧ Found "java/lang/String" "coder" "B" fC s ∧ Ch b A s ∧ StaticIs s "java/lang/String" "COMPACT_STRINGS" "Z" (.int z) ∧ ¬ z = 0 ∧ 0 < A.slots.size ∧ A.slots.size ≤ 536870912 ∧ ∀ i, i < A.slots.size → ¬ 255 < cv A i
def E (a : Addr) (D : Cell) (fV fC : Field) (A : Cell) (r : Option Value) (s u : State) : Prop := Got a D fV fC A 0 A.slots.size r s u
/-- new String(chars), not empty, no char above 255: a Latin-1 String of their low bytes -/
theorem law (l : Launch) (a : Addr) (D : Cell) (fV fC : Field) (b : Addr) (A : Cell) (z : Int32) : Law l yN 2 1 3 52 yB 2 none site (P a D fV fC b A z) (E a D fV fC A) [⟨a, fC.slot⟩, ⟨a, fV.slot⟩] 1 A.slots.size := by
  refine Law.of_walk (plainFor_of_name (by decide +kernel)) (by decide +kernel) (by decide +kernel) (by decide) (fun _ _ h => by rw [h.1]; rfl) (fun _ U U' hal hh h => ⟨h.1, h.2.1.mv hal hh, h.2.2.1.al hal, h.2.2.2.1.al hal, h.2.2.2.2.1.mv hal hh, h.2.2.2.2.2.1.there hal hh, h.2.2.2.2.2.2⟩) (fun r U U' V V' h1 hal h2 h => Got.mv r U U' V V' h1 hal h2 h) ?_
  intro p e s m args below meth c s₁ X0 hexec hbytes hml hret hlk hnm hown hh0 W hP
  obtain ⟨rfl, hB, f1, f2, hA, s1, hz, l0, l2, hp⟩ := hP
  have c1 : Steps p.tables e below (s₁.setTop (entryFrame m #[.ref a, .ref b] 2)) (s₁.setTop (mkF m 0 #[.val (.ref a), .val (.ref b)] [])) := entry rfl
  have c2 : Steps p.tables e below (s₁.setTop (entryFrame m #[.ref a, .ref b] 2)) (s₁.setTop (mkF m 6 #[.val (.ref a), .val (.ref b)] [.null, .int (Int32.ofNat A.slots.size), .int 0, .ref b, .ref a])) := c1.trans (by
    refine XS.aloadN X0.here hexec rfl (hb hbytes d0) rfl rfl ?_
    refine XS.aloadN X0.here hexec rfl (hb hbytes d1) rfl rfl ?_
    refine iconstV X0.here hexec rfl 0 (hb hbytes d2) (by decide) ?_
    refine XS.aloadN X0.here hexec rfl (hb hbytes d3) rfl rfl ?_
    refine X0.alen hexec (hA.1.mv X0.warmed.alike hh0) rfl rfl (hb hbytes d4) ?_
    refine XS.aconstNull X0.here hexec rfl (hb hbytes d5) ?_
    exact Steps.refl _)
  obtain ⟨v3, T3, X3, E3, g3⟩ := X0.callN hexec (New4.law l a D fV fC b A z 0 A.slots.size) rfl hown (wks W (initW "java/lang/String" 27 New4.yN)) (W New4.tab (by simp only [site, List.mem_cons, List.mem_append, true_or, or_true])) (W := 0) (Nat.le_of_ble_eq_true rfl) (Nat.le_of_ble_eq_true rfl) (Nat.le_refl _) (by show 0 + A.slots.size ≤ A.slots.size; omega) (g := (mkF m 6 #[.val (.ref a), .val (.ref b)] [.null, .int (Int32.ofNat A.slots.size), .int (Int32.ofNat 0), .ref b, .ref a])) rfl (by rw [hml]; rfl) c2 (argsL := [.ref b, .int (Int32.ofNat 0), .int (Int32.ofNat A.slots.size), .null]) (rest := []) rfl rfl (by show 2 * 0 + 0 ≤ _; decide) (hb hbytes d6) (⟨rfl, hB.mv X0.warmed.alike hh0, f1.al X0.warmed.alike, f2.al X0.warmed.alike, hA.mv X0.warmed.alike hh0, s1.there X0.warmed.alike hh0, hz, l0, by omega, l2, fun i hi => by rw [Nat.zero_add]; exact hp i hi⟩)
  have e0 := Got.mv _ s₁ s _ _ hh0.symm (Vm.Alike.refl _) rfl E3
  obtain rfl := e0.1
  have c4 : Steps p.tables e below (s₁.setTop (entryFrame m #[.ref a, .ref b] 2)) (T3.setTop (mkF m 9 #[.val (.ref a), .val (.ref b)] [])) := g3
  exact ⟨T3, none, _, _, _, X3, by simp, rfl, by omega, (fun _ => rfl), e0, fun fs hl => c4.trans (X3.returnOut hexec hret (hb hbytes d9) hl)⟩
theorem pays {l : Launch} {R : Room} {p : Program} {e : Env} {below : List Frame} {s : State} {sargs : Array Value} {len W : Nat} (a : Addr) (D : Cell) (fV fC : Field) (b : Addr) (A : Cell) (z : Int32) (htab : tab.before sargs s = true) (hfr : 4 ≤ R.frames) (hlo : W + 65 ≤ R.locals) :
    Back l R p e below s sargs yN len W (fun A₁ a₁ => A₁.cells + 1 ≤ R.cells ∧ A₁.slots + A.slots.size ≤ R.slots ∧ P a D fV fC b A z a₁ A₁.U) (fun A₁ _ v₁ B₁ => E a D fV fC A v₁ A₁.U B₁.U ∧ B₁.locs = A₁.locs ++ [⟨a, fC.slot⟩, ⟨a, fV.slot⟩] ∧ B₁.cells = A₁.cells + 1 ∧ B₁.slots = A₁.slots + A.slots.size) :=
  (law l a D fV fC b A z).pays htab hfr (by omega)
end New1
end StrChars
namespace StrChars.Road
open Jvm Sem ClassFile Op Lib Jvm.Stand Jvm.Free Jvm.Free.XT
open Jvm.Lib.Cold (StaticIs)
abbrev ST : String := "java/lang/String"
/-- every table word that New1's law asks, flat -/
abbrev words : List Jvm.Cond := [.code New1.yN New1.yB 2 none, .initialized ST, .methodLink ST 27 New4.yN, .instanceMethod New4.yN,
  .code New4.yN New4.yB 6 none, .fieldLink ST 38 ST "COMPACT_STRINGS" "Z", .laysFinal ST ST "value" "[B", .fieldLink ST 9 ST "value" "[B", .laysFinal ST ST "coder" "B", .fieldLink ST 15 ST "coder" "B",
  .methodLink ST 1 Lib.objectInit, .instanceMethod Lib.objectInit, .code Lib.objectInit ⟨#[0xb1]⟩ 1 none, .methodLink ST 177 Cmp3.yN, .static Cmp3.yN, .methodLink ST 47 CodL.yN, .static CodL.yN,
  .code Cmp3.yN Cmp3.yB 6 (some (.array .byte)), .initialized U16, .arrayClass .byte, .methodLink U16 115 Cmp5.yN, .static Cmp5.yN, .code Cmp5.yN Cmp5.yB 7 (some .int), .code CodL.yN CodL.yB 2 (some .byte)]
theorem tab_of {a : Array Value} {s : State} (h : ∀ w ∈ words, w.before a s = true) : New1.tab.before a s = true := by
  have h5 : Cmp5.tab.before a s = true := unparts (wk h (.code Cmp5.yN Cmp5.yB 7 (some .int))) (wks h (.initialized Cmp5.yN.cls :: Cmp5.site))
  have hc : CodL.tab.before a s = true := unparts (wk h (.code CodL.yN CodL.yB 2 (some .byte))) (wks h (.initialized CodL.yN.cls :: CodL.site))
  have q5 : ∀ w ∈ Cmp5.tab :: words, w.before a s = true := fun w hw => (List.mem_cons.mp hw).elim (fun e => e ▸ h5) (h w)
  have h3 : Cmp3.tab.before a s = true := unparts (wk q5 (.code Cmp3.yN Cmp3.yB 6 (some (.array .byte)))) (wks q5 (.initialized Cmp3.yN.cls :: Cmp3.site))
  have q3 : ∀ w ∈ Cmp3.tab :: CodL.tab :: words, w.before a s = true := fun w hw => (List.mem_cons.mp hw).elim (fun e => e ▸ h3) fun hw => (List.mem_cons.mp hw).elim (fun e => e ▸ hc) (h w)
  have h4 : New4.tab.before a s = true := unparts (wk q3 (.code New4.yN New4.yB 6 none)) (wks q3 (.initialized New4.yN.cls :: New4.site))
  have q4 : ∀ w ∈ New4.tab :: words, w.before a s = true := fun w hw => (List.mem_cons.mp hw).elim (fun e => e ▸ h4) (h w)
  exact unparts (wk q4 (.code New1.yN New1.yB 2 none)) (wks q4 (.initialized New1.yN.cls :: New1.site))
/-- the words ride from the start Z to the walk's own state -/
theorem moved {Z s : State} {a0 args : Array Value} (hZ : Z.Warmed39 s.vm) (hw : ∀ d ∈ words, d.before a0 Z = true) : ∀ d ∈ words, d.before args s = true := fun d hd => by
  have q := hw d hd
  have t : ∀ d ∈ words, d = .arrayClass .byte ∨ (d.onTables && d.keepsFace) = true := by decide +kernel
  rcases t d hd with rfl | t
  · exact RoadKit.mvA hZ q
  · exact RoadKit.mv hZ q t
/-- WHAT COMES BACK, over the tables of the start Z: h the heap at the call, h' behind it -/
def Q (Z : State) (x : Addr) (A : Cell) (h : Heap) (v : Option Value) (h' : Heap) (L : List Loc) : Prop := v = none ∧ (∀ y ∈ L, y.base = x) ∧ RoadKit.Keep h h' [x] ∧ h'.size = h.size + 1 ∧ RoadKit.Exa Z h' x ST ∧ RoadKit.Fld Z h' x ST "value" "[B" (.ref h.size) ∧ RoadKit.Fld Z h' x ST "coder" "B" (.int 0) ∧
  (∃ V : Cell, RoadKit.Arr Z h' h.size V .byte ∧ V.vm = .none ∧ Z.vm.findClass "[B" = some V.cls ∧ V.slots.size = A.slots.size ∧ ∀ j, j < A.slots.size → V.slots[j]? = some (.int (lo8 (cv A j)))) ∧
  ∀ (O n d : String) (w : Value), RoadKit.Fld Z h x O n d w → RoadKit.slotOf Z O n d ≠ RoadKit.slotOf Z ST "value" "[B" → RoadKit.slotOf Z O n d ≠ RoadKit.slotOf Z ST "coder" "B" → RoadKit.Fld Z h' x O n d w
/-- **new String(chars) AT A CALL, IN THE ROAD'S FORM**: for specialBack behind newO: x the fresh String, b the char[] with the cell A -/
theorem back {p : Program} {l : Launch} {e : Env} {R : Room} {s : State} {args : Array Value} {below : List Frame} {len W : Nat} {Z : State} {a0 : Array Value} {h : Heap} (hZ : Z.Warmed39 s.vm) (hw : ∀ d ∈ words, d.before a0 Z = true) {kI : Nat} (wi : (Jvm.Cond.instantiable ST kI).before a0 Z = true)
    {x b : Addr} {A : Cell} {z : Int32} {v0 c0 : Value} (E : RoadKit.Exa Z h x ST) (V : RoadKit.Fld Z h x ST "value" "[B" v0) (C : RoadKit.Fld Z h x ST "coder" "B" c0) (K : RoadKit.Arr Z h b A .char) (hty : Typed .char A) (S : RoadKit.Sta Z h ST "COMPACT_STRINGS" "Z" (.int z)) (hz : ¬ z = 0)
    (l0 : 0 < A.slots.size) (l2 : A.slots.size ≤ 536870912) (hp : ∀ i, i < A.slots.size → ¬ 255 < cv A i) (hfr : 4 ≤ R.frames) (hlo : W + 65 ≤ R.locals) :
    Back l R p e below s args New1.yN len W (fun P a => a = #[.ref x, .ref b] ∧ P.U.heap = h ∧ P.cells + 1 ≤ R.cells ∧ P.slots + A.slots.size ≤ R.slots)
      (fun P _ v B => ∃ L, Q Z x A h v B.U.heap L ∧ B.locs = P.locs ++ L ∧ B.cells = P.cells + 1 ∧ B.slots = P.slots + A.slots.size) := by
  intro m meth c P g ig mk a X hg hsize hdg hW hn hp'
  obtain ⟨rfl, rfl, r1, r2⟩ := hp'
  have al : Z.vm.Alike P.U.vm := hZ.alike.trans X.warmed.alike
  obtain ⟨D, cfV, kV, iV, fV, hD, gV, stV, knV, obV, asV, slV⟩ := id V
  obtain ⟨D', cfC, kC, iC, fC, hD', gC, stC, -, -, asC, slC⟩ := id C
  cases hD.symm.trans hD'
  obtain ⟨D2, kD, e1, e2, e3, e4, e5⟩ := id E
  cases hD.symm.trans e1
  obtain ⟨c2, k2, i1, i2, i3, -⟩ := Cond.instantiable_spec wi
  cases e2.symm.trans i1
  cases e3.symm.trans i2
  obtain ⟨kU, u1, u2⟩ := al.2.2 _ _ e3
  have hB : Blank ST x D P.U := ⟨hD, ⟨knV, fun q hq => by rw [hq] at obV; cases obV⟩, by rw [al.findClass]; exact e2, kU, u1, by rw [u2]; exact i3, by rw [u2]; exact e5 i3⟩
  have F1 : Found ST "value" "[B" fV P.U := ⟨SBG.found_only al ⟨cfV, kV, iV, gV⟩, stV⟩
  have F2 : Found ST "coder" "B" fC P.U := ⟨SBG.found_only al ⟨cfC, kC, iC, gC⟩, stC⟩
  have hA : Ch b A P.U := ⟨⟨K.1, State.isArrayOf_alike al K.2.1, K.2.2, by omega⟩, hty⟩
  have hS : StaticIs P.U ST "COMPACT_STRINGS" "Z" (.int z) := by
    obtain ⟨cfS, iS, kS, fS, st, cS, t1, t2, t3, t4, t5, t6, t7⟩ := S
    exact StaticIs.there (s := { Z with heap := P.U.heap }) ⟨cfS, iS, kS, fS, st, cS, t1, t2, t3, t4, t5, (fun q => by rw [q] at t6; cases t6), t7⟩ al rfl
  obtain ⟨v, B, X', ⟨⟨hv, E', V', q1, q2, q3, q4, q5, q6, q7, q8, q9, q10, q11⟩, hl, hc, hs⟩, st⟩ := New1.pays x D fV fC b A z (tab_of (moved hZ hw)) hfr hlo m meth c P g ig mk _ X hg hsize hdg hW hn ⟨r1, r2, rfl, hB, F1, F2, hA, hS, hz, l0, l2, hp⟩
  have al' : Z.vm.Alike B.U.vm := hZ.alike.trans X'.warmed.alike
  have hsz : E'.slots.size = D.slots.size := by
    obtain ⟨-, -, -, kB, w1, w2, w3⟩ := q1
    obtain ⟨kB', y1, y2⟩ := al'.2.2 _ _ e3
    rw [q2.2.1] at w1
    cases w1.symm.trans y1
    rw [w3, e5 i3, y2]
  refine ⟨v, B, X', ⟨_, ⟨hv, ?_, ⟨by omega, fun y cy hy hn' => q10 y cy (by simpa using hn') hy, fun y cy hy => ?_⟩, q11, ⟨E', _, q1.1, by rw [q2.2.1]; exact e2, by rw [q2.2.1]; exact e3, by rw [q2.1]; exact obV, fun _ => by rw [hsz]; exact e5 i3⟩,
    ⟨E', cfV, kV, iV, fV, q1.1, gV, stV, by rw [q2.1]; exact knV, by rw [q2.1]; exact obV, by rw [q2.2.1]; exact asV, q3⟩, ⟨E', cfC, kC, iC, fC, q1.1, gC, stC, by rw [q2.1]; exact knV, by rw [q2.1]; exact obV, by rw [q2.2.1]; exact asC, q4⟩,
    ⟨V', ⟨q5.1, State.isArrayOf_alike al'.symm q5.2.1, q5.2.2.1⟩, q6, by rw [← al'.findClass]; exact q7, q8, fun j hj => by have := q9 j hj; rwa [Nat.zero_add] at this⟩, fun O n d w F n1 n2 => ?_⟩, hl, hc, hs⟩, st⟩
  · intro y hy
    simp only [List.mem_cons, List.not_mem_nil, or_false] at hy
    rcases hy with rfl | rfl <;> rfl
  · by_cases q : y = x
    · subst q
      cases hD.symm.trans hy
      exact ⟨E', q1.1, q2.2.1, q2.1, hsz⟩
    · exact ⟨cy, q10 y cy q hy, rfl, rfl, rfl⟩
  · obtain ⟨D3, cf, k, i, f, g1, g2, g3, g4, g5, g6, g7⟩ := F
    cases hD.symm.trans g1
    simp only [RoadKit.slotOf, g2, gV, gC, Option.map_some, Option.getD_some] at n1 n2
    exact ⟨E', cf, k, i, f, q1.1, g2, g3, by rw [q2.1]; exact g4, by rw [q2.1]; exact g5, by rw [q2.2.1]; exact g6, by rw [q2.2.2 f.slot (by simp [n1, n2])]; exact g7⟩
end StrChars.Road
namespace StrChars.Road
open Jvm Sem ClassFile Op Lib Jvm.Stand Jvm.Free Jvm.Free.XT
/-- WHAT COMES BACK, the byte[] as a list of values -/
def QA (Z : State) (x : Addr) (zn : Int32) (cs : List Int32) (h : Heap) (v : Option Value) (h' : Heap) (L : List Loc) : Prop := v = none ∧ (∀ y ∈ L, y.base = x) ∧ RoadKit.Keep h h' [x] ∧ h'.size = h.size + 1 ∧ RoadKit.Exa Z h' x ST ∧ RoadKit.Fld Z h' x ST "value" "[B" (.ref h.size) ∧ RoadKit.Fld Z h' x ST "coder" "B" (.int 0) ∧
  (∃ kb, Z.vm.findClass "[B" = some kb ∧ RoadKit.Arv Z h' h.size kb .byte zn (cs.map fun c => .int (lo8 c)) (.int 0)) ∧
  ∀ (O n d : String) (w : Value), RoadKit.Fld Z h x O n d w → RoadKit.slotOf Z O n d ≠ RoadKit.slotOf Z ST "value" "[B" → RoadKit.slotOf Z O n d ≠ RoadKit.slotOf Z ST "coder" "B" → RoadKit.Fld Z h' x O n d w
/-- **new String(chars) AT A CALL, THE ARRAYS AS LISTS**: the char[] at b holds cs, not empty, no char above 255 -/
theorem backArv {p : Program} {l : Launch} {e : Env} {R : Room} {s : State} {args : Array Value} {below : List Frame} {len W : Nat} {Z : State} {a0 : Array Value} {h : Heap} (hZ : Z.Warmed39 s.vm) (hw : ∀ d ∈ words, d.before a0 Z = true) {kI : Nat} (wi : (Jvm.Cond.instantiable ST kI).before a0 Z = true)
    {x b : Addr} {k : ClassId} {zn z : Int32} {cs : List Int32} {dv v0 c0 : Value} (E : RoadKit.Exa Z h x ST) (V : RoadKit.Fld Z h x ST "value" "[B" v0) (C : RoadKit.Fld Z h x ST "coder" "B" c0) (K : RoadKit.Arv Z h b k .char zn (cs.map Value.int) dv) (S : RoadKit.Sta Z h ST "COMPACT_STRINGS" "Z" (.int z)) (hz : ¬ z = 0)
    (hlen : zn.toNatClampNeg = cs.length) (h0 : 0 < cs.length) (hbig : cs.length ≤ 536870912) (hall : ∀ c ∈ cs, ¬ 255 < c) (hfr : 4 ≤ R.frames) (hlo : W + 65 ≤ R.locals) :
    Back l R p e below s args New1.yN len W (fun P a => a = #[.ref x, .ref b] ∧ P.U.heap = h ∧ P.cells + 1 ≤ R.cells ∧ P.slots + cs.length ≤ R.slots)
      (fun P _ v B => ∃ L, QA Z x zn cs h v B.U.heap L ∧ B.locs = P.locs ++ L ∧ B.cells = P.cells + 1 ∧ B.slots = P.slots + cs.length) := by
  obtain ⟨A, K1, K2, K3, K4, K5, K6⟩ := K
  have e : A.slots.size = cs.length := K3.trans hlen
  have hat : ∀ (i : Nat) (hi : i < cs.length), A.slots[i]? = some (.int cs[i]) := fun i hi => by rw [K5 i (by omega)]; simp [List.getD_eq_getElem?_getD, hi]
  have hcv : ∀ (i : Nat) (hi : i < cs.length), cv A i = cs[i] := fun i hi => by unfold cv; rw [hat i hi]
  have hty : Typed .char A := fun i v hv => by
    have hi : i < A.slots.size := (Array.getElem?_eq_some_iff.mp hv).1
    have q := K5 i hi
    rw [hv] at q
    rw [Option.some.inj q]
    exact K6 i hi
  refine Back.mono (back hZ hw wi E V C K1 hty S hz (by omega) (by omega) (fun i hi => by rw [hcv i (by omega)]; exact hall _ (List.getElem_mem _)) hfr hlo) (fun P a hp => ⟨hp.1, hp.2.1, hp.2.2.1, by rw [e]; exact hp.2.2.2⟩) (fun P a v B hp hq => ?_)
  obtain ⟨L, ⟨q1, q2, q3, q4, q5, q6, q7, ⟨V', v1, v2, v3, v4, v5⟩, q9⟩, hl, hc, hs⟩ := hq
  refine ⟨L, ⟨q1, q2, q3, q4, q5, q6, q7, ⟨V'.cls, v3, V', v1, rfl, by rw [v4, e, hlen], K4, fun i hi => ?_, fun i hi => ?_⟩, q9⟩, hl, hc, by rw [hs, e]⟩
  · have hi' : i < cs.length := by omega
    rw [v5 i (by omega), hcv i hi']; simp [List.getD_eq_getElem?_getD, hi']
  · have hi' : i < cs.length := by omega
    simp only [List.getD_eq_getElem?_getD, List.getElem?_map, List.getElem?_eq_getElem hi', Option.map_some, Option.getD_some]
    exact fits_lo8 _
end StrChars.Road
namespace StrChars.Road
open Jvm Sem ClassFile Op Lib Jvm.Stand Jvm.Free Jvm.Free.XT
/-- WHAT COMES BACK, in the writer's own shape -/
def QV (Z : State) (x : Addr) (N : Int32) (bs : List Int32) (h : Heap) (n0 : Nat) (v : Option Value) (h' : Heap) (L : List Loc) : Prop := v = none ∧ RoadKit.Fr n0 L ∧ RoadKit.Keep h h' [x] ∧ RoadKit.Exa Z h' x ST ∧ RoadKit.Fld Z h' x ST "coder" "B" (.int 0) ∧
  ∃ (t : Addr) (kb : ClassId), n0 ≤ t ∧ h.size ≤ t ∧ ¬ t = x ∧ RoadKit.Fld Z h' x ST "value" "[B" (.ref t) ∧ RoadKit.Arv Z h' t kb .byte N (bs.map Value.int) (.int 0)
/-- **new String(chars) AT A CALL, FOR THE WRITER**: a char[] of n known ints, each 0 to 255 -/
theorem backV {p : Program} {l : Launch} {e : Env} {R : Room} {s : State} {args : Array Value} {below : List Frame} {len W : Nat} {Z : State} {a0 : Array Value} {h : Heap} (hZ : Z.Warmed39 s.vm) (hw : ∀ d ∈ words, d.before a0 Z = true) {kI : Nat} (wi : (Jvm.Cond.instantiable ST kI).before a0 Z = true)
    {x b : Addr} {kC : ClassId} {cs bs : List Int32} {d v0 c0 : Value} {z N : Int32} {n n0 : Nat} (hx0 : n0 ≤ x) (hh0 : n0 ≤ h.size) (E : RoadKit.Exa Z h x ST) (V : RoadKit.Fld Z h x ST "value" "[B" v0) (C : RoadKit.Fld Z h x ST "coder" "B" c0) (K : RoadKit.Arv Z h b kC .char N (cs.map Value.int) d) (S : RoadKit.Sta Z h ST "COMPACT_STRINGS" "Z" (.int z)) (hz : ¬ z = 0)
    (hn : cs.length = n) (hN : N = Int32.ofNat n) (l0 : 0 < n) (l2 : n ≤ 4000) (hp : ∀ c ∈ cs, ¬ c < 0 ∧ ¬ (255 : Int32) < c) (hb : bs = cs.map (fun c => c.toInt8.toInt32)) (hfr : 4 ≤ R.frames) (hlo : W + 65 ≤ R.locals) :
    Back l R p e below s args (⟨"java/lang/String", "<init>", "([C)V"⟩ : MethodName) len W (fun P a => a = #[.ref x, .ref b] ∧ P.U.heap = h ∧ P.cells + 1 ≤ R.cells ∧ P.slots + n ≤ R.slots)
      (fun P _ v B => ∃ L, QV Z x N bs h n0 v B.U.heap L ∧ B.locs = P.locs ++ L ∧ B.cells = P.cells + 1 ∧ B.slots = P.slots + n) := by
  subst hn hN hb
  refine Back.mono (backArv hZ hw wi E V C K S hz (n32 (by omega)) l0 (by omega) (fun c hc => (hp c hc).2) hfr hlo) (fun P a hp => hp) (fun P a v B hp hq => ?_)
  obtain ⟨L, ⟨q1, q2, q3, q4, q5, q6, q7, ⟨kb, v1, v2⟩, q9⟩, hl, hc, hs⟩ := hq
  exact ⟨L, ⟨q1, fun y hy => by rw [q2 y hy]; exact hx0, q3, q5, q7, h.size, kb, hh0, Nat.le_refl _, Nat.ne_of_gt E.lt, q6, by rw [List.map_map]; exact v2⟩, hl, hc, hs⟩
end StrChars.Road
end Jvm.Pilot.@@N@@
namespace Jvm.Pilot.@@N@@
open Jvm Jvm.ClassFile Sem Op Lib Jvm.Free Jvm.Stand Jvm.LawKit Jvm.RoadKit Bundle Jvm.Pilot.@@N@@.Jvm.D
theorem own_and255 (x : Int32) : ¬ nar .char ((x &&& (255 : Int32)).toUInt32.toUInt16.toUInt32.toInt32) < 0 ∧ ¬ (255 : Int32) < nar .char ((x &&& (255 : Int32)).toUInt32.toUInt16.toUInt32.toInt32) := by
  have h := c_i2c (x &&& (255 : Int32)); have h2 := c_and x 255 (by decide)
  have h3 := c_i2c ((x &&& (255 : Int32)).toUInt32.toUInt16.toUInt32.toInt32)
  have e : (255 : Int32).toInt = 255 := by decide
  have z : (0 : Int32).toInt = 0 := by decide
  show ¬ ((x &&& (255 : Int32)).toUInt32.toUInt16.toUInt32.toInt32).toUInt32.toUInt16.toUInt32.toInt32 < 0 ∧ ¬ (255 : Int32) < ((x &&& (255 : Int32)).toUInt32.toUInt16.toUInt32.toInt32).toUInt32.toUInt16.toUInt32.toInt32
  simp only [Int32.lt_iff_toInt_lt]
  omega
theorem ef_0 (m : MethodId) (x0 : Addr) : entryFrame m #[(.ref x0)] 1 = mkF m 0 #[.val (.ref x0)] [] := by first | (simp [entryFrame, mkF, argsToLocals, Value.category]; done) | rfl
theorem d_jdk_30_method_1_code_0 : decode jdk_30_method_1_code 0 = .ok (.aload_n 0, 1) := by decide +kernel
theorem d_jdk_30_method_1_code_1 : decode jdk_30_method_1_code 1 = .ok (.invokespecial 1, 3) := by decide +kernel
theorem d_jdk_30_method_1_code_4 : decode jdk_30_method_1_code 4 = .ok (.return_, 1) := by decide +kernel
theorem pn_4 : plainName "java/lang/Record" = true := by first | (simp [plainName, overriddenIn]; done) | decide +kernel
set_option maxRecDepth 65536 in
set_option maxHeartbeats 40000000 in
theorem rm_rec (l : Launch) (Z : State) (a0 : Array Value) (hw : ∀ d ∈ tables_1, d.before a0 Z = true) (ws : List Jvm.Cond) (a : Addr) (h0 : Heap) (n0 : Nat) (Z0 : n0 ≤ h0.size) (O0 : Old Z n0 h0)  :
    Ctr l Z (⟨"java/lang/Record", "<init>", "()V"⟩ : MethodName) jdk_30_method_1_code 1 ((Option.none : Option Jvm.ClassFile.FieldType)) ws ({ frames := 1, cells := 0, slots := 0, locals := 12 } : Room) #[(.ref a)] h0 (fun v h L => v = none ∧ Fr n0 L ∧ Keep h0 h []) := by
  refine Ctr.of (MetFree.of_bodySF (plainFor_of_name pn_4) hisR ?_)
  intro p e s m args below meth c s₁ Bd hml0 hP hK
  obtain ⟨rfl, hZ, hh⟩ := hP
  have hx := Bd.exec
  have hby := Bd.bytes
  have hml : c.maxLocals = 1 := hml0
  have hown : s.vm.findClass "java/lang/Record" = some m.cls := findClass_of_methodNamed Bd.named
  have hnm := (name_of_methodNamed Bd.named Bd.method).1
  have X0 : Stand p l e ({ frames := 1, cells := 0, slots := 0, locals := 12 } : Room) s m #[(.ref a)] below meth c s₁ [] 0 0 := Stand.of_body Bd
  have e0 : s₁.heap = h0 := by rw [← hh, Bd.state]; rfl
  have N0 := Fr.nil n0
  have K0 : Keep h0 h0 [] := Keep.refl h0 []
  show OwnGo p e below s (fun v h L => v = none ∧ Fr n0 L ∧ Keep h0 h []) ({ frames := 1, cells := 0, slots := 0, locals := 12 } : Room).cells ({ frames := 1, cells := 0, slots := 0, locals := 12 } : Room).slots _
  refine gs (S' := s₁.setTop (mkF m 0 #[.val (.ref a)] [])) (fun tg kg => castTop (ef_0 m a) kg) ?_
  have c1 : ∀ tg, Steps p.tables e below (s₁.setTop (mkF m 1 #[.val (.ref a)] [(.ref a)])) tg → Steps p.tables e below (s₁.setTop (mkF m 0 #[.val (.ref a)] [])) tg := fun tg kg => by
    refine XS.aloadN X0.here hx rfl (hb hby d_jdk_30_method_1_code_0) rfl rfl ?_
    show Steps p.tables e below (s₁.setTop (mkF m 1 #[.val (.ref a)] [(.ref a)])) tg
    exact kg
  refine gs c1 ?_
  obtain ⟨T2, X2, e2, st2⟩ := initO X0 hx hZ hown (hw _ (List.mem_of_getElem? (i := 45) rfl)) (hw _ (List.mem_of_getElem? (i := 19) rfl)) (hw _ (List.mem_of_getElem? (i := 20) rfl)) e0 (g := (mkF m 1 #[.val (.ref a)] [(.ref a)])) rfl (by rw [hml]; rfl) rfl (hb hby d_jdk_30_method_1_code_1) (by decide) (W := 0) (by show 2 * 0 + _ ≤ _; exact Nat.le_of_eq rfl) (by decide)
  refine gs st2 ?_
  show OwnGo p e below s _ _ _ (T2.setTop (mkF m 4 #[.val (.ref a)] []))
  refine gout (v := none) X2 Bd.notSynchronized (fun _ => rfl) (by decide) (by decide) ?_ (fun fs hr => X2.returnOut hx Bd.returns (hb hby d_jdk_30_method_1_code_4) hr)
  rw [e2]
  exact ⟨rfl, N0, K0⟩
theorem ef_5 (m : MethodId) (x0 : Int32) (x1 : Int32) : entryFrame m #[(.int x0), (.int x1)] 3 = mkF m 0 #[.val (.int x0), .val (.int x1), .unset] [] := by first | (simp [entryFrame, mkF, argsToLocals, Value.category]; done) | rfl
theorem d_method_2_code_0 : decode method_2_code 0 = .ok (.iconst 2, 1) := by decide +kernel
theorem d_method_2_code_1 : decode method_2_code 1 = .ok (.newarray .char, 2) := by decide +kernel
theorem d_method_2_code_3 : decode method_2_code 3 = .ok (.dup, 1) := by decide +kernel
theorem d_method_2_code_4 : decode method_2_code 4 = .ok (.iconst 0, 1) := by decide +kernel
theorem d_method_2_code_5 : decode method_2_code 5 = .ok (.iload_n 0, 1) := by decide +kernel
theorem d_method_2_code_6 : decode method_2_code 6 = .ok (.sipush 255, 3) := by decide +kernel
theorem d_method_2_code_9 : decode method_2_code 9 = .ok (.iand, 1) := by decide +kernel
theorem d_method_2_code_10 : decode method_2_code 10 = .ok (.i2c, 1) := by decide +kernel
theorem d_method_2_code_11 : decode method_2_code 11 = .ok (.castore, 1) := by decide +kernel
theorem d_method_2_code_12 : decode method_2_code 12 = .ok (.dup, 1) := by decide +kernel
theorem d_method_2_code_13 : decode method_2_code 13 = .ok (.iconst 1, 1) := by decide +kernel
theorem d_method_2_code_14 : decode method_2_code 14 = .ok (.iload_n 1, 1) := by decide +kernel
theorem d_method_2_code_15 : decode method_2_code 15 = .ok (.sipush 255, 3) := by decide +kernel
theorem d_method_2_code_18 : decode method_2_code 18 = .ok (.iand, 1) := by decide +kernel
theorem d_method_2_code_19 : decode method_2_code 19 = .ok (.i2c, 1) := by decide +kernel
theorem d_method_2_code_20 : decode method_2_code 20 = .ok (.castore, 1) := by decide +kernel
theorem d_method_2_code_21 : decode method_2_code 21 = .ok (.astore_n 2, 1) := by decide +kernel
theorem d_method_2_code_22 : decode method_2_code 22 = .ok (.new 7, 3) := by decide +kernel
theorem d_method_2_code_25 : decode method_2_code 25 = .ok (.dup, 1) := by decide +kernel
theorem d_method_2_code_26 : decode method_2_code 26 = .ok (.aload_n 2, 1) := by decide +kernel
theorem d_method_2_code_27 : decode method_2_code 27 = .ok (.invokespecial 9, 3) := by decide +kernel
theorem pd_27 : parseMethodDescriptor "([C)V" = some ⟨[(.array .char)], none⟩ := by decide +kernel
theorem d_method_2_code_30 : decode method_2_code 30 = .ok (.areturn, 1) := by decide +kernel
theorem pn_29 : plainName "com/example/lushan/lushan/policy/MappingDecisionAcceptedPinLaw" = true := by first | (simp [plainName, overriddenIn]; done) | decide +kernel
set_option maxRecDepth 65536 in
set_option maxHeartbeats 40000000 in
theorem rm_str (l : Launch) (Z : State) (a0 : Array Value) (hw : ∀ d ∈ tables_1, d.before a0 Z = true) (ws : List Jvm.Cond) (p1 : Int32) (p2 : Int32) (z : Int32) (h0 : Heap) (n0 : Nat) (Z0 : n0 ≤ h0.size) (O0 : Old Z n0 h0) (S0 : Sta Z Z.heap "java/lang/String" "COMPACT_STRINGS" "Z" (.int z)) (hz : ¬ z = 0) :
    Ctr l Z (⟨"com/example/lushan/lushan/policy/MappingDecisionAcceptedPinLaw", "str", "(II)Ljava/lang/String;"⟩ : MethodName) method_2_code 3 ((Option.some (Jvm.ClassFile.FieldType.object "java/lang/String"))) ws ({ frames := 4, cells := 3, slots := 8, locals := 66 } : Room) #[(.int p1), (.int p2)] h0 (fun v h L => ∃ a : Addr, v = some (.ref a) ∧ Fr n0 L ∧ Keep h0 h []) := by
  refine Ctr.of (MetFree.of_bodySF (plainFor_of_name pn_29) hisR ?_)
  intro p e s m args below meth c s₁ Bd hml0 hP hK
  obtain ⟨rfl, hZ, hh⟩ := hP
  have hx := Bd.exec
  have hby := Bd.bytes
  have hml : c.maxLocals = 3 := hml0
  have hown : s.vm.findClass "com/example/lushan/lushan/policy/MappingDecisionAcceptedPinLaw" = some m.cls := findClass_of_methodNamed Bd.named
  have hnm := (name_of_methodNamed Bd.named Bd.method).1
  have X0 : Stand p l e ({ frames := 4, cells := 3, slots := 8, locals := 66 } : Room) s m #[(.int p1), (.int p2)] below meth c s₁ [] 0 0 := Stand.of_body Bd
  have e0 : s₁.heap = h0 := by rw [← hh, Bd.state]; rfl
  have N0 := Fr.nil n0
  have K0 : Keep h0 h0 [] := Keep.refl h0 []
  show OwnGo p e below s (fun v h L => ∃ a : Addr, v = some (.ref a) ∧ Fr n0 L ∧ Keep h0 h []) ({ frames := 4, cells := 3, slots := 8, locals := 66 } : Room).cells ({ frames := 4, cells := 3, slots := 8, locals := 66 } : Room).slots _
  refine gs (S' := s₁.setTop (mkF m 0 #[.val (.int p1), .val (.int p2), .unset] [])) (fun tg kg => castTop (ef_5 m p1 p2) kg) ?_
  have hws : ∀ d ∈ StrChars.Road.words, d.before a0 Z = true := fun d hd => hw d ((by decide +kernel : ∀ d ∈ StrChars.Road.words, d ∈ tables_1) d hd)
  have c1 : ∀ tg, Steps p.tables e below (s₁.setTop (mkF m 1 #[.val (.int p1), .val (.int p2), .unset] [(.int (2 : Int32))])) tg → Steps p.tables e below (s₁.setTop (mkF m 0 #[.val (.int p1), .val (.int p2), .unset] [])) tg := fun tg kg => by
    refine XS.iconst X0.here hx rfl (hb hby d_method_2_code_0) ?_
    show Steps p.tables e below (s₁.setTop (mkF m 1 #[.val (.int p1), .val (.int p2), .unset] [(.int (2 : Int32))])) tg
    exact kg
  refine gs c1 ?_
  obtain ⟨T2, h2, k2, X2, e2, E2, A2, st2⟩ := newP X0 hx hZ (hw _ (List.mem_of_getElem? (i := 7) rfl)) e0 (g := (mkF m 1 #[.val (.int p1), .val (.int p2), .unset] [(.int (2 : Int32))])) rfl (hb hby d_method_2_code_1) rfl (by decide) (cap := 2) (by decide) (by decide) (by decide) (by decide)
  obtain ⟨b2, q2⟩ : ∃ z, z = h0.size := ⟨_, rfl⟩
  rw [← q2] at A2 st2
  have g_b2 : n0 ≤ b2 := Nat.le_trans Z0 (Nat.le_of_eq q2.symm)
  have sz_b2 : h0.size ≤ b2 := Nat.le_trans K0.1 (Nat.le_of_eq q2.symm)
  have Z3 : n0 ≤ h2.size := Nat.le_trans Z0 E2.1
  have O3 : Old Z n0 h2 := O0.ext E2
  have K3 : Keep h0 h2 [] := K0.ext E2
  have V2 : Arv Z h2 b2 k2 .char (2 : Int32) [(.int (0 : Int32)), (.int (0 : Int32))] (.int (0 : Int32)) := (Arv.new A2 (by decide)).pad (pad_rep [] (.int (0 : Int32)) 2)
  refine gs st2 ?_
  show OwnGo p e below s _ _ _ (T2.setTop (mkF m 3 #[.val (.int p1), .val (.int p2), .unset] [(.ref b2)]))
  have c4 : ∀ tg, Steps p.tables e below (T2.setTop (mkF m 11 #[.val (.int p1), .val (.int p2), .unset] [(.int ((p1 &&& (255 : Int32)).toUInt32.toUInt16.toUInt32.toInt32)), (.int (0 : Int32)), (.ref b2), (.ref b2)])) tg → Steps p.tables e below (T2.setTop (mkF m 3 #[.val (.int p1), .val (.int p2), .unset] [(.ref b2)])) tg := fun tg kg => by
    refine XS.dup X2.here hx rfl (hb hby d_method_2_code_3) rfl rfl ?_
    show Steps p.tables e below (T2.setTop (mkF m 4 #[.val (.int p1), .val (.int p2), .unset] [(.ref b2), (.ref b2)])) tg
    refine XS.iconst X2.here hx rfl (hb hby d_method_2_code_4) ?_
    show Steps p.tables e below (T2.setTop (mkF m 5 #[.val (.int p1), .val (.int p2), .unset] [(.int (0 : Int32)), (.ref b2), (.ref b2)])) tg
    refine XS.iloadN X2.here hx rfl (hb hby d_method_2_code_5) rfl ?_
    show Steps p.tables e below (T2.setTop (mkF m 6 #[.val (.int p1), .val (.int p2), .unset] [(.int p1), (.int (0 : Int32)), (.ref b2), (.ref b2)])) tg
    refine XS.sipush X2.here hx rfl (hb hby d_method_2_code_6) ?_
    show Steps p.tables e below (T2.setTop (mkF m 9 #[.val (.int p1), .val (.int p2), .unset] [(.int (255 : Int32)), (.int p1), (.int (0 : Int32)), (.ref b2), (.ref b2)])) tg
    refine XS.iand X2.here hx rfl (hb hby d_method_2_code_9) rfl ?_
    show Steps p.tables e below (T2.setTop (mkF m 10 #[.val (.int p1), .val (.int p2), .unset] [(.int (p1 &&& (255 : Int32))), (.int (0 : Int32)), (.ref b2), (.ref b2)])) tg
    refine XS.i2c X2.here hx rfl (hb hby d_method_2_code_10) rfl ?_
    show Steps p.tables e below (T2.setTop (mkF m 11 #[.val (.int p1), .val (.int p2), .unset] [(.int ((p1 &&& (255 : Int32)).toUInt32.toUInt16.toUInt32.toInt32)), (.int (0 : Int32)), (.ref b2), (.ref b2)])) tg
    exact kg
  refine gs c4 ?_
  obtain ⟨cl5, A5, a5q, a5S, a5N, a5H, a5G⟩ := id V2
  obtain ⟨T5, h5, X5, e5, W5, st5⟩ := stC X2 hx hZ e2 A5 (j := (0 : Int32)) (inb_of a5S ⟨by decide, by decide⟩) (g := (mkF m 11 #[.val (.int p1), .val (.int p2), .unset] [(.int ((p1 &&& (255 : Int32)).toUInt32.toUInt16.toUInt32.toInt32)), (.int (0 : Int32)), (.ref b2), (.ref b2)])) rfl rfl (hb hby d_method_2_code_11)
  have V5 : Arv Z h5 b2 k2 .char (2 : Int32) [(.int (nar .char ((p1 &&& (255 : Int32)).toUInt32.toUInt16.toUInt32.toInt32))), (.int (0 : Int32))] (.int (0 : Int32)) := Arv.set A5 a5q a5S a5N a5H a5G (fits_nar_char _) W5 0 rfl (Nat.le_of_ble_eq_true rfl)
  have N5 := Fr.snoc X5 N0 g_b2
  have Z6 : n0 ≤ h5.size := Nat.le_trans Z3 (Keep.of_wr W5).1
  have O6 : Old Z n0 h5 := O3.wr W5 g_b2
  have K6 : Keep h0 h5 [] := K3.wr W5 (Or.inr sz_b2)
  refine gs st5 ?_
  show OwnGo p e below s _ _ _ (T5.setTop (mkF m 12 #[.val (.int p1), .val (.int p2), .unset] [(.ref b2)]))
  have c7 : ∀ tg, Steps p.tables e below (T5.setTop (mkF m 20 #[.val (.int p1), .val (.int p2), .unset] [(.int ((p2 &&& (255 : Int32)).toUInt32.toUInt16.toUInt32.toInt32)), (.int (1 : Int32)), (.ref b2), (.ref b2)])) tg → Steps p.tables e below (T5.setTop (mkF m 12 #[.val (.int p1), .val (.int p2), .unset] [(.ref b2)])) tg := fun tg kg => by
    refine XS.dup X5.here hx rfl (hb hby d_method_2_code_12) rfl rfl ?_
    show Steps p.tables e below (T5.setTop (mkF m 13 #[.val (.int p1), .val (.int p2), .unset] [(.ref b2), (.ref b2)])) tg
    refine XS.iconst X5.here hx rfl (hb hby d_method_2_code_13) ?_
    show Steps p.tables e below (T5.setTop (mkF m 14 #[.val (.int p1), .val (.int p2), .unset] [(.int (1 : Int32)), (.ref b2), (.ref b2)])) tg
    refine XS.iloadN X5.here hx rfl (hb hby d_method_2_code_14) rfl ?_
    show Steps p.tables e below (T5.setTop (mkF m 15 #[.val (.int p1), .val (.int p2), .unset] [(.int p2), (.int (1 : Int32)), (.ref b2), (.ref b2)])) tg
    refine XS.sipush X5.here hx rfl (hb hby d_method_2_code_15) ?_
    show Steps p.tables e below (T5.setTop (mkF m 18 #[.val (.int p1), .val (.int p2), .unset] [(.int (255 : Int32)), (.int p2), (.int (1 : Int32)), (.ref b2), (.ref b2)])) tg
    refine XS.iand X5.here hx rfl (hb hby d_method_2_code_18) rfl ?_
    show Steps p.tables e below (T5.setTop (mkF m 19 #[.val (.int p1), .val (.int p2), .unset] [(.int (p2 &&& (255 : Int32))), (.int (1 : Int32)), (.ref b2), (.ref b2)])) tg
    refine XS.i2c X5.here hx rfl (hb hby d_method_2_code_19) rfl ?_
    show Steps p.tables e below (T5.setTop (mkF m 20 #[.val (.int p1), .val (.int p2), .unset] [(.int ((p2 &&& (255 : Int32)).toUInt32.toUInt16.toUInt32.toInt32)), (.int (1 : Int32)), (.ref b2), (.ref b2)])) tg
    exact kg
  refine gs c7 ?_
  obtain ⟨cl8, A8, a8q, a8S, a8N, a8H, a8G⟩ := id V5
  obtain ⟨T8, h8, X8, e8, W8, st8⟩ := stC X5 hx hZ e5 A8 (j := (1 : Int32)) (inb_of a8S ⟨by decide, by decide⟩) (g := (mkF m 20 #[.val (.int p1), .val (.int p2), .unset] [(.int ((p2 &&& (255 : Int32)).toUInt32.toUInt16.toUInt32.toInt32)), (.int (1 : Int32)), (.ref b2), (.ref b2)])) rfl rfl (hb hby d_method_2_code_20)
  have V8 : Arv Z h8 b2 k2 .char (2 : Int32) [(.int (nar .char ((p1 &&& (255 : Int32)).toUInt32.toUInt16.toUInt32.toInt32))), (.int (nar .char ((p2 &&& (255 : Int32)).toUInt32.toUInt16.toUInt32.toInt32)))] (.int (0 : Int32)) := Arv.set A8 a8q a8S a8N a8H a8G (fits_nar_char _) W8 1 rfl (Nat.le_of_ble_eq_true rfl)
  have N8 := Fr.snoc X8 N5 g_b2
  have Z9 : n0 ≤ h8.size := Nat.le_trans Z6 (Keep.of_wr W8).1
  have O9 : Old Z n0 h8 := O6.wr W8 g_b2
  have K9 : Keep h0 h8 [] := K6.wr W8 (Or.inr sz_b2)
  refine gs st8 ?_
  show OwnGo p e below s _ _ _ (T8.setTop (mkF m 21 #[.val (.int p1), .val (.int p2), .unset] [(.ref b2)]))
  have c10 : ∀ tg, Steps p.tables e below (T8.setTop (mkF m 22 #[.val (.int p1), .val (.int p2), .val (.ref b2)] [])) tg → Steps p.tables e below (T8.setTop (mkF m 21 #[.val (.int p1), .val (.int p2), .unset] [(.ref b2)])) tg := fun tg kg => by
    refine XS.astoreN X8.here hx rfl (hb hby d_method_2_code_21) rfl rfl (l' := #[.val (.int p1), .val (.int p2), .val (.ref b2)]) rfl ?_
    show Steps p.tables e below (T8.setTop (mkF m 22 #[.val (.int p1), .val (.int p2), .val (.ref b2)] [])) tg
    exact kg
  refine gs c10 ?_
  obtain ⟨T11, h11, X11, e11, E11, A11, D11, -, st11⟩ := newO X8 hx hZ hown (hw _ (List.mem_of_getElem? (i := 8) rfl)) (hw _ (List.mem_of_getElem? (i := 9) rfl)) (hw _ (List.mem_of_getElem? (i := 10) rfl)) e8 (g := (mkF m 22 #[.val (.int p1), .val (.int p2), .val (.ref b2)] [])) rfl (hb hby d_method_2_code_22) (by decide) (by decide)
  obtain ⟨b11, q11⟩ : ∃ z, z = h8.size := ⟨_, rfl⟩
  rw [← q11] at A11 D11 st11
  have g_b11 : n0 ≤ b11 := Nat.le_trans Z9 (Nat.le_of_eq q11.symm)
  have sz_b11 : h0.size ≤ b11 := Nat.le_trans K9.1 (Nat.le_of_eq q11.symm)
  have Z12 : n0 ≤ h11.size := Nat.le_trans Z9 E11.1
  have O12 : Old Z n0 h11 := O9.ext E11
  have K12 : Keep h0 h11 [] := K9.ext E11
  have F_coder_b11 : Fld Z h11 b11 "java/lang/String" "coder" "B" (.int (0 : Int32)) := D11 (Or.inr (hw _ (List.mem_of_getElem? (i := 34) rfl))) (ty := .byte) (by decide)
  have F_value_b11 : Fld Z h11 b11 "java/lang/String" "value" "[B" .null := D11 (Or.inr (hw _ (List.mem_of_getElem? (i := 36) rfl))) (ty := (.array .byte)) (by decide)
  refine gs st11 ?_
  show OwnGo p e below s _ _ _ (T11.setTop (mkF m 25 #[.val (.int p1), .val (.int p2), .val (.ref b2)] [(.ref b11)]))
  have c13 : ∀ tg, Steps p.tables e below (T11.setTop (mkF m 27 #[.val (.int p1), .val (.int p2), .val (.ref b2)] [(.ref b2), (.ref b11), (.ref b11)])) tg → Steps p.tables e below (T11.setTop (mkF m 25 #[.val (.int p1), .val (.int p2), .val (.ref b2)] [(.ref b11)])) tg := fun tg kg => by
    refine XS.dup X11.here hx rfl (hb hby d_method_2_code_25) rfl rfl ?_
    show Steps p.tables e below (T11.setTop (mkF m 26 #[.val (.int p1), .val (.int p2), .val (.ref b2)] [(.ref b11), (.ref b11)])) tg
    refine XS.aloadN X11.here hx rfl (hb hby d_method_2_code_26) rfl rfl ?_
    show Steps p.tables e below (T11.setTop (mkF m 27 #[.val (.int p1), .val (.int p2), .val (.ref b2)] [(.ref b2), (.ref b11), (.ref b11)])) tg
    exact kg
  refine gs c13 ?_
  have hp14 : ∀ c ∈ ([(nar .char ((p1 &&& (255 : Int32)).toUInt32.toUInt16.toUInt32.toInt32)), (nar .char ((p2 &&& (255 : Int32)).toUInt32.toUInt16.toUInt32.toInt32))] : List Int32), ¬ c < 0 ∧ ¬ (255 : Int32) < c := by
    intro c hc
    simp only [List.mem_cons, List.not_mem_nil, or_false] at hc
    rcases hc with rfl | rfl
    all_goals exact own_and255 _
  have f15 := (V8.ext E11)
  obtain ⟨_, _, ⟨T16, L16, k16, n16⟩, -, X16, ⟨Lc16, hQ16, l16, y16, z16⟩, st16⟩ := X11.specialBack hx (y := (⟨"java/lang/String", "<init>", "([C)V"⟩ : MethodName)) rfl hown (mvT hZ (hw _ (List.mem_of_getElem? (i := 11) rfl))) (mvT hZ (hw _ (List.mem_of_getElem? (i := 12) rfl))) (mvT hZ (hw _ (List.mem_of_getElem? (i := 13) rfl))) (by decide) (StrChars.Road.backV (W := 1) hZ hws (kI := 4) (hw _ (List.mem_of_getElem? (i := 9) rfl)) (cs := ([(nar .char ((p1 &&& (255 : Int32)).toUInt32.toUInt16.toUInt32.toInt32)), (nar .char ((p2 &&& (255 : Int32)).toUInt32.toUInt16.toUInt32.toInt32))] : List Int32)) (bs := ([(nar .char ((p1 &&& (255 : Int32)).toUInt32.toUInt16.toUInt32.toInt32)), (nar .char ((p2 &&& (255 : Int32)).toUInt32.toUInt16.toUInt32.toInt32))] : List Int32).map (fun c => c.toInt8.toInt32)) (n := 2) g_b11 Z12 A11 F_value_b11 F_coder_b11 f15 (S0.ext O12.2) hz rfl rfl (by decide) (by decide) hp14 rfl (by decide) (by decide)) (g := (mkF m 27 #[.val (.int p1), .val (.int p2), .val (.ref b2)] [(.ref b2), (.ref b11), (.ref b11)])) rfl (by rw [hml]; rfl) (Steps.refl _) (a := b11) (argsL := [(.ref b2)]) (rest := [(.ref b11)]) (lenOf pd_27 rfl) rfl (by show 2 * 0 + _ ≤ _; exact Nat.le_of_eq rfl) (hb hby d_method_2_code_27) (fun _ _ => ⟨rfl, e11, (by decide : 2 + 1 ≤ _), (by decide : 6 + 2 ≤ _)⟩)
  dsimp only [Pt.U, Pt.locs, Pt.cells, Pt.slots] at X16 l16 y16 z16 st16 hQ16
  subst l16 y16 z16
  obtain ⟨rfl, N16q, K16q, g16e, g16c, t16, kb16, -, g16t, -, g16v, g16a⟩ := hQ16
  have N16 := Fr.app N8 N16q
  have g_t16 : n0 ≤ t16 := Nat.le_trans Z12 g16t
  have sz_t16 : h0.size ≤ t16 := Nat.le_trans K12.1 g16t
  have Z17 : n0 ≤ T16.heap.size := Nat.le_trans Z12 K16q.1
  have O17 : Old Z n0 T16.heap := O12.keep K16q (allS g_b11 all0)
  have K17 : Keep h0 T16.heap [] := K12.trans K16q (allS (Or.inr sz_b11) all0)
  refine gs (fun _ k => st16.trans k) ?_
  show OwnGo p e below s _ _ _ (T16.setTop (mkF m 30 #[.val (.int p1), .val (.int p2), .val (.ref b2)] [(.ref b11)]))
  refine gout (v := some (.ref b11)) X16 Bd.notSynchronized (fun h => by rw [Bd.returns] at h; cases h) (by decide) (by decide) ?_ (fun fs hr => retOut X16 hx Bd.returns rfl (Or.inr (Or.inr (Or.inr (Or.inr ⟨rfl, rfl, rfl⟩)))) (hb hby d_method_2_code_30) hr)
  exact ⟨_, rfl, N16, K17⟩
theorem ef_30 (m : MethodId) (x0 : Addr) (x1 : Addr) (x2 : Addr) : entryFrame m #[(.ref x0), (.ref x1), (.ref x2)] 3 = mkF m 0 #[.val (.ref x0), .val (.ref x1), .val (.ref x2)] [] := by first | (simp [entryFrame, mkF, argsToLocals, Value.category]; done) | rfl
theorem d_prog_45_method_1_code_0 : decode prog_45_method_1_code 0 = .ok (.aload_n 0, 1) := by decide +kernel
theorem d_prog_45_method_1_code_1 : decode prog_45_method_1_code 1 = .ok (.invokespecial 1, 3) := by decide +kernel
theorem pd_33 : parseMethodDescriptor "()V" = some ⟨[], none⟩ := by decide +kernel
theorem d_prog_45_method_1_code_4 : decode prog_45_method_1_code 4 = .ok (.aload_n 0, 1) := by decide +kernel
theorem d_prog_45_method_1_code_5 : decode prog_45_method_1_code 5 = .ok (.aload_n 1, 1) := by decide +kernel
theorem d_prog_45_method_1_code_6 : decode prog_45_method_1_code 6 = .ok (.putfield 7, 3) := by decide +kernel
theorem d_prog_45_method_1_code_9 : decode prog_45_method_1_code 9 = .ok (.aload_n 0, 1) := by decide +kernel
theorem d_prog_45_method_1_code_10 : decode prog_45_method_1_code 10 = .ok (.aload_n 2, 1) := by decide +kernel
theorem d_prog_45_method_1_code_11 : decode prog_45_method_1_code 11 = .ok (.putfield 13, 3) := by decide +kernel
theorem d_prog_45_method_1_code_14 : decode prog_45_method_1_code 14 = .ok (.return_, 1) := by decide +kernel
theorem pn_41 : plainName "com/example/lushan/lushan/policy/TenantRole" = true := by first | (simp [plainName, overriddenIn]; done) | decide +kernel
set_option maxRecDepth 65536 in
set_option maxHeartbeats 40000000 in
theorem rm_tr (l : Launch) (Z : State) (a0 : Array Value) (hw : ∀ d ∈ tables_1, d.before a0 Z = true) (ws : List Jvm.Cond) (a : Addr) (s0 : Addr) (s1 : Addr) (h0 : Heap) (n0 : Nat) (Z0 : n0 ≤ h0.size) (O0 : Old Z n0 h0) (E_a : Exa Z h0 a "com/example/lushan/lushan/policy/TenantRole") (F_0 : Fld Z h0 a "com/example/lushan/lushan/policy/TenantRole" "tenant" "Ljava/lang/String;" .null) (F_1 : Fld Z h0 a "com/example/lushan/lushan/policy/TenantRole" "role" "Ljava/lang/String;" .null) (g_a : n0 ≤ a) :
    Ctr l Z (⟨"com/example/lushan/lushan/policy/TenantRole", "<init>", "(Ljava/lang/String;Ljava/lang/String;)V"⟩ : MethodName) prog_45_method_1_code 3 ((Option.none : Option Jvm.ClassFile.FieldType)) ws ({ frames := 2, cells := 0, slots := 0, locals := 24 } : Room) #[(.ref a), (.ref s0), (.ref s1)] h0 (fun v h L => v = none ∧ Fr n0 L ∧ Keep h0 h [a] ∧ Fld Z h a "com/example/lushan/lushan/policy/TenantRole" "tenant" "Ljava/lang/String;" (.ref s0) ∧ Fld Z h a "com/example/lushan/lushan/policy/TenantRole" "role" "Ljava/lang/String;" (.ref s1)) := by
  refine Ctr.of (MetFree.of_bodySF (plainFor_of_name pn_41) hisR ?_)
  intro p e s m args below meth c s₁ Bd hml0 hP hK
  obtain ⟨rfl, hZ, hh⟩ := hP
  have hx := Bd.exec
  have hby := Bd.bytes
  have hml : c.maxLocals = 3 := hml0
  have hown : s.vm.findClass "com/example/lushan/lushan/policy/TenantRole" = some m.cls := findClass_of_methodNamed Bd.named
  have hnm := (name_of_methodNamed Bd.named Bd.method).1
  have X0 : Stand p l e ({ frames := 2, cells := 0, slots := 0, locals := 24 } : Room) s m #[(.ref a), (.ref s0), (.ref s1)] below meth c s₁ [] 0 0 := Stand.of_body Bd
  have e0 : s₁.heap = h0 := by rw [← hh, Bd.state]; rfl
  have N0 := Fr.nil n0
  have K0 : Keep h0 h0 [a] := Keep.refl h0 [a]
  show OwnGo p e below s (fun v h L => v = none ∧ Fr n0 L ∧ Keep h0 h [a] ∧ Fld Z h a "com/example/lushan/lushan/policy/TenantRole" "tenant" "Ljava/lang/String;" (.ref s0) ∧ Fld Z h a "com/example/lushan/lushan/policy/TenantRole" "role" "Ljava/lang/String;" (.ref s1)) ({ frames := 2, cells := 0, slots := 0, locals := 24 } : Room).cells ({ frames := 2, cells := 0, slots := 0, locals := 24 } : Room).slots _
  refine gs (S' := s₁.setTop (mkF m 0 #[.val (.ref a), .val (.ref s0), .val (.ref s1)] [])) (fun tg kg => castTop (ef_30 m a s0 s1) kg) ?_
  have c1 : ∀ tg, Steps p.tables e below (s₁.setTop (mkF m 1 #[.val (.ref a), .val (.ref s0), .val (.ref s1)] [(.ref a)])) tg → Steps p.tables e below (s₁.setTop (mkF m 0 #[.val (.ref a), .val (.ref s0), .val (.ref s1)] [])) tg := fun tg kg => by
    refine XS.aloadN X0.here hx rfl (hb hby d_prog_45_method_1_code_0) rfl rfl ?_
    show Steps p.tables e below (s₁.setTop (mkF m 1 #[.val (.ref a), .val (.ref s0), .val (.ref s1)] [(.ref a)])) tg
    exact kg
  refine gs c1 ?_
  obtain ⟨_, _, ⟨T2, L2, k2, n2⟩, -, X2, ⟨Lc2, hQ2, l2, y2, z2⟩, st2⟩ := X0.specialBack hx (y := (⟨"java/lang/Record", "<init>", "()V"⟩ : MethodName)) rfl hown (mvT hZ (hw _ (List.mem_of_getElem? (i := 40) rfl))) (mvT hZ (hw _ (List.mem_of_getElem? (i := 41) rfl))) (mvT hZ (hw _ (List.mem_of_getElem? (i := 44) rfl))) (by decide) (backC (W := 0) (rm_rec l Z a0 hw [] a h0 n0 Z0 O0 ) hZ (hw _ (List.mem_of_getElem? (i := 44) rfl)) (hw _ (List.mem_of_getElem? (i := 43) rfl)) (by decide) (by decide)) (g := (mkF m 1 #[.val (.ref a), .val (.ref s0), .val (.ref s1)] [(.ref a)])) rfl (by rw [hml]; rfl) (Steps.refl _) (a := a) (argsL := []) (rest := []) (lenOf pd_33 rfl) rfl (by show 2 * 0 + _ ≤ _; exact Nat.le_of_eq rfl) (hb hby d_prog_45_method_1_code_1) (fun _ _ => ⟨rfl, e0, (by decide : 0 + 0 ≤ _), (by decide : 0 + 0 ≤ _)⟩)
  dsimp only [Pt.U, Pt.locs, Pt.cells, Pt.slots] at X2 l2 y2 z2 st2 hQ2
  subst l2 y2 z2
  obtain ⟨rfl, N2q, K2q⟩ := hQ2
  have N2 := Fr.app N0 N2q
  have Z3 : n0 ≤ T2.heap.size := Nat.le_trans Z0 K2q.1
  have O3 : Old Z n0 T2.heap := O0.keep K2q all0
  have K3 : Keep h0 T2.heap [a] := K0.trans K2q all0
  refine gs (fun _ k => st2.trans k) ?_
  show OwnGo p e below s _ _ _ (T2.setTop (mkF m 4 #[.val (.ref a), .val (.ref s0), .val (.ref s1)] []))
  have c4 : ∀ tg, Steps p.tables e below (T2.setTop (mkF m 6 #[.val (.ref a), .val (.ref s0), .val (.ref s1)] [(.ref s0), (.ref a)])) tg → Steps p.tables e below (T2.setTop (mkF m 4 #[.val (.ref a), .val (.ref s0), .val (.ref s1)] [])) tg := fun tg kg => by
    refine XS.aloadN X2.here hx rfl (hb hby d_prog_45_method_1_code_4) rfl rfl ?_
    show Steps p.tables e below (T2.setTop (mkF m 5 #[.val (.ref a), .val (.ref s0), .val (.ref s1)] [(.ref a)])) tg
    refine XS.aloadN X2.here hx rfl (hb hby d_prog_45_method_1_code_5) rfl rfl ?_
    show Steps p.tables e below (T2.setTop (mkF m 6 #[.val (.ref a), .val (.ref s0), .val (.ref s1)] [(.ref s0), (.ref a)])) tg
    exact kg
  refine gs c4 ?_
  have f5 := (F_0.keep K2q nin0)
  have f6 := (E_a.keep K2q)
  obtain ⟨T7, h7, X7, e7, W7, st7⟩ := putF X2 hx hZ hown (host := "") (Or.inl (hw _ (List.mem_of_getElem? (i := 46) rfl))) Via.refl rfl f5 f6 (Or.inr ⟨(hw _ (List.mem_of_getElem? (i := 47) rfl)), rfl, hnm⟩) (hw _ (List.mem_of_getElem? (i := 1) rfl)) (ty := (.object "java/lang/String")) (by decide) rfl rfl (g := (mkF m 6 #[.val (.ref a), .val (.ref s0), .val (.ref s1)] [(.ref s0), (.ref a)])) rfl rfl (hb hby d_prog_45_method_1_code_6)
  have N7 := Fr.snoc X7 N2 g_a
  have Fw7 := f5.same W7
  have Z8 : n0 ≤ h7.size := Nat.le_trans Z3 (Keep.of_wr W7).1
  have O8 : Old Z n0 h7 := O3.wr W7 g_a
  have K8 : Keep h0 h7 [a] := K3.wr W7 (Or.inl (List.mem_of_getElem? (i := 0) rfl))
  refine gs st7 ?_
  show OwnGo p e below s _ _ _ (T7.setTop (mkF m 9 #[.val (.ref a), .val (.ref s0), .val (.ref s1)] []))
  have c9 : ∀ tg, Steps p.tables e below (T7.setTop (mkF m 11 #[.val (.ref a), .val (.ref s0), .val (.ref s1)] [(.ref s1), (.ref a)])) tg → Steps p.tables e below (T7.setTop (mkF m 9 #[.val (.ref a), .val (.ref s0), .val (.ref s1)] [])) tg := fun tg kg => by
    refine XS.aloadN X7.here hx rfl (hb hby d_prog_45_method_1_code_9) rfl rfl ?_
    show Steps p.tables e below (T7.setTop (mkF m 10 #[.val (.ref a), .val (.ref s0), .val (.ref s1)] [(.ref a)])) tg
    refine XS.aloadN X7.here hx rfl (hb hby d_prog_45_method_1_code_10) rfl rfl ?_
    show Steps p.tables e below (T7.setTop (mkF m 11 #[.val (.ref a), .val (.ref s0), .val (.ref s1)] [(.ref s1), (.ref a)])) tg
    exact kg
  refine gs c9 ?_
  have f10 := ((F_1.keep K2q nin0).other W7 (Or.inr (slot_ne (Or.inr (hw _ (List.mem_of_getElem? (i := 49) rfl))) (Or.inr (hw _ (List.mem_of_getElem? (i := 47) rfl))) (by decide) (t := (.object "java/lang/String")) (t' := (.object "java/lang/String")) (by decide) (by decide))))
  have f11 := (f6.wr W7)
  obtain ⟨T12, h12, X12, e12, W12, st12⟩ := putF X7 hx hZ hown (host := "") (Or.inl (hw _ (List.mem_of_getElem? (i := 48) rfl))) Via.refl e7 f10 f11 (Or.inr ⟨(hw _ (List.mem_of_getElem? (i := 49) rfl)), rfl, hnm⟩) (hw _ (List.mem_of_getElem? (i := 1) rfl)) (ty := (.object "java/lang/String")) (by decide) rfl rfl (g := (mkF m 11 #[.val (.ref a), .val (.ref s0), .val (.ref s1)] [(.ref s1), (.ref a)])) rfl rfl (hb hby d_prog_45_method_1_code_11)
  have N12 := Fr.snoc X12 N7 g_a
  have Fw12 := f10.same W12
  have Z13 : n0 ≤ h12.size := Nat.le_trans Z8 (Keep.of_wr W12).1
  have O13 : Old Z n0 h12 := O8.wr W12 g_a
  have K13 : Keep h0 h12 [a] := K8.wr W12 (Or.inl (List.mem_of_getElem? (i := 0) rfl))
  refine gs st12 ?_
  show OwnGo p e below s _ _ _ (T12.setTop (mkF m 14 #[.val (.ref a), .val (.ref s0), .val (.ref s1)] []))
  have f14 := (Fw7.other W12 (Or.inr (slot_ne (Or.inr (hw _ (List.mem_of_getElem? (i := 47) rfl))) (Or.inr (hw _ (List.mem_of_getElem? (i := 49) rfl))) (by decide) (t := (.object "java/lang/String")) (t' := (.object "java/lang/String")) (by decide) (by decide))))
  refine gout (v := none) X12 Bd.notSynchronized (fun _ => rfl) (by decide) (by decide) ?_ (fun fs hr => X12.returnOut hx Bd.returns (hb hby d_prog_45_method_1_code_14) hr)
  rw [e12]
  exact ⟨rfl, N12, K13, f14, Fw12⟩
theorem ef_42 (m : MethodId) (x0 : Addr) (x1 : Addr) (x2 : Addr) : entryFrame m #[(.ref x0), (.ref x1), (.ref x2)] 3 = mkF m 0 #[.val (.ref x0), .val (.ref x1), .val (.ref x2)] [] := by first | (simp [entryFrame, mkF, argsToLocals, Value.category]; done) | rfl
theorem d_prog_24_method_1_code_0 : decode prog_24_method_1_code 0 = .ok (.aload_n 0, 1) := by decide +kernel
theorem d_prog_24_method_1_code_1 : decode prog_24_method_1_code 1 = .ok (.invokespecial 1, 3) := by decide +kernel
theorem d_prog_24_method_1_code_4 : decode prog_24_method_1_code 4 = .ok (.aload_n 0, 1) := by decide +kernel
theorem d_prog_24_method_1_code_5 : decode prog_24_method_1_code 5 = .ok (.aload_n 1, 1) := by decide +kernel
theorem d_prog_24_method_1_code_6 : decode prog_24_method_1_code 6 = .ok (.putfield 7, 3) := by decide +kernel
theorem d_prog_24_method_1_code_9 : decode prog_24_method_1_code 9 = .ok (.aload_n 0, 1) := by decide +kernel
theorem d_prog_24_method_1_code_10 : decode prog_24_method_1_code 10 = .ok (.aload_n 2, 1) := by decide +kernel
theorem d_prog_24_method_1_code_11 : decode prog_24_method_1_code 11 = .ok (.putfield 13, 3) := by decide +kernel
theorem d_prog_24_method_1_code_14 : decode prog_24_method_1_code 14 = .ok (.return_, 1) := by decide +kernel
theorem pn_52 : plainName "com/example/lushan/lushan/policy/Mapping" = true := by first | (simp [plainName, overriddenIn]; done) | decide +kernel
set_option maxRecDepth 65536 in
set_option maxHeartbeats 40000000 in
theorem rm_mp (l : Launch) (Z : State) (a0 : Array Value) (hw : ∀ d ∈ tables_1, d.before a0 Z = true) (ws : List Jvm.Cond) (a : Addr) (s0 : Addr) (s1 : Addr) (h0 : Heap) (n0 : Nat) (Z0 : n0 ≤ h0.size) (O0 : Old Z n0 h0) (E_a : Exa Z h0 a "com/example/lushan/lushan/policy/Mapping") (F_0 : Fld Z h0 a "com/example/lushan/lushan/policy/Mapping" "from" "Lcom/example/lushan/lushan/policy/TenantRole;" .null) (F_1 : Fld Z h0 a "com/example/lushan/lushan/policy/Mapping" "to" "Lcom/example/lushan/lushan/policy/TenantRole;" .null) (g_a : n0 ≤ a) :
    Ctr l Z (⟨"com/example/lushan/lushan/policy/Mapping", "<init>", "(Lcom/example/lushan/lushan/policy/TenantRole;Lcom/example/lushan/lushan/policy/TenantRole;)V"⟩ : MethodName) prog_24_method_1_code 3 ((Option.none : Option Jvm.ClassFile.FieldType)) ws ({ frames := 2, cells := 0, slots := 0, locals := 24 } : Room) #[(.ref a), (.ref s0), (.ref s1)] h0 (fun v h L => v = none ∧ Fr n0 L ∧ Keep h0 h [a] ∧ Fld Z h a "com/example/lushan/lushan/policy/Mapping" "from" "Lcom/example/lushan/lushan/policy/TenantRole;" (.ref s0) ∧ Fld Z h a "com/example/lushan/lushan/policy/Mapping" "to" "Lcom/example/lushan/lushan/policy/TenantRole;" (.ref s1)) := by
  refine Ctr.of (MetFree.of_bodySF (plainFor_of_name pn_52) hisR ?_)
  intro p e s m args below meth c s₁ Bd hml0 hP hK
  obtain ⟨rfl, hZ, hh⟩ := hP
  have hx := Bd.exec
  have hby := Bd.bytes
  have hml : c.maxLocals = 3 := hml0
  have hown : s.vm.findClass "com/example/lushan/lushan/policy/Mapping" = some m.cls := findClass_of_methodNamed Bd.named
  have hnm := (name_of_methodNamed Bd.named Bd.method).1
  have X0 : Stand p l e ({ frames := 2, cells := 0, slots := 0, locals := 24 } : Room) s m #[(.ref a), (.ref s0), (.ref s1)] below meth c s₁ [] 0 0 := Stand.of_body Bd
  have e0 : s₁.heap = h0 := by rw [← hh, Bd.state]; rfl
  have N0 := Fr.nil n0
  have K0 : Keep h0 h0 [a] := Keep.refl h0 [a]
  show OwnGo p e below s (fun v h L => v = none ∧ Fr n0 L ∧ Keep h0 h [a] ∧ Fld Z h a "com/example/lushan/lushan/policy/Mapping" "from" "Lcom/example/lushan/lushan/policy/TenantRole;" (.ref s0) ∧ Fld Z h a "com/example/lushan/lushan/policy/Mapping" "to" "Lcom/example/lushan/lushan/policy/TenantRole;" (.ref s1)) ({ frames := 2, cells := 0, slots := 0, locals := 24 } : Room).cells ({ frames := 2, cells := 0, slots := 0, locals := 24 } : Room).slots _
  refine gs (S' := s₁.setTop (mkF m 0 #[.val (.ref a), .val (.ref s0), .val (.ref s1)] [])) (fun tg kg => castTop (ef_42 m a s0 s1) kg) ?_
  have c1 : ∀ tg, Steps p.tables e below (s₁.setTop (mkF m 1 #[.val (.ref a), .val (.ref s0), .val (.ref s1)] [(.ref a)])) tg → Steps p.tables e below (s₁.setTop (mkF m 0 #[.val (.ref a), .val (.ref s0), .val (.ref s1)] [])) tg := fun tg kg => by
    refine XS.aloadN X0.here hx rfl (hb hby d_prog_24_method_1_code_0) rfl rfl ?_
    show Steps p.tables e below (s₁.setTop (mkF m 1 #[.val (.ref a), .val (.ref s0), .val (.ref s1)] [(.ref a)])) tg
    exact kg
  refine gs c1 ?_
  obtain ⟨_, _, ⟨T2, L2, k2, n2⟩, -, X2, ⟨Lc2, hQ2, l2, y2, z2⟩, st2⟩ := X0.specialBack hx (y := (⟨"java/lang/Record", "<init>", "()V"⟩ : MethodName)) rfl hown (mvT hZ (hw _ (List.mem_of_getElem? (i := 56) rfl))) (mvT hZ (hw _ (List.mem_of_getElem? (i := 41) rfl))) (mvT hZ (hw _ (List.mem_of_getElem? (i := 44) rfl))) (by decide) (backC (W := 0) (rm_rec l Z a0 hw [] a h0 n0 Z0 O0 ) hZ (hw _ (List.mem_of_getElem? (i := 44) rfl)) (hw _ (List.mem_of_getElem? (i := 43) rfl)) (by decide) (by decide)) (g := (mkF m 1 #[.val (.ref a), .val (.ref s0), .val (.ref s1)] [(.ref a)])) rfl (by rw [hml]; rfl) (Steps.refl _) (a := a) (argsL := []) (rest := []) (lenOf pd_33 rfl) rfl (by show 2 * 0 + _ ≤ _; exact Nat.le_of_eq rfl) (hb hby d_prog_24_method_1_code_1) (fun _ _ => ⟨rfl, e0, (by decide : 0 + 0 ≤ _), (by decide : 0 + 0 ≤ _)⟩)
  dsimp only [Pt.U, Pt.locs, Pt.cells, Pt.slots] at X2 l2 y2 z2 st2 hQ2
  subst l2 y2 z2
  obtain ⟨rfl, N2q, K2q⟩ := hQ2
  have N2 := Fr.app N0 N2q
  have Z3 : n0 ≤ T2.heap.size := Nat.le_trans Z0 K2q.1
  have O3 : Old Z n0 T2.heap := O0.keep K2q all0
  have K3 : Keep h0 T2.heap [a] := K0.trans K2q all0
  refine gs (fun _ k => st2.trans k) ?_
  show OwnGo p e below s _ _ _ (T2.setTop (mkF m 4 #[.val (.ref a), .val (.ref s0), .val (.ref s1)] []))
  have c4 : ∀ tg, Steps p.tables e below (T2.setTop (mkF m 6 #[.val (.ref a), .val (.ref s0), .val (.ref s1)] [(.ref s0), (.ref a)])) tg → Steps p.tables e below (T2.setTop (mkF m 4 #[.val (.ref a), .val (.ref s0), .val (.ref s1)] [])) tg := fun tg kg => by
    refine XS.aloadN X2.here hx rfl (hb hby d_prog_24_method_1_code_4) rfl rfl ?_
    show Steps p.tables e below (T2.setTop (mkF m 5 #[.val (.ref a), .val (.ref s0), .val (.ref s1)] [(.ref a)])) tg
    refine XS.aloadN X2.here hx rfl (hb hby d_prog_24_method_1_code_5) rfl rfl ?_
    show Steps p.tables e below (T2.setTop (mkF m 6 #[.val (.ref a), .val (.ref s0), .val (.ref s1)] [(.ref s0), (.ref a)])) tg
    exact kg
  refine gs c4 ?_
  have f5 := (F_0.keep K2q nin0)
  have f6 := (E_a.keep K2q)
  obtain ⟨T7, h7, X7, e7, W7, st7⟩ := putF X2 hx hZ hown (host := "") (Or.inl (hw _ (List.mem_of_getElem? (i := 57) rfl))) Via.refl rfl f5 f6 (Or.inr ⟨(hw _ (List.mem_of_getElem? (i := 58) rfl)), rfl, hnm⟩) (hw _ (List.mem_of_getElem? (i := 51) rfl)) (ty := (.object "com/example/lushan/lushan/policy/TenantRole")) (by decide) rfl rfl (g := (mkF m 6 #[.val (.ref a), .val (.ref s0), .val (.ref s1)] [(.ref s0), (.ref a)])) rfl rfl (hb hby d_prog_24_method_1_code_6)
  have N7 := Fr.snoc X7 N2 g_a
  have Fw7 := f5.same W7
  have Z8 : n0 ≤ h7.size := Nat.le_trans Z3 (Keep.of_wr W7).1
  have O8 : Old Z n0 h7 := O3.wr W7 g_a
  have K8 : Keep h0 h7 [a] := K3.wr W7 (Or.inl (List.mem_of_getElem? (i := 0) rfl))
  refine gs st7 ?_
  show OwnGo p e below s _ _ _ (T7.setTop (mkF m 9 #[.val (.ref a), .val (.ref s0), .val (.ref s1)] []))
  have c9 : ∀ tg, Steps p.tables e below (T7.setTop (mkF m 11 #[.val (.ref a), .val (.ref s0), .val (.ref s1)] [(.ref s1), (.ref a)])) tg → Steps p.tables e below (T7.setTop (mkF m 9 #[.val (.ref a), .val (.ref s0), .val (.ref s1)] [])) tg := fun tg kg => by
    refine XS.aloadN X7.here hx rfl (hb hby d_prog_24_method_1_code_9) rfl rfl ?_
    show Steps p.tables e below (T7.setTop (mkF m 10 #[.val (.ref a), .val (.ref s0), .val (.ref s1)] [(.ref a)])) tg
    refine XS.aloadN X7.here hx rfl (hb hby d_prog_24_method_1_code_10) rfl rfl ?_
    show Steps p.tables e below (T7.setTop (mkF m 11 #[.val (.ref a), .val (.ref s0), .val (.ref s1)] [(.ref s1), (.ref a)])) tg
    exact kg
  refine gs c9 ?_
  have f10 := ((F_1.keep K2q nin0).other W7 (Or.inr (slot_ne (Or.inr (hw _ (List.mem_of_getElem? (i := 60) rfl))) (Or.inr (hw _ (List.mem_of_getElem? (i := 58) rfl))) (by decide) (t := (.object "com/example/lushan/lushan/policy/TenantRole")) (t' := (.object "com/example/lushan/lushan/policy/TenantRole")) (by decide) (by decide))))
  have f11 := (f6.wr W7)
  obtain ⟨T12, h12, X12, e12, W12, st12⟩ := putF X7 hx hZ hown (host := "") (Or.inl (hw _ (List.mem_of_getElem? (i := 59) rfl))) Via.refl e7 f10 f11 (Or.inr ⟨(hw _ (List.mem_of_getElem? (i := 60) rfl)), rfl, hnm⟩) (hw _ (List.mem_of_getElem? (i := 51) rfl)) (ty := (.object "com/example/lushan/lushan/policy/TenantRole")) (by decide) rfl rfl (g := (mkF m 11 #[.val (.ref a), .val (.ref s0), .val (.ref s1)] [(.ref s1), (.ref a)])) rfl rfl (hb hby d_prog_24_method_1_code_11)
  have N12 := Fr.snoc X12 N7 g_a
  have Fw12 := f10.same W12
  have Z13 : n0 ≤ h12.size := Nat.le_trans Z8 (Keep.of_wr W12).1
  have O13 : Old Z n0 h12 := O8.wr W12 g_a
  have K13 : Keep h0 h12 [a] := K8.wr W12 (Or.inl (List.mem_of_getElem? (i := 0) rfl))
  refine gs st12 ?_
  show OwnGo p e below s _ _ _ (T12.setTop (mkF m 14 #[.val (.ref a), .val (.ref s0), .val (.ref s1)] []))
  have f14 := (Fw7.other W12 (Or.inr (slot_ne (Or.inr (hw _ (List.mem_of_getElem? (i := 58) rfl))) (Or.inr (hw _ (List.mem_of_getElem? (i := 60) rfl))) (by decide) (t := (.object "com/example/lushan/lushan/policy/TenantRole")) (t' := (.object "com/example/lushan/lushan/policy/TenantRole")) (by decide) (by decide))))
  refine gout (v := none) X12 Bd.notSynchronized (fun _ => rfl) (by decide) (by decide) ?_ (fun fs hr => X12.returnOut hx Bd.returns (hb hby d_prog_24_method_1_code_14) hr)
  rw [e12]
  exact ⟨rfl, N12, K13, f14, Fw12⟩
theorem ef_53 (m : MethodId) (x0 : Addr) (x1 : Addr) (x2 : Addr) : entryFrame m #[(.ref x0), (.ref x1), (.ref x2)] 3 = mkF m 0 #[.val (.ref x0), .val (.ref x1), .val (.ref x2)] [] := by first | (simp [entryFrame, mkF, argsToLocals, Value.category]; done) | rfl
theorem d_prog_25_method_1_code_0 : decode prog_25_method_1_code 0 = .ok (.aload_n 0, 1) := by decide +kernel
theorem d_prog_25_method_1_code_1 : decode prog_25_method_1_code 1 = .ok (.invokespecial 1, 3) := by decide +kernel
theorem d_prog_25_method_1_code_4 : decode prog_25_method_1_code 4 = .ok (.aload_n 0, 1) := by decide +kernel
theorem d_prog_25_method_1_code_5 : decode prog_25_method_1_code 5 = .ok (.aload_n 1, 1) := by decide +kernel
theorem d_prog_25_method_1_code_6 : decode prog_25_method_1_code 6 = .ok (.putfield 7, 3) := by decide +kernel
theorem d_prog_25_method_1_code_9 : decode prog_25_method_1_code 9 = .ok (.aload_n 0, 1) := by decide +kernel
theorem d_prog_25_method_1_code_10 : decode prog_25_method_1_code 10 = .ok (.aload_n 2, 1) := by decide +kernel
theorem d_prog_25_method_1_code_11 : decode prog_25_method_1_code 11 = .ok (.putfield 13, 3) := by decide +kernel
theorem d_prog_25_method_1_code_14 : decode prog_25_method_1_code 14 = .ok (.return_, 1) := by decide +kernel
theorem pn_63 : plainName "com/example/lushan/lushan/policy/MappingDecision" = true := by first | (simp [plainName, overriddenIn]; done) | decide +kernel
set_option maxRecDepth 65536 in
set_option maxHeartbeats 40000000 in
theorem rm_md_ref_ref (l : Launch) (Z : State) (a0 : Array Value) (hw : ∀ d ∈ tables_1, d.before a0 Z = true) (ws : List Jvm.Cond) (a : Addr) (s0 : Addr) (s1 : Addr) (h0 : Heap) (n0 : Nat) (Z0 : n0 ≤ h0.size) (O0 : Old Z n0 h0) (E_a : Exa Z h0 a "com/example/lushan/lushan/policy/MappingDecision") (F_0 : Fld Z h0 a "com/example/lushan/lushan/policy/MappingDecision" "request" "Lcom/example/lushan/lushan/policy/Mapping;" .null) (F_1 : Fld Z h0 a "com/example/lushan/lushan/policy/MappingDecision" "conflict" "Lcom/example/lushan/lushan/policy/Mapping;" .null) (g_a : n0 ≤ a) :
    Ctr l Z (⟨"com/example/lushan/lushan/policy/MappingDecision", "<init>", "(Lcom/example/lushan/lushan/policy/Mapping;Lcom/example/lushan/lushan/policy/Mapping;)V"⟩ : MethodName) prog_25_method_1_code 3 ((Option.none : Option Jvm.ClassFile.FieldType)) ws ({ frames := 2, cells := 0, slots := 0, locals := 24 } : Room) #[(.ref a), (.ref s0), (.ref s1)] h0 (fun v h L => v = none ∧ Fr n0 L ∧ Keep h0 h [a] ∧ Fld Z h a "com/example/lushan/lushan/policy/MappingDecision" "request" "Lcom/example/lushan/lushan/policy/Mapping;" (.ref s0) ∧ Fld Z h a "com/example/lushan/lushan/policy/MappingDecision" "conflict" "Lcom/example/lushan/lushan/policy/Mapping;" (.ref s1)) := by
  refine Ctr.of (MetFree.of_bodySF (plainFor_of_name pn_63) hisR ?_)
  intro p e s m args below meth c s₁ Bd hml0 hP hK
  obtain ⟨rfl, hZ, hh⟩ := hP
  have hx := Bd.exec
  have hby := Bd.bytes
  have hml : c.maxLocals = 3 := hml0
  have hown : s.vm.findClass "com/example/lushan/lushan/policy/MappingDecision" = some m.cls := findClass_of_methodNamed Bd.named
  have hnm := (name_of_methodNamed Bd.named Bd.method).1
  have X0 : Stand p l e ({ frames := 2, cells := 0, slots := 0, locals := 24 } : Room) s m #[(.ref a), (.ref s0), (.ref s1)] below meth c s₁ [] 0 0 := Stand.of_body Bd
  have e0 : s₁.heap = h0 := by rw [← hh, Bd.state]; rfl
  have N0 := Fr.nil n0
  have K0 : Keep h0 h0 [a] := Keep.refl h0 [a]
  show OwnGo p e below s (fun v h L => v = none ∧ Fr n0 L ∧ Keep h0 h [a] ∧ Fld Z h a "com/example/lushan/lushan/policy/MappingDecision" "request" "Lcom/example/lushan/lushan/policy/Mapping;" (.ref s0) ∧ Fld Z h a "com/example/lushan/lushan/policy/MappingDecision" "conflict" "Lcom/example/lushan/lushan/policy/Mapping;" (.ref s1)) ({ frames := 2, cells := 0, slots := 0, locals := 24 } : Room).cells ({ frames := 2, cells := 0, slots := 0, locals := 24 } : Room).slots _
  refine gs (S' := s₁.setTop (mkF m 0 #[.val (.ref a), .val (.ref s0), .val (.ref s1)] [])) (fun tg kg => castTop (ef_53 m a s0 s1) kg) ?_
  have c1 : ∀ tg, Steps p.tables e below (s₁.setTop (mkF m 1 #[.val (.ref a), .val (.ref s0), .val (.ref s1)] [(.ref a)])) tg → Steps p.tables e below (s₁.setTop (mkF m 0 #[.val (.ref a), .val (.ref s0), .val (.ref s1)] [])) tg := fun tg kg => by
    refine XS.aloadN X0.here hx rfl (hb hby d_prog_25_method_1_code_0) rfl rfl ?_
    show Steps p.tables e below (s₁.setTop (mkF m 1 #[.val (.ref a), .val (.ref s0), .val (.ref s1)] [(.ref a)])) tg
    exact kg
  refine gs c1 ?_
  obtain ⟨_, _, ⟨T2, L2, k2, n2⟩, -, X2, ⟨Lc2, hQ2, l2, y2, z2⟩, st2⟩ := X0.specialBack hx (y := (⟨"java/lang/Record", "<init>", "()V"⟩ : MethodName)) rfl hown (mvT hZ (hw _ (List.mem_of_getElem? (i := 67) rfl))) (mvT hZ (hw _ (List.mem_of_getElem? (i := 41) rfl))) (mvT hZ (hw _ (List.mem_of_getElem? (i := 44) rfl))) (by decide) (backC (W := 0) (rm_rec l Z a0 hw [] a h0 n0 Z0 O0 ) hZ (hw _ (List.mem_of_getElem? (i := 44) rfl)) (hw _ (List.mem_of_getElem? (i := 43) rfl)) (by decide) (by decide)) (g := (mkF m 1 #[.val (.ref a), .val (.ref s0), .val (.ref s1)] [(.ref a)])) rfl (by rw [hml]; rfl) (Steps.refl _) (a := a) (argsL := []) (rest := []) (lenOf pd_33 rfl) rfl (by show 2 * 0 + _ ≤ _; exact Nat.le_of_eq rfl) (hb hby d_prog_25_method_1_code_1) (fun _ _ => ⟨rfl, e0, (by decide : 0 + 0 ≤ _), (by decide : 0 + 0 ≤ _)⟩)
  dsimp only [Pt.U, Pt.locs, Pt.cells, Pt.slots] at X2 l2 y2 z2 st2 hQ2
  subst l2 y2 z2
  obtain ⟨rfl, N2q, K2q⟩ := hQ2
  have N2 := Fr.app N0 N2q
  have Z3 : n0 ≤ T2.heap.size := Nat.le_trans Z0 K2q.1
  have O3 : Old Z n0 T2.heap := O0.keep K2q all0
  have K3 : Keep h0 T2.heap [a] := K0.trans K2q all0
  refine gs (fun _ k => st2.trans k) ?_
  show OwnGo p e below s _ _ _ (T2.setTop (mkF m 4 #[.val (.ref a), .val (.ref s0), .val (.ref s1)] []))
  have c4 : ∀ tg, Steps p.tables e below (T2.setTop (mkF m 6 #[.val (.ref a), .val (.ref s0), .val (.ref s1)] [(.ref s0), (.ref a)])) tg → Steps p.tables e below (T2.setTop (mkF m 4 #[.val (.ref a), .val (.ref s0), .val (.ref s1)] [])) tg := fun tg kg => by
    refine XS.aloadN X2.here hx rfl (hb hby d_prog_25_method_1_code_4) rfl rfl ?_
    show Steps p.tables e below (T2.setTop (mkF m 5 #[.val (.ref a), .val (.ref s0), .val (.ref s1)] [(.ref a)])) tg
    refine XS.aloadN X2.here hx rfl (hb hby d_prog_25_method_1_code_5) rfl rfl ?_
    show Steps p.tables e below (T2.setTop (mkF m 6 #[.val (.ref a), .val (.ref s0), .val (.ref s1)] [(.ref s0), (.ref a)])) tg
    exact kg
  refine gs c4 ?_
  have f5 := (F_0.keep K2q nin0)
  have f6 := (E_a.keep K2q)
  obtain ⟨T7, h7, X7, e7, W7, st7⟩ := putF X2 hx hZ hown (host := "") (Or.inl (hw _ (List.mem_of_getElem? (i := 68) rfl))) Via.refl rfl f5 f6 (Or.inr ⟨(hw _ (List.mem_of_getElem? (i := 69) rfl)), rfl, hnm⟩) (hw _ (List.mem_of_getElem? (i := 62) rfl)) (ty := (.object "com/example/lushan/lushan/policy/Mapping")) (by decide) rfl rfl (g := (mkF m 6 #[.val (.ref a), .val (.ref s0), .val (.ref s1)] [(.ref s0), (.ref a)])) rfl rfl (hb hby d_prog_25_method_1_code_6)
  have N7 := Fr.snoc X7 N2 g_a
  have Fw7 := f5.same W7
  have Z8 : n0 ≤ h7.size := Nat.le_trans Z3 (Keep.of_wr W7).1
  have O8 : Old Z n0 h7 := O3.wr W7 g_a
  have K8 : Keep h0 h7 [a] := K3.wr W7 (Or.inl (List.mem_of_getElem? (i := 0) rfl))
  refine gs st7 ?_
  show OwnGo p e below s _ _ _ (T7.setTop (mkF m 9 #[.val (.ref a), .val (.ref s0), .val (.ref s1)] []))
  have c9 : ∀ tg, Steps p.tables e below (T7.setTop (mkF m 11 #[.val (.ref a), .val (.ref s0), .val (.ref s1)] [(.ref s1), (.ref a)])) tg → Steps p.tables e below (T7.setTop (mkF m 9 #[.val (.ref a), .val (.ref s0), .val (.ref s1)] [])) tg := fun tg kg => by
    refine XS.aloadN X7.here hx rfl (hb hby d_prog_25_method_1_code_9) rfl rfl ?_
    show Steps p.tables e below (T7.setTop (mkF m 10 #[.val (.ref a), .val (.ref s0), .val (.ref s1)] [(.ref a)])) tg
    refine XS.aloadN X7.here hx rfl (hb hby d_prog_25_method_1_code_10) rfl rfl ?_
    show Steps p.tables e below (T7.setTop (mkF m 11 #[.val (.ref a), .val (.ref s0), .val (.ref s1)] [(.ref s1), (.ref a)])) tg
    exact kg
  refine gs c9 ?_
  have f10 := ((F_1.keep K2q nin0).other W7 (Or.inr (slot_ne (Or.inr (hw _ (List.mem_of_getElem? (i := 71) rfl))) (Or.inr (hw _ (List.mem_of_getElem? (i := 69) rfl))) (by decide) (t := (.object "com/example/lushan/lushan/policy/Mapping")) (t' := (.object "com/example/lushan/lushan/policy/Mapping")) (by decide) (by decide))))
  have f11 := (f6.wr W7)
  obtain ⟨T12, h12, X12, e12, W12, st12⟩ := putF X7 hx hZ hown (host := "") (Or.inl (hw _ (List.mem_of_getElem? (i := 70) rfl))) Via.refl e7 f10 f11 (Or.inr ⟨(hw _ (List.mem_of_getElem? (i := 71) rfl)), rfl, hnm⟩) (hw _ (List.mem_of_getElem? (i := 62) rfl)) (ty := (.object "com/example/lushan/lushan/policy/Mapping")) (by decide) rfl rfl (g := (mkF m 11 #[.val (.ref a), .val (.ref s0), .val (.ref s1)] [(.ref s1), (.ref a)])) rfl rfl (hb hby d_prog_25_method_1_code_11)
  have N12 := Fr.snoc X12 N7 g_a
  have Fw12 := f10.same W12
  have Z13 : n0 ≤ h12.size := Nat.le_trans Z8 (Keep.of_wr W12).1
  have O13 : Old Z n0 h12 := O8.wr W12 g_a
  have K13 : Keep h0 h12 [a] := K8.wr W12 (Or.inl (List.mem_of_getElem? (i := 0) rfl))
  refine gs st12 ?_
  show OwnGo p e below s _ _ _ (T12.setTop (mkF m 14 #[.val (.ref a), .val (.ref s0), .val (.ref s1)] []))
  have f14 := (Fw7.other W12 (Or.inr (slot_ne (Or.inr (hw _ (List.mem_of_getElem? (i := 69) rfl))) (Or.inr (hw _ (List.mem_of_getElem? (i := 71) rfl))) (by decide) (t := (.object "com/example/lushan/lushan/policy/Mapping")) (t' := (.object "com/example/lushan/lushan/policy/Mapping")) (by decide) (by decide))))
  refine gout (v := none) X12 Bd.notSynchronized (fun _ => rfl) (by decide) (by decide) ?_ (fun fs hr => X12.returnOut hx Bd.returns (hb hby d_prog_25_method_1_code_14) hr)
  rw [e12]
  exact ⟨rfl, N12, K13, f14, Fw12⟩
theorem ef_64 (m : MethodId) (x0 : Addr) (x1 : Addr) : entryFrame m #[(.ref x0), (.ref x1), .null] 3 = mkF m 0 #[.val (.ref x0), .val (.ref x1), .val .null] [] := by first | (simp [entryFrame, mkF, argsToLocals, Value.category]; done) | rfl
set_option maxRecDepth 65536 in
set_option maxHeartbeats 40000000 in
theorem rm_md_ref_null (l : Launch) (Z : State) (a0 : Array Value) (hw : ∀ d ∈ tables_1, d.before a0 Z = true) (ws : List Jvm.Cond) (a : Addr) (s0 : Addr) (h0 : Heap) (n0 : Nat) (Z0 : n0 ≤ h0.size) (O0 : Old Z n0 h0) (E_a : Exa Z h0 a "com/example/lushan/lushan/policy/MappingDecision") (F_0 : Fld Z h0 a "com/example/lushan/lushan/policy/MappingDecision" "request" "Lcom/example/lushan/lushan/policy/Mapping;" .null) (F_1 : Fld Z h0 a "com/example/lushan/lushan/policy/MappingDecision" "conflict" "Lcom/example/lushan/lushan/policy/Mapping;" .null) (g_a : n0 ≤ a) :
    Ctr l Z (⟨"com/example/lushan/lushan/policy/MappingDecision", "<init>", "(Lcom/example/lushan/lushan/policy/Mapping;Lcom/example/lushan/lushan/policy/Mapping;)V"⟩ : MethodName) prog_25_method_1_code 3 ((Option.none : Option Jvm.ClassFile.FieldType)) ws ({ frames := 2, cells := 0, slots := 0, locals := 24 } : Room) #[(.ref a), (.ref s0), .null] h0 (fun v h L => v = none ∧ Fr n0 L ∧ Keep h0 h [a] ∧ Fld Z h a "com/example/lushan/lushan/policy/MappingDecision" "request" "Lcom/example/lushan/lushan/policy/Mapping;" (.ref s0) ∧ Fld Z h a "com/example/lushan/lushan/policy/MappingDecision" "conflict" "Lcom/example/lushan/lushan/policy/Mapping;" .null) := by
  refine Ctr.of (MetFree.of_bodySF (plainFor_of_name pn_63) hisR ?_)
  intro p e s m args below meth c s₁ Bd hml0 hP hK
  obtain ⟨rfl, hZ, hh⟩ := hP
  have hx := Bd.exec
  have hby := Bd.bytes
  have hml : c.maxLocals = 3 := hml0
  have hown : s.vm.findClass "com/example/lushan/lushan/policy/MappingDecision" = some m.cls := findClass_of_methodNamed Bd.named
  have hnm := (name_of_methodNamed Bd.named Bd.method).1
  have X0 : Stand p l e ({ frames := 2, cells := 0, slots := 0, locals := 24 } : Room) s m #[(.ref a), (.ref s0), .null] below meth c s₁ [] 0 0 := Stand.of_body Bd
  have e0 : s₁.heap = h0 := by rw [← hh, Bd.state]; rfl
  have N0 := Fr.nil n0
  have K0 : Keep h0 h0 [a] := Keep.refl h0 [a]
  show OwnGo p e below s (fun v h L => v = none ∧ Fr n0 L ∧ Keep h0 h [a] ∧ Fld Z h a "com/example/lushan/lushan/policy/MappingDecision" "request" "Lcom/example/lushan/lushan/policy/Mapping;" (.ref s0) ∧ Fld Z h a "com/example/lushan/lushan/policy/MappingDecision" "conflict" "Lcom/example/lushan/lushan/policy/Mapping;" .null) ({ frames := 2, cells := 0, slots := 0, locals := 24 } : Room).cells ({ frames := 2, cells := 0, slots := 0, locals := 24 } : Room).slots _
  refine gs (S' := s₁.setTop (mkF m 0 #[.val (.ref a), .val (.ref s0), .val .null] [])) (fun tg kg => castTop (ef_64 m a s0) kg) ?_
  have c1 : ∀ tg, Steps p.tables e below (s₁.setTop (mkF m 1 #[.val (.ref a), .val (.ref s0), .val .null] [(.ref a)])) tg → Steps p.tables e below (s₁.setTop (mkF m 0 #[.val (.ref a), .val (.ref s0), .val .null] [])) tg := fun tg kg => by
    refine XS.aloadN X0.here hx rfl (hb hby d_prog_25_method_1_code_0) rfl rfl ?_
    show Steps p.tables e below (s₁.setTop (mkF m 1 #[.val (.ref a), .val (.ref s0), .val .null] [(.ref a)])) tg
    exact kg
  refine gs c1 ?_
  obtain ⟨_, _, ⟨T2, L2, k2, n2⟩, -, X2, ⟨Lc2, hQ2, l2, y2, z2⟩, st2⟩ := X0.specialBack hx (y := (⟨"java/lang/Record", "<init>", "()V"⟩ : MethodName)) rfl hown (mvT hZ (hw _ (List.mem_of_getElem? (i := 67) rfl))) (mvT hZ (hw _ (List.mem_of_getElem? (i := 41) rfl))) (mvT hZ (hw _ (List.mem_of_getElem? (i := 44) rfl))) (by decide) (backC (W := 0) (rm_rec l Z a0 hw [] a h0 n0 Z0 O0 ) hZ (hw _ (List.mem_of_getElem? (i := 44) rfl)) (hw _ (List.mem_of_getElem? (i := 43) rfl)) (by decide) (by decide)) (g := (mkF m 1 #[.val (.ref a), .val (.ref s0), .val .null] [(.ref a)])) rfl (by rw [hml]; rfl) (Steps.refl _) (a := a) (argsL := []) (rest := []) (lenOf pd_33 rfl) rfl (by show 2 * 0 + _ ≤ _; exact Nat.le_of_eq rfl) (hb hby d_prog_25_method_1_code_1) (fun _ _ => ⟨rfl, e0, (by decide : 0 + 0 ≤ _), (by decide : 0 + 0 ≤ _)⟩)
  dsimp only [Pt.U, Pt.locs, Pt.cells, Pt.slots] at X2 l2 y2 z2 st2 hQ2
  subst l2 y2 z2
  obtain ⟨rfl, N2q, K2q⟩ := hQ2
  have N2 := Fr.app N0 N2q
  have Z3 : n0 ≤ T2.heap.size := Nat.le_trans Z0 K2q.1
  have O3 : Old Z n0 T2.heap := O0.keep K2q all0
  have K3 : Keep h0 T2.heap [a] := K0.trans K2q all0
  refine gs (fun _ k => st2.trans k) ?_
  show OwnGo p e below s _ _ _ (T2.setTop (mkF m 4 #[.val (.ref a), .val (.ref s0), .val .null] []))
  have c4 : ∀ tg, Steps p.tables e below (T2.setTop (mkF m 6 #[.val (.ref a), .val (.ref s0), .val .null] [(.ref s0), (.ref a)])) tg → Steps p.tables e below (T2.setTop (mkF m 4 #[.val (.ref a), .val (.ref s0), .val .null] [])) tg := fun tg kg => by
    refine XS.aloadN X2.here hx rfl (hb hby d_prog_25_method_1_code_4) rfl rfl ?_
    show Steps p.tables e below (T2.setTop (mkF m 5 #[.val (.ref a), .val (.ref s0), .val .null] [(.ref a)])) tg
    refine XS.aloadN X2.here hx rfl (hb hby d_prog_25_method_1_code_5) rfl rfl ?_
    show Steps p.tables e below (T2.setTop (mkF m 6 #[.val (.ref a), .val (.ref s0), .val .null] [(.ref s0), (.ref a)])) tg
    exact kg
  refine gs c4 ?_
  have f5 := (F_0.keep K2q nin0)
  have f6 := (E_a.keep K2q)
  obtain ⟨T7, h7, X7, e7, W7, st7⟩ := putF X2 hx hZ hown (host := "") (Or.inl (hw _ (List.mem_of_getElem? (i := 68) rfl))) Via.refl rfl f5 f6 (Or.inr ⟨(hw _ (List.mem_of_getElem? (i := 69) rfl)), rfl, hnm⟩) (hw _ (List.mem_of_getElem? (i := 62) rfl)) (ty := (.object "com/example/lushan/lushan/policy/Mapping")) (by decide) rfl rfl (g := (mkF m 6 #[.val (.ref a), .val (.ref s0), .val .null] [(.ref s0), (.ref a)])) rfl rfl (hb hby d_prog_25_method_1_code_6)
  have N7 := Fr.snoc X7 N2 g_a
  have Fw7 := f5.same W7
  have Z8 : n0 ≤ h7.size := Nat.le_trans Z3 (Keep.of_wr W7).1
  have O8 : Old Z n0 h7 := O3.wr W7 g_a
  have K8 : Keep h0 h7 [a] := K3.wr W7 (Or.inl (List.mem_of_getElem? (i := 0) rfl))
  refine gs st7 ?_
  show OwnGo p e below s _ _ _ (T7.setTop (mkF m 9 #[.val (.ref a), .val (.ref s0), .val .null] []))
  have c9 : ∀ tg, Steps p.tables e below (T7.setTop (mkF m 11 #[.val (.ref a), .val (.ref s0), .val .null] [.null, (.ref a)])) tg → Steps p.tables e below (T7.setTop (mkF m 9 #[.val (.ref a), .val (.ref s0), .val .null] [])) tg := fun tg kg => by
    refine XS.aloadN X7.here hx rfl (hb hby d_prog_25_method_1_code_9) rfl rfl ?_
    show Steps p.tables e below (T7.setTop (mkF m 10 #[.val (.ref a), .val (.ref s0), .val .null] [(.ref a)])) tg
    refine XS.aloadN X7.here hx rfl (hb hby d_prog_25_method_1_code_10) rfl rfl ?_
    show Steps p.tables e below (T7.setTop (mkF m 11 #[.val (.ref a), .val (.ref s0), .val .null] [.null, (.ref a)])) tg
    exact kg
  refine gs c9 ?_
  have f10 := ((F_1.keep K2q nin0).other W7 (Or.inr (slot_ne (Or.inr (hw _ (List.mem_of_getElem? (i := 71) rfl))) (Or.inr (hw _ (List.mem_of_getElem? (i := 69) rfl))) (by decide) (t := (.object "com/example/lushan/lushan/policy/Mapping")) (t' := (.object "com/example/lushan/lushan/policy/Mapping")) (by decide) (by decide))))
  have f11 := (f6.wr W7)
  obtain ⟨T12, h12, X12, e12, W12, st12⟩ := putF X7 hx hZ hown (host := "") (Or.inl (hw _ (List.mem_of_getElem? (i := 70) rfl))) Via.refl e7 f10 f11 (Or.inr ⟨(hw _ (List.mem_of_getElem? (i := 71) rfl)), rfl, hnm⟩) (hw _ (List.mem_of_getElem? (i := 62) rfl)) (ty := (.object "com/example/lushan/lushan/policy/Mapping")) (by decide) rfl rfl (g := (mkF m 11 #[.val (.ref a), .val (.ref s0), .val .null] [.null, (.ref a)])) rfl rfl (hb hby d_prog_25_method_1_code_11)
  have N12 := Fr.snoc X12 N7 g_a
  have Fw12 := f10.same W12
  have Z13 : n0 ≤ h12.size := Nat.le_trans Z8 (Keep.of_wr W12).1
  have O13 : Old Z n0 h12 := O8.wr W12 g_a
  have K13 : Keep h0 h12 [a] := K8.wr W12 (Or.inl (List.mem_of_getElem? (i := 0) rfl))
  refine gs st12 ?_
  show OwnGo p e below s _ _ _ (T12.setTop (mkF m 14 #[.val (.ref a), .val (.ref s0), .val .null] []))
  have f14 := (Fw7.other W12 (Or.inr (slot_ne (Or.inr (hw _ (List.mem_of_getElem? (i := 69) rfl))) (Or.inr (hw _ (List.mem_of_getElem? (i := 71) rfl))) (by decide) (t := (.object "com/example/lushan/lushan/policy/Mapping")) (t' := (.object "com/example/lushan/lushan/policy/Mapping")) (by decide) (by decide))))
  refine gout (v := none) X12 Bd.notSynchronized (fun _ => rfl) (by decide) (by decide) ?_ (fun fs hr => X12.returnOut hx Bd.returns (hb hby d_prog_25_method_1_code_14) hr)
  rw [e12]
  exact ⟨rfl, N12, K13, f14, Fw12⟩
theorem ef_65 (m : MethodId) (x0 : Addr) (x2 : Addr) : entryFrame m #[(.ref x0), .null, (.ref x2)] 3 = mkF m 0 #[.val (.ref x0), .val .null, .val (.ref x2)] [] := by first | (simp [entryFrame, mkF, argsToLocals, Value.category]; done) | rfl
set_option maxRecDepth 65536 in
set_option maxHeartbeats 40000000 in
theorem rm_md_null_ref (l : Launch) (Z : State) (a0 : Array Value) (hw : ∀ d ∈ tables_1, d.before a0 Z = true) (ws : List Jvm.Cond) (a : Addr) (s1 : Addr) (h0 : Heap) (n0 : Nat) (Z0 : n0 ≤ h0.size) (O0 : Old Z n0 h0) (E_a : Exa Z h0 a "com/example/lushan/lushan/policy/MappingDecision") (F_0 : Fld Z h0 a "com/example/lushan/lushan/policy/MappingDecision" "request" "Lcom/example/lushan/lushan/policy/Mapping;" .null) (F_1 : Fld Z h0 a "com/example/lushan/lushan/policy/MappingDecision" "conflict" "Lcom/example/lushan/lushan/policy/Mapping;" .null) (g_a : n0 ≤ a) :
    Ctr l Z (⟨"com/example/lushan/lushan/policy/MappingDecision", "<init>", "(Lcom/example/lushan/lushan/policy/Mapping;Lcom/example/lushan/lushan/policy/Mapping;)V"⟩ : MethodName) prog_25_method_1_code 3 ((Option.none : Option Jvm.ClassFile.FieldType)) ws ({ frames := 2, cells := 0, slots := 0, locals := 24 } : Room) #[(.ref a), .null, (.ref s1)] h0 (fun v h L => v = none ∧ Fr n0 L ∧ Keep h0 h [a] ∧ Fld Z h a "com/example/lushan/lushan/policy/MappingDecision" "request" "Lcom/example/lushan/lushan/policy/Mapping;" .null ∧ Fld Z h a "com/example/lushan/lushan/policy/MappingDecision" "conflict" "Lcom/example/lushan/lushan/policy/Mapping;" (.ref s1)) := by
  refine Ctr.of (MetFree.of_bodySF (plainFor_of_name pn_63) hisR ?_)
  intro p e s m args below meth c s₁ Bd hml0 hP hK
  obtain ⟨rfl, hZ, hh⟩ := hP
  have hx := Bd.exec
  have hby := Bd.bytes
  have hml : c.maxLocals = 3 := hml0
  have hown : s.vm.findClass "com/example/lushan/lushan/policy/MappingDecision" = some m.cls := findClass_of_methodNamed Bd.named
  have hnm := (name_of_methodNamed Bd.named Bd.method).1
  have X0 : Stand p l e ({ frames := 2, cells := 0, slots := 0, locals := 24 } : Room) s m #[(.ref a), .null, (.ref s1)] below meth c s₁ [] 0 0 := Stand.of_body Bd
  have e0 : s₁.heap = h0 := by rw [← hh, Bd.state]; rfl
  have N0 := Fr.nil n0
  have K0 : Keep h0 h0 [a] := Keep.refl h0 [a]
  show OwnGo p e below s (fun v h L => v = none ∧ Fr n0 L ∧ Keep h0 h [a] ∧ Fld Z h a "com/example/lushan/lushan/policy/MappingDecision" "request" "Lcom/example/lushan/lushan/policy/Mapping;" .null ∧ Fld Z h a "com/example/lushan/lushan/policy/MappingDecision" "conflict" "Lcom/example/lushan/lushan/policy/Mapping;" (.ref s1)) ({ frames := 2, cells := 0, slots := 0, locals := 24 } : Room).cells ({ frames := 2, cells := 0, slots := 0, locals := 24 } : Room).slots _
  refine gs (S' := s₁.setTop (mkF m 0 #[.val (.ref a), .val .null, .val (.ref s1)] [])) (fun tg kg => castTop (ef_65 m a s1) kg) ?_
  have c1 : ∀ tg, Steps p.tables e below (s₁.setTop (mkF m 1 #[.val (.ref a), .val .null, .val (.ref s1)] [(.ref a)])) tg → Steps p.tables e below (s₁.setTop (mkF m 0 #[.val (.ref a), .val .null, .val (.ref s1)] [])) tg := fun tg kg => by
    refine XS.aloadN X0.here hx rfl (hb hby d_prog_25_method_1_code_0) rfl rfl ?_
    show Steps p.tables e below (s₁.setTop (mkF m 1 #[.val (.ref a), .val .null, .val (.ref s1)] [(.ref a)])) tg
    exact kg
  refine gs c1 ?_
  obtain ⟨_, _, ⟨T2, L2, k2, n2⟩, -, X2, ⟨Lc2, hQ2, l2, y2, z2⟩, st2⟩ := X0.specialBack hx (y := (⟨"java/lang/Record", "<init>", "()V"⟩ : MethodName)) rfl hown (mvT hZ (hw _ (List.mem_of_getElem? (i := 67) rfl))) (mvT hZ (hw _ (List.mem_of_getElem? (i := 41) rfl))) (mvT hZ (hw _ (List.mem_of_getElem? (i := 44) rfl))) (by decide) (backC (W := 0) (rm_rec l Z a0 hw [] a h0 n0 Z0 O0 ) hZ (hw _ (List.mem_of_getElem? (i := 44) rfl)) (hw _ (List.mem_of_getElem? (i := 43) rfl)) (by decide) (by decide)) (g := (mkF m 1 #[.val (.ref a), .val .null, .val (.ref s1)] [(.ref a)])) rfl (by rw [hml]; rfl) (Steps.refl _) (a := a) (argsL := []) (rest := []) (lenOf pd_33 rfl) rfl (by show 2 * 0 + _ ≤ _; exact Nat.le_of_eq rfl) (hb hby d_prog_25_method_1_code_1) (fun _ _ => ⟨rfl, e0, (by decide : 0 + 0 ≤ _), (by decide : 0 + 0 ≤ _)⟩)
  dsimp only [Pt.U, Pt.locs, Pt.cells, Pt.slots] at X2 l2 y2 z2 st2 hQ2
  subst l2 y2 z2
  obtain ⟨rfl, N2q, K2q⟩ := hQ2
  have N2 := Fr.app N0 N2q
  have Z3 : n0 ≤ T2.heap.size := Nat.le_trans Z0 K2q.1
  have O3 : Old Z n0 T2.heap := O0.keep K2q all0
  have K3 : Keep h0 T2.heap [a] := K0.trans K2q all0
  refine gs (fun _ k => st2.trans k) ?_
  show OwnGo p e below s _ _ _ (T2.setTop (mkF m 4 #[.val (.ref a), .val .null, .val (.ref s1)] []))
  have c4 : ∀ tg, Steps p.tables e below (T2.setTop (mkF m 6 #[.val (.ref a), .val .null, .val (.ref s1)] [.null, (.ref a)])) tg → Steps p.tables e below (T2.setTop (mkF m 4 #[.val (.ref a), .val .null, .val (.ref s1)] [])) tg := fun tg kg => by
    refine XS.aloadN X2.here hx rfl (hb hby d_prog_25_method_1_code_4) rfl rfl ?_
    show Steps p.tables e below (T2.setTop (mkF m 5 #[.val (.ref a), .val .null, .val (.ref s1)] [(.ref a)])) tg
    refine XS.aloadN X2.here hx rfl (hb hby d_prog_25_method_1_code_5) rfl rfl ?_
    show Steps p.tables e below (T2.setTop (mkF m 6 #[.val (.ref a), .val .null, .val (.ref s1)] [.null, (.ref a)])) tg
    exact kg
  refine gs c4 ?_
  have f5 := (F_0.keep K2q nin0)
  have f6 := (E_a.keep K2q)
  obtain ⟨T7, h7, X7, e7, W7, st7⟩ := putF X2 hx hZ hown (host := "") (Or.inl (hw _ (List.mem_of_getElem? (i := 68) rfl))) Via.refl rfl f5 f6 (Or.inr ⟨(hw _ (List.mem_of_getElem? (i := 69) rfl)), rfl, hnm⟩) (hw _ (List.mem_of_getElem? (i := 62) rfl)) (ty := (.object "com/example/lushan/lushan/policy/Mapping")) (by decide) rfl rfl (g := (mkF m 6 #[.val (.ref a), .val .null, .val (.ref s1)] [.null, (.ref a)])) rfl rfl (hb hby d_prog_25_method_1_code_6)
  have N7 := Fr.snoc X7 N2 g_a
  have Fw7 := f5.same W7
  have Z8 : n0 ≤ h7.size := Nat.le_trans Z3 (Keep.of_wr W7).1
  have O8 : Old Z n0 h7 := O3.wr W7 g_a
  have K8 : Keep h0 h7 [a] := K3.wr W7 (Or.inl (List.mem_of_getElem? (i := 0) rfl))
  refine gs st7 ?_
  show OwnGo p e below s _ _ _ (T7.setTop (mkF m 9 #[.val (.ref a), .val .null, .val (.ref s1)] []))
  have c9 : ∀ tg, Steps p.tables e below (T7.setTop (mkF m 11 #[.val (.ref a), .val .null, .val (.ref s1)] [(.ref s1), (.ref a)])) tg → Steps p.tables e below (T7.setTop (mkF m 9 #[.val (.ref a), .val .null, .val (.ref s1)] [])) tg := fun tg kg => by
    refine XS.aloadN X7.here hx rfl (hb hby d_prog_25_method_1_code_9) rfl rfl ?_
    show Steps p.tables e below (T7.setTop (mkF m 10 #[.val (.ref a), .val .null, .val (.ref s1)] [(.ref a)])) tg
    refine XS.aloadN X7.here hx rfl (hb hby d_prog_25_method_1_code_10) rfl rfl ?_
    show Steps p.tables e below (T7.setTop (mkF m 11 #[.val (.ref a), .val .null, .val (.ref s1)] [(.ref s1), (.ref a)])) tg
    exact kg
  refine gs c9 ?_
  have f10 := ((F_1.keep K2q nin0).other W7 (Or.inr (slot_ne (Or.inr (hw _ (List.mem_of_getElem? (i := 71) rfl))) (Or.inr (hw _ (List.mem_of_getElem? (i := 69) rfl))) (by decide) (t := (.object "com/example/lushan/lushan/policy/Mapping")) (t' := (.object "com/example/lushan/lushan/policy/Mapping")) (by decide) (by decide))))
  have f11 := (f6.wr W7)
  obtain ⟨T12, h12, X12, e12, W12, st12⟩ := putF X7 hx hZ hown (host := "") (Or.inl (hw _ (List.mem_of_getElem? (i := 70) rfl))) Via.refl e7 f10 f11 (Or.inr ⟨(hw _ (List.mem_of_getElem? (i := 71) rfl)), rfl, hnm⟩) (hw _ (List.mem_of_getElem? (i := 62) rfl)) (ty := (.object "com/example/lushan/lushan/policy/Mapping")) (by decide) rfl rfl (g := (mkF m 11 #[.val (.ref a), .val .null, .val (.ref s1)] [(.ref s1), (.ref a)])) rfl rfl (hb hby d_prog_25_method_1_code_11)
  have N12 := Fr.snoc X12 N7 g_a
  have Fw12 := f10.same W12
  have Z13 : n0 ≤ h12.size := Nat.le_trans Z8 (Keep.of_wr W12).1
  have O13 : Old Z n0 h12 := O8.wr W12 g_a
  have K13 : Keep h0 h12 [a] := K8.wr W12 (Or.inl (List.mem_of_getElem? (i := 0) rfl))
  refine gs st12 ?_
  show OwnGo p e below s _ _ _ (T12.setTop (mkF m 14 #[.val (.ref a), .val .null, .val (.ref s1)] []))
  have f14 := (Fw7.other W12 (Or.inr (slot_ne (Or.inr (hw _ (List.mem_of_getElem? (i := 69) rfl))) (Or.inr (hw _ (List.mem_of_getElem? (i := 71) rfl))) (by decide) (t := (.object "com/example/lushan/lushan/policy/Mapping")) (t' := (.object "com/example/lushan/lushan/policy/Mapping")) (by decide) (by decide))))
  refine gout (v := none) X12 Bd.notSynchronized (fun _ => rfl) (by decide) (by decide) ?_ (fun fs hr => X12.returnOut hx Bd.returns (hb hby d_prog_25_method_1_code_14) hr)
  rw [e12]
  exact ⟨rfl, N12, K13, f14, Fw12⟩
theorem ef_66 (m : MethodId) (x0 : Addr) : entryFrame m #[(.ref x0), .null, .null] 3 = mkF m 0 #[.val (.ref x0), .val .null, .val .null] [] := by first | (simp [entryFrame, mkF, argsToLocals, Value.category]; done) | rfl
set_option maxRecDepth 65536 in
set_option maxHeartbeats 40000000 in
theorem rm_md_null_null (l : Launch) (Z : State) (a0 : Array Value) (hw : ∀ d ∈ tables_1, d.before a0 Z = true) (ws : List Jvm.Cond) (a : Addr) (h0 : Heap) (n0 : Nat) (Z0 : n0 ≤ h0.size) (O0 : Old Z n0 h0) (E_a : Exa Z h0 a "com/example/lushan/lushan/policy/MappingDecision") (F_0 : Fld Z h0 a "com/example/lushan/lushan/policy/MappingDecision" "request" "Lcom/example/lushan/lushan/policy/Mapping;" .null) (F_1 : Fld Z h0 a "com/example/lushan/lushan/policy/MappingDecision" "conflict" "Lcom/example/lushan/lushan/policy/Mapping;" .null) (g_a : n0 ≤ a) :
    Ctr l Z (⟨"com/example/lushan/lushan/policy/MappingDecision", "<init>", "(Lcom/example/lushan/lushan/policy/Mapping;Lcom/example/lushan/lushan/policy/Mapping;)V"⟩ : MethodName) prog_25_method_1_code 3 ((Option.none : Option Jvm.ClassFile.FieldType)) ws ({ frames := 2, cells := 0, slots := 0, locals := 24 } : Room) #[(.ref a), .null, .null] h0 (fun v h L => v = none ∧ Fr n0 L ∧ Keep h0 h [a] ∧ Fld Z h a "com/example/lushan/lushan/policy/MappingDecision" "request" "Lcom/example/lushan/lushan/policy/Mapping;" .null ∧ Fld Z h a "com/example/lushan/lushan/policy/MappingDecision" "conflict" "Lcom/example/lushan/lushan/policy/Mapping;" .null) := by
  refine Ctr.of (MetFree.of_bodySF (plainFor_of_name pn_63) hisR ?_)
  intro p e s m args below meth c s₁ Bd hml0 hP hK
  obtain ⟨rfl, hZ, hh⟩ := hP
  have hx := Bd.exec
  have hby := Bd.bytes
  have hml : c.maxLocals = 3 := hml0
  have hown : s.vm.findClass "com/example/lushan/lushan/policy/MappingDecision" = some m.cls := findClass_of_methodNamed Bd.named
  have hnm := (name_of_methodNamed Bd.named Bd.method).1
  have X0 : Stand p l e ({ frames := 2, cells := 0, slots := 0, locals := 24 } : Room) s m #[(.ref a), .null, .null] below meth c s₁ [] 0 0 := Stand.of_body Bd
  have e0 : s₁.heap = h0 := by rw [← hh, Bd.state]; rfl
  have N0 := Fr.nil n0
  have K0 : Keep h0 h0 [a] := Keep.refl h0 [a]
  show OwnGo p e below s (fun v h L => v = none ∧ Fr n0 L ∧ Keep h0 h [a] ∧ Fld Z h a "com/example/lushan/lushan/policy/MappingDecision" "request" "Lcom/example/lushan/lushan/policy/Mapping;" .null ∧ Fld Z h a "com/example/lushan/lushan/policy/MappingDecision" "conflict" "Lcom/example/lushan/lushan/policy/Mapping;" .null) ({ frames := 2, cells := 0, slots := 0, locals := 24 } : Room).cells ({ frames := 2, cells := 0, slots := 0, locals := 24 } : Room).slots _
  refine gs (S' := s₁.setTop (mkF m 0 #[.val (.ref a), .val .null, .val .null] [])) (fun tg kg => castTop (ef_66 m a) kg) ?_
  have c1 : ∀ tg, Steps p.tables e below (s₁.setTop (mkF m 1 #[.val (.ref a), .val .null, .val .null] [(.ref a)])) tg → Steps p.tables e below (s₁.setTop (mkF m 0 #[.val (.ref a), .val .null, .val .null] [])) tg := fun tg kg => by
    refine XS.aloadN X0.here hx rfl (hb hby d_prog_25_method_1_code_0) rfl rfl ?_
    show Steps p.tables e below (s₁.setTop (mkF m 1 #[.val (.ref a), .val .null, .val .null] [(.ref a)])) tg
    exact kg
  refine gs c1 ?_
  obtain ⟨_, _, ⟨T2, L2, k2, n2⟩, -, X2, ⟨Lc2, hQ2, l2, y2, z2⟩, st2⟩ := X0.specialBack hx (y := (⟨"java/lang/Record", "<init>", "()V"⟩ : MethodName)) rfl hown (mvT hZ (hw _ (List.mem_of_getElem? (i := 67) rfl))) (mvT hZ (hw _ (List.mem_of_getElem? (i := 41) rfl))) (mvT hZ (hw _ (List.mem_of_getElem? (i := 44) rfl))) (by decide) (backC (W := 0) (rm_rec l Z a0 hw [] a h0 n0 Z0 O0 ) hZ (hw _ (List.mem_of_getElem? (i := 44) rfl)) (hw _ (List.mem_of_getElem? (i := 43) rfl)) (by decide) (by decide)) (g := (mkF m 1 #[.val (.ref a), .val .null, .val .null] [(.ref a)])) rfl (by rw [hml]; rfl) (Steps.refl _) (a := a) (argsL := []) (rest := []) (lenOf pd_33 rfl) rfl (by show 2 * 0 + _ ≤ _; exact Nat.le_of_eq rfl) (hb hby d_prog_25_method_1_code_1) (fun _ _ => ⟨rfl, e0, (by decide : 0 + 0 ≤ _), (by decide : 0 + 0 ≤ _)⟩)
  dsimp only [Pt.U, Pt.locs, Pt.cells, Pt.slots] at X2 l2 y2 z2 st2 hQ2
  subst l2 y2 z2
  obtain ⟨rfl, N2q, K2q⟩ := hQ2
  have N2 := Fr.app N0 N2q
  have Z3 : n0 ≤ T2.heap.size := Nat.le_trans Z0 K2q.1
  have O3 : Old Z n0 T2.heap := O0.keep K2q all0
  have K3 : Keep h0 T2.heap [a] := K0.trans K2q all0
  refine gs (fun _ k => st2.trans k) ?_
  show OwnGo p e below s _ _ _ (T2.setTop (mkF m 4 #[.val (.ref a), .val .null, .val .null] []))
  have c4 : ∀ tg, Steps p.tables e below (T2.setTop (mkF m 6 #[.val (.ref a), .val .null, .val .null] [.null, (.ref a)])) tg → Steps p.tables e below (T2.setTop (mkF m 4 #[.val (.ref a), .val .null, .val .null] [])) tg := fun tg kg => by
    refine XS.aloadN X2.here hx rfl (hb hby d_prog_25_method_1_code_4) rfl rfl ?_
    show Steps p.tables e below (T2.setTop (mkF m 5 #[.val (.ref a), .val .null, .val .null] [(.ref a)])) tg
    refine XS.aloadN X2.here hx rfl (hb hby d_prog_25_method_1_code_5) rfl rfl ?_
    show Steps p.tables e below (T2.setTop (mkF m 6 #[.val (.ref a), .val .null, .val .null] [.null, (.ref a)])) tg
    exact kg
  refine gs c4 ?_
  have f5 := (F_0.keep K2q nin0)
  have f6 := (E_a.keep K2q)
  obtain ⟨T7, h7, X7, e7, W7, st7⟩ := putF X2 hx hZ hown (host := "") (Or.inl (hw _ (List.mem_of_getElem? (i := 68) rfl))) Via.refl rfl f5 f6 (Or.inr ⟨(hw _ (List.mem_of_getElem? (i := 69) rfl)), rfl, hnm⟩) (hw _ (List.mem_of_getElem? (i := 62) rfl)) (ty := (.object "com/example/lushan/lushan/policy/Mapping")) (by decide) rfl rfl (g := (mkF m 6 #[.val (.ref a), .val .null, .val .null] [.null, (.ref a)])) rfl rfl (hb hby d_prog_25_method_1_code_6)
  have N7 := Fr.snoc X7 N2 g_a
  have Fw7 := f5.same W7
  have Z8 : n0 ≤ h7.size := Nat.le_trans Z3 (Keep.of_wr W7).1
  have O8 : Old Z n0 h7 := O3.wr W7 g_a
  have K8 : Keep h0 h7 [a] := K3.wr W7 (Or.inl (List.mem_of_getElem? (i := 0) rfl))
  refine gs st7 ?_
  show OwnGo p e below s _ _ _ (T7.setTop (mkF m 9 #[.val (.ref a), .val .null, .val .null] []))
  have c9 : ∀ tg, Steps p.tables e below (T7.setTop (mkF m 11 #[.val (.ref a), .val .null, .val .null] [.null, (.ref a)])) tg → Steps p.tables e below (T7.setTop (mkF m 9 #[.val (.ref a), .val .null, .val .null] [])) tg := fun tg kg => by
    refine XS.aloadN X7.here hx rfl (hb hby d_prog_25_method_1_code_9) rfl rfl ?_
    show Steps p.tables e below (T7.setTop (mkF m 10 #[.val (.ref a), .val .null, .val .null] [(.ref a)])) tg
    refine XS.aloadN X7.here hx rfl (hb hby d_prog_25_method_1_code_10) rfl rfl ?_
    show Steps p.tables e below (T7.setTop (mkF m 11 #[.val (.ref a), .val .null, .val .null] [.null, (.ref a)])) tg
    exact kg
  refine gs c9 ?_
  have f10 := ((F_1.keep K2q nin0).other W7 (Or.inr (slot_ne (Or.inr (hw _ (List.mem_of_getElem? (i := 71) rfl))) (Or.inr (hw _ (List.mem_of_getElem? (i := 69) rfl))) (by decide) (t := (.object "com/example/lushan/lushan/policy/Mapping")) (t' := (.object "com/example/lushan/lushan/policy/Mapping")) (by decide) (by decide))))
  have f11 := (f6.wr W7)
  obtain ⟨T12, h12, X12, e12, W12, st12⟩ := putF X7 hx hZ hown (host := "") (Or.inl (hw _ (List.mem_of_getElem? (i := 70) rfl))) Via.refl e7 f10 f11 (Or.inr ⟨(hw _ (List.mem_of_getElem? (i := 71) rfl)), rfl, hnm⟩) (hw _ (List.mem_of_getElem? (i := 62) rfl)) (ty := (.object "com/example/lushan/lushan/policy/Mapping")) (by decide) rfl rfl (g := (mkF m 11 #[.val (.ref a), .val .null, .val .null] [.null, (.ref a)])) rfl rfl (hb hby d_prog_25_method_1_code_11)
  have N12 := Fr.snoc X12 N7 g_a
  have Fw12 := f10.same W12
  have Z13 : n0 ≤ h12.size := Nat.le_trans Z8 (Keep.of_wr W12).1
  have O13 : Old Z n0 h12 := O8.wr W12 g_a
  have K13 : Keep h0 h12 [a] := K8.wr W12 (Or.inl (List.mem_of_getElem? (i := 0) rfl))
  refine gs st12 ?_
  show OwnGo p e below s _ _ _ (T12.setTop (mkF m 14 #[.val (.ref a), .val .null, .val .null] []))
  have f14 := (Fw7.other W12 (Or.inr (slot_ne (Or.inr (hw _ (List.mem_of_getElem? (i := 69) rfl))) (Or.inr (hw _ (List.mem_of_getElem? (i := 71) rfl))) (by decide) (t := (.object "com/example/lushan/lushan/policy/Mapping")) (t' := (.object "com/example/lushan/lushan/policy/Mapping")) (by decide) (by decide))))
  refine gout (v := none) X12 Bd.notSynchronized (fun _ => rfl) (by decide) (by decide) ?_ (fun fs hr => X12.returnOut hx Bd.returns (hb hby d_prog_25_method_1_code_14) hr)
  rw [e12]
  exact ⟨rfl, N12, K13, f14, Fw12⟩
theorem ef_67 (m : MethodId) (x0 : Addr) : entryFrame m #[(.ref x0)] 1 = mkF m 0 #[.val (.ref x0)] [] := by first | (simp [entryFrame, mkF, argsToLocals, Value.category]; done) | rfl
theorem d_prog_25_method_2_code_0 : decode prog_25_method_2_code 0 = .ok (.aload_n 0, 1) := by decide +kernel
theorem d_prog_25_method_2_code_1 : decode prog_25_method_2_code 1 = .ok (.getfield 13, 3) := by decide +kernel
theorem d_prog_25_method_2_code_4 : decode prog_25_method_2_code 4 = .ok (.ifnonnull 7, 3) := by decide +kernel
theorem d_prog_25_method_2_code_11 : decode prog_25_method_2_code 11 = .ok (.iconst 0, 1) := by decide +kernel
theorem d_prog_25_method_2_code_12 : decode prog_25_method_2_code 12 = .ok (.ireturn, 1) := by decide +kernel
set_option maxRecDepth 65536 in
set_option maxHeartbeats 40000000 in
theorem rm_acc_ref (l : Launch) (Z : State) (a0 : Array Value) (hw : ∀ d ∈ tables_1, d.before a0 Z = true) (ws : List Jvm.Cond) (a : Addr) (b : Addr) (h0 : Heap) (n0 : Nat) (Z0 : n0 ≤ h0.size) (O0 : Old Z n0 h0) (F_c : Fld Z h0 a "com/example/lushan/lushan/policy/MappingDecision" "conflict" "Lcom/example/lushan/lushan/policy/Mapping;" (.ref b)) :
    Ctr l Z (⟨"com/example/lushan/lushan/policy/MappingDecision", "accepted", "()Z"⟩ : MethodName) prog_25_method_2_code 1 ((Option.some Jvm.ClassFile.FieldType.boolean)) ws ({ frames := 0, cells := 0, slots := 0, locals := 0 } : Room) #[(.ref a)] h0 (fun v h L => v = some (.int 0) ∧ Fr n0 L ∧ Keep h0 h []) := by
  refine Ctr.of (MetFree.of_bodySF (plainFor_of_name pn_63) hisR ?_)
  intro p e s m args below meth c s₁ Bd hml0 hP hK
  obtain ⟨rfl, hZ, hh⟩ := hP
  have hx := Bd.exec
  have hby := Bd.bytes
  have hml : c.maxLocals = 1 := hml0
  have hown : s.vm.findClass "com/example/lushan/lushan/policy/MappingDecision" = some m.cls := findClass_of_methodNamed Bd.named
  have hnm := (name_of_methodNamed Bd.named Bd.method).1
  have X0 : Stand p l e ({ frames := 0, cells := 0, slots := 0, locals := 0 } : Room) s m #[(.ref a)] below meth c s₁ [] 0 0 := Stand.of_body Bd
  have e0 : s₁.heap = h0 := by rw [← hh, Bd.state]; rfl
  have N0 := Fr.nil n0
  have K0 : Keep h0 h0 [] := Keep.refl h0 []
  show OwnGo p e below s (fun v h L => v = some (.int 0) ∧ Fr n0 L ∧ Keep h0 h []) ({ frames := 0, cells := 0, slots := 0, locals := 0 } : Room).cells ({ frames := 0, cells := 0, slots := 0, locals := 0 } : Room).slots _
  refine gs (S' := s₁.setTop (mkF m 0 #[.val (.ref a)] [])) (fun tg kg => castTop (ef_67 m a) kg) ?_
  have c1 : ∀ tg, Steps p.tables e below (s₁.setTop (mkF m 1 #[.val (.ref a)] [(.ref a)])) tg → Steps p.tables e below (s₁.setTop (mkF m 0 #[.val (.ref a)] [])) tg := fun tg kg => by
    refine XS.aloadN X0.here hx rfl (hb hby d_prog_25_method_2_code_0) rfl rfl ?_
    show Steps p.tables e below (s₁.setTop (mkF m 1 #[.val (.ref a)] [(.ref a)])) tg
    exact kg
  refine gs c1 ?_
  obtain ⟨T2, X2, e2, st2⟩ := getF X0 hx hZ hown (host := "") (Or.inl (hw _ (List.mem_of_getElem? (i := 70) rfl))) Via.refl e0 F_c (g := (mkF m 1 #[.val (.ref a)] [(.ref a)])) rfl rfl (hb hby d_prog_25_method_2_code_1)
  refine gs st2 ?_
  show OwnGo p e below s _ _ _ (T2.setTop (mkF m 4 #[.val (.ref a)] [(.ref b)]))
  have c3 : ∀ tg, Steps p.tables e below (T2.setTop (mkF m 12 #[.val (.ref a)] [(.int (0 : Int32))])) tg → Steps p.tables e below (T2.setTop (mkF m 4 #[.val (.ref a)] [(.ref b)])) tg := fun tg kg => by
    refine XS.ifnonnullYes X2.here hx rfl (pc0 := 4) (pc' := 11) rfl (hb hby d_prog_25_method_2_code_4) rfl (by decide) (by decide) ?_
    show Steps p.tables e below (T2.setTop (mkF m 11 #[.val (.ref a)] [])) tg
    refine XS.iconst X2.here hx rfl (hb hby d_prog_25_method_2_code_11) ?_
    show Steps p.tables e below (T2.setTop (mkF m 12 #[.val (.ref a)] [(.int (0 : Int32))])) tg
    exact kg
  refine gs c3 ?_
  refine gout (v := some (.int (0 : Int32))) X2 Bd.notSynchronized (fun h => by rw [Bd.returns] at h; cases h) (by decide) (by decide) ?_ (fun fs hr => retN X2 hx (t := .boolean) Bd.returns (by simp) (hb hby d_prog_25_method_2_code_12) hr)
  rw [e2]
  exact ⟨rfl, N0, K0⟩
theorem ef_73 (m : MethodId) (x0 : Addr) : entryFrame m #[(.ref x0)] 1 = mkF m 0 #[.val (.ref x0)] [] := by first | (simp [entryFrame, mkF, argsToLocals, Value.category]; done) | rfl
theorem d_prog_25_method_2_code_7 : decode prog_25_method_2_code 7 = .ok (.iconst 1, 1) := by decide +kernel
theorem d_prog_25_method_2_code_8 : decode prog_25_method_2_code 8 = .ok (.goto 4, 3) := by decide +kernel
set_option maxRecDepth 65536 in
set_option maxHeartbeats 40000000 in
theorem rm_acc_null (l : Launch) (Z : State) (a0 : Array Value) (hw : ∀ d ∈ tables_1, d.before a0 Z = true) (ws : List Jvm.Cond) (a : Addr) (h0 : Heap) (n0 : Nat) (Z0 : n0 ≤ h0.size) (O0 : Old Z n0 h0) (F_c : Fld Z h0 a "com/example/lushan/lushan/policy/MappingDecision" "conflict" "Lcom/example/lushan/lushan/policy/Mapping;" .null) :
    Ctr l Z (⟨"com/example/lushan/lushan/policy/MappingDecision", "accepted", "()Z"⟩ : MethodName) prog_25_method_2_code 1 ((Option.some Jvm.ClassFile.FieldType.boolean)) ws ({ frames := 0, cells := 0, slots := 0, locals := 0 } : Room) #[(.ref a)] h0 (fun v h L => v = some (.int 1) ∧ Fr n0 L ∧ Keep h0 h []) := by
  refine Ctr.of (MetFree.of_bodySF (plainFor_of_name pn_63) hisR ?_)
  intro p e s m args below meth c s₁ Bd hml0 hP hK
  obtain ⟨rfl, hZ, hh⟩ := hP
  have hx := Bd.exec
  have hby := Bd.bytes
  have hml : c.maxLocals = 1 := hml0
  have hown : s.vm.findClass "com/example/lushan/lushan/policy/MappingDecision" = some m.cls := findClass_of_methodNamed Bd.named
  have hnm := (name_of_methodNamed Bd.named Bd.method).1
  have X0 : Stand p l e ({ frames := 0, cells := 0, slots := 0, locals := 0 } : Room) s m #[(.ref a)] below meth c s₁ [] 0 0 := Stand.of_body Bd
  have e0 : s₁.heap = h0 := by rw [← hh, Bd.state]; rfl
  have N0 := Fr.nil n0
  have K0 : Keep h0 h0 [] := Keep.refl h0 []
  show OwnGo p e below s (fun v h L => v = some (.int 1) ∧ Fr n0 L ∧ Keep h0 h []) ({ frames := 0, cells := 0, slots := 0, locals := 0 } : Room).cells ({ frames := 0, cells := 0, slots := 0, locals := 0 } : Room).slots _
  refine gs (S' := s₁.setTop (mkF m 0 #[.val (.ref a)] [])) (fun tg kg => castTop (ef_73 m a) kg) ?_
  have c1 : ∀ tg, Steps p.tables e below (s₁.setTop (mkF m 1 #[.val (.ref a)] [(.ref a)])) tg → Steps p.tables e below (s₁.setTop (mkF m 0 #[.val (.ref a)] [])) tg := fun tg kg => by
    refine XS.aloadN X0.here hx rfl (hb hby d_prog_25_method_2_code_0) rfl rfl ?_
    show Steps p.tables e below (s₁.setTop (mkF m 1 #[.val (.ref a)] [(.ref a)])) tg
    exact kg
  refine gs c1 ?_
  obtain ⟨T2, X2, e2, st2⟩ := getF X0 hx hZ hown (host := "") (Or.inl (hw _ (List.mem_of_getElem? (i := 70) rfl))) Via.refl e0 F_c (g := (mkF m 1 #[.val (.ref a)] [(.ref a)])) rfl rfl (hb hby d_prog_25_method_2_code_1)
  refine gs st2 ?_
  show OwnGo p e below s _ _ _ (T2.setTop (mkF m 4 #[.val (.ref a)] [.null]))
  have c3 : ∀ tg, Steps p.tables e below (T2.setTop (mkF m 12 #[.val (.ref a)] [(.int (1 : Int32))])) tg → Steps p.tables e below (T2.setTop (mkF m 4 #[.val (.ref a)] [.null])) tg := fun tg kg => by
    refine XS.ifnonnullNo X2.here hx rfl (hb hby d_prog_25_method_2_code_4) rfl ?_
    show Steps p.tables e below (T2.setTop (mkF m 7 #[.val (.ref a)] [])) tg
    refine XS.iconst X2.here hx rfl (hb hby d_prog_25_method_2_code_7) ?_
    show Steps p.tables e below (T2.setTop (mkF m 8 #[.val (.ref a)] [(.int (1 : Int32))])) tg
    refine XS.goto X2.here hx rfl (pc0 := 8) (pc' := 12) rfl (hb hby d_prog_25_method_2_code_8) (by decide) (by decide) ?_
    show Steps p.tables e below (T2.setTop (mkF m 12 #[.val (.ref a)] [(.int (1 : Int32))])) tg
    exact kg
  refine gs c3 ?_
  refine gout (v := some (.int (1 : Int32))) X2 Bd.notSynchronized (fun h => by rw [Bd.returns] at h; cases h) (by decide) (by decide) ?_ (fun fs hr => retN X2 hx (t := .boolean) Bd.returns (by simp) (hb hby d_prog_25_method_2_code_12) hr)
  rw [e2]
  exact ⟨rfl, N0, K0⟩
theorem ef_76 (m : MethodId) (x0 : Int32) (x1 : Int32) (x2 : Int32) (x3 : Int32) (x4 : Int32) : entryFrame m #[(.int x0), (.int x1), (.int x2), (.int x3), (.int x4)] maxLocals = mkF m 0 #[.val (.int x0), .val (.int x1), .val (.int x2), .val (.int x3), .val (.int x4), .unset, .unset, .unset, .unset, .unset, .unset, .unset, .unset, .unset, .unset, .unset] [] := by first | (simp [entryFrame, mkF, argsToLocals, Value.category, maxLocals]; done) | rfl
theorem pd_77 : parseMethodDescriptor "(II)Ljava/lang/String;" = some ⟨[.int, .int], some (.object "java/lang/String")⟩ := by decide +kernel
theorem pd_78 : parseMethodDescriptor "(Ljava/lang/String;Ljava/lang/String;)V" = some ⟨[(.object "java/lang/String"), (.object "java/lang/String")], none⟩ := by decide +kernel
theorem pd_79 : parseMethodDescriptor "(Lcom/example/lushan/lushan/policy/TenantRole;Lcom/example/lushan/lushan/policy/TenantRole;)V" = some ⟨[(.object "com/example/lushan/lushan/policy/TenantRole"), (.object "com/example/lushan/lushan/policy/TenantRole")], none⟩ := by decide +kernel
theorem pd_80 : parseMethodDescriptor "(Lcom/example/lushan/lushan/policy/Mapping;Lcom/example/lushan/lushan/policy/Mapping;)V" = some ⟨[(.object "com/example/lushan/lushan/policy/Mapping"), (.object "com/example/lushan/lushan/policy/Mapping")], none⟩ := by decide +kernel
theorem pd_81 : parseMethodDescriptor "()Z" = some ⟨[], some .boolean⟩ := by decide +kernel
set_option maxRecDepth 65536 in
set_option maxHeartbeats 40000000 in
theorem rm_law (l : Launch) (Z : State) (a0 : Array Value) (hw : ∀ d ∈ tables_1, d.before a0 Z = true) (ws : List Jvm.Cond) (i0 : Int32) (i1 : Int32) (i2 : Int32) (i3 : Int32) (i4 : Int32) (z : Int32) (h0 : Heap) (n0 : Nat) (Z0 : n0 ≤ h0.size) (O0 : Old Z n0 h0) (S0 : Sta Z Z.heap "java/lang/String" "COMPACT_STRINGS" "Z" (.int z)) (hz : ¬ z = 0) :
    Ctr l Z x code maxLocals ret ws room_1 #[(.int i0), (.int i1), (.int i2), (.int i3), (.int i4)] h0 (fun v h L => v = some (.int 1) ∧ Fr n0 L) := by
  refine Ctr.of (MetFree.of_bodySF (plainFor_of_name pn_29) hisR ?_)
  intro p e s m args below meth c s₁ Bd hml0 hP hK
  obtain ⟨rfl, hZ, hh⟩ := hP
  have hx := Bd.exec
  have hby := Bd.bytes
  have hml : c.maxLocals = 16 := hml0
  have hown : s.vm.findClass "com/example/lushan/lushan/policy/MappingDecisionAcceptedPinLaw" = some m.cls := findClass_of_methodNamed Bd.named
  have hnm := (name_of_methodNamed Bd.named Bd.method).1
  have X0 : Stand p l e room_1 s m #[(.int i0), (.int i1), (.int i2), (.int i3), (.int i4)] below meth c s₁ [] 0 0 := Stand.of_body Bd
  have e0 : s₁.heap = h0 := by rw [← hh, Bd.state]; rfl
  have N0 := Fr.nil n0
  have K0 : Keep h0 h0 [] := Keep.refl h0 []
  show OwnGo p e below s (fun v h L => v = some (.int 1) ∧ Fr n0 L) room_1.cells room_1.slots _
  refine gs (S' := s₁.setTop (mkF m 0 #[.val (.int i0), .val (.int i1), .val (.int i2), .val (.int i3), .val (.int i4), .unset, .unset, .unset, .unset, .unset, .unset, .unset, .unset, .unset, .unset, .unset] [])) (fun tg kg => castTop (ef_76 m i0 i1 i2 i3 i4) kg) ?_
  have mid1 : ∀ xa_1 xb_1 xc_1 : Int32, OwnGo p e below s (fun v h L => v = some (.int 1) ∧ Fr n0 L) room_1.cells room_1.slots (s₁.setTop (mkF m 39 #[.val (.int i0), .val (.int i1), .val (.int i2), .val (.int i3), .val (.int i4), .val (.int xa_1), .val (.int xb_1), .val (.int xc_1), .unset, .unset, .unset, .unset, .unset, .unset, .unset, .unset] [])) := by
    intro xa_1 xb_1 xc_1
    obtain ⟨T2, h2, X2, e2, E2, A2, D2, -, st2⟩ := newO X0 hx hZ hown (hw _ (List.mem_of_getElem? (i := 0) rfl)) (hw _ (List.mem_of_getElem? (i := 1) rfl)) (hw _ (List.mem_of_getElem? (i := 2) rfl)) e0 (g := (mkF m 39 #[.val (.int i0), .val (.int i1), .val (.int i2), .val (.int i3), .val (.int i4), .val (.int xa_1), .val (.int xb_1), .val (.int xc_1), .unset, .unset, .unset, .unset, .unset, .unset, .unset, .unset] [])) rfl (hb hby at_39) (by decide) (by decide)
    obtain ⟨b2, q2⟩ : ∃ z, z = h0.size := ⟨_, rfl⟩
    rw [← q2] at A2 D2 st2
    have g_b2 : n0 ≤ b2 := Nat.le_trans Z0 (Nat.le_of_eq q2.symm)
    have sz_b2 : h0.size ≤ b2 := Nat.le_trans K0.1 (Nat.le_of_eq q2.symm)
    have Z3 : n0 ≤ h2.size := Nat.le_trans Z0 E2.1
    have O3 : Old Z n0 h2 := O0.ext E2
    have K3 : Keep h0 h2 [] := K0.ext E2
    have F_tenant_b2 : Fld Z h2 b2 "com/example/lushan/lushan/policy/TenantRole" "tenant" "Ljava/lang/String;" .null := D2 (Or.inr (hw _ (List.mem_of_getElem? (i := 47) rfl))) (ty := (.object "java/lang/String")) (by decide)
    have F_role_b2 : Fld Z h2 b2 "com/example/lushan/lushan/policy/TenantRole" "role" "Ljava/lang/String;" .null := D2 (Or.inr (hw _ (List.mem_of_getElem? (i := 49) rfl))) (ty := (.object "java/lang/String")) (by decide)
    refine gs st2 ?_
    show OwnGo p e below s _ _ _ (T2.setTop (mkF m 42 #[.val (.int i0), .val (.int i1), .val (.int i2), .val (.int i3), .val (.int i4), .val (.int xa_1), .val (.int xb_1), .val (.int xc_1), .unset, .unset, .unset, .unset, .unset, .unset, .unset, .unset] [(.ref b2)]))
    have c4 : ∀ tg, Steps p.tables e below (T2.setTop (mkF m 48 #[.val (.int i0), .val (.int i1), .val (.int i2), .val (.int i3), .val (.int i4), .val (.int xa_1), .val (.int xb_1), .val (.int xc_1), .unset, .unset, .unset, .unset, .unset, .unset, .unset, .unset] [(.int ((i1.toUInt32 >>> ((8 : Int32) &&& 31).toUInt32).toInt32)), (.int i1), (.ref b2), (.ref b2)])) tg → Steps p.tables e below (T2.setTop (mkF m 42 #[.val (.int i0), .val (.int i1), .val (.int i2), .val (.int i3), .val (.int i4), .val (.int xa_1), .val (.int xb_1), .val (.int xc_1), .unset, .unset, .unset, .unset, .unset, .unset, .unset, .unset] [(.ref b2)])) tg := fun tg kg => by
      refine XS.dup X2.here hx rfl (hb hby at_42) rfl rfl ?_
      show Steps p.tables e below (T2.setTop (mkF m 43 #[.val (.int i0), .val (.int i1), .val (.int i2), .val (.int i3), .val (.int i4), .val (.int xa_1), .val (.int xb_1), .val (.int xc_1), .unset, .unset, .unset, .unset, .unset, .unset, .unset, .unset] [(.ref b2), (.ref b2)])) tg
      refine XS.iloadN X2.here hx rfl (hb hby at_43) rfl ?_
      show Steps p.tables e below (T2.setTop (mkF m 44 #[.val (.int i0), .val (.int i1), .val (.int i2), .val (.int i3), .val (.int i4), .val (.int xa_1), .val (.int xb_1), .val (.int xc_1), .unset, .unset, .unset, .unset, .unset, .unset, .unset, .unset] [(.int i1), (.ref b2), (.ref b2)])) tg
      refine XS.iloadN X2.here hx rfl (hb hby at_44) rfl ?_
      show Steps p.tables e below (T2.setTop (mkF m 45 #[.val (.int i0), .val (.int i1), .val (.int i2), .val (.int i3), .val (.int i4), .val (.int xa_1), .val (.int xb_1), .val (.int xc_1), .unset, .unset, .unset, .unset, .unset, .unset, .unset, .unset] [(.int i1), (.int i1), (.ref b2), (.ref b2)])) tg
      refine XS.bipush X2.here hx rfl (hb hby at_45) ?_
      show Steps p.tables e below (T2.setTop (mkF m 47 #[.val (.int i0), .val (.int i1), .val (.int i2), .val (.int i3), .val (.int i4), .val (.int xa_1), .val (.int xb_1), .val (.int xc_1), .unset, .unset, .unset, .unset, .unset, .unset, .unset, .unset] [(.int (8 : Int32)), (.int i1), (.int i1), (.ref b2), (.ref b2)])) tg
      refine XS.iushr X2.here hx rfl (hb hby at_47) rfl ?_
      show Steps p.tables e below (T2.setTop (mkF m 48 #[.val (.int i0), .val (.int i1), .val (.int i2), .val (.int i3), .val (.int i4), .val (.int xa_1), .val (.int xb_1), .val (.int xc_1), .unset, .unset, .unset, .unset, .unset, .unset, .unset, .unset] [(.int ((i1.toUInt32 >>> ((8 : Int32) &&& 31).toUInt32).toInt32)), (.int i1), (.ref b2), (.ref b2)])) tg
      exact kg
    refine gs c4 ?_
    obtain ⟨_, _, ⟨T5, L5, k5, n5⟩, -, X5, ⟨Lc5, hQ5, l5, y5, z5⟩, st5⟩ := Jvm.LawKit.callS X2 hx (y := (⟨"com/example/lushan/lushan/policy/MappingDecisionAcceptedPinLaw", "str", "(II)Ljava/lang/String;"⟩ : MethodName)) hown (mvT hZ (hw _ (List.mem_of_getElem? (i := 3) rfl))) (mvT hZ (hw _ (List.mem_of_getElem? (i := 4) rfl))) (mvT hZ (hw _ (List.mem_of_getElem? (i := 5) rfl))) (mvT hZ (hw _ (List.mem_of_getElem? (i := 6) rfl))) (by decide) (backC (W := 2) (rm_str l Z a0 hw [] i1 ((i1.toUInt32 >>> ((8 : Int32) &&& 31).toUInt32).toInt32) z h2 n0 Z3 O3 S0 hz) hZ (hw _ (List.mem_of_getElem? (i := 6) rfl)) (hw _ (List.mem_of_getElem? (i := 5) rfl)) (by decide) (by decide)) (g := (mkF m 48 #[.val (.int i0), .val (.int i1), .val (.int i2), .val (.int i3), .val (.int i4), .val (.int xa_1), .val (.int xb_1), .val (.int xc_1), .unset, .unset, .unset, .unset, .unset, .unset, .unset, .unset] [(.int ((i1.toUInt32 >>> ((8 : Int32) &&& 31).toUInt32).toInt32)), (.int i1), (.ref b2), (.ref b2)])) rfl (by rw [hml]; rfl) (argsL := [(.int i1), (.int ((i1.toUInt32 >>> ((8 : Int32) &&& 31).toUInt32).toInt32))]) (rest := [(.ref b2), (.ref b2)]) (lenOf pd_77 rfl) rfl (by show 2 * 0 + _ ≤ _; exact Nat.le_of_eq rfl) (hb hby at_48) (fun _ _ => ⟨rfl, e2, (by decide : 1 + 3 ≤ _), (by decide : 2 + 8 ≤ _)⟩)
    dsimp only [Pt.U, Pt.locs, Pt.cells, Pt.slots] at X5 l5 y5 z5 st5 hQ5
    subst l5 y5 z5
    obtain ⟨a5, rfl, N5q, K5q⟩ := hQ5
    have N5 := Fr.app N0 N5q
    have Z6 : n0 ≤ T5.heap.size := Nat.le_trans Z3 K5q.1
    have O6 : Old Z n0 T5.heap := O3.keep K5q all0
    have K6 : Keep h0 T5.heap [] := K3.trans K5q all0
    refine gs st5 ?_
    show OwnGo p e below s _ _ _ (T5.setTop (mkF m 51 #[.val (.int i0), .val (.int i1), .val (.int i2), .val (.int i3), .val (.int i4), .val (.int xa_1), .val (.int xb_1), .val (.int xc_1), .unset, .unset, .unset, .unset, .unset, .unset, .unset, .unset] [(.ref a5), (.ref b2), (.ref b2)]))
    have c7 : ∀ tg, Steps p.tables e below (T5.setTop (mkF m 56 #[.val (.int i0), .val (.int i1), .val (.int i2), .val (.int i3), .val (.int i4), .val (.int xa_1), .val (.int xb_1), .val (.int xc_1), .unset, .unset, .unset, .unset, .unset, .unset, .unset, .unset] [(.int ((i2.toUInt32 >>> ((8 : Int32) &&& 31).toUInt32).toInt32)), (.int i2), (.ref a5), (.ref b2), (.ref b2)])) tg → Steps p.tables e below (T5.setTop (mkF m 51 #[.val (.int i0), .val (.int i1), .val (.int i2), .val (.int i3), .val (.int i4), .val (.int xa_1), .val (.int xb_1), .val (.int xc_1), .unset, .unset, .unset, .unset, .unset, .unset, .unset, .unset] [(.ref a5), (.ref b2), (.ref b2)])) tg := fun tg kg => by
      refine XS.iloadN X5.here hx rfl (hb hby at_51) rfl ?_
      show Steps p.tables e below (T5.setTop (mkF m 52 #[.val (.int i0), .val (.int i1), .val (.int i2), .val (.int i3), .val (.int i4), .val (.int xa_1), .val (.int xb_1), .val (.int xc_1), .unset, .unset, .unset, .unset, .unset, .unset, .unset, .unset] [(.int i2), (.ref a5), (.ref b2), (.ref b2)])) tg
      refine XS.iloadN X5.here hx rfl (hb hby at_52) rfl ?_
      show Steps p.tables e below (T5.setTop (mkF m 53 #[.val (.int i0), .val (.int i1), .val (.int i2), .val (.int i3), .val (.int i4), .val (.int xa_1), .val (.int xb_1), .val (.int xc_1), .unset, .unset, .unset, .unset, .unset, .unset, .unset, .unset] [(.int i2), (.int i2), (.ref a5), (.ref b2), (.ref b2)])) tg
      refine XS.bipush X5.here hx rfl (hb hby at_53) ?_
      show Steps p.tables e below (T5.setTop (mkF m 55 #[.val (.int i0), .val (.int i1), .val (.int i2), .val (.int i3), .val (.int i4), .val (.int xa_1), .val (.int xb_1), .val (.int xc_1), .unset, .unset, .unset, .unset, .unset, .unset, .unset, .unset] [(.int (8 : Int32)), (.int i2), (.int i2), (.ref a5), (.ref b2), (.ref b2)])) tg
      refine XS.iushr X5.here hx rfl (hb hby at_55) rfl ?_
      show Steps p.tables e below (T5.setTop (mkF m 56 #[.val (.int i0), .val (.int i1), .val (.int i2), .val (.int i3), .val (.int i4), .val (.int xa_1), .val (.int xb_1), .val (.int xc_1), .unset, .unset, .unset, .unset, .unset, .unset, .unset, .unset] [(.int ((i2.toUInt32 >>> ((8 : Int32) &&& 31).toUInt32).toInt32)), (.int i2), (.ref a5), (.ref b2), (.ref b2)])) tg
      exact kg
    refine gs c7 ?_
    obtain ⟨_, _, ⟨T8, L8, k8, n8⟩, -, X8, ⟨Lc8, hQ8, l8, y8, z8⟩, st8⟩ := Jvm.LawKit.callS X5 hx (y := (⟨"com/example/lushan/lushan/policy/MappingDecisionAcceptedPinLaw", "str", "(II)Ljava/lang/String;"⟩ : MethodName)) hown (mvT hZ (hw _ (List.mem_of_getElem? (i := 3) rfl))) (mvT hZ (hw _ (List.mem_of_getElem? (i := 4) rfl))) (mvT hZ (hw _ (List.mem_of_getElem? (i := 5) rfl))) (mvT hZ (hw _ (List.mem_of_getElem? (i := 6) rfl))) (by decide) (backC (W := 3) (rm_str l Z a0 hw [] i2 ((i2.toUInt32 >>> ((8 : Int32) &&& 31).toUInt32).toInt32) z T5.heap n0 Z6 O6 S0 hz) hZ (hw _ (List.mem_of_getElem? (i := 6) rfl)) (hw _ (List.mem_of_getElem? (i := 5) rfl)) (by decide) (by decide)) (g := (mkF m 56 #[.val (.int i0), .val (.int i1), .val (.int i2), .val (.int i3), .val (.int i4), .val (.int xa_1), .val (.int xb_1), .val (.int xc_1), .unset, .unset, .unset, .unset, .unset, .unset, .unset, .unset] [(.int ((i2.toUInt32 >>> ((8 : Int32) &&& 31).toUInt32).toInt32)), (.int i2), (.ref a5), (.ref b2), (.ref b2)])) rfl (by rw [hml]; rfl) (argsL := [(.int i2), (.int ((i2.toUInt32 >>> ((8 : Int32) &&& 31).toUInt32).toInt32))]) (rest := [(.ref a5), (.ref b2), (.ref b2)]) (lenOf pd_77 rfl) rfl (by show 2 * 0 + _ ≤ _; exact Nat.le_of_eq rfl) (hb hby at_56) (fun _ _ => ⟨rfl, rfl, (by decide : 4 + 3 ≤ _), (by decide : 10 + 8 ≤ _)⟩)
    dsimp only [Pt.U, Pt.locs, Pt.cells, Pt.slots] at X8 l8 y8 z8 st8 hQ8
    subst l8 y8 z8
    obtain ⟨a8, rfl, N8q, K8q⟩ := hQ8
    have N8 := Fr.app N5 N8q
    have Z9 : n0 ≤ T8.heap.size := Nat.le_trans Z6 K8q.1
    have O9 : Old Z n0 T8.heap := O6.keep K8q all0
    have K9 : Keep h0 T8.heap [] := K6.trans K8q all0
    refine gs st8 ?_
    show OwnGo p e below s _ _ _ (T8.setTop (mkF m 59 #[.val (.int i0), .val (.int i1), .val (.int i2), .val (.int i3), .val (.int i4), .val (.int xa_1), .val (.int xb_1), .val (.int xc_1), .unset, .unset, .unset, .unset, .unset, .unset, .unset, .unset] [(.ref a8), (.ref a5), (.ref b2), (.ref b2)]))
    have f10 := ((A2.keep K5q).keep K8q)
    have f11 := ((F_tenant_b2.keep K5q nin0).keep K8q nin0)
    have f12 := ((F_role_b2.keep K5q nin0).keep K8q nin0)
    obtain ⟨_, _, ⟨T13, L13, k13, n13⟩, -, X13, ⟨Lc13, hQ13, l13, y13, z13⟩, st13⟩ := X8.specialBack hx (y := (⟨"com/example/lushan/lushan/policy/TenantRole", "<init>", "(Ljava/lang/String;Ljava/lang/String;)V"⟩ : MethodName)) rfl hown (mvT hZ (hw _ (List.mem_of_getElem? (i := 37) rfl))) (mvT hZ (hw _ (List.mem_of_getElem? (i := 38) rfl))) (mvT hZ (hw _ (List.mem_of_getElem? (i := 39) rfl))) (by decide) (backC (W := 1) (rm_tr l Z a0 hw [] b2 a5 a8 T8.heap n0 Z9 O9 f10 f11 f12 g_b2) hZ (hw _ (List.mem_of_getElem? (i := 39) rfl)) (hw _ (List.mem_of_getElem? (i := 2) rfl)) (by decide) (by decide)) (g := (mkF m 59 #[.val (.int i0), .val (.int i1), .val (.int i2), .val (.int i3), .val (.int i4), .val (.int xa_1), .val (.int xb_1), .val (.int xc_1), .unset, .unset, .unset, .unset, .unset, .unset, .unset, .unset] [(.ref a8), (.ref a5), (.ref b2), (.ref b2)])) rfl (by rw [hml]; rfl) (Steps.refl _) (a := b2) (argsL := [(.ref a5), (.ref a8)]) (rest := [(.ref b2)]) (lenOf pd_78 rfl) rfl (by show 2 * 0 + _ ≤ _; exact Nat.le_of_eq rfl) (hb hby at_59) (fun _ _ => ⟨rfl, rfl, (by decide : 7 + 0 ≤ _), (by decide : 18 + 0 ≤ _)⟩)
    dsimp only [Pt.U, Pt.locs, Pt.cells, Pt.slots] at X13 l13 y13 z13 st13 hQ13
    subst l13 y13 z13
    obtain ⟨rfl, N13q, K13q, F13_0, F13_1⟩ := hQ13
    have N13 := Fr.app N8 N13q
    have Z14 : n0 ≤ T13.heap.size := Nat.le_trans Z9 K13q.1
    have O14 : Old Z n0 T13.heap := O9.keep K13q (allS g_b2 all0)
    have K14 : Keep h0 T13.heap [] := K9.trans K13q (allS (Or.inr sz_b2) all0)
    refine gs (fun _ k => st13.trans k) ?_
    show OwnGo p e below s _ _ _ (T13.setTop (mkF m 62 #[.val (.int i0), .val (.int i1), .val (.int i2), .val (.int i3), .val (.int i4), .val (.int xa_1), .val (.int xb_1), .val (.int xc_1), .unset, .unset, .unset, .unset, .unset, .unset, .unset, .unset] [(.ref b2)]))
    have c15 : ∀ tg, Steps p.tables e below (T13.setTop (mkF m 64 #[.val (.int i0), .val (.int i1), .val (.int i2), .val (.int i3), .val (.int i4), .val (.int xa_1), .val (.int xb_1), .val (.int xc_1), .val (.ref b2), .unset, .unset, .unset, .unset, .unset, .unset, .unset] [])) tg → Steps p.tables e below (T13.setTop (mkF m 62 #[.val (.int i0), .val (.int i1), .val (.int i2), .val (.int i3), .val (.int i4), .val (.int xa_1), .val (.int xb_1), .val (.int xc_1), .unset, .unset, .unset, .unset, .unset, .unset, .unset, .unset] [(.ref b2)])) tg := fun tg kg => by
      refine XS.astore X13.here hx rfl (hb hby at_62) rfl rfl (l' := #[.val (.int i0), .val (.int i1), .val (.int i2), .val (.int i3), .val (.int i4), .val (.int xa_1), .val (.int xb_1), .val (.int xc_1), .val (.ref b2), .unset, .unset, .unset, .unset, .unset, .unset, .unset]) rfl ?_
      show Steps p.tables e below (T13.setTop (mkF m 64 #[.val (.int i0), .val (.int i1), .val (.int i2), .val (.int i3), .val (.int i4), .val (.int xa_1), .val (.int xb_1), .val (.int xc_1), .val (.ref b2), .unset, .unset, .unset, .unset, .unset, .unset, .unset] [])) tg
      exact kg
    refine gs c15 ?_
    obtain ⟨T16, h16, X16, e16, E16, A16, D16, -, st16⟩ := newO X13 hx hZ hown (hw _ (List.mem_of_getElem? (i := 0) rfl)) (hw _ (List.mem_of_getElem? (i := 1) rfl)) (hw _ (List.mem_of_getElem? (i := 2) rfl)) rfl (g := (mkF m 64 #[.val (.int i0), .val (.int i1), .val (.int i2), .val (.int i3), .val (.int i4), .val (.int xa_1), .val (.int xb_1), .val (.int xc_1), .val (.ref b2), .unset, .unset, .unset, .unset, .unset, .unset, .unset] [])) rfl (hb hby at_64) (by decide) (by decide)
    obtain ⟨b16, q16⟩ : ∃ z, z = T13.heap.size := ⟨_, rfl⟩
    rw [← q16] at A16 D16 st16
    have g_b16 : n0 ≤ b16 := Nat.le_trans Z14 (Nat.le_of_eq q16.symm)
    have sz_b16 : h0.size ≤ b16 := Nat.le_trans K14.1 (Nat.le_of_eq q16.symm)
    have Z17 : n0 ≤ h16.size := Nat.le_trans Z14 E16.1
    have O17 : Old Z n0 h16 := O14.ext E16
    have K17 : Keep h0 h16 [] := K14.ext E16
    have F_tenant_b16 : Fld Z h16 b16 "com/example/lushan/lushan/policy/TenantRole" "tenant" "Ljava/lang/String;" .null := D16 (Or.inr (hw _ (List.mem_of_getElem? (i := 47) rfl))) (ty := (.object "java/lang/String")) (by decide)
    have F_role_b16 : Fld Z h16 b16 "com/example/lushan/lushan/policy/TenantRole" "role" "Ljava/lang/String;" .null := D16 (Or.inr (hw _ (List.mem_of_getElem? (i := 49) rfl))) (ty := (.object "java/lang/String")) (by decide)
    refine gs st16 ?_
    show OwnGo p e below s _ _ _ (T16.setTop (mkF m 67 #[.val (.int i0), .val (.int i1), .val (.int i2), .val (.int i3), .val (.int i4), .val (.int xa_1), .val (.int xb_1), .val (.int xc_1), .val (.ref b2), .unset, .unset, .unset, .unset, .unset, .unset, .unset] [(.ref b16)]))
    have c18 : ∀ tg, Steps p.tables e below (T16.setTop (mkF m 73 #[.val (.int i0), .val (.int i1), .val (.int i2), .val (.int i3), .val (.int i4), .val (.int xa_1), .val (.int xb_1), .val (.int xc_1), .val (.ref b2), .unset, .unset, .unset, .unset, .unset, .unset, .unset] [(.int ((i3.toUInt32 >>> ((8 : Int32) &&& 31).toUInt32).toInt32)), (.int i3), (.ref b16), (.ref b16)])) tg → Steps p.tables e below (T16.setTop (mkF m 67 #[.val (.int i0), .val (.int i1), .val (.int i2), .val (.int i3), .val (.int i4), .val (.int xa_1), .val (.int xb_1), .val (.int xc_1), .val (.ref b2), .unset, .unset, .unset, .unset, .unset, .unset, .unset] [(.ref b16)])) tg := fun tg kg => by
      refine XS.dup X16.here hx rfl (hb hby at_67) rfl rfl ?_
      show Steps p.tables e below (T16.setTop (mkF m 68 #[.val (.int i0), .val (.int i1), .val (.int i2), .val (.int i3), .val (.int i4), .val (.int xa_1), .val (.int xb_1), .val (.int xc_1), .val (.ref b2), .unset, .unset, .unset, .unset, .unset, .unset, .unset] [(.ref b16), (.ref b16)])) tg
      refine XS.iloadN X16.here hx rfl (hb hby at_68) rfl ?_
      show Steps p.tables e below (T16.setTop (mkF m 69 #[.val (.int i0), .val (.int i1), .val (.int i2), .val (.int i3), .val (.int i4), .val (.int xa_1), .val (.int xb_1), .val (.int xc_1), .val (.ref b2), .unset, .unset, .unset, .unset, .unset, .unset, .unset] [(.int i3), (.ref b16), (.ref b16)])) tg
      refine XS.iloadN X16.here hx rfl (hb hby at_69) rfl ?_
      show Steps p.tables e below (T16.setTop (mkF m 70 #[.val (.int i0), .val (.int i1), .val (.int i2), .val (.int i3), .val (.int i4), .val (.int xa_1), .val (.int xb_1), .val (.int xc_1), .val (.ref b2), .unset, .unset, .unset, .unset, .unset, .unset, .unset] [(.int i3), (.int i3), (.ref b16), (.ref b16)])) tg
      refine XS.bipush X16.here hx rfl (hb hby at_70) ?_
      show Steps p.tables e below (T16.setTop (mkF m 72 #[.val (.int i0), .val (.int i1), .val (.int i2), .val (.int i3), .val (.int i4), .val (.int xa_1), .val (.int xb_1), .val (.int xc_1), .val (.ref b2), .unset, .unset, .unset, .unset, .unset, .unset, .unset] [(.int (8 : Int32)), (.int i3), (.int i3), (.ref b16), (.ref b16)])) tg
      refine XS.iushr X16.here hx rfl (hb hby at_72) rfl ?_
      show Steps p.tables e below (T16.setTop (mkF m 73 #[.val (.int i0), .val (.int i1), .val (.int i2), .val (.int i3), .val (.int i4), .val (.int xa_1), .val (.int xb_1), .val (.int xc_1), .val (.ref b2), .unset, .unset, .unset, .unset, .unset, .unset, .unset] [(.int ((i3.toUInt32 >>> ((8 : Int32) &&& 31).toUInt32).toInt32)), (.int i3), (.ref b16), (.ref b16)])) tg
      exact kg
    refine gs c18 ?_
    obtain ⟨_, _, ⟨T19, L19, k19, n19⟩, -, X19, ⟨Lc19, hQ19, l19, y19, z19⟩, st19⟩ := Jvm.LawKit.callS X16 hx (y := (⟨"com/example/lushan/lushan/policy/MappingDecisionAcceptedPinLaw", "str", "(II)Ljava/lang/String;"⟩ : MethodName)) hown (mvT hZ (hw _ (List.mem_of_getElem? (i := 3) rfl))) (mvT hZ (hw _ (List.mem_of_getElem? (i := 4) rfl))) (mvT hZ (hw _ (List.mem_of_getElem? (i := 5) rfl))) (mvT hZ (hw _ (List.mem_of_getElem? (i := 6) rfl))) (by decide) (backC (W := 2) (rm_str l Z a0 hw [] i3 ((i3.toUInt32 >>> ((8 : Int32) &&& 31).toUInt32).toInt32) z h16 n0 Z17 O17 S0 hz) hZ (hw _ (List.mem_of_getElem? (i := 6) rfl)) (hw _ (List.mem_of_getElem? (i := 5) rfl)) (by decide) (by decide)) (g := (mkF m 73 #[.val (.int i0), .val (.int i1), .val (.int i2), .val (.int i3), .val (.int i4), .val (.int xa_1), .val (.int xb_1), .val (.int xc_1), .val (.ref b2), .unset, .unset, .unset, .unset, .unset, .unset, .unset] [(.int ((i3.toUInt32 >>> ((8 : Int32) &&& 31).toUInt32).toInt32)), (.int i3), (.ref b16), (.ref b16)])) rfl (by rw [hml]; rfl) (argsL := [(.int i3), (.int ((i3.toUInt32 >>> ((8 : Int32) &&& 31).toUInt32).toInt32))]) (rest := [(.ref b16), (.ref b16)]) (lenOf pd_77 rfl) rfl (by show 2 * 0 + _ ≤ _; exact Nat.le_of_eq rfl) (hb hby at_73) (fun _ _ => ⟨rfl, e16, (by decide : 8 + 3 ≤ _), (by decide : 20 + 8 ≤ _)⟩)
    dsimp only [Pt.U, Pt.locs, Pt.cells, Pt.slots] at X19 l19 y19 z19 st19 hQ19
    subst l19 y19 z19
    obtain ⟨a19, rfl, N19q, K19q⟩ := hQ19
    have N19 := Fr.app N13 N19q
    have Z20 : n0 ≤ T19.heap.size := Nat.le_trans Z17 K19q.1
    have O20 : Old Z n0 T19.heap := O17.keep K19q all0
    have K20 : Keep h0 T19.heap [] := K17.trans K19q all0
    refine gs st19 ?_
    show OwnGo p e below s _ _ _ (T19.setTop (mkF m 76 #[.val (.int i0), .val (.int i1), .val (.int i2), .val (.int i3), .val (.int i4), .val (.int xa_1), .val (.int xb_1), .val (.int xc_1), .val (.ref b2), .unset, .unset, .unset, .unset, .unset, .unset, .unset] [(.ref a19), (.ref b16), (.ref b16)]))
    have c21 : ∀ tg, Steps p.tables e below (T19.setTop (mkF m 83 #[.val (.int i0), .val (.int i1), .val (.int i2), .val (.int i3), .val (.int i4), .val (.int xa_1), .val (.int xb_1), .val (.int xc_1), .val (.ref b2), .unset, .unset, .unset, .unset, .unset, .unset, .unset] [(.int ((i4.toUInt32 >>> ((8 : Int32) &&& 31).toUInt32).toInt32)), (.int i4), (.ref a19), (.ref b16), (.ref b16)])) tg → Steps p.tables e below (T19.setTop (mkF m 76 #[.val (.int i0), .val (.int i1), .val (.int i2), .val (.int i3), .val (.int i4), .val (.int xa_1), .val (.int xb_1), .val (.int xc_1), .val (.ref b2), .unset, .unset, .unset, .unset, .unset, .unset, .unset] [(.ref a19), (.ref b16), (.ref b16)])) tg := fun tg kg => by
      refine XS.iload X19.here hx rfl (hb hby at_76) rfl ?_
      show Steps p.tables e below (T19.setTop (mkF m 78 #[.val (.int i0), .val (.int i1), .val (.int i2), .val (.int i3), .val (.int i4), .val (.int xa_1), .val (.int xb_1), .val (.int xc_1), .val (.ref b2), .unset, .unset, .unset, .unset, .unset, .unset, .unset] [(.int i4), (.ref a19), (.ref b16), (.ref b16)])) tg
      refine XS.iload X19.here hx rfl (hb hby at_78) rfl ?_
      show Steps p.tables e below (T19.setTop (mkF m 80 #[.val (.int i0), .val (.int i1), .val (.int i2), .val (.int i3), .val (.int i4), .val (.int xa_1), .val (.int xb_1), .val (.int xc_1), .val (.ref b2), .unset, .unset, .unset, .unset, .unset, .unset, .unset] [(.int i4), (.int i4), (.ref a19), (.ref b16), (.ref b16)])) tg
      refine XS.bipush X19.here hx rfl (hb hby at_80) ?_
      show Steps p.tables e below (T19.setTop (mkF m 82 #[.val (.int i0), .val (.int i1), .val (.int i2), .val (.int i3), .val (.int i4), .val (.int xa_1), .val (.int xb_1), .val (.int xc_1), .val (.ref b2), .unset, .unset, .unset, .unset, .unset, .unset, .unset] [(.int (8 : Int32)), (.int i4), (.int i4), (.ref a19), (.ref b16), (.ref b16)])) tg
      refine XS.iushr X19.here hx rfl (hb hby at_82) rfl ?_
      show Steps p.tables e below (T19.setTop (mkF m 83 #[.val (.int i0), .val (.int i1), .val (.int i2), .val (.int i3), .val (.int i4), .val (.int xa_1), .val (.int xb_1), .val (.int xc_1), .val (.ref b2), .unset, .unset, .unset, .unset, .unset, .unset, .unset] [(.int ((i4.toUInt32 >>> ((8 : Int32) &&& 31).toUInt32).toInt32)), (.int i4), (.ref a19), (.ref b16), (.ref b16)])) tg
      exact kg
    refine gs c21 ?_
    obtain ⟨_, _, ⟨T22, L22, k22, n22⟩, -, X22, ⟨Lc22, hQ22, l22, y22, z22⟩, st22⟩ := Jvm.LawKit.callS X19 hx (y := (⟨"com/example/lushan/lushan/policy/MappingDecisionAcceptedPinLaw", "str", "(II)Ljava/lang/String;"⟩ : MethodName)) hown (mvT hZ (hw _ (List.mem_of_getElem? (i := 3) rfl))) (mvT hZ (hw _ (List.mem_of_getElem? (i := 4) rfl))) (mvT hZ (hw _ (List.mem_of_getElem? (i := 5) rfl))) (mvT hZ (hw _ (List.mem_of_getElem? (i := 6) rfl))) (by decide) (backC (W := 3) (rm_str l Z a0 hw [] i4 ((i4.toUInt32 >>> ((8 : Int32) &&& 31).toUInt32).toInt32) z T19.heap n0 Z20 O20 S0 hz) hZ (hw _ (List.mem_of_getElem? (i := 6) rfl)) (hw _ (List.mem_of_getElem? (i := 5) rfl)) (by decide) (by decide)) (g := (mkF m 83 #[.val (.int i0), .val (.int i1), .val (.int i2), .val (.int i3), .val (.int i4), .val (.int xa_1), .val (.int xb_1), .val (.int xc_1), .val (.ref b2), .unset, .unset, .unset, .unset, .unset, .unset, .unset] [(.int ((i4.toUInt32 >>> ((8 : Int32) &&& 31).toUInt32).toInt32)), (.int i4), (.ref a19), (.ref b16), (.ref b16)])) rfl (by rw [hml]; rfl) (argsL := [(.int i4), (.int ((i4.toUInt32 >>> ((8 : Int32) &&& 31).toUInt32).toInt32))]) (rest := [(.ref a19), (.ref b16), (.ref b16)]) (lenOf pd_77 rfl) rfl (by show 2 * 0 + _ ≤ _; exact Nat.le_of_eq rfl) (hb hby at_83) (fun _ _ => ⟨rfl, rfl, (by decide : 11 + 3 ≤ _), (by decide : 28 + 8 ≤ _)⟩)
    dsimp only [Pt.U, Pt.locs, Pt.cells, Pt.slots] at X22 l22 y22 z22 st22 hQ22
    subst l22 y22 z22
    obtain ⟨a22, rfl, N22q, K22q⟩ := hQ22
    have N22 := Fr.app N19 N22q
    have Z23 : n0 ≤ T22.heap.size := Nat.le_trans Z20 K22q.1
    have O23 : Old Z n0 T22.heap := O20.keep K22q all0
    have K23 : Keep h0 T22.heap [] := K20.trans K22q all0
    refine gs st22 ?_
    show OwnGo p e below s _ _ _ (T22.setTop (mkF m 86 #[.val (.int i0), .val (.int i1), .val (.int i2), .val (.int i3), .val (.int i4), .val (.int xa_1), .val (.int xb_1), .val (.int xc_1), .val (.ref b2), .unset, .unset, .unset, .unset, .unset, .unset, .unset] [(.ref a22), (.ref a19), (.ref b16), (.ref b16)]))
    have f24 := ((A16.keep K19q).keep K22q)
    have f25 := ((F_tenant_b16.keep K19q nin0).keep K22q nin0)
    have f26 := ((F_role_b16.keep K19q nin0).keep K22q nin0)
    obtain ⟨_, _, ⟨T27, L27, k27, n27⟩, -, X27, ⟨Lc27, hQ27, l27, y27, z27⟩, st27⟩ := X22.specialBack hx (y := (⟨"com/example/lushan/lushan/policy/TenantRole", "<init>", "(Ljava/lang/String;Ljava/lang/String;)V"⟩ : MethodName)) rfl hown (mvT hZ (hw _ (List.mem_of_getElem? (i := 37) rfl))) (mvT hZ (hw _ (List.mem_of_getElem? (i := 38) rfl))) (mvT hZ (hw _ (List.mem_of_getElem? (i := 39) rfl))) (by decide) (backC (W := 1) (rm_tr l Z a0 hw [] b16 a19 a22 T22.heap n0 Z23 O23 f24 f25 f26 g_b16) hZ (hw _ (List.mem_of_getElem? (i := 39) rfl)) (hw _ (List.mem_of_getElem? (i := 2) rfl)) (by decide) (by decide)) (g := (mkF m 86 #[.val (.int i0), .val (.int i1), .val (.int i2), .val (.int i3), .val (.int i4), .val (.int xa_1), .val (.int xb_1), .val (.int xc_1), .val (.ref b2), .unset, .unset, .unset, .unset, .unset, .unset, .unset] [(.ref a22), (.ref a19), (.ref b16), (.ref b16)])) rfl (by rw [hml]; rfl) (Steps.refl _) (a := b16) (argsL := [(.ref a19), (.ref a22)]) (rest := [(.ref b16)]) (lenOf pd_78 rfl) rfl (by show 2 * 0 + _ ≤ _; exact Nat.le_of_eq rfl) (hb hby at_86) (fun _ _ => ⟨rfl, rfl, (by decide : 14 + 0 ≤ _), (by decide : 36 + 0 ≤ _)⟩)
    dsimp only [Pt.U, Pt.locs, Pt.cells, Pt.slots] at X27 l27 y27 z27 st27 hQ27
    subst l27 y27 z27
    obtain ⟨rfl, N27q, K27q, F27_0, F27_1⟩ := hQ27
    have N27 := Fr.app N22 N27q
    have Z28 : n0 ≤ T27.heap.size := Nat.le_trans Z23 K27q.1
    have O28 : Old Z n0 T27.heap := O23.keep K27q (allS g_b16 all0)
    have K28 : Keep h0 T27.heap [] := K23.trans K27q (allS (Or.inr sz_b16) all0)
    refine gs (fun _ k => st27.trans k) ?_
    show OwnGo p e below s _ _ _ (T27.setTop (mkF m 89 #[.val (.int i0), .val (.int i1), .val (.int i2), .val (.int i3), .val (.int i4), .val (.int xa_1), .val (.int xb_1), .val (.int xc_1), .val (.ref b2), .unset, .unset, .unset, .unset, .unset, .unset, .unset] [(.ref b16)]))
    have c29 : ∀ tg, Steps p.tables e below (T27.setTop (mkF m 91 #[.val (.int i0), .val (.int i1), .val (.int i2), .val (.int i3), .val (.int i4), .val (.int xa_1), .val (.int xb_1), .val (.int xc_1), .val (.ref b2), .val (.ref b16), .unset, .unset, .unset, .unset, .unset, .unset] [])) tg → Steps p.tables e below (T27.setTop (mkF m 89 #[.val (.int i0), .val (.int i1), .val (.int i2), .val (.int i3), .val (.int i4), .val (.int xa_1), .val (.int xb_1), .val (.int xc_1), .val (.ref b2), .unset, .unset, .unset, .unset, .unset, .unset, .unset] [(.ref b16)])) tg := fun tg kg => by
      refine XS.astore X27.here hx rfl (hb hby at_89) rfl rfl (l' := #[.val (.int i0), .val (.int i1), .val (.int i2), .val (.int i3), .val (.int i4), .val (.int xa_1), .val (.int xb_1), .val (.int xc_1), .val (.ref b2), .val (.ref b16), .unset, .unset, .unset, .unset, .unset, .unset]) rfl ?_
      show Steps p.tables e below (T27.setTop (mkF m 91 #[.val (.int i0), .val (.int i1), .val (.int i2), .val (.int i3), .val (.int i4), .val (.int xa_1), .val (.int xb_1), .val (.int xc_1), .val (.ref b2), .val (.ref b16), .unset, .unset, .unset, .unset, .unset, .unset] [])) tg
      exact kg
    refine gs c29 ?_
    obtain ⟨T30, h30, X30, e30, E30, A30, D30, -, st30⟩ := newO X27 hx hZ hown (hw _ (List.mem_of_getElem? (i := 50) rfl)) (hw _ (List.mem_of_getElem? (i := 51) rfl)) (hw _ (List.mem_of_getElem? (i := 52) rfl)) rfl (g := (mkF m 91 #[.val (.int i0), .val (.int i1), .val (.int i2), .val (.int i3), .val (.int i4), .val (.int xa_1), .val (.int xb_1), .val (.int xc_1), .val (.ref b2), .val (.ref b16), .unset, .unset, .unset, .unset, .unset, .unset] [])) rfl (hb hby at_91) (by decide) (by decide)
    obtain ⟨b30, q30⟩ : ∃ z, z = T27.heap.size := ⟨_, rfl⟩
    rw [← q30] at A30 D30 st30
    have g_b30 : n0 ≤ b30 := Nat.le_trans Z28 (Nat.le_of_eq q30.symm)
    have sz_b30 : h0.size ≤ b30 := Nat.le_trans K28.1 (Nat.le_of_eq q30.symm)
    have Z31 : n0 ≤ h30.size := Nat.le_trans Z28 E30.1
    have O31 : Old Z n0 h30 := O28.ext E30
    have K31 : Keep h0 h30 [] := K28.ext E30
    have F_from_b30 : Fld Z h30 b30 "com/example/lushan/lushan/policy/Mapping" "from" "Lcom/example/lushan/lushan/policy/TenantRole;" .null := D30 (Or.inr (hw _ (List.mem_of_getElem? (i := 58) rfl))) (ty := (.object "com/example/lushan/lushan/policy/TenantRole")) (by decide)
    have F_to_b30 : Fld Z h30 b30 "com/example/lushan/lushan/policy/Mapping" "to" "Lcom/example/lushan/lushan/policy/TenantRole;" .null := D30 (Or.inr (hw _ (List.mem_of_getElem? (i := 60) rfl))) (ty := (.object "com/example/lushan/lushan/policy/TenantRole")) (by decide)
    refine gs st30 ?_
    show OwnGo p e below s _ _ _ (T30.setTop (mkF m 94 #[.val (.int i0), .val (.int i1), .val (.int i2), .val (.int i3), .val (.int i4), .val (.int xa_1), .val (.int xb_1), .val (.int xc_1), .val (.ref b2), .val (.ref b16), .unset, .unset, .unset, .unset, .unset, .unset] [(.ref b30)]))
    have c32 : ∀ tg, Steps p.tables e below (T30.setTop (mkF m 99 #[.val (.int i0), .val (.int i1), .val (.int i2), .val (.int i3), .val (.int i4), .val (.int xa_1), .val (.int xb_1), .val (.int xc_1), .val (.ref b2), .val (.ref b16), .unset, .unset, .unset, .unset, .unset, .unset] [(.ref b16), (.ref b2), (.ref b30), (.ref b30)])) tg → Steps p.tables e below (T30.setTop (mkF m 94 #[.val (.int i0), .val (.int i1), .val (.int i2), .val (.int i3), .val (.int i4), .val (.int xa_1), .val (.int xb_1), .val (.int xc_1), .val (.ref b2), .val (.ref b16), .unset, .unset, .unset, .unset, .unset, .unset] [(.ref b30)])) tg := fun tg kg => by
      refine XS.dup X30.here hx rfl (hb hby at_94) rfl rfl ?_
      show Steps p.tables e below (T30.setTop (mkF m 95 #[.val (.int i0), .val (.int i1), .val (.int i2), .val (.int i3), .val (.int i4), .val (.int xa_1), .val (.int xb_1), .val (.int xc_1), .val (.ref b2), .val (.ref b16), .unset, .unset, .unset, .unset, .unset, .unset] [(.ref b30), (.ref b30)])) tg
      refine XS.aload X30.here hx rfl (hb hby at_95) rfl rfl ?_
      show Steps p.tables e below (T30.setTop (mkF m 97 #[.val (.int i0), .val (.int i1), .val (.int i2), .val (.int i3), .val (.int i4), .val (.int xa_1), .val (.int xb_1), .val (.int xc_1), .val (.ref b2), .val (.ref b16), .unset, .unset, .unset, .unset, .unset, .unset] [(.ref b2), (.ref b30), (.ref b30)])) tg
      refine XS.aload X30.here hx rfl (hb hby at_97) rfl rfl ?_
      show Steps p.tables e below (T30.setTop (mkF m 99 #[.val (.int i0), .val (.int i1), .val (.int i2), .val (.int i3), .val (.int i4), .val (.int xa_1), .val (.int xb_1), .val (.int xc_1), .val (.ref b2), .val (.ref b16), .unset, .unset, .unset, .unset, .unset, .unset] [(.ref b16), (.ref b2), (.ref b30), (.ref b30)])) tg
      exact kg
    refine gs c32 ?_
    obtain ⟨_, _, ⟨T33, L33, k33, n33⟩, -, X33, ⟨Lc33, hQ33, l33, y33, z33⟩, st33⟩ := X30.specialBack hx (y := (⟨"com/example/lushan/lushan/policy/Mapping", "<init>", "(Lcom/example/lushan/lushan/policy/TenantRole;Lcom/example/lushan/lushan/policy/TenantRole;)V"⟩ : MethodName)) rfl hown (mvT hZ (hw _ (List.mem_of_getElem? (i := 53) rfl))) (mvT hZ (hw _ (List.mem_of_getElem? (i := 54) rfl))) (mvT hZ (hw _ (List.mem_of_getElem? (i := 55) rfl))) (by decide) (backC (W := 1) (rm_mp l Z a0 hw [] b30 b2 b16 h30 n0 Z31 O31 A30 F_from_b30 F_to_b30 g_b30) hZ (hw _ (List.mem_of_getElem? (i := 55) rfl)) (hw _ (List.mem_of_getElem? (i := 52) rfl)) (by decide) (by decide)) (g := (mkF m 99 #[.val (.int i0), .val (.int i1), .val (.int i2), .val (.int i3), .val (.int i4), .val (.int xa_1), .val (.int xb_1), .val (.int xc_1), .val (.ref b2), .val (.ref b16), .unset, .unset, .unset, .unset, .unset, .unset] [(.ref b16), (.ref b2), (.ref b30), (.ref b30)])) rfl (by rw [hml]; rfl) (Steps.refl _) (a := b30) (argsL := [(.ref b2), (.ref b16)]) (rest := [(.ref b30)]) (lenOf pd_79 rfl) rfl (by show 2 * 0 + _ ≤ _; exact Nat.le_of_eq rfl) (hb hby at_99) (fun _ _ => ⟨rfl, e30, (by decide : 15 + 0 ≤ _), (by decide : 38 + 0 ≤ _)⟩)
    dsimp only [Pt.U, Pt.locs, Pt.cells, Pt.slots] at X33 l33 y33 z33 st33 hQ33
    subst l33 y33 z33
    obtain ⟨rfl, N33q, K33q, F33_0, F33_1⟩ := hQ33
    have N33 := Fr.app N27 N33q
    have Z34 : n0 ≤ T33.heap.size := Nat.le_trans Z31 K33q.1
    have O34 : Old Z n0 T33.heap := O31.keep K33q (allS g_b30 all0)
    have K34 : Keep h0 T33.heap [] := K31.trans K33q (allS (Or.inr sz_b30) all0)
    refine gs (fun _ k => st33.trans k) ?_
    show OwnGo p e below s _ _ _ (T33.setTop (mkF m 102 #[.val (.int i0), .val (.int i1), .val (.int i2), .val (.int i3), .val (.int i4), .val (.int xa_1), .val (.int xb_1), .val (.int xc_1), .val (.ref b2), .val (.ref b16), .unset, .unset, .unset, .unset, .unset, .unset] [(.ref b30)]))
    have c35 : ∀ tg, Steps p.tables e below (T33.setTop (mkF m 104 #[.val (.int i0), .val (.int i1), .val (.int i2), .val (.int i3), .val (.int i4), .val (.int xa_1), .val (.int xb_1), .val (.int xc_1), .val (.ref b2), .val (.ref b16), .val (.ref b30), .unset, .unset, .unset, .unset, .unset] [])) tg → Steps p.tables e below (T33.setTop (mkF m 102 #[.val (.int i0), .val (.int i1), .val (.int i2), .val (.int i3), .val (.int i4), .val (.int xa_1), .val (.int xb_1), .val (.int xc_1), .val (.ref b2), .val (.ref b16), .unset, .unset, .unset, .unset, .unset, .unset] [(.ref b30)])) tg := fun tg kg => by
      refine XS.astore X33.here hx rfl (hb hby at_102) rfl rfl (l' := #[.val (.int i0), .val (.int i1), .val (.int i2), .val (.int i3), .val (.int i4), .val (.int xa_1), .val (.int xb_1), .val (.int xc_1), .val (.ref b2), .val (.ref b16), .val (.ref b30), .unset, .unset, .unset, .unset, .unset]) rfl ?_
      show Steps p.tables e below (T33.setTop (mkF m 104 #[.val (.int i0), .val (.int i1), .val (.int i2), .val (.int i3), .val (.int i4), .val (.int xa_1), .val (.int xb_1), .val (.int xc_1), .val (.ref b2), .val (.ref b16), .val (.ref b30), .unset, .unset, .unset, .unset, .unset] [])) tg
      exact kg
    refine gs c35 ?_
    obtain ⟨T36, h36, X36, e36, E36, A36, D36, -, st36⟩ := newO X33 hx hZ hown (hw _ (List.mem_of_getElem? (i := 50) rfl)) (hw _ (List.mem_of_getElem? (i := 51) rfl)) (hw _ (List.mem_of_getElem? (i := 52) rfl)) rfl (g := (mkF m 104 #[.val (.int i0), .val (.int i1), .val (.int i2), .val (.int i3), .val (.int i4), .val (.int xa_1), .val (.int xb_1), .val (.int xc_1), .val (.ref b2), .val (.ref b16), .val (.ref b30), .unset, .unset, .unset, .unset, .unset] [])) rfl (hb hby at_104) (by decide) (by decide)
    obtain ⟨b36, q36⟩ : ∃ z, z = T33.heap.size := ⟨_, rfl⟩
    rw [← q36] at A36 D36 st36
    have g_b36 : n0 ≤ b36 := Nat.le_trans Z34 (Nat.le_of_eq q36.symm)
    have sz_b36 : h0.size ≤ b36 := Nat.le_trans K34.1 (Nat.le_of_eq q36.symm)
    have Z37 : n0 ≤ h36.size := Nat.le_trans Z34 E36.1
    have O37 : Old Z n0 h36 := O34.ext E36
    have K37 : Keep h0 h36 [] := K34.ext E36
    have F_from_b36 : Fld Z h36 b36 "com/example/lushan/lushan/policy/Mapping" "from" "Lcom/example/lushan/lushan/policy/TenantRole;" .null := D36 (Or.inr (hw _ (List.mem_of_getElem? (i := 58) rfl))) (ty := (.object "com/example/lushan/lushan/policy/TenantRole")) (by decide)
    have F_to_b36 : Fld Z h36 b36 "com/example/lushan/lushan/policy/Mapping" "to" "Lcom/example/lushan/lushan/policy/TenantRole;" .null := D36 (Or.inr (hw _ (List.mem_of_getElem? (i := 60) rfl))) (ty := (.object "com/example/lushan/lushan/policy/TenantRole")) (by decide)
    refine gs st36 ?_
    show OwnGo p e below s _ _ _ (T36.setTop (mkF m 107 #[.val (.int i0), .val (.int i1), .val (.int i2), .val (.int i3), .val (.int i4), .val (.int xa_1), .val (.int xb_1), .val (.int xc_1), .val (.ref b2), .val (.ref b16), .val (.ref b30), .unset, .unset, .unset, .unset, .unset] [(.ref b36)]))
    have c38 : ∀ tg, Steps p.tables e below (T36.setTop (mkF m 112 #[.val (.int i0), .val (.int i1), .val (.int i2), .val (.int i3), .val (.int i4), .val (.int xa_1), .val (.int xb_1), .val (.int xc_1), .val (.ref b2), .val (.ref b16), .val (.ref b30), .unset, .unset, .unset, .unset, .unset] [(.ref b2), (.ref b16), (.ref b36), (.ref b36)])) tg → Steps p.tables e below (T36.setTop (mkF m 107 #[.val (.int i0), .val (.int i1), .val (.int i2), .val (.int i3), .val (.int i4), .val (.int xa_1), .val (.int xb_1), .val (.int xc_1), .val (.ref b2), .val (.ref b16), .val (.ref b30), .unset, .unset, .unset, .unset, .unset] [(.ref b36)])) tg := fun tg kg => by
      refine XS.dup X36.here hx rfl (hb hby at_107) rfl rfl ?_
      show Steps p.tables e below (T36.setTop (mkF m 108 #[.val (.int i0), .val (.int i1), .val (.int i2), .val (.int i3), .val (.int i4), .val (.int xa_1), .val (.int xb_1), .val (.int xc_1), .val (.ref b2), .val (.ref b16), .val (.ref b30), .unset, .unset, .unset, .unset, .unset] [(.ref b36), (.ref b36)])) tg
      refine XS.aload X36.here hx rfl (hb hby at_108) rfl rfl ?_
      show Steps p.tables e below (T36.setTop (mkF m 110 #[.val (.int i0), .val (.int i1), .val (.int i2), .val (.int i3), .val (.int i4), .val (.int xa_1), .val (.int xb_1), .val (.int xc_1), .val (.ref b2), .val (.ref b16), .val (.ref b30), .unset, .unset, .unset, .unset, .unset] [(.ref b16), (.ref b36), (.ref b36)])) tg
      refine XS.aload X36.here hx rfl (hb hby at_110) rfl rfl ?_
      show Steps p.tables e below (T36.setTop (mkF m 112 #[.val (.int i0), .val (.int i1), .val (.int i2), .val (.int i3), .val (.int i4), .val (.int xa_1), .val (.int xb_1), .val (.int xc_1), .val (.ref b2), .val (.ref b16), .val (.ref b30), .unset, .unset, .unset, .unset, .unset] [(.ref b2), (.ref b16), (.ref b36), (.ref b36)])) tg
      exact kg
    refine gs c38 ?_
    obtain ⟨_, _, ⟨T39, L39, k39, n39⟩, -, X39, ⟨Lc39, hQ39, l39, y39, z39⟩, st39⟩ := X36.specialBack hx (y := (⟨"com/example/lushan/lushan/policy/Mapping", "<init>", "(Lcom/example/lushan/lushan/policy/TenantRole;Lcom/example/lushan/lushan/policy/TenantRole;)V"⟩ : MethodName)) rfl hown (mvT hZ (hw _ (List.mem_of_getElem? (i := 53) rfl))) (mvT hZ (hw _ (List.mem_of_getElem? (i := 54) rfl))) (mvT hZ (hw _ (List.mem_of_getElem? (i := 55) rfl))) (by decide) (backC (W := 1) (rm_mp l Z a0 hw [] b36 b16 b2 h36 n0 Z37 O37 A36 F_from_b36 F_to_b36 g_b36) hZ (hw _ (List.mem_of_getElem? (i := 55) rfl)) (hw _ (List.mem_of_getElem? (i := 52) rfl)) (by decide) (by decide)) (g := (mkF m 112 #[.val (.int i0), .val (.int i1), .val (.int i2), .val (.int i3), .val (.int i4), .val (.int xa_1), .val (.int xb_1), .val (.int xc_1), .val (.ref b2), .val (.ref b16), .val (.ref b30), .unset, .unset, .unset, .unset, .unset] [(.ref b2), (.ref b16), (.ref b36), (.ref b36)])) rfl (by rw [hml]; rfl) (Steps.refl _) (a := b36) (argsL := [(.ref b16), (.ref b2)]) (rest := [(.ref b36)]) (lenOf pd_79 rfl) rfl (by show 2 * 0 + _ ≤ _; exact Nat.le_of_eq rfl) (hb hby at_112) (fun _ _ => ⟨rfl, e36, (by decide : 16 + 0 ≤ _), (by decide : 40 + 0 ≤ _)⟩)
    dsimp only [Pt.U, Pt.locs, Pt.cells, Pt.slots] at X39 l39 y39 z39 st39 hQ39
    subst l39 y39 z39
    obtain ⟨rfl, N39q, K39q, F39_0, F39_1⟩ := hQ39
    have N39 := Fr.app N33 N39q
    have Z40 : n0 ≤ T39.heap.size := Nat.le_trans Z37 K39q.1
    have O40 : Old Z n0 T39.heap := O37.keep K39q (allS g_b36 all0)
    have K40 : Keep h0 T39.heap [] := K37.trans K39q (allS (Or.inr sz_b36) all0)
    refine gs (fun _ k => st39.trans k) ?_
    show OwnGo p e below s _ _ _ (T39.setTop (mkF m 115 #[.val (.int i0), .val (.int i1), .val (.int i2), .val (.int i3), .val (.int i4), .val (.int xa_1), .val (.int xb_1), .val (.int xc_1), .val (.ref b2), .val (.ref b16), .val (.ref b30), .unset, .unset, .unset, .unset, .unset] [(.ref b36)]))
    have c41 : ∀ tg, Steps p.tables e below (T39.setTop (mkF m 119 #[.val (.int i0), .val (.int i1), .val (.int i2), .val (.int i3), .val (.int i4), .val (.int xa_1), .val (.int xb_1), .val (.int xc_1), .val (.ref b2), .val (.ref b16), .val (.ref b30), .val (.ref b36), .unset, .unset, .unset, .unset] [(.int xa_1)])) tg → Steps p.tables e below (T39.setTop (mkF m 115 #[.val (.int i0), .val (.int i1), .val (.int i2), .val (.int i3), .val (.int i4), .val (.int xa_1), .val (.int xb_1), .val (.int xc_1), .val (.ref b2), .val (.ref b16), .val (.ref b30), .unset, .unset, .unset, .unset, .unset] [(.ref b36)])) tg := fun tg kg => by
      refine XS.astore X39.here hx rfl (hb hby at_115) rfl rfl (l' := #[.val (.int i0), .val (.int i1), .val (.int i2), .val (.int i3), .val (.int i4), .val (.int xa_1), .val (.int xb_1), .val (.int xc_1), .val (.ref b2), .val (.ref b16), .val (.ref b30), .val (.ref b36), .unset, .unset, .unset, .unset]) rfl ?_
      show Steps p.tables e below (T39.setTop (mkF m 117 #[.val (.int i0), .val (.int i1), .val (.int i2), .val (.int i3), .val (.int i4), .val (.int xa_1), .val (.int xb_1), .val (.int xc_1), .val (.ref b2), .val (.ref b16), .val (.ref b30), .val (.ref b36), .unset, .unset, .unset, .unset] [])) tg
      refine XS.iload X39.here hx rfl (hb hby at_117) rfl ?_
      show Steps p.tables e below (T39.setTop (mkF m 119 #[.val (.int i0), .val (.int i1), .val (.int i2), .val (.int i3), .val (.int i4), .val (.int xa_1), .val (.int xb_1), .val (.int xc_1), .val (.ref b2), .val (.ref b16), .val (.ref b30), .val (.ref b36), .unset, .unset, .unset, .unset] [(.int xa_1)])) tg
      exact kg
    refine gs c41 ?_
    by_cases hc42 : xa_1 = (0 : Int32)
    · have c43 : ∀ tg, Steps p.tables e below (T39.setTop (mkF m 135 #[.val (.int i0), .val (.int i1), .val (.int i2), .val (.int i3), .val (.int i4), .val (.int xa_1), .val (.int xb_1), .val (.int xc_1), .val (.ref b2), .val (.ref b16), .val (.ref b30), .val (.ref b36), .val .null, .val .null, .unset, .unset] [(.int xb_1)])) tg → Steps p.tables e below (T39.setTop (mkF m 119 #[.val (.int i0), .val (.int i1), .val (.int i2), .val (.int i3), .val (.int i4), .val (.int xa_1), .val (.int xb_1), .val (.int xc_1), .val (.ref b2), .val (.ref b16), .val (.ref b30), .val (.ref b36), .unset, .unset, .unset, .unset] [(.int xa_1)])) tg := fun tg kg => by
        refine XS.ifYes X39.here hx rfl (pc0 := 119) (pc' := 127) rfl (hb hby at_119) rfl ((if0 _ _).trans (teq hc42).1) (by decide) (by decide) ?_
        show Steps p.tables e below (T39.setTop (mkF m 127 #[.val (.int i0), .val (.int i1), .val (.int i2), .val (.int i3), .val (.int i4), .val (.int xa_1), .val (.int xb_1), .val (.int xc_1), .val (.ref b2), .val (.ref b16), .val (.ref b30), .val (.ref b36), .unset, .unset, .unset, .unset] [])) tg
        refine XS.aconstNull X39.here hx rfl (hb hby at_127) ?_
        show Steps p.tables e below (T39.setTop (mkF m 128 #[.val (.int i0), .val (.int i1), .val (.int i2), .val (.int i3), .val (.int i4), .val (.int xa_1), .val (.int xb_1), .val (.int xc_1), .val (.ref b2), .val (.ref b16), .val (.ref b30), .val (.ref b36), .unset, .unset, .unset, .unset] [.null])) tg
        refine XS.astore X39.here hx rfl (hb hby at_128) rfl rfl (l' := #[.val (.int i0), .val (.int i1), .val (.int i2), .val (.int i3), .val (.int i4), .val (.int xa_1), .val (.int xb_1), .val (.int xc_1), .val (.ref b2), .val (.ref b16), .val (.ref b30), .val (.ref b36), .val .null, .unset, .unset, .unset]) rfl ?_
        show Steps p.tables e below (T39.setTop (mkF m 130 #[.val (.int i0), .val (.int i1), .val (.int i2), .val (.int i3), .val (.int i4), .val (.int xa_1), .val (.int xb_1), .val (.int xc_1), .val (.ref b2), .val (.ref b16), .val (.ref b30), .val (.ref b36), .val .null, .unset, .unset, .unset] [])) tg
        refine XS.aconstNull X39.here hx rfl (hb hby at_130) ?_
        show Steps p.tables e below (T39.setTop (mkF m 131 #[.val (.int i0), .val (.int i1), .val (.int i2), .val (.int i3), .val (.int i4), .val (.int xa_1), .val (.int xb_1), .val (.int xc_1), .val (.ref b2), .val (.ref b16), .val (.ref b30), .val (.ref b36), .val .null, .unset, .unset, .unset] [.null])) tg
        refine XS.astore X39.here hx rfl (hb hby at_131) rfl rfl (l' := #[.val (.int i0), .val (.int i1), .val (.int i2), .val (.int i3), .val (.int i4), .val (.int xa_1), .val (.int xb_1), .val (.int xc_1), .val (.ref b2), .val (.ref b16), .val (.ref b30), .val (.ref b36), .val .null, .val .null, .unset, .unset]) rfl ?_
        show Steps p.tables e below (T39.setTop (mkF m 133 #[.val (.int i0), .val (.int i1), .val (.int i2), .val (.int i3), .val (.int i4), .val (.int xa_1), .val (.int xb_1), .val (.int xc_1), .val (.ref b2), .val (.ref b16), .val (.ref b30), .val (.ref b36), .val .null, .val .null, .unset, .unset] [])) tg
        refine XS.iload X39.here hx rfl (hb hby at_133) rfl ?_
        show Steps p.tables e below (T39.setTop (mkF m 135 #[.val (.int i0), .val (.int i1), .val (.int i2), .val (.int i3), .val (.int i4), .val (.int xa_1), .val (.int xb_1), .val (.int xc_1), .val (.ref b2), .val (.ref b16), .val (.ref b30), .val (.ref b36), .val .null, .val .null, .unset, .unset] [(.int xb_1)])) tg
        exact kg
      refine gs c43 ?_
      by_cases hc44 : xb_1 = (0 : Int32)
      · have c45 : ∀ tg, Steps p.tables e below (T39.setTop (mkF m 152 #[.val (.int i0), .val (.int i1), .val (.int i2), .val (.int i3), .val (.int i4), .val (.int xa_1), .val (.int xb_1), .val (.int xc_1), .val (.ref b2), .val (.ref b16), .val (.ref b30), .val (.ref b36), .val .null, .val .null, .unset, .unset] [])) tg → Steps p.tables e below (T39.setTop (mkF m 135 #[.val (.int i0), .val (.int i1), .val (.int i2), .val (.int i3), .val (.int i4), .val (.int xa_1), .val (.int xb_1), .val (.int xc_1), .val (.ref b2), .val (.ref b16), .val (.ref b30), .val (.ref b36), .val .null, .val .null, .unset, .unset] [(.int xb_1)])) tg := fun tg kg => by
          refine XS.ifYes X39.here hx rfl (pc0 := 135) (pc' := 152) rfl (hb hby at_135) rfl ((if0 _ _).trans (teq hc44).1) (by decide) (by decide) ?_
          show Steps p.tables e below (T39.setTop (mkF m 152 #[.val (.int i0), .val (.int i1), .val (.int i2), .val (.int i3), .val (.int i4), .val (.int xa_1), .val (.int xb_1), .val (.int xc_1), .val (.ref b2), .val (.ref b16), .val (.ref b30), .val (.ref b36), .val .null, .val .null, .unset, .unset] [])) tg
          exact kg
        refine gs c45 ?_
        obtain ⟨T46, h46, X46, e46, E46, A46, D46, -, st46⟩ := newO X39 hx hZ hown (hw _ (List.mem_of_getElem? (i := 61) rfl)) (hw _ (List.mem_of_getElem? (i := 62) rfl)) (hw _ (List.mem_of_getElem? (i := 63) rfl)) rfl (g := (mkF m 152 #[.val (.int i0), .val (.int i1), .val (.int i2), .val (.int i3), .val (.int i4), .val (.int xa_1), .val (.int xb_1), .val (.int xc_1), .val (.ref b2), .val (.ref b16), .val (.ref b30), .val (.ref b36), .val .null, .val .null, .unset, .unset] [])) rfl (hb hby at_152) (by decide) (by decide)
        obtain ⟨b46, q46⟩ : ∃ z, z = T39.heap.size := ⟨_, rfl⟩
        rw [← q46] at A46 D46 st46
        have g_b46 : n0 ≤ b46 := Nat.le_trans Z40 (Nat.le_of_eq q46.symm)
        have sz_b46 : h0.size ≤ b46 := Nat.le_trans K40.1 (Nat.le_of_eq q46.symm)
        have Z47 : n0 ≤ h46.size := Nat.le_trans Z40 E46.1
        have O47 : Old Z n0 h46 := O40.ext E46
        have K47 : Keep h0 h46 [] := K40.ext E46
        have F_request_b46 : Fld Z h46 b46 "com/example/lushan/lushan/policy/MappingDecision" "request" "Lcom/example/lushan/lushan/policy/Mapping;" .null := D46 (Or.inr (hw _ (List.mem_of_getElem? (i := 69) rfl))) (ty := (.object "com/example/lushan/lushan/policy/Mapping")) (by decide)
        have F_conflict_b46 : Fld Z h46 b46 "com/example/lushan/lushan/policy/MappingDecision" "conflict" "Lcom/example/lushan/lushan/policy/Mapping;" .null := D46 (Or.inr (hw _ (List.mem_of_getElem? (i := 71) rfl))) (ty := (.object "com/example/lushan/lushan/policy/Mapping")) (by decide)
        refine gs st46 ?_
        show OwnGo p e below s _ _ _ (T46.setTop (mkF m 155 #[.val (.int i0), .val (.int i1), .val (.int i2), .val (.int i3), .val (.int i4), .val (.int xa_1), .val (.int xb_1), .val (.int xc_1), .val (.ref b2), .val (.ref b16), .val (.ref b30), .val (.ref b36), .val .null, .val .null, .unset, .unset] [(.ref b46)]))
        have c48 : ∀ tg, Steps p.tables e below (T46.setTop (mkF m 160 #[.val (.int i0), .val (.int i1), .val (.int i2), .val (.int i3), .val (.int i4), .val (.int xa_1), .val (.int xb_1), .val (.int xc_1), .val (.ref b2), .val (.ref b16), .val (.ref b30), .val (.ref b36), .val .null, .val .null, .unset, .unset] [.null, .null, (.ref b46), (.ref b46)])) tg → Steps p.tables e below (T46.setTop (mkF m 155 #[.val (.int i0), .val (.int i1), .val (.int i2), .val (.int i3), .val (.int i4), .val (.int xa_1), .val (.int xb_1), .val (.int xc_1), .val (.ref b2), .val (.ref b16), .val (.ref b30), .val (.ref b36), .val .null, .val .null, .unset, .unset] [(.ref b46)])) tg := fun tg kg => by
          refine XS.dup X46.here hx rfl (hb hby at_155) rfl rfl ?_
          show Steps p.tables e below (T46.setTop (mkF m 156 #[.val (.int i0), .val (.int i1), .val (.int i2), .val (.int i3), .val (.int i4), .val (.int xa_1), .val (.int xb_1), .val (.int xc_1), .val (.ref b2), .val (.ref b16), .val (.ref b30), .val (.ref b36), .val .null, .val .null, .unset, .unset] [(.ref b46), (.ref b46)])) tg
          refine XS.aload X46.here hx rfl (hb hby at_156) rfl rfl ?_
          show Steps p.tables e below (T46.setTop (mkF m 158 #[.val (.int i0), .val (.int i1), .val (.int i2), .val (.int i3), .val (.int i4), .val (.int xa_1), .val (.int xb_1), .val (.int xc_1), .val (.ref b2), .val (.ref b16), .val (.ref b30), .val (.ref b36), .val .null, .val .null, .unset, .unset] [.null, (.ref b46), (.ref b46)])) tg
          refine XS.aload X46.here hx rfl (hb hby at_158) rfl rfl ?_
          show Steps p.tables e below (T46.setTop (mkF m 160 #[.val (.int i0), .val (.int i1), .val (.int i2), .val (.int i3), .val (.int i4), .val (.int xa_1), .val (.int xb_1), .val (.int xc_1), .val (.ref b2), .val (.ref b16), .val (.ref b30), .val (.ref b36), .val .null, .val .null, .unset, .unset] [.null, .null, (.ref b46), (.ref b46)])) tg
          exact kg
        refine gs c48 ?_
        obtain ⟨_, _, ⟨T49, L49, k49, n49⟩, -, X49, ⟨Lc49, hQ49, l49, y49, z49⟩, st49⟩ := X46.specialBack hx (y := (⟨"com/example/lushan/lushan/policy/MappingDecision", "<init>", "(Lcom/example/lushan/lushan/policy/Mapping;Lcom/example/lushan/lushan/policy/Mapping;)V"⟩ : MethodName)) rfl hown (mvT hZ (hw _ (List.mem_of_getElem? (i := 64) rfl))) (mvT hZ (hw _ (List.mem_of_getElem? (i := 65) rfl))) (mvT hZ (hw _ (List.mem_of_getElem? (i := 66) rfl))) (by decide) (backC (W := 1) (rm_md_null_null l Z a0 hw [] b46 h46 n0 Z47 O47 A46 F_request_b46 F_conflict_b46 g_b46) hZ (hw _ (List.mem_of_getElem? (i := 66) rfl)) (hw _ (List.mem_of_getElem? (i := 63) rfl)) (by decide) (by decide)) (g := (mkF m 160 #[.val (.int i0), .val (.int i1), .val (.int i2), .val (.int i3), .val (.int i4), .val (.int xa_1), .val (.int xb_1), .val (.int xc_1), .val (.ref b2), .val (.ref b16), .val (.ref b30), .val (.ref b36), .val .null, .val .null, .unset, .unset] [.null, .null, (.ref b46), (.ref b46)])) rfl (by rw [hml]; rfl) (Steps.refl _) (a := b46) (argsL := [.null, .null]) (rest := [(.ref b46)]) (lenOf pd_80 rfl) rfl (by show 2 * 0 + _ ≤ _; exact Nat.le_of_eq rfl) (hb hby at_160) (fun _ _ => ⟨rfl, e46, (by decide : 17 + 0 ≤ _), (by decide : 42 + 0 ≤ _)⟩)
        dsimp only [Pt.U, Pt.locs, Pt.cells, Pt.slots] at X49 l49 y49 z49 st49 hQ49
        subst l49 y49 z49
        obtain ⟨rfl, N49q, K49q, F49_0, F49_1⟩ := hQ49
        have N49 := Fr.app N39 N49q
        have Z50 : n0 ≤ T49.heap.size := Nat.le_trans Z47 K49q.1
        have O50 : Old Z n0 T49.heap := O47.keep K49q (allS g_b46 all0)
        have K50 : Keep h0 T49.heap [] := K47.trans K49q (allS (Or.inr sz_b46) all0)
        refine gs (fun _ k => st49.trans k) ?_
        show OwnGo p e below s _ _ _ (T49.setTop (mkF m 163 #[.val (.int i0), .val (.int i1), .val (.int i2), .val (.int i3), .val (.int i4), .val (.int xa_1), .val (.int xb_1), .val (.int xc_1), .val (.ref b2), .val (.ref b16), .val (.ref b30), .val (.ref b36), .val .null, .val .null, .unset, .unset] [(.ref b46)]))
        have c51 : ∀ tg, Steps p.tables e below (T49.setTop (mkF m 179 #[.val (.int i0), .val (.int i1), .val (.int i2), .val (.int i3), .val (.int i4), .val (.int xa_1), .val (.int xb_1), .val (.int xc_1), .val (.ref b2), .val (.ref b16), .val (.ref b30), .val (.ref b36), .val .null, .val .null, .val (.ref b46), .val (.int (1 : Int32))] [(.ref b46)])) tg → Steps p.tables e below (T49.setTop (mkF m 163 #[.val (.int i0), .val (.int i1), .val (.int i2), .val (.int i3), .val (.int i4), .val (.int xa_1), .val (.int xb_1), .val (.int xc_1), .val (.ref b2), .val (.ref b16), .val (.ref b30), .val (.ref b36), .val .null, .val .null, .unset, .unset] [(.ref b46)])) tg := fun tg kg => by
          refine XS.astore X49.here hx rfl (hb hby at_163) rfl rfl (l' := #[.val (.int i0), .val (.int i1), .val (.int i2), .val (.int i3), .val (.int i4), .val (.int xa_1), .val (.int xb_1), .val (.int xc_1), .val (.ref b2), .val (.ref b16), .val (.ref b30), .val (.ref b36), .val .null, .val .null, .val (.ref b46), .unset]) rfl ?_
          show Steps p.tables e below (T49.setTop (mkF m 165 #[.val (.int i0), .val (.int i1), .val (.int i2), .val (.int i3), .val (.int i4), .val (.int xa_1), .val (.int xb_1), .val (.int xc_1), .val (.ref b2), .val (.ref b16), .val (.ref b30), .val (.ref b36), .val .null, .val .null, .val (.ref b46), .unset] [])) tg
          refine XS.iload X49.here hx rfl (hb hby at_165) rfl ?_
          show Steps p.tables e below (T49.setTop (mkF m 167 #[.val (.int i0), .val (.int i1), .val (.int i2), .val (.int i3), .val (.int i4), .val (.int xa_1), .val (.int xb_1), .val (.int xc_1), .val (.ref b2), .val (.ref b16), .val (.ref b30), .val (.ref b36), .val .null, .val .null, .val (.ref b46), .unset] [(.int xb_1)])) tg
          refine XS.ifNo X49.here hx rfl (hb hby at_167) rfl ((if0 _ _).trans (teq hc44).2) ?_
          show Steps p.tables e below (T49.setTop (mkF m 170 #[.val (.int i0), .val (.int i1), .val (.int i2), .val (.int i3), .val (.int i4), .val (.int xa_1), .val (.int xb_1), .val (.int xc_1), .val (.ref b2), .val (.ref b16), .val (.ref b30), .val (.ref b36), .val .null, .val .null, .val (.ref b46), .unset] [])) tg
          refine XS.iconst X49.here hx rfl (hb hby at_170) ?_
          show Steps p.tables e below (T49.setTop (mkF m 171 #[.val (.int i0), .val (.int i1), .val (.int i2), .val (.int i3), .val (.int i4), .val (.int xa_1), .val (.int xb_1), .val (.int xc_1), .val (.ref b2), .val (.ref b16), .val (.ref b30), .val (.ref b36), .val .null, .val .null, .val (.ref b46), .unset] [(.int (1 : Int32))])) tg
          refine XS.goto X49.here hx rfl (pc0 := 171) (pc' := 175) rfl (hb hby at_171) (by decide) (by decide) ?_
          show Steps p.tables e below (T49.setTop (mkF m 175 #[.val (.int i0), .val (.int i1), .val (.int i2), .val (.int i3), .val (.int i4), .val (.int xa_1), .val (.int xb_1), .val (.int xc_1), .val (.ref b2), .val (.ref b16), .val (.ref b30), .val (.ref b36), .val .null, .val .null, .val (.ref b46), .unset] [(.int (1 : Int32))])) tg
          refine XS.istore X49.here hx rfl (hb hby at_175) rfl (l' := #[.val (.int i0), .val (.int i1), .val (.int i2), .val (.int i3), .val (.int i4), .val (.int xa_1), .val (.int xb_1), .val (.int xc_1), .val (.ref b2), .val (.ref b16), .val (.ref b30), .val (.ref b36), .val .null, .val .null, .val (.ref b46), .val (.int (1 : Int32))]) rfl ?_
          show Steps p.tables e below (T49.setTop (mkF m 177 #[.val (.int i0), .val (.int i1), .val (.int i2), .val (.int i3), .val (.int i4), .val (.int xa_1), .val (.int xb_1), .val (.int xc_1), .val (.ref b2), .val (.ref b16), .val (.ref b30), .val (.ref b36), .val .null, .val .null, .val (.ref b46), .val (.int (1 : Int32))] [])) tg
          refine XS.aload X49.here hx rfl (hb hby at_177) rfl rfl ?_
          show Steps p.tables e below (T49.setTop (mkF m 179 #[.val (.int i0), .val (.int i1), .val (.int i2), .val (.int i3), .val (.int i4), .val (.int xa_1), .val (.int xb_1), .val (.int xc_1), .val (.ref b2), .val (.ref b16), .val (.ref b30), .val (.ref b36), .val .null, .val .null, .val (.ref b46), .val (.int (1 : Int32))] [(.ref b46)])) tg
          exact kg
        refine gs c51 ?_
        have f53 := (A46.keep K49q)
        obtain ⟨cq52, kq52, q52a, q52b, q52c⟩ := isOf hZ rfl f53
        obtain ⟨_, _, ⟨T52, L52, k52, n52⟩, -, X52, ⟨Lc52, hQ52, l52, y52, z52⟩, st52⟩ := X49.virtualBack hx (y := (⟨"com/example/lushan/lushan/policy/MappingDecision", "accepted", "()Z"⟩ : MethodName)) (z := (⟨"com/example/lushan/lushan/policy/MappingDecision", "accepted", "()Z"⟩ : MethodName)) hown (mvT hZ (hw _ (List.mem_of_getElem? (i := 72) rfl))) (mvT hZ (hw _ (List.mem_of_getElem? (i := 73) rfl))) (notFace_of_selects (args := #[]) (mvT hZ (hw _ (List.mem_of_getElem? (i := 75) rfl)))) (mvT hZ (hw _ (List.mem_of_getElem? (i := 75) rfl))) (mvT hZ (hw _ (List.mem_of_getElem? (i := 74) rfl))) (by decide) (backC (W := 0) (rm_acc_null l Z a0 hw [] b46 T49.heap n0 Z50 O50 F49_1) hZ (hw _ (List.mem_of_getElem? (i := 76) rfl)) (hw _ (List.mem_of_getElem? (i := 63) rfl)) (by decide) (by decide)) q52a q52c (g := (mkF m 179 #[.val (.int i0), .val (.int i1), .val (.int i2), .val (.int i3), .val (.int i4), .val (.int xa_1), .val (.int xb_1), .val (.int xc_1), .val (.ref b2), .val (.ref b16), .val (.ref b30), .val (.ref b36), .val .null, .val .null, .val (.ref b46), .val (.int (1 : Int32))] [(.ref b46)])) rfl (by rw [hml]; rfl) (Steps.refl _) (argsL := []) (rest := []) (lenOf pd_81 rfl) rfl (by show 2 * 0 + _ ≤ _; exact Nat.le_of_eq rfl) (hb hby at_179) (fun _ _ => ⟨rfl, rfl, (by decide : 17 + 0 ≤ _), (by decide : 42 + 0 ≤ _)⟩)
        dsimp only [Pt.U, Pt.locs, Pt.cells, Pt.slots] at X52 l52 y52 z52 st52 hQ52
        subst l52 y52 z52
        obtain ⟨rfl, N52q, K52q⟩ := hQ52
        have N52 := Fr.app N49 N52q
        have Z54 : n0 ≤ T52.heap.size := Nat.le_trans Z50 K52q.1
        have O54 : Old Z n0 T52.heap := O50.keep K52q all0
        have K54 : Keep h0 T52.heap [] := K50.trans K52q all0
        refine gs (fun _ k => st52.trans k) ?_
        show OwnGo p e below s _ _ _ (T52.setTop (mkF m 182 #[.val (.int i0), .val (.int i1), .val (.int i2), .val (.int i3), .val (.int i4), .val (.int xa_1), .val (.int xb_1), .val (.int xc_1), .val (.ref b2), .val (.ref b16), .val (.ref b30), .val (.ref b36), .val .null, .val .null, .val (.ref b46), .val (.int (1 : Int32))] [(.int (1 : Int32))]))
        have c55 : ∀ tg, Steps p.tables e below (T52.setTop (mkF m 192 #[.val (.int i0), .val (.int i1), .val (.int i2), .val (.int i3), .val (.int i4), .val (.int xa_1), .val (.int xb_1), .val (.int xc_1), .val (.ref b2), .val (.ref b16), .val (.ref b30), .val (.ref b36), .val .null, .val .null, .val (.ref b46), .val (.int (1 : Int32))] [(.int (1 : Int32))])) tg → Steps p.tables e below (T52.setTop (mkF m 182 #[.val (.int i0), .val (.int i1), .val (.int i2), .val (.int i3), .val (.int i4), .val (.int xa_1), .val (.int xb_1), .val (.int xc_1), .val (.ref b2), .val (.ref b16), .val (.ref b30), .val (.ref b36), .val .null, .val .null, .val (.ref b46), .val (.int (1 : Int32))] [(.int (1 : Int32))])) tg := fun tg kg => by
          refine XS.iload X52.here hx rfl (hb hby at_182) rfl ?_
          show Steps p.tables e below (T52.setTop (mkF m 184 #[.val (.int i0), .val (.int i1), .val (.int i2), .val (.int i3), .val (.int i4), .val (.int xa_1), .val (.int xb_1), .val (.int xc_1), .val (.ref b2), .val (.ref b16), .val (.ref b30), .val (.ref b36), .val .null, .val .null, .val (.ref b46), .val (.int (1 : Int32))] [(.int (1 : Int32)), (.int (1 : Int32))])) tg
          refine XS.icmpNo X52.here hx rfl (hb hby at_184) rfl (teq (by decide : (1 : Int32) = (1 : Int32))).2 ?_
          show Steps p.tables e below (T52.setTop (mkF m 187 #[.val (.int i0), .val (.int i1), .val (.int i2), .val (.int i3), .val (.int i4), .val (.int xa_1), .val (.int xb_1), .val (.int xc_1), .val (.ref b2), .val (.ref b16), .val (.ref b30), .val (.ref b36), .val .null, .val .null, .val (.ref b46), .val (.int (1 : Int32))] [])) tg
          refine XS.iconst X52.here hx rfl (hb hby at_187) ?_
          show Steps p.tables e below (T52.setTop (mkF m 188 #[.val (.int i0), .val (.int i1), .val (.int i2), .val (.int i3), .val (.int i4), .val (.int xa_1), .val (.int xb_1), .val (.int xc_1), .val (.ref b2), .val (.ref b16), .val (.ref b30), .val (.ref b36), .val .null, .val .null, .val (.ref b46), .val (.int (1 : Int32))] [(.int (1 : Int32))])) tg
          refine XS.goto X52.here hx rfl (pc0 := 188) (pc' := 192) rfl (hb hby at_188) (by decide) (by decide) ?_
          show Steps p.tables e below (T52.setTop (mkF m 192 #[.val (.int i0), .val (.int i1), .val (.int i2), .val (.int i3), .val (.int i4), .val (.int xa_1), .val (.int xb_1), .val (.int xc_1), .val (.ref b2), .val (.ref b16), .val (.ref b30), .val (.ref b36), .val .null, .val .null, .val (.ref b46), .val (.int (1 : Int32))] [(.int (1 : Int32))])) tg
          exact kg
        refine gs c55 ?_
        refine gout (v := some (.int (1 : Int32))) X52 Bd.notSynchronized (fun h => by rw [Bd.returns] at h; cases h) (by decide) (by decide) ?_ (fun fs hr => retN X52 hx (t := .boolean) Bd.returns (by simp) (hb hby at_192) hr)
        exact ⟨rfl, N52⟩
      · have c56 : ∀ tg, Steps p.tables e below (T39.setTop (mkF m 140 #[.val (.int i0), .val (.int i1), .val (.int i2), .val (.int i3), .val (.int i4), .val (.int xa_1), .val (.int xb_1), .val (.int xc_1), .val (.ref b2), .val (.ref b16), .val (.ref b30), .val (.ref b36), .val .null, .val .null, .unset, .unset] [(.int xc_1)])) tg → Steps p.tables e below (T39.setTop (mkF m 135 #[.val (.int i0), .val (.int i1), .val (.int i2), .val (.int i3), .val (.int i4), .val (.int xa_1), .val (.int xb_1), .val (.int xc_1), .val (.ref b2), .val (.ref b16), .val (.ref b30), .val (.ref b36), .val .null, .val .null, .unset, .unset] [(.int xb_1)])) tg := fun tg kg => by
          refine XS.ifNo X39.here hx rfl (hb hby at_135) rfl ((if0 _ _).trans (feq hc44).1) ?_
          show Steps p.tables e below (T39.setTop (mkF m 138 #[.val (.int i0), .val (.int i1), .val (.int i2), .val (.int i3), .val (.int i4), .val (.int xa_1), .val (.int xb_1), .val (.int xc_1), .val (.ref b2), .val (.ref b16), .val (.ref b30), .val (.ref b36), .val .null, .val .null, .unset, .unset] [])) tg
          refine XS.iload X39.here hx rfl (hb hby at_138) rfl ?_
          show Steps p.tables e below (T39.setTop (mkF m 140 #[.val (.int i0), .val (.int i1), .val (.int i2), .val (.int i3), .val (.int i4), .val (.int xa_1), .val (.int xb_1), .val (.int xc_1), .val (.ref b2), .val (.ref b16), .val (.ref b30), .val (.ref b36), .val .null, .val .null, .unset, .unset] [(.int xc_1)])) tg
          exact kg
        refine gs c56 ?_
        by_cases hc57 : xc_1 = (0 : Int32)
        · have c58 : ∀ tg, Steps p.tables e below (T39.setTop (mkF m 152 #[.val (.int i0), .val (.int i1), .val (.int i2), .val (.int i3), .val (.int i4), .val (.int xa_1), .val (.int xb_1), .val (.int xc_1), .val (.ref b2), .val (.ref b16), .val (.ref b30), .val (.ref b36), .val .null, .val (.ref b36), .unset, .unset] [])) tg → Steps p.tables e below (T39.setTop (mkF m 140 #[.val (.int i0), .val (.int i1), .val (.int i2), .val (.int i3), .val (.int i4), .val (.int xa_1), .val (.int xb_1), .val (.int xc_1), .val (.ref b2), .val (.ref b16), .val (.ref b30), .val (.ref b36), .val .null, .val .null, .unset, .unset] [(.int xc_1)])) tg := fun tg kg => by
            refine XS.ifYes X39.here hx rfl (pc0 := 140) (pc' := 148) rfl (hb hby at_140) rfl ((if0 _ _).trans (teq hc57).1) (by decide) (by decide) ?_
            show Steps p.tables e below (T39.setTop (mkF m 148 #[.val (.int i0), .val (.int i1), .val (.int i2), .val (.int i3), .val (.int i4), .val (.int xa_1), .val (.int xb_1), .val (.int xc_1), .val (.ref b2), .val (.ref b16), .val (.ref b30), .val (.ref b36), .val .null, .val .null, .unset, .unset] [])) tg
            refine XS.aload X39.here hx rfl (hb hby at_148) rfl rfl ?_
            show Steps p.tables e below (T39.setTop (mkF m 150 #[.val (.int i0), .val (.int i1), .val (.int i2), .val (.int i3), .val (.int i4), .val (.int xa_1), .val (.int xb_1), .val (.int xc_1), .val (.ref b2), .val (.ref b16), .val (.ref b30), .val (.ref b36), .val .null, .val .null, .unset, .unset] [(.ref b36)])) tg
            refine XS.astore X39.here hx rfl (hb hby at_150) rfl rfl (l' := #[.val (.int i0), .val (.int i1), .val (.int i2), .val (.int i3), .val (.int i4), .val (.int xa_1), .val (.int xb_1), .val (.int xc_1), .val (.ref b2), .val (.ref b16), .val (.ref b30), .val (.ref b36), .val .null, .val (.ref b36), .unset, .unset]) rfl ?_
            show Steps p.tables e below (T39.setTop (mkF m 152 #[.val (.int i0), .val (.int i1), .val (.int i2), .val (.int i3), .val (.int i4), .val (.int xa_1), .val (.int xb_1), .val (.int xc_1), .val (.ref b2), .val (.ref b16), .val (.ref b30), .val (.ref b36), .val .null, .val (.ref b36), .unset, .unset] [])) tg
            exact kg
          refine gs c58 ?_
          obtain ⟨T59, h59, X59, e59, E59, A59, D59, -, st59⟩ := newO X39 hx hZ hown (hw _ (List.mem_of_getElem? (i := 61) rfl)) (hw _ (List.mem_of_getElem? (i := 62) rfl)) (hw _ (List.mem_of_getElem? (i := 63) rfl)) rfl (g := (mkF m 152 #[.val (.int i0), .val (.int i1), .val (.int i2), .val (.int i3), .val (.int i4), .val (.int xa_1), .val (.int xb_1), .val (.int xc_1), .val (.ref b2), .val (.ref b16), .val (.ref b30), .val (.ref b36), .val .null, .val (.ref b36), .unset, .unset] [])) rfl (hb hby at_152) (by decide) (by decide)
          obtain ⟨b59, q59⟩ : ∃ z, z = T39.heap.size := ⟨_, rfl⟩
          rw [← q59] at A59 D59 st59
          have g_b59 : n0 ≤ b59 := Nat.le_trans Z40 (Nat.le_of_eq q59.symm)
          have sz_b59 : h0.size ≤ b59 := Nat.le_trans K40.1 (Nat.le_of_eq q59.symm)
          have Z60 : n0 ≤ h59.size := Nat.le_trans Z40 E59.1
          have O60 : Old Z n0 h59 := O40.ext E59
          have K60 : Keep h0 h59 [] := K40.ext E59
          have F_request_b59 : Fld Z h59 b59 "com/example/lushan/lushan/policy/MappingDecision" "request" "Lcom/example/lushan/lushan/policy/Mapping;" .null := D59 (Or.inr (hw _ (List.mem_of_getElem? (i := 69) rfl))) (ty := (.object "com/example/lushan/lushan/policy/Mapping")) (by decide)
          have F_conflict_b59 : Fld Z h59 b59 "com/example/lushan/lushan/policy/MappingDecision" "conflict" "Lcom/example/lushan/lushan/policy/Mapping;" .null := D59 (Or.inr (hw _ (List.mem_of_getElem? (i := 71) rfl))) (ty := (.object "com/example/lushan/lushan/policy/Mapping")) (by decide)
          refine gs st59 ?_
          show OwnGo p e below s _ _ _ (T59.setTop (mkF m 155 #[.val (.int i0), .val (.int i1), .val (.int i2), .val (.int i3), .val (.int i4), .val (.int xa_1), .val (.int xb_1), .val (.int xc_1), .val (.ref b2), .val (.ref b16), .val (.ref b30), .val (.ref b36), .val .null, .val (.ref b36), .unset, .unset] [(.ref b59)]))
          have c61 : ∀ tg, Steps p.tables e below (T59.setTop (mkF m 160 #[.val (.int i0), .val (.int i1), .val (.int i2), .val (.int i3), .val (.int i4), .val (.int xa_1), .val (.int xb_1), .val (.int xc_1), .val (.ref b2), .val (.ref b16), .val (.ref b30), .val (.ref b36), .val .null, .val (.ref b36), .unset, .unset] [(.ref b36), .null, (.ref b59), (.ref b59)])) tg → Steps p.tables e below (T59.setTop (mkF m 155 #[.val (.int i0), .val (.int i1), .val (.int i2), .val (.int i3), .val (.int i4), .val (.int xa_1), .val (.int xb_1), .val (.int xc_1), .val (.ref b2), .val (.ref b16), .val (.ref b30), .val (.ref b36), .val .null, .val (.ref b36), .unset, .unset] [(.ref b59)])) tg := fun tg kg => by
            refine XS.dup X59.here hx rfl (hb hby at_155) rfl rfl ?_
            show Steps p.tables e below (T59.setTop (mkF m 156 #[.val (.int i0), .val (.int i1), .val (.int i2), .val (.int i3), .val (.int i4), .val (.int xa_1), .val (.int xb_1), .val (.int xc_1), .val (.ref b2), .val (.ref b16), .val (.ref b30), .val (.ref b36), .val .null, .val (.ref b36), .unset, .unset] [(.ref b59), (.ref b59)])) tg
            refine XS.aload X59.here hx rfl (hb hby at_156) rfl rfl ?_
            show Steps p.tables e below (T59.setTop (mkF m 158 #[.val (.int i0), .val (.int i1), .val (.int i2), .val (.int i3), .val (.int i4), .val (.int xa_1), .val (.int xb_1), .val (.int xc_1), .val (.ref b2), .val (.ref b16), .val (.ref b30), .val (.ref b36), .val .null, .val (.ref b36), .unset, .unset] [.null, (.ref b59), (.ref b59)])) tg
            refine XS.aload X59.here hx rfl (hb hby at_158) rfl rfl ?_
            show Steps p.tables e below (T59.setTop (mkF m 160 #[.val (.int i0), .val (.int i1), .val (.int i2), .val (.int i3), .val (.int i4), .val (.int xa_1), .val (.int xb_1), .val (.int xc_1), .val (.ref b2), .val (.ref b16), .val (.ref b30), .val (.ref b36), .val .null, .val (.ref b36), .unset, .unset] [(.ref b36), .null, (.ref b59), (.ref b59)])) tg
            exact kg
          refine gs c61 ?_
          obtain ⟨_, _, ⟨T62, L62, k62, n62⟩, -, X62, ⟨Lc62, hQ62, l62, y62, z62⟩, st62⟩ := X59.specialBack hx (y := (⟨"com/example/lushan/lushan/policy/MappingDecision", "<init>", "(Lcom/example/lushan/lushan/policy/Mapping;Lcom/example/lushan/lushan/policy/Mapping;)V"⟩ : MethodName)) rfl hown (mvT hZ (hw _ (List.mem_of_getElem? (i := 64) rfl))) (mvT hZ (hw _ (List.mem_of_getElem? (i := 65) rfl))) (mvT hZ (hw _ (List.mem_of_getElem? (i := 66) rfl))) (by decide) (backC (W := 1) (rm_md_null_ref l Z a0 hw [] b59 b36 h59 n0 Z60 O60 A59 F_request_b59 F_conflict_b59 g_b59) hZ (hw _ (List.mem_of_getElem? (i := 66) rfl)) (hw _ (List.mem_of_getElem? (i := 63) rfl)) (by decide) (by decide)) (g := (mkF m 160 #[.val (.int i0), .val (.int i1), .val (.int i2), .val (.int i3), .val (.int i4), .val (.int xa_1), .val (.int xb_1), .val (.int xc_1), .val (.ref b2), .val (.ref b16), .val (.ref b30), .val (.ref b36), .val .null, .val (.ref b36), .unset, .unset] [(.ref b36), .null, (.ref b59), (.ref b59)])) rfl (by rw [hml]; rfl) (Steps.refl _) (a := b59) (argsL := [.null, (.ref b36)]) (rest := [(.ref b59)]) (lenOf pd_80 rfl) rfl (by show 2 * 0 + _ ≤ _; exact Nat.le_of_eq rfl) (hb hby at_160) (fun _ _ => ⟨rfl, e59, (by decide : 17 + 0 ≤ _), (by decide : 42 + 0 ≤ _)⟩)
          dsimp only [Pt.U, Pt.locs, Pt.cells, Pt.slots] at X62 l62 y62 z62 st62 hQ62
          subst l62 y62 z62
          obtain ⟨rfl, N62q, K62q, F62_0, F62_1⟩ := hQ62
          have N62 := Fr.app N39 N62q
          have Z63 : n0 ≤ T62.heap.size := Nat.le_trans Z60 K62q.1
          have O63 : Old Z n0 T62.heap := O60.keep K62q (allS g_b59 all0)
          have K63 : Keep h0 T62.heap [] := K60.trans K62q (allS (Or.inr sz_b59) all0)
          refine gs (fun _ k => st62.trans k) ?_
          show OwnGo p e below s _ _ _ (T62.setTop (mkF m 163 #[.val (.int i0), .val (.int i1), .val (.int i2), .val (.int i3), .val (.int i4), .val (.int xa_1), .val (.int xb_1), .val (.int xc_1), .val (.ref b2), .val (.ref b16), .val (.ref b30), .val (.ref b36), .val .null, .val (.ref b36), .unset, .unset] [(.ref b59)]))
          have c64 : ∀ tg, Steps p.tables e below (T62.setTop (mkF m 179 #[.val (.int i0), .val (.int i1), .val (.int i2), .val (.int i3), .val (.int i4), .val (.int xa_1), .val (.int xb_1), .val (.int xc_1), .val (.ref b2), .val (.ref b16), .val (.ref b30), .val (.ref b36), .val .null, .val (.ref b36), .val (.ref b59), .val (.int (0 : Int32))] [(.ref b59)])) tg → Steps p.tables e below (T62.setTop (mkF m 163 #[.val (.int i0), .val (.int i1), .val (.int i2), .val (.int i3), .val (.int i4), .val (.int xa_1), .val (.int xb_1), .val (.int xc_1), .val (.ref b2), .val (.ref b16), .val (.ref b30), .val (.ref b36), .val .null, .val (.ref b36), .unset, .unset] [(.ref b59)])) tg := fun tg kg => by
            refine XS.astore X62.here hx rfl (hb hby at_163) rfl rfl (l' := #[.val (.int i0), .val (.int i1), .val (.int i2), .val (.int i3), .val (.int i4), .val (.int xa_1), .val (.int xb_1), .val (.int xc_1), .val (.ref b2), .val (.ref b16), .val (.ref b30), .val (.ref b36), .val .null, .val (.ref b36), .val (.ref b59), .unset]) rfl ?_
            show Steps p.tables e below (T62.setTop (mkF m 165 #[.val (.int i0), .val (.int i1), .val (.int i2), .val (.int i3), .val (.int i4), .val (.int xa_1), .val (.int xb_1), .val (.int xc_1), .val (.ref b2), .val (.ref b16), .val (.ref b30), .val (.ref b36), .val .null, .val (.ref b36), .val (.ref b59), .unset] [])) tg
            refine XS.iload X62.here hx rfl (hb hby at_165) rfl ?_
            show Steps p.tables e below (T62.setTop (mkF m 167 #[.val (.int i0), .val (.int i1), .val (.int i2), .val (.int i3), .val (.int i4), .val (.int xa_1), .val (.int xb_1), .val (.int xc_1), .val (.ref b2), .val (.ref b16), .val (.ref b30), .val (.ref b36), .val .null, .val (.ref b36), .val (.ref b59), .unset] [(.int xb_1)])) tg
            refine XS.ifYes X62.here hx rfl (pc0 := 167) (pc' := 174) rfl (hb hby at_167) rfl ((if0 _ _).trans (feq hc44).2) (by decide) (by decide) ?_
            show Steps p.tables e below (T62.setTop (mkF m 174 #[.val (.int i0), .val (.int i1), .val (.int i2), .val (.int i3), .val (.int i4), .val (.int xa_1), .val (.int xb_1), .val (.int xc_1), .val (.ref b2), .val (.ref b16), .val (.ref b30), .val (.ref b36), .val .null, .val (.ref b36), .val (.ref b59), .unset] [])) tg
            refine XS.iconst X62.here hx rfl (hb hby at_174) ?_
            show Steps p.tables e below (T62.setTop (mkF m 175 #[.val (.int i0), .val (.int i1), .val (.int i2), .val (.int i3), .val (.int i4), .val (.int xa_1), .val (.int xb_1), .val (.int xc_1), .val (.ref b2), .val (.ref b16), .val (.ref b30), .val (.ref b36), .val .null, .val (.ref b36), .val (.ref b59), .unset] [(.int (0 : Int32))])) tg
            refine XS.istore X62.here hx rfl (hb hby at_175) rfl (l' := #[.val (.int i0), .val (.int i1), .val (.int i2), .val (.int i3), .val (.int i4), .val (.int xa_1), .val (.int xb_1), .val (.int xc_1), .val (.ref b2), .val (.ref b16), .val (.ref b30), .val (.ref b36), .val .null, .val (.ref b36), .val (.ref b59), .val (.int (0 : Int32))]) rfl ?_
            show Steps p.tables e below (T62.setTop (mkF m 177 #[.val (.int i0), .val (.int i1), .val (.int i2), .val (.int i3), .val (.int i4), .val (.int xa_1), .val (.int xb_1), .val (.int xc_1), .val (.ref b2), .val (.ref b16), .val (.ref b30), .val (.ref b36), .val .null, .val (.ref b36), .val (.ref b59), .val (.int (0 : Int32))] [])) tg
            refine XS.aload X62.here hx rfl (hb hby at_177) rfl rfl ?_
            show Steps p.tables e below (T62.setTop (mkF m 179 #[.val (.int i0), .val (.int i1), .val (.int i2), .val (.int i3), .val (.int i4), .val (.int xa_1), .val (.int xb_1), .val (.int xc_1), .val (.ref b2), .val (.ref b16), .val (.ref b30), .val (.ref b36), .val .null, .val (.ref b36), .val (.ref b59), .val (.int (0 : Int32))] [(.ref b59)])) tg
            exact kg
          refine gs c64 ?_
          have f66 := (A59.keep K62q)
          obtain ⟨cq65, kq65, q65a, q65b, q65c⟩ := isOf hZ rfl f66
          obtain ⟨_, _, ⟨T65, L65, k65, n65⟩, -, X65, ⟨Lc65, hQ65, l65, y65, z65⟩, st65⟩ := X62.virtualBack hx (y := (⟨"com/example/lushan/lushan/policy/MappingDecision", "accepted", "()Z"⟩ : MethodName)) (z := (⟨"com/example/lushan/lushan/policy/MappingDecision", "accepted", "()Z"⟩ : MethodName)) hown (mvT hZ (hw _ (List.mem_of_getElem? (i := 72) rfl))) (mvT hZ (hw _ (List.mem_of_getElem? (i := 73) rfl))) (notFace_of_selects (args := #[]) (mvT hZ (hw _ (List.mem_of_getElem? (i := 75) rfl)))) (mvT hZ (hw _ (List.mem_of_getElem? (i := 75) rfl))) (mvT hZ (hw _ (List.mem_of_getElem? (i := 74) rfl))) (by decide) (backC (W := 0) (rm_acc_ref l Z a0 hw [] b59 b36 T62.heap n0 Z63 O63 F62_1) hZ (hw _ (List.mem_of_getElem? (i := 76) rfl)) (hw _ (List.mem_of_getElem? (i := 63) rfl)) (by decide) (by decide)) q65a q65c (g := (mkF m 179 #[.val (.int i0), .val (.int i1), .val (.int i2), .val (.int i3), .val (.int i4), .val (.int xa_1), .val (.int xb_1), .val (.int xc_1), .val (.ref b2), .val (.ref b16), .val (.ref b30), .val (.ref b36), .val .null, .val (.ref b36), .val (.ref b59), .val (.int (0 : Int32))] [(.ref b59)])) rfl (by rw [hml]; rfl) (Steps.refl _) (argsL := []) (rest := []) (lenOf pd_81 rfl) rfl (by show 2 * 0 + _ ≤ _; exact Nat.le_of_eq rfl) (hb hby at_179) (fun _ _ => ⟨rfl, rfl, (by decide : 17 + 0 ≤ _), (by decide : 42 + 0 ≤ _)⟩)
          dsimp only [Pt.U, Pt.locs, Pt.cells, Pt.slots] at X65 l65 y65 z65 st65 hQ65
          subst l65 y65 z65
          obtain ⟨rfl, N65q, K65q⟩ := hQ65
          have N65 := Fr.app N62 N65q
          have Z67 : n0 ≤ T65.heap.size := Nat.le_trans Z63 K65q.1
          have O67 : Old Z n0 T65.heap := O63.keep K65q all0
          have K67 : Keep h0 T65.heap [] := K63.trans K65q all0
          refine gs (fun _ k => st65.trans k) ?_
          show OwnGo p e below s _ _ _ (T65.setTop (mkF m 182 #[.val (.int i0), .val (.int i1), .val (.int i2), .val (.int i3), .val (.int i4), .val (.int xa_1), .val (.int xb_1), .val (.int xc_1), .val (.ref b2), .val (.ref b16), .val (.ref b30), .val (.ref b36), .val .null, .val (.ref b36), .val (.ref b59), .val (.int (0 : Int32))] [(.int (0 : Int32))]))
          have c68 : ∀ tg, Steps p.tables e below (T65.setTop (mkF m 192 #[.val (.int i0), .val (.int i1), .val (.int i2), .val (.int i3), .val (.int i4), .val (.int xa_1), .val (.int xb_1), .val (.int xc_1), .val (.ref b2), .val (.ref b16), .val (.ref b30), .val (.ref b36), .val .null, .val (.ref b36), .val (.ref b59), .val (.int (0 : Int32))] [(.int (1 : Int32))])) tg → Steps p.tables e below (T65.setTop (mkF m 182 #[.val (.int i0), .val (.int i1), .val (.int i2), .val (.int i3), .val (.int i4), .val (.int xa_1), .val (.int xb_1), .val (.int xc_1), .val (.ref b2), .val (.ref b16), .val (.ref b30), .val (.ref b36), .val .null, .val (.ref b36), .val (.ref b59), .val (.int (0 : Int32))] [(.int (0 : Int32))])) tg := fun tg kg => by
            refine XS.iload X65.here hx rfl (hb hby at_182) rfl ?_
            show Steps p.tables e below (T65.setTop (mkF m 184 #[.val (.int i0), .val (.int i1), .val (.int i2), .val (.int i3), .val (.int i4), .val (.int xa_1), .val (.int xb_1), .val (.int xc_1), .val (.ref b2), .val (.ref b16), .val (.ref b30), .val (.ref b36), .val .null, .val (.ref b36), .val (.ref b59), .val (.int (0 : Int32))] [(.int (0 : Int32)), (.int (0 : Int32))])) tg
            refine XS.icmpNo X65.here hx rfl (hb hby at_184) rfl (teq (by decide : (0 : Int32) = (0 : Int32))).2 ?_
            show Steps p.tables e below (T65.setTop (mkF m 187 #[.val (.int i0), .val (.int i1), .val (.int i2), .val (.int i3), .val (.int i4), .val (.int xa_1), .val (.int xb_1), .val (.int xc_1), .val (.ref b2), .val (.ref b16), .val (.ref b30), .val (.ref b36), .val .null, .val (.ref b36), .val (.ref b59), .val (.int (0 : Int32))] [])) tg
            refine XS.iconst X65.here hx rfl (hb hby at_187) ?_
            show Steps p.tables e below (T65.setTop (mkF m 188 #[.val (.int i0), .val (.int i1), .val (.int i2), .val (.int i3), .val (.int i4), .val (.int xa_1), .val (.int xb_1), .val (.int xc_1), .val (.ref b2), .val (.ref b16), .val (.ref b30), .val (.ref b36), .val .null, .val (.ref b36), .val (.ref b59), .val (.int (0 : Int32))] [(.int (1 : Int32))])) tg
            refine XS.goto X65.here hx rfl (pc0 := 188) (pc' := 192) rfl (hb hby at_188) (by decide) (by decide) ?_
            show Steps p.tables e below (T65.setTop (mkF m 192 #[.val (.int i0), .val (.int i1), .val (.int i2), .val (.int i3), .val (.int i4), .val (.int xa_1), .val (.int xb_1), .val (.int xc_1), .val (.ref b2), .val (.ref b16), .val (.ref b30), .val (.ref b36), .val .null, .val (.ref b36), .val (.ref b59), .val (.int (0 : Int32))] [(.int (1 : Int32))])) tg
            exact kg
          refine gs c68 ?_
          refine gout (v := some (.int (1 : Int32))) X65 Bd.notSynchronized (fun h => by rw [Bd.returns] at h; cases h) (by decide) (by decide) ?_ (fun fs hr => retN X65 hx (t := .boolean) Bd.returns (by simp) (hb hby at_192) hr)
          exact ⟨rfl, N65⟩
        · have c69 : ∀ tg, Steps p.tables e below (T39.setTop (mkF m 152 #[.val (.int i0), .val (.int i1), .val (.int i2), .val (.int i3), .val (.int i4), .val (.int xa_1), .val (.int xb_1), .val (.int xc_1), .val (.ref b2), .val (.ref b16), .val (.ref b30), .val (.ref b36), .val .null, .val (.ref b30), .unset, .unset] [])) tg → Steps p.tables e below (T39.setTop (mkF m 140 #[.val (.int i0), .val (.int i1), .val (.int i2), .val (.int i3), .val (.int i4), .val (.int xa_1), .val (.int xb_1), .val (.int xc_1), .val (.ref b2), .val (.ref b16), .val (.ref b30), .val (.ref b36), .val .null, .val .null, .unset, .unset] [(.int xc_1)])) tg := fun tg kg => by
            refine XS.ifNo X39.here hx rfl (hb hby at_140) rfl ((if0 _ _).trans (feq hc57).1) ?_
            show Steps p.tables e below (T39.setTop (mkF m 143 #[.val (.int i0), .val (.int i1), .val (.int i2), .val (.int i3), .val (.int i4), .val (.int xa_1), .val (.int xb_1), .val (.int xc_1), .val (.ref b2), .val (.ref b16), .val (.ref b30), .val (.ref b36), .val .null, .val .null, .unset, .unset] [])) tg
            refine XS.aload X39.here hx rfl (hb hby at_143) rfl rfl ?_
            show Steps p.tables e below (T39.setTop (mkF m 145 #[.val (.int i0), .val (.int i1), .val (.int i2), .val (.int i3), .val (.int i4), .val (.int xa_1), .val (.int xb_1), .val (.int xc_1), .val (.ref b2), .val (.ref b16), .val (.ref b30), .val (.ref b36), .val .null, .val .null, .unset, .unset] [(.ref b30)])) tg
            refine XS.goto X39.here hx rfl (pc0 := 145) (pc' := 150) rfl (hb hby at_145) (by decide) (by decide) ?_
            show Steps p.tables e below (T39.setTop (mkF m 150 #[.val (.int i0), .val (.int i1), .val (.int i2), .val (.int i3), .val (.int i4), .val (.int xa_1), .val (.int xb_1), .val (.int xc_1), .val (.ref b2), .val (.ref b16), .val (.ref b30), .val (.ref b36), .val .null, .val .null, .unset, .unset] [(.ref b30)])) tg
            refine XS.astore X39.here hx rfl (hb hby at_150) rfl rfl (l' := #[.val (.int i0), .val (.int i1), .val (.int i2), .val (.int i3), .val (.int i4), .val (.int xa_1), .val (.int xb_1), .val (.int xc_1), .val (.ref b2), .val (.ref b16), .val (.ref b30), .val (.ref b36), .val .null, .val (.ref b30), .unset, .unset]) rfl ?_
            show Steps p.tables e below (T39.setTop (mkF m 152 #[.val (.int i0), .val (.int i1), .val (.int i2), .val (.int i3), .val (.int i4), .val (.int xa_1), .val (.int xb_1), .val (.int xc_1), .val (.ref b2), .val (.ref b16), .val (.ref b30), .val (.ref b36), .val .null, .val (.ref b30), .unset, .unset] [])) tg
            exact kg
          refine gs c69 ?_
          obtain ⟨T70, h70, X70, e70, E70, A70, D70, -, st70⟩ := newO X39 hx hZ hown (hw _ (List.mem_of_getElem? (i := 61) rfl)) (hw _ (List.mem_of_getElem? (i := 62) rfl)) (hw _ (List.mem_of_getElem? (i := 63) rfl)) rfl (g := (mkF m 152 #[.val (.int i0), .val (.int i1), .val (.int i2), .val (.int i3), .val (.int i4), .val (.int xa_1), .val (.int xb_1), .val (.int xc_1), .val (.ref b2), .val (.ref b16), .val (.ref b30), .val (.ref b36), .val .null, .val (.ref b30), .unset, .unset] [])) rfl (hb hby at_152) (by decide) (by decide)
          obtain ⟨b70, q70⟩ : ∃ z, z = T39.heap.size := ⟨_, rfl⟩
          rw [← q70] at A70 D70 st70
          have g_b70 : n0 ≤ b70 := Nat.le_trans Z40 (Nat.le_of_eq q70.symm)
          have sz_b70 : h0.size ≤ b70 := Nat.le_trans K40.1 (Nat.le_of_eq q70.symm)
          have Z71 : n0 ≤ h70.size := Nat.le_trans Z40 E70.1
          have O71 : Old Z n0 h70 := O40.ext E70
          have K71 : Keep h0 h70 [] := K40.ext E70
          have F_request_b70 : Fld Z h70 b70 "com/example/lushan/lushan/policy/MappingDecision" "request" "Lcom/example/lushan/lushan/policy/Mapping;" .null := D70 (Or.inr (hw _ (List.mem_of_getElem? (i := 69) rfl))) (ty := (.object "com/example/lushan/lushan/policy/Mapping")) (by decide)
          have F_conflict_b70 : Fld Z h70 b70 "com/example/lushan/lushan/policy/MappingDecision" "conflict" "Lcom/example/lushan/lushan/policy/Mapping;" .null := D70 (Or.inr (hw _ (List.mem_of_getElem? (i := 71) rfl))) (ty := (.object "com/example/lushan/lushan/policy/Mapping")) (by decide)
          refine gs st70 ?_
          show OwnGo p e below s _ _ _ (T70.setTop (mkF m 155 #[.val (.int i0), .val (.int i1), .val (.int i2), .val (.int i3), .val (.int i4), .val (.int xa_1), .val (.int xb_1), .val (.int xc_1), .val (.ref b2), .val (.ref b16), .val (.ref b30), .val (.ref b36), .val .null, .val (.ref b30), .unset, .unset] [(.ref b70)]))
          have c72 : ∀ tg, Steps p.tables e below (T70.setTop (mkF m 160 #[.val (.int i0), .val (.int i1), .val (.int i2), .val (.int i3), .val (.int i4), .val (.int xa_1), .val (.int xb_1), .val (.int xc_1), .val (.ref b2), .val (.ref b16), .val (.ref b30), .val (.ref b36), .val .null, .val (.ref b30), .unset, .unset] [(.ref b30), .null, (.ref b70), (.ref b70)])) tg → Steps p.tables e below (T70.setTop (mkF m 155 #[.val (.int i0), .val (.int i1), .val (.int i2), .val (.int i3), .val (.int i4), .val (.int xa_1), .val (.int xb_1), .val (.int xc_1), .val (.ref b2), .val (.ref b16), .val (.ref b30), .val (.ref b36), .val .null, .val (.ref b30), .unset, .unset] [(.ref b70)])) tg := fun tg kg => by
            refine XS.dup X70.here hx rfl (hb hby at_155) rfl rfl ?_
            show Steps p.tables e below (T70.setTop (mkF m 156 #[.val (.int i0), .val (.int i1), .val (.int i2), .val (.int i3), .val (.int i4), .val (.int xa_1), .val (.int xb_1), .val (.int xc_1), .val (.ref b2), .val (.ref b16), .val (.ref b30), .val (.ref b36), .val .null, .val (.ref b30), .unset, .unset] [(.ref b70), (.ref b70)])) tg
            refine XS.aload X70.here hx rfl (hb hby at_156) rfl rfl ?_
            show Steps p.tables e below (T70.setTop (mkF m 158 #[.val (.int i0), .val (.int i1), .val (.int i2), .val (.int i3), .val (.int i4), .val (.int xa_1), .val (.int xb_1), .val (.int xc_1), .val (.ref b2), .val (.ref b16), .val (.ref b30), .val (.ref b36), .val .null, .val (.ref b30), .unset, .unset] [.null, (.ref b70), (.ref b70)])) tg
            refine XS.aload X70.here hx rfl (hb hby at_158) rfl rfl ?_
            show Steps p.tables e below (T70.setTop (mkF m 160 #[.val (.int i0), .val (.int i1), .val (.int i2), .val (.int i3), .val (.int i4), .val (.int xa_1), .val (.int xb_1), .val (.int xc_1), .val (.ref b2), .val (.ref b16), .val (.ref b30), .val (.ref b36), .val .null, .val (.ref b30), .unset, .unset] [(.ref b30), .null, (.ref b70), (.ref b70)])) tg
            exact kg
          refine gs c72 ?_
          obtain ⟨_, _, ⟨T73, L73, k73, n73⟩, -, X73, ⟨Lc73, hQ73, l73, y73, z73⟩, st73⟩ := X70.specialBack hx (y := (⟨"com/example/lushan/lushan/policy/MappingDecision", "<init>", "(Lcom/example/lushan/lushan/policy/Mapping;Lcom/example/lushan/lushan/policy/Mapping;)V"⟩ : MethodName)) rfl hown (mvT hZ (hw _ (List.mem_of_getElem? (i := 64) rfl))) (mvT hZ (hw _ (List.mem_of_getElem? (i := 65) rfl))) (mvT hZ (hw _ (List.mem_of_getElem? (i := 66) rfl))) (by decide) (backC (W := 1) (rm_md_null_ref l Z a0 hw [] b70 b30 h70 n0 Z71 O71 A70 F_request_b70 F_conflict_b70 g_b70) hZ (hw _ (List.mem_of_getElem? (i := 66) rfl)) (hw _ (List.mem_of_getElem? (i := 63) rfl)) (by decide) (by decide)) (g := (mkF m 160 #[.val (.int i0), .val (.int i1), .val (.int i2), .val (.int i3), .val (.int i4), .val (.int xa_1), .val (.int xb_1), .val (.int xc_1), .val (.ref b2), .val (.ref b16), .val (.ref b30), .val (.ref b36), .val .null, .val (.ref b30), .unset, .unset] [(.ref b30), .null, (.ref b70), (.ref b70)])) rfl (by rw [hml]; rfl) (Steps.refl _) (a := b70) (argsL := [.null, (.ref b30)]) (rest := [(.ref b70)]) (lenOf pd_80 rfl) rfl (by show 2 * 0 + _ ≤ _; exact Nat.le_of_eq rfl) (hb hby at_160) (fun _ _ => ⟨rfl, e70, (by decide : 17 + 0 ≤ _), (by decide : 42 + 0 ≤ _)⟩)
          dsimp only [Pt.U, Pt.locs, Pt.cells, Pt.slots] at X73 l73 y73 z73 st73 hQ73
          subst l73 y73 z73
          obtain ⟨rfl, N73q, K73q, F73_0, F73_1⟩ := hQ73
          have N73 := Fr.app N39 N73q
          have Z74 : n0 ≤ T73.heap.size := Nat.le_trans Z71 K73q.1
          have O74 : Old Z n0 T73.heap := O71.keep K73q (allS g_b70 all0)
          have K74 : Keep h0 T73.heap [] := K71.trans K73q (allS (Or.inr sz_b70) all0)
          refine gs (fun _ k => st73.trans k) ?_
          show OwnGo p e below s _ _ _ (T73.setTop (mkF m 163 #[.val (.int i0), .val (.int i1), .val (.int i2), .val (.int i3), .val (.int i4), .val (.int xa_1), .val (.int xb_1), .val (.int xc_1), .val (.ref b2), .val (.ref b16), .val (.ref b30), .val (.ref b36), .val .null, .val (.ref b30), .unset, .unset] [(.ref b70)]))
          have c75 : ∀ tg, Steps p.tables e below (T73.setTop (mkF m 179 #[.val (.int i0), .val (.int i1), .val (.int i2), .val (.int i3), .val (.int i4), .val (.int xa_1), .val (.int xb_1), .val (.int xc_1), .val (.ref b2), .val (.ref b16), .val (.ref b30), .val (.ref b36), .val .null, .val (.ref b30), .val (.ref b70), .val (.int (0 : Int32))] [(.ref b70)])) tg → Steps p.tables e below (T73.setTop (mkF m 163 #[.val (.int i0), .val (.int i1), .val (.int i2), .val (.int i3), .val (.int i4), .val (.int xa_1), .val (.int xb_1), .val (.int xc_1), .val (.ref b2), .val (.ref b16), .val (.ref b30), .val (.ref b36), .val .null, .val (.ref b30), .unset, .unset] [(.ref b70)])) tg := fun tg kg => by
            refine XS.astore X73.here hx rfl (hb hby at_163) rfl rfl (l' := #[.val (.int i0), .val (.int i1), .val (.int i2), .val (.int i3), .val (.int i4), .val (.int xa_1), .val (.int xb_1), .val (.int xc_1), .val (.ref b2), .val (.ref b16), .val (.ref b30), .val (.ref b36), .val .null, .val (.ref b30), .val (.ref b70), .unset]) rfl ?_
            show Steps p.tables e below (T73.setTop (mkF m 165 #[.val (.int i0), .val (.int i1), .val (.int i2), .val (.int i3), .val (.int i4), .val (.int xa_1), .val (.int xb_1), .val (.int xc_1), .val (.ref b2), .val (.ref b16), .val (.ref b30), .val (.ref b36), .val .null, .val (.ref b30), .val (.ref b70), .unset] [])) tg
            refine XS.iload X73.here hx rfl (hb hby at_165) rfl ?_
            show Steps p.tables e below (T73.setTop (mkF m 167 #[.val (.int i0), .val (.int i1), .val (.int i2), .val (.int i3), .val (.int i4), .val (.int xa_1), .val (.int xb_1), .val (.int xc_1), .val (.ref b2), .val (.ref b16), .val (.ref b30), .val (.ref b36), .val .null, .val (.ref b30), .val (.ref b70), .unset] [(.int xb_1)])) tg
            refine XS.ifYes X73.here hx rfl (pc0 := 167) (pc' := 174) rfl (hb hby at_167) rfl ((if0 _ _).trans (feq hc44).2) (by decide) (by decide) ?_
            show Steps p.tables e below (T73.setTop (mkF m 174 #[.val (.int i0), .val (.int i1), .val (.int i2), .val (.int i3), .val (.int i4), .val (.int xa_1), .val (.int xb_1), .val (.int xc_1), .val (.ref b2), .val (.ref b16), .val (.ref b30), .val (.ref b36), .val .null, .val (.ref b30), .val (.ref b70), .unset] [])) tg
            refine XS.iconst X73.here hx rfl (hb hby at_174) ?_
            show Steps p.tables e below (T73.setTop (mkF m 175 #[.val (.int i0), .val (.int i1), .val (.int i2), .val (.int i3), .val (.int i4), .val (.int xa_1), .val (.int xb_1), .val (.int xc_1), .val (.ref b2), .val (.ref b16), .val (.ref b30), .val (.ref b36), .val .null, .val (.ref b30), .val (.ref b70), .unset] [(.int (0 : Int32))])) tg
            refine XS.istore X73.here hx rfl (hb hby at_175) rfl (l' := #[.val (.int i0), .val (.int i1), .val (.int i2), .val (.int i3), .val (.int i4), .val (.int xa_1), .val (.int xb_1), .val (.int xc_1), .val (.ref b2), .val (.ref b16), .val (.ref b30), .val (.ref b36), .val .null, .val (.ref b30), .val (.ref b70), .val (.int (0 : Int32))]) rfl ?_
            show Steps p.tables e below (T73.setTop (mkF m 177 #[.val (.int i0), .val (.int i1), .val (.int i2), .val (.int i3), .val (.int i4), .val (.int xa_1), .val (.int xb_1), .val (.int xc_1), .val (.ref b2), .val (.ref b16), .val (.ref b30), .val (.ref b36), .val .null, .val (.ref b30), .val (.ref b70), .val (.int (0 : Int32))] [])) tg
            refine XS.aload X73.here hx rfl (hb hby at_177) rfl rfl ?_
            show Steps p.tables e below (T73.setTop (mkF m 179 #[.val (.int i0), .val (.int i1), .val (.int i2), .val (.int i3), .val (.int i4), .val (.int xa_1), .val (.int xb_1), .val (.int xc_1), .val (.ref b2), .val (.ref b16), .val (.ref b30), .val (.ref b36), .val .null, .val (.ref b30), .val (.ref b70), .val (.int (0 : Int32))] [(.ref b70)])) tg
            exact kg
          refine gs c75 ?_
          have f77 := (A70.keep K73q)
          obtain ⟨cq76, kq76, q76a, q76b, q76c⟩ := isOf hZ rfl f77
          obtain ⟨_, _, ⟨T76, L76, k76, n76⟩, -, X76, ⟨Lc76, hQ76, l76, y76, z76⟩, st76⟩ := X73.virtualBack hx (y := (⟨"com/example/lushan/lushan/policy/MappingDecision", "accepted", "()Z"⟩ : MethodName)) (z := (⟨"com/example/lushan/lushan/policy/MappingDecision", "accepted", "()Z"⟩ : MethodName)) hown (mvT hZ (hw _ (List.mem_of_getElem? (i := 72) rfl))) (mvT hZ (hw _ (List.mem_of_getElem? (i := 73) rfl))) (notFace_of_selects (args := #[]) (mvT hZ (hw _ (List.mem_of_getElem? (i := 75) rfl)))) (mvT hZ (hw _ (List.mem_of_getElem? (i := 75) rfl))) (mvT hZ (hw _ (List.mem_of_getElem? (i := 74) rfl))) (by decide) (backC (W := 0) (rm_acc_ref l Z a0 hw [] b70 b30 T73.heap n0 Z74 O74 F73_1) hZ (hw _ (List.mem_of_getElem? (i := 76) rfl)) (hw _ (List.mem_of_getElem? (i := 63) rfl)) (by decide) (by decide)) q76a q76c (g := (mkF m 179 #[.val (.int i0), .val (.int i1), .val (.int i2), .val (.int i3), .val (.int i4), .val (.int xa_1), .val (.int xb_1), .val (.int xc_1), .val (.ref b2), .val (.ref b16), .val (.ref b30), .val (.ref b36), .val .null, .val (.ref b30), .val (.ref b70), .val (.int (0 : Int32))] [(.ref b70)])) rfl (by rw [hml]; rfl) (Steps.refl _) (argsL := []) (rest := []) (lenOf pd_81 rfl) rfl (by show 2 * 0 + _ ≤ _; exact Nat.le_of_eq rfl) (hb hby at_179) (fun _ _ => ⟨rfl, rfl, (by decide : 17 + 0 ≤ _), (by decide : 42 + 0 ≤ _)⟩)
          dsimp only [Pt.U, Pt.locs, Pt.cells, Pt.slots] at X76 l76 y76 z76 st76 hQ76
          subst l76 y76 z76
          obtain ⟨rfl, N76q, K76q⟩ := hQ76
          have N76 := Fr.app N73 N76q
          have Z78 : n0 ≤ T76.heap.size := Nat.le_trans Z74 K76q.1
          have O78 : Old Z n0 T76.heap := O74.keep K76q all0
          have K78 : Keep h0 T76.heap [] := K74.trans K76q all0
          refine gs (fun _ k => st76.trans k) ?_
          show OwnGo p e below s _ _ _ (T76.setTop (mkF m 182 #[.val (.int i0), .val (.int i1), .val (.int i2), .val (.int i3), .val (.int i4), .val (.int xa_1), .val (.int xb_1), .val (.int xc_1), .val (.ref b2), .val (.ref b16), .val (.ref b30), .val (.ref b36), .val .null, .val (.ref b30), .val (.ref b70), .val (.int (0 : Int32))] [(.int (0 : Int32))]))
          have c79 : ∀ tg, Steps p.tables e below (T76.setTop (mkF m 192 #[.val (.int i0), .val (.int i1), .val (.int i2), .val (.int i3), .val (.int i4), .val (.int xa_1), .val (.int xb_1), .val (.int xc_1), .val (.ref b2), .val (.ref b16), .val (.ref b30), .val (.ref b36), .val .null, .val (.ref b30), .val (.ref b70), .val (.int (0 : Int32))] [(.int (1 : Int32))])) tg → Steps p.tables e below (T76.setTop (mkF m 182 #[.val (.int i0), .val (.int i1), .val (.int i2), .val (.int i3), .val (.int i4), .val (.int xa_1), .val (.int xb_1), .val (.int xc_1), .val (.ref b2), .val (.ref b16), .val (.ref b30), .val (.ref b36), .val .null, .val (.ref b30), .val (.ref b70), .val (.int (0 : Int32))] [(.int (0 : Int32))])) tg := fun tg kg => by
            refine XS.iload X76.here hx rfl (hb hby at_182) rfl ?_
            show Steps p.tables e below (T76.setTop (mkF m 184 #[.val (.int i0), .val (.int i1), .val (.int i2), .val (.int i3), .val (.int i4), .val (.int xa_1), .val (.int xb_1), .val (.int xc_1), .val (.ref b2), .val (.ref b16), .val (.ref b30), .val (.ref b36), .val .null, .val (.ref b30), .val (.ref b70), .val (.int (0 : Int32))] [(.int (0 : Int32)), (.int (0 : Int32))])) tg
            refine XS.icmpNo X76.here hx rfl (hb hby at_184) rfl (teq (by decide : (0 : Int32) = (0 : Int32))).2 ?_
            show Steps p.tables e below (T76.setTop (mkF m 187 #[.val (.int i0), .val (.int i1), .val (.int i2), .val (.int i3), .val (.int i4), .val (.int xa_1), .val (.int xb_1), .val (.int xc_1), .val (.ref b2), .val (.ref b16), .val (.ref b30), .val (.ref b36), .val .null, .val (.ref b30), .val (.ref b70), .val (.int (0 : Int32))] [])) tg
            refine XS.iconst X76.here hx rfl (hb hby at_187) ?_
            show Steps p.tables e below (T76.setTop (mkF m 188 #[.val (.int i0), .val (.int i1), .val (.int i2), .val (.int i3), .val (.int i4), .val (.int xa_1), .val (.int xb_1), .val (.int xc_1), .val (.ref b2), .val (.ref b16), .val (.ref b30), .val (.ref b36), .val .null, .val (.ref b30), .val (.ref b70), .val (.int (0 : Int32))] [(.int (1 : Int32))])) tg
            refine XS.goto X76.here hx rfl (pc0 := 188) (pc' := 192) rfl (hb hby at_188) (by decide) (by decide) ?_
            show Steps p.tables e below (T76.setTop (mkF m 192 #[.val (.int i0), .val (.int i1), .val (.int i2), .val (.int i3), .val (.int i4), .val (.int xa_1), .val (.int xb_1), .val (.int xc_1), .val (.ref b2), .val (.ref b16), .val (.ref b30), .val (.ref b36), .val .null, .val (.ref b30), .val (.ref b70), .val (.int (0 : Int32))] [(.int (1 : Int32))])) tg
            exact kg
          refine gs c79 ?_
          refine gout (v := some (.int (1 : Int32))) X76 Bd.notSynchronized (fun h => by rw [Bd.returns] at h; cases h) (by decide) (by decide) ?_ (fun fs hr => retN X76 hx (t := .boolean) Bd.returns (by simp) (hb hby at_192) hr)
          exact ⟨rfl, N76⟩
    · have c80 : ∀ tg, Steps p.tables e below (T39.setTop (mkF m 135 #[.val (.int i0), .val (.int i1), .val (.int i2), .val (.int i3), .val (.int i4), .val (.int xa_1), .val (.int xb_1), .val (.int xc_1), .val (.ref b2), .val (.ref b16), .val (.ref b30), .val (.ref b36), .val (.ref b30), .val .null, .unset, .unset] [(.int xb_1)])) tg → Steps p.tables e below (T39.setTop (mkF m 119 #[.val (.int i0), .val (.int i1), .val (.int i2), .val (.int i3), .val (.int i4), .val (.int xa_1), .val (.int xb_1), .val (.int xc_1), .val (.ref b2), .val (.ref b16), .val (.ref b30), .val (.ref b36), .unset, .unset, .unset, .unset] [(.int xa_1)])) tg := fun tg kg => by
        refine XS.ifNo X39.here hx rfl (hb hby at_119) rfl ((if0 _ _).trans (feq hc42).1) ?_
        show Steps p.tables e below (T39.setTop (mkF m 122 #[.val (.int i0), .val (.int i1), .val (.int i2), .val (.int i3), .val (.int i4), .val (.int xa_1), .val (.int xb_1), .val (.int xc_1), .val (.ref b2), .val (.ref b16), .val (.ref b30), .val (.ref b36), .unset, .unset, .unset, .unset] [])) tg
        refine XS.aload X39.here hx rfl (hb hby at_122) rfl rfl ?_
        show Steps p.tables e below (T39.setTop (mkF m 124 #[.val (.int i0), .val (.int i1), .val (.int i2), .val (.int i3), .val (.int i4), .val (.int xa_1), .val (.int xb_1), .val (.int xc_1), .val (.ref b2), .val (.ref b16), .val (.ref b30), .val (.ref b36), .unset, .unset, .unset, .unset] [(.ref b30)])) tg
        refine XS.goto X39.here hx rfl (pc0 := 124) (pc' := 128) rfl (hb hby at_124) (by decide) (by decide) ?_
        show Steps p.tables e below (T39.setTop (mkF m 128 #[.val (.int i0), .val (.int i1), .val (.int i2), .val (.int i3), .val (.int i4), .val (.int xa_1), .val (.int xb_1), .val (.int xc_1), .val (.ref b2), .val (.ref b16), .val (.ref b30), .val (.ref b36), .unset, .unset, .unset, .unset] [(.ref b30)])) tg
        refine XS.astore X39.here hx rfl (hb hby at_128) rfl rfl (l' := #[.val (.int i0), .val (.int i1), .val (.int i2), .val (.int i3), .val (.int i4), .val (.int xa_1), .val (.int xb_1), .val (.int xc_1), .val (.ref b2), .val (.ref b16), .val (.ref b30), .val (.ref b36), .val (.ref b30), .unset, .unset, .unset]) rfl ?_
        show Steps p.tables e below (T39.setTop (mkF m 130 #[.val (.int i0), .val (.int i1), .val (.int i2), .val (.int i3), .val (.int i4), .val (.int xa_1), .val (.int xb_1), .val (.int xc_1), .val (.ref b2), .val (.ref b16), .val (.ref b30), .val (.ref b36), .val (.ref b30), .unset, .unset, .unset] [])) tg
        refine XS.aconstNull X39.here hx rfl (hb hby at_130) ?_
        show Steps p.tables e below (T39.setTop (mkF m 131 #[.val (.int i0), .val (.int i1), .val (.int i2), .val (.int i3), .val (.int i4), .val (.int xa_1), .val (.int xb_1), .val (.int xc_1), .val (.ref b2), .val (.ref b16), .val (.ref b30), .val (.ref b36), .val (.ref b30), .unset, .unset, .unset] [.null])) tg
        refine XS.astore X39.here hx rfl (hb hby at_131) rfl rfl (l' := #[.val (.int i0), .val (.int i1), .val (.int i2), .val (.int i3), .val (.int i4), .val (.int xa_1), .val (.int xb_1), .val (.int xc_1), .val (.ref b2), .val (.ref b16), .val (.ref b30), .val (.ref b36), .val (.ref b30), .val .null, .unset, .unset]) rfl ?_
        show Steps p.tables e below (T39.setTop (mkF m 133 #[.val (.int i0), .val (.int i1), .val (.int i2), .val (.int i3), .val (.int i4), .val (.int xa_1), .val (.int xb_1), .val (.int xc_1), .val (.ref b2), .val (.ref b16), .val (.ref b30), .val (.ref b36), .val (.ref b30), .val .null, .unset, .unset] [])) tg
        refine XS.iload X39.here hx rfl (hb hby at_133) rfl ?_
        show Steps p.tables e below (T39.setTop (mkF m 135 #[.val (.int i0), .val (.int i1), .val (.int i2), .val (.int i3), .val (.int i4), .val (.int xa_1), .val (.int xb_1), .val (.int xc_1), .val (.ref b2), .val (.ref b16), .val (.ref b30), .val (.ref b36), .val (.ref b30), .val .null, .unset, .unset] [(.int xb_1)])) tg
        exact kg
      refine gs c80 ?_
      by_cases hc81 : xb_1 = (0 : Int32)
      · have c82 : ∀ tg, Steps p.tables e below (T39.setTop (mkF m 152 #[.val (.int i0), .val (.int i1), .val (.int i2), .val (.int i3), .val (.int i4), .val (.int xa_1), .val (.int xb_1), .val (.int xc_1), .val (.ref b2), .val (.ref b16), .val (.ref b30), .val (.ref b36), .val (.ref b30), .val .null, .unset, .unset] [])) tg → Steps p.tables e below (T39.setTop (mkF m 135 #[.val (.int i0), .val (.int i1), .val (.int i2), .val (.int i3), .val (.int i4), .val (.int xa_1), .val (.int xb_1), .val (.int xc_1), .val (.ref b2), .val (.ref b16), .val (.ref b30), .val (.ref b36), .val (.ref b30), .val .null, .unset, .unset] [(.int xb_1)])) tg := fun tg kg => by
          refine XS.ifYes X39.here hx rfl (pc0 := 135) (pc' := 152) rfl (hb hby at_135) rfl ((if0 _ _).trans (teq hc81).1) (by decide) (by decide) ?_
          show Steps p.tables e below (T39.setTop (mkF m 152 #[.val (.int i0), .val (.int i1), .val (.int i2), .val (.int i3), .val (.int i4), .val (.int xa_1), .val (.int xb_1), .val (.int xc_1), .val (.ref b2), .val (.ref b16), .val (.ref b30), .val (.ref b36), .val (.ref b30), .val .null, .unset, .unset] [])) tg
          exact kg
        refine gs c82 ?_
        obtain ⟨T83, h83, X83, e83, E83, A83, D83, -, st83⟩ := newO X39 hx hZ hown (hw _ (List.mem_of_getElem? (i := 61) rfl)) (hw _ (List.mem_of_getElem? (i := 62) rfl)) (hw _ (List.mem_of_getElem? (i := 63) rfl)) rfl (g := (mkF m 152 #[.val (.int i0), .val (.int i1), .val (.int i2), .val (.int i3), .val (.int i4), .val (.int xa_1), .val (.int xb_1), .val (.int xc_1), .val (.ref b2), .val (.ref b16), .val (.ref b30), .val (.ref b36), .val (.ref b30), .val .null, .unset, .unset] [])) rfl (hb hby at_152) (by decide) (by decide)
        obtain ⟨b83, q83⟩ : ∃ z, z = T39.heap.size := ⟨_, rfl⟩
        rw [← q83] at A83 D83 st83
        have g_b83 : n0 ≤ b83 := Nat.le_trans Z40 (Nat.le_of_eq q83.symm)
        have sz_b83 : h0.size ≤ b83 := Nat.le_trans K40.1 (Nat.le_of_eq q83.symm)
        have Z84 : n0 ≤ h83.size := Nat.le_trans Z40 E83.1
        have O84 : Old Z n0 h83 := O40.ext E83
        have K84 : Keep h0 h83 [] := K40.ext E83
        have F_request_b83 : Fld Z h83 b83 "com/example/lushan/lushan/policy/MappingDecision" "request" "Lcom/example/lushan/lushan/policy/Mapping;" .null := D83 (Or.inr (hw _ (List.mem_of_getElem? (i := 69) rfl))) (ty := (.object "com/example/lushan/lushan/policy/Mapping")) (by decide)
        have F_conflict_b83 : Fld Z h83 b83 "com/example/lushan/lushan/policy/MappingDecision" "conflict" "Lcom/example/lushan/lushan/policy/Mapping;" .null := D83 (Or.inr (hw _ (List.mem_of_getElem? (i := 71) rfl))) (ty := (.object "com/example/lushan/lushan/policy/Mapping")) (by decide)
        refine gs st83 ?_
        show OwnGo p e below s _ _ _ (T83.setTop (mkF m 155 #[.val (.int i0), .val (.int i1), .val (.int i2), .val (.int i3), .val (.int i4), .val (.int xa_1), .val (.int xb_1), .val (.int xc_1), .val (.ref b2), .val (.ref b16), .val (.ref b30), .val (.ref b36), .val (.ref b30), .val .null, .unset, .unset] [(.ref b83)]))
        have c85 : ∀ tg, Steps p.tables e below (T83.setTop (mkF m 160 #[.val (.int i0), .val (.int i1), .val (.int i2), .val (.int i3), .val (.int i4), .val (.int xa_1), .val (.int xb_1), .val (.int xc_1), .val (.ref b2), .val (.ref b16), .val (.ref b30), .val (.ref b36), .val (.ref b30), .val .null, .unset, .unset] [.null, (.ref b30), (.ref b83), (.ref b83)])) tg → Steps p.tables e below (T83.setTop (mkF m 155 #[.val (.int i0), .val (.int i1), .val (.int i2), .val (.int i3), .val (.int i4), .val (.int xa_1), .val (.int xb_1), .val (.int xc_1), .val (.ref b2), .val (.ref b16), .val (.ref b30), .val (.ref b36), .val (.ref b30), .val .null, .unset, .unset] [(.ref b83)])) tg := fun tg kg => by
          refine XS.dup X83.here hx rfl (hb hby at_155) rfl rfl ?_
          show Steps p.tables e below (T83.setTop (mkF m 156 #[.val (.int i0), .val (.int i1), .val (.int i2), .val (.int i3), .val (.int i4), .val (.int xa_1), .val (.int xb_1), .val (.int xc_1), .val (.ref b2), .val (.ref b16), .val (.ref b30), .val (.ref b36), .val (.ref b30), .val .null, .unset, .unset] [(.ref b83), (.ref b83)])) tg
          refine XS.aload X83.here hx rfl (hb hby at_156) rfl rfl ?_
          show Steps p.tables e below (T83.setTop (mkF m 158 #[.val (.int i0), .val (.int i1), .val (.int i2), .val (.int i3), .val (.int i4), .val (.int xa_1), .val (.int xb_1), .val (.int xc_1), .val (.ref b2), .val (.ref b16), .val (.ref b30), .val (.ref b36), .val (.ref b30), .val .null, .unset, .unset] [(.ref b30), (.ref b83), (.ref b83)])) tg
          refine XS.aload X83.here hx rfl (hb hby at_158) rfl rfl ?_
          show Steps p.tables e below (T83.setTop (mkF m 160 #[.val (.int i0), .val (.int i1), .val (.int i2), .val (.int i3), .val (.int i4), .val (.int xa_1), .val (.int xb_1), .val (.int xc_1), .val (.ref b2), .val (.ref b16), .val (.ref b30), .val (.ref b36), .val (.ref b30), .val .null, .unset, .unset] [.null, (.ref b30), (.ref b83), (.ref b83)])) tg
          exact kg
        refine gs c85 ?_
        obtain ⟨_, _, ⟨T86, L86, k86, n86⟩, -, X86, ⟨Lc86, hQ86, l86, y86, z86⟩, st86⟩ := X83.specialBack hx (y := (⟨"com/example/lushan/lushan/policy/MappingDecision", "<init>", "(Lcom/example/lushan/lushan/policy/Mapping;Lcom/example/lushan/lushan/policy/Mapping;)V"⟩ : MethodName)) rfl hown (mvT hZ (hw _ (List.mem_of_getElem? (i := 64) rfl))) (mvT hZ (hw _ (List.mem_of_getElem? (i := 65) rfl))) (mvT hZ (hw _ (List.mem_of_getElem? (i := 66) rfl))) (by decide) (backC (W := 1) (rm_md_ref_null l Z a0 hw [] b83 b30 h83 n0 Z84 O84 A83 F_request_b83 F_conflict_b83 g_b83) hZ (hw _ (List.mem_of_getElem? (i := 66) rfl)) (hw _ (List.mem_of_getElem? (i := 63) rfl)) (by decide) (by decide)) (g := (mkF m 160 #[.val (.int i0), .val (.int i1), .val (.int i2), .val (.int i3), .val (.int i4), .val (.int xa_1), .val (.int xb_1), .val (.int xc_1), .val (.ref b2), .val (.ref b16), .val (.ref b30), .val (.ref b36), .val (.ref b30), .val .null, .unset, .unset] [.null, (.ref b30), (.ref b83), (.ref b83)])) rfl (by rw [hml]; rfl) (Steps.refl _) (a := b83) (argsL := [(.ref b30), .null]) (rest := [(.ref b83)]) (lenOf pd_80 rfl) rfl (by show 2 * 0 + _ ≤ _; exact Nat.le_of_eq rfl) (hb hby at_160) (fun _ _ => ⟨rfl, e83, (by decide : 17 + 0 ≤ _), (by decide : 42 + 0 ≤ _)⟩)
        dsimp only [Pt.U, Pt.locs, Pt.cells, Pt.slots] at X86 l86 y86 z86 st86 hQ86
        subst l86 y86 z86
        obtain ⟨rfl, N86q, K86q, F86_0, F86_1⟩ := hQ86
        have N86 := Fr.app N39 N86q
        have Z87 : n0 ≤ T86.heap.size := Nat.le_trans Z84 K86q.1
        have O87 : Old Z n0 T86.heap := O84.keep K86q (allS g_b83 all0)
        have K87 : Keep h0 T86.heap [] := K84.trans K86q (allS (Or.inr sz_b83) all0)
        refine gs (fun _ k => st86.trans k) ?_
        show OwnGo p e below s _ _ _ (T86.setTop (mkF m 163 #[.val (.int i0), .val (.int i1), .val (.int i2), .val (.int i3), .val (.int i4), .val (.int xa_1), .val (.int xb_1), .val (.int xc_1), .val (.ref b2), .val (.ref b16), .val (.ref b30), .val (.ref b36), .val (.ref b30), .val .null, .unset, .unset] [(.ref b83)]))
        have c88 : ∀ tg, Steps p.tables e below (T86.setTop (mkF m 179 #[.val (.int i0), .val (.int i1), .val (.int i2), .val (.int i3), .val (.int i4), .val (.int xa_1), .val (.int xb_1), .val (.int xc_1), .val (.ref b2), .val (.ref b16), .val (.ref b30), .val (.ref b36), .val (.ref b30), .val .null, .val (.ref b83), .val (.int (1 : Int32))] [(.ref b83)])) tg → Steps p.tables e below (T86.setTop (mkF m 163 #[.val (.int i0), .val (.int i1), .val (.int i2), .val (.int i3), .val (.int i4), .val (.int xa_1), .val (.int xb_1), .val (.int xc_1), .val (.ref b2), .val (.ref b16), .val (.ref b30), .val (.ref b36), .val (.ref b30), .val .null, .unset, .unset] [(.ref b83)])) tg := fun tg kg => by
          refine XS.astore X86.here hx rfl (hb hby at_163) rfl rfl (l' := #[.val (.int i0), .val (.int i1), .val (.int i2), .val (.int i3), .val (.int i4), .val (.int xa_1), .val (.int xb_1), .val (.int xc_1), .val (.ref b2), .val (.ref b16), .val (.ref b30), .val (.ref b36), .val (.ref b30), .val .null, .val (.ref b83), .unset]) rfl ?_
          show Steps p.tables e below (T86.setTop (mkF m 165 #[.val (.int i0), .val (.int i1), .val (.int i2), .val (.int i3), .val (.int i4), .val (.int xa_1), .val (.int xb_1), .val (.int xc_1), .val (.ref b2), .val (.ref b16), .val (.ref b30), .val (.ref b36), .val (.ref b30), .val .null, .val (.ref b83), .unset] [])) tg
          refine XS.iload X86.here hx rfl (hb hby at_165) rfl ?_
          show Steps p.tables e below (T86.setTop (mkF m 167 #[.val (.int i0), .val (.int i1), .val (.int i2), .val (.int i3), .val (.int i4), .val (.int xa_1), .val (.int xb_1), .val (.int xc_1), .val (.ref b2), .val (.ref b16), .val (.ref b30), .val (.ref b36), .val (.ref b30), .val .null, .val (.ref b83), .unset] [(.int xb_1)])) tg
          refine XS.ifNo X86.here hx rfl (hb hby at_167) rfl ((if0 _ _).trans (teq hc81).2) ?_
          show Steps p.tables e below (T86.setTop (mkF m 170 #[.val (.int i0), .val (.int i1), .val (.int i2), .val (.int i3), .val (.int i4), .val (.int xa_1), .val (.int xb_1), .val (.int xc_1), .val (.ref b2), .val (.ref b16), .val (.ref b30), .val (.ref b36), .val (.ref b30), .val .null, .val (.ref b83), .unset] [])) tg
          refine XS.iconst X86.here hx rfl (hb hby at_170) ?_
          show Steps p.tables e below (T86.setTop (mkF m 171 #[.val (.int i0), .val (.int i1), .val (.int i2), .val (.int i3), .val (.int i4), .val (.int xa_1), .val (.int xb_1), .val (.int xc_1), .val (.ref b2), .val (.ref b16), .val (.ref b30), .val (.ref b36), .val (.ref b30), .val .null, .val (.ref b83), .unset] [(.int (1 : Int32))])) tg
          refine XS.goto X86.here hx rfl (pc0 := 171) (pc' := 175) rfl (hb hby at_171) (by decide) (by decide) ?_
          show Steps p.tables e below (T86.setTop (mkF m 175 #[.val (.int i0), .val (.int i1), .val (.int i2), .val (.int i3), .val (.int i4), .val (.int xa_1), .val (.int xb_1), .val (.int xc_1), .val (.ref b2), .val (.ref b16), .val (.ref b30), .val (.ref b36), .val (.ref b30), .val .null, .val (.ref b83), .unset] [(.int (1 : Int32))])) tg
          refine XS.istore X86.here hx rfl (hb hby at_175) rfl (l' := #[.val (.int i0), .val (.int i1), .val (.int i2), .val (.int i3), .val (.int i4), .val (.int xa_1), .val (.int xb_1), .val (.int xc_1), .val (.ref b2), .val (.ref b16), .val (.ref b30), .val (.ref b36), .val (.ref b30), .val .null, .val (.ref b83), .val (.int (1 : Int32))]) rfl ?_
          show Steps p.tables e below (T86.setTop (mkF m 177 #[.val (.int i0), .val (.int i1), .val (.int i2), .val (.int i3), .val (.int i4), .val (.int xa_1), .val (.int xb_1), .val (.int xc_1), .val (.ref b2), .val (.ref b16), .val (.ref b30), .val (.ref b36), .val (.ref b30), .val .null, .val (.ref b83), .val (.int (1 : Int32))] [])) tg
          refine XS.aload X86.here hx rfl (hb hby at_177) rfl rfl ?_
          show Steps p.tables e below (T86.setTop (mkF m 179 #[.val (.int i0), .val (.int i1), .val (.int i2), .val (.int i3), .val (.int i4), .val (.int xa_1), .val (.int xb_1), .val (.int xc_1), .val (.ref b2), .val (.ref b16), .val (.ref b30), .val (.ref b36), .val (.ref b30), .val .null, .val (.ref b83), .val (.int (1 : Int32))] [(.ref b83)])) tg
          exact kg
        refine gs c88 ?_
        have f90 := (A83.keep K86q)
        obtain ⟨cq89, kq89, q89a, q89b, q89c⟩ := isOf hZ rfl f90
        obtain ⟨_, _, ⟨T89, L89, k89, n89⟩, -, X89, ⟨Lc89, hQ89, l89, y89, z89⟩, st89⟩ := X86.virtualBack hx (y := (⟨"com/example/lushan/lushan/policy/MappingDecision", "accepted", "()Z"⟩ : MethodName)) (z := (⟨"com/example/lushan/lushan/policy/MappingDecision", "accepted", "()Z"⟩ : MethodName)) hown (mvT hZ (hw _ (List.mem_of_getElem? (i := 72) rfl))) (mvT hZ (hw _ (List.mem_of_getElem? (i := 73) rfl))) (notFace_of_selects (args := #[]) (mvT hZ (hw _ (List.mem_of_getElem? (i := 75) rfl)))) (mvT hZ (hw _ (List.mem_of_getElem? (i := 75) rfl))) (mvT hZ (hw _ (List.mem_of_getElem? (i := 74) rfl))) (by decide) (backC (W := 0) (rm_acc_null l Z a0 hw [] b83 T86.heap n0 Z87 O87 F86_1) hZ (hw _ (List.mem_of_getElem? (i := 76) rfl)) (hw _ (List.mem_of_getElem? (i := 63) rfl)) (by decide) (by decide)) q89a q89c (g := (mkF m 179 #[.val (.int i0), .val (.int i1), .val (.int i2), .val (.int i3), .val (.int i4), .val (.int xa_1), .val (.int xb_1), .val (.int xc_1), .val (.ref b2), .val (.ref b16), .val (.ref b30), .val (.ref b36), .val (.ref b30), .val .null, .val (.ref b83), .val (.int (1 : Int32))] [(.ref b83)])) rfl (by rw [hml]; rfl) (Steps.refl _) (argsL := []) (rest := []) (lenOf pd_81 rfl) rfl (by show 2 * 0 + _ ≤ _; exact Nat.le_of_eq rfl) (hb hby at_179) (fun _ _ => ⟨rfl, rfl, (by decide : 17 + 0 ≤ _), (by decide : 42 + 0 ≤ _)⟩)
        dsimp only [Pt.U, Pt.locs, Pt.cells, Pt.slots] at X89 l89 y89 z89 st89 hQ89
        subst l89 y89 z89
        obtain ⟨rfl, N89q, K89q⟩ := hQ89
        have N89 := Fr.app N86 N89q
        have Z91 : n0 ≤ T89.heap.size := Nat.le_trans Z87 K89q.1
        have O91 : Old Z n0 T89.heap := O87.keep K89q all0
        have K91 : Keep h0 T89.heap [] := K87.trans K89q all0
        refine gs (fun _ k => st89.trans k) ?_
        show OwnGo p e below s _ _ _ (T89.setTop (mkF m 182 #[.val (.int i0), .val (.int i1), .val (.int i2), .val (.int i3), .val (.int i4), .val (.int xa_1), .val (.int xb_1), .val (.int xc_1), .val (.ref b2), .val (.ref b16), .val (.ref b30), .val (.ref b36), .val (.ref b30), .val .null, .val (.ref b83), .val (.int (1 : Int32))] [(.int (1 : Int32))]))
        have c92 : ∀ tg, Steps p.tables e below (T89.setTop (mkF m 192 #[.val (.int i0), .val (.int i1), .val (.int i2), .val (.int i3), .val (.int i4), .val (.int xa_1), .val (.int xb_1), .val (.int xc_1), .val (.ref b2), .val (.ref b16), .val (.ref b30), .val (.ref b36), .val (.ref b30), .val .null, .val (.ref b83), .val (.int (1 : Int32))] [(.int (1 : Int32))])) tg → Steps p.tables e below (T89.setTop (mkF m 182 #[.val (.int i0), .val (.int i1), .val (.int i2), .val (.int i3), .val (.int i4), .val (.int xa_1), .val (.int xb_1), .val (.int xc_1), .val (.ref b2), .val (.ref b16), .val (.ref b30), .val (.ref b36), .val (.ref b30), .val .null, .val (.ref b83), .val (.int (1 : Int32))] [(.int (1 : Int32))])) tg := fun tg kg => by
          refine XS.iload X89.here hx rfl (hb hby at_182) rfl ?_
          show Steps p.tables e below (T89.setTop (mkF m 184 #[.val (.int i0), .val (.int i1), .val (.int i2), .val (.int i3), .val (.int i4), .val (.int xa_1), .val (.int xb_1), .val (.int xc_1), .val (.ref b2), .val (.ref b16), .val (.ref b30), .val (.ref b36), .val (.ref b30), .val .null, .val (.ref b83), .val (.int (1 : Int32))] [(.int (1 : Int32)), (.int (1 : Int32))])) tg
          refine XS.icmpNo X89.here hx rfl (hb hby at_184) rfl (teq (by decide : (1 : Int32) = (1 : Int32))).2 ?_
          show Steps p.tables e below (T89.setTop (mkF m 187 #[.val (.int i0), .val (.int i1), .val (.int i2), .val (.int i3), .val (.int i4), .val (.int xa_1), .val (.int xb_1), .val (.int xc_1), .val (.ref b2), .val (.ref b16), .val (.ref b30), .val (.ref b36), .val (.ref b30), .val .null, .val (.ref b83), .val (.int (1 : Int32))] [])) tg
          refine XS.iconst X89.here hx rfl (hb hby at_187) ?_
          show Steps p.tables e below (T89.setTop (mkF m 188 #[.val (.int i0), .val (.int i1), .val (.int i2), .val (.int i3), .val (.int i4), .val (.int xa_1), .val (.int xb_1), .val (.int xc_1), .val (.ref b2), .val (.ref b16), .val (.ref b30), .val (.ref b36), .val (.ref b30), .val .null, .val (.ref b83), .val (.int (1 : Int32))] [(.int (1 : Int32))])) tg
          refine XS.goto X89.here hx rfl (pc0 := 188) (pc' := 192) rfl (hb hby at_188) (by decide) (by decide) ?_
          show Steps p.tables e below (T89.setTop (mkF m 192 #[.val (.int i0), .val (.int i1), .val (.int i2), .val (.int i3), .val (.int i4), .val (.int xa_1), .val (.int xb_1), .val (.int xc_1), .val (.ref b2), .val (.ref b16), .val (.ref b30), .val (.ref b36), .val (.ref b30), .val .null, .val (.ref b83), .val (.int (1 : Int32))] [(.int (1 : Int32))])) tg
          exact kg
        refine gs c92 ?_
        refine gout (v := some (.int (1 : Int32))) X89 Bd.notSynchronized (fun h => by rw [Bd.returns] at h; cases h) (by decide) (by decide) ?_ (fun fs hr => retN X89 hx (t := .boolean) Bd.returns (by simp) (hb hby at_192) hr)
        exact ⟨rfl, N89⟩
      · have c93 : ∀ tg, Steps p.tables e below (T39.setTop (mkF m 140 #[.val (.int i0), .val (.int i1), .val (.int i2), .val (.int i3), .val (.int i4), .val (.int xa_1), .val (.int xb_1), .val (.int xc_1), .val (.ref b2), .val (.ref b16), .val (.ref b30), .val (.ref b36), .val (.ref b30), .val .null, .unset, .unset] [(.int xc_1)])) tg → Steps p.tables e below (T39.setTop (mkF m 135 #[.val (.int i0), .val (.int i1), .val (.int i2), .val (.int i3), .val (.int i4), .val (.int xa_1), .val (.int xb_1), .val (.int xc_1), .val (.ref b2), .val (.ref b16), .val (.ref b30), .val (.ref b36), .val (.ref b30), .val .null, .unset, .unset] [(.int xb_1)])) tg := fun tg kg => by
          refine XS.ifNo X39.here hx rfl (hb hby at_135) rfl ((if0 _ _).trans (feq hc81).1) ?_
          show Steps p.tables e below (T39.setTop (mkF m 138 #[.val (.int i0), .val (.int i1), .val (.int i2), .val (.int i3), .val (.int i4), .val (.int xa_1), .val (.int xb_1), .val (.int xc_1), .val (.ref b2), .val (.ref b16), .val (.ref b30), .val (.ref b36), .val (.ref b30), .val .null, .unset, .unset] [])) tg
          refine XS.iload X39.here hx rfl (hb hby at_138) rfl ?_
          show Steps p.tables e below (T39.setTop (mkF m 140 #[.val (.int i0), .val (.int i1), .val (.int i2), .val (.int i3), .val (.int i4), .val (.int xa_1), .val (.int xb_1), .val (.int xc_1), .val (.ref b2), .val (.ref b16), .val (.ref b30), .val (.ref b36), .val (.ref b30), .val .null, .unset, .unset] [(.int xc_1)])) tg
          exact kg
        refine gs c93 ?_
        by_cases hc94 : xc_1 = (0 : Int32)
        · have c95 : ∀ tg, Steps p.tables e below (T39.setTop (mkF m 152 #[.val (.int i0), .val (.int i1), .val (.int i2), .val (.int i3), .val (.int i4), .val (.int xa_1), .val (.int xb_1), .val (.int xc_1), .val (.ref b2), .val (.ref b16), .val (.ref b30), .val (.ref b36), .val (.ref b30), .val (.ref b36), .unset, .unset] [])) tg → Steps p.tables e below (T39.setTop (mkF m 140 #[.val (.int i0), .val (.int i1), .val (.int i2), .val (.int i3), .val (.int i4), .val (.int xa_1), .val (.int xb_1), .val (.int xc_1), .val (.ref b2), .val (.ref b16), .val (.ref b30), .val (.ref b36), .val (.ref b30), .val .null, .unset, .unset] [(.int xc_1)])) tg := fun tg kg => by
            refine XS.ifYes X39.here hx rfl (pc0 := 140) (pc' := 148) rfl (hb hby at_140) rfl ((if0 _ _).trans (teq hc94).1) (by decide) (by decide) ?_
            show Steps p.tables e below (T39.setTop (mkF m 148 #[.val (.int i0), .val (.int i1), .val (.int i2), .val (.int i3), .val (.int i4), .val (.int xa_1), .val (.int xb_1), .val (.int xc_1), .val (.ref b2), .val (.ref b16), .val (.ref b30), .val (.ref b36), .val (.ref b30), .val .null, .unset, .unset] [])) tg
            refine XS.aload X39.here hx rfl (hb hby at_148) rfl rfl ?_
            show Steps p.tables e below (T39.setTop (mkF m 150 #[.val (.int i0), .val (.int i1), .val (.int i2), .val (.int i3), .val (.int i4), .val (.int xa_1), .val (.int xb_1), .val (.int xc_1), .val (.ref b2), .val (.ref b16), .val (.ref b30), .val (.ref b36), .val (.ref b30), .val .null, .unset, .unset] [(.ref b36)])) tg
            refine XS.astore X39.here hx rfl (hb hby at_150) rfl rfl (l' := #[.val (.int i0), .val (.int i1), .val (.int i2), .val (.int i3), .val (.int i4), .val (.int xa_1), .val (.int xb_1), .val (.int xc_1), .val (.ref b2), .val (.ref b16), .val (.ref b30), .val (.ref b36), .val (.ref b30), .val (.ref b36), .unset, .unset]) rfl ?_
            show Steps p.tables e below (T39.setTop (mkF m 152 #[.val (.int i0), .val (.int i1), .val (.int i2), .val (.int i3), .val (.int i4), .val (.int xa_1), .val (.int xb_1), .val (.int xc_1), .val (.ref b2), .val (.ref b16), .val (.ref b30), .val (.ref b36), .val (.ref b30), .val (.ref b36), .unset, .unset] [])) tg
            exact kg
          refine gs c95 ?_
          obtain ⟨T96, h96, X96, e96, E96, A96, D96, -, st96⟩ := newO X39 hx hZ hown (hw _ (List.mem_of_getElem? (i := 61) rfl)) (hw _ (List.mem_of_getElem? (i := 62) rfl)) (hw _ (List.mem_of_getElem? (i := 63) rfl)) rfl (g := (mkF m 152 #[.val (.int i0), .val (.int i1), .val (.int i2), .val (.int i3), .val (.int i4), .val (.int xa_1), .val (.int xb_1), .val (.int xc_1), .val (.ref b2), .val (.ref b16), .val (.ref b30), .val (.ref b36), .val (.ref b30), .val (.ref b36), .unset, .unset] [])) rfl (hb hby at_152) (by decide) (by decide)
          obtain ⟨b96, q96⟩ : ∃ z, z = T39.heap.size := ⟨_, rfl⟩
          rw [← q96] at A96 D96 st96
          have g_b96 : n0 ≤ b96 := Nat.le_trans Z40 (Nat.le_of_eq q96.symm)
          have sz_b96 : h0.size ≤ b96 := Nat.le_trans K40.1 (Nat.le_of_eq q96.symm)
          have Z97 : n0 ≤ h96.size := Nat.le_trans Z40 E96.1
          have O97 : Old Z n0 h96 := O40.ext E96
          have K97 : Keep h0 h96 [] := K40.ext E96
          have F_request_b96 : Fld Z h96 b96 "com/example/lushan/lushan/policy/MappingDecision" "request" "Lcom/example/lushan/lushan/policy/Mapping;" .null := D96 (Or.inr (hw _ (List.mem_of_getElem? (i := 69) rfl))) (ty := (.object "com/example/lushan/lushan/policy/Mapping")) (by decide)
          have F_conflict_b96 : Fld Z h96 b96 "com/example/lushan/lushan/policy/MappingDecision" "conflict" "Lcom/example/lushan/lushan/policy/Mapping;" .null := D96 (Or.inr (hw _ (List.mem_of_getElem? (i := 71) rfl))) (ty := (.object "com/example/lushan/lushan/policy/Mapping")) (by decide)
          refine gs st96 ?_
          show OwnGo p e below s _ _ _ (T96.setTop (mkF m 155 #[.val (.int i0), .val (.int i1), .val (.int i2), .val (.int i3), .val (.int i4), .val (.int xa_1), .val (.int xb_1), .val (.int xc_1), .val (.ref b2), .val (.ref b16), .val (.ref b30), .val (.ref b36), .val (.ref b30), .val (.ref b36), .unset, .unset] [(.ref b96)]))
          have c98 : ∀ tg, Steps p.tables e below (T96.setTop (mkF m 160 #[.val (.int i0), .val (.int i1), .val (.int i2), .val (.int i3), .val (.int i4), .val (.int xa_1), .val (.int xb_1), .val (.int xc_1), .val (.ref b2), .val (.ref b16), .val (.ref b30), .val (.ref b36), .val (.ref b30), .val (.ref b36), .unset, .unset] [(.ref b36), (.ref b30), (.ref b96), (.ref b96)])) tg → Steps p.tables e below (T96.setTop (mkF m 155 #[.val (.int i0), .val (.int i1), .val (.int i2), .val (.int i3), .val (.int i4), .val (.int xa_1), .val (.int xb_1), .val (.int xc_1), .val (.ref b2), .val (.ref b16), .val (.ref b30), .val (.ref b36), .val (.ref b30), .val (.ref b36), .unset, .unset] [(.ref b96)])) tg := fun tg kg => by
            refine XS.dup X96.here hx rfl (hb hby at_155) rfl rfl ?_
            show Steps p.tables e below (T96.setTop (mkF m 156 #[.val (.int i0), .val (.int i1), .val (.int i2), .val (.int i3), .val (.int i4), .val (.int xa_1), .val (.int xb_1), .val (.int xc_1), .val (.ref b2), .val (.ref b16), .val (.ref b30), .val (.ref b36), .val (.ref b30), .val (.ref b36), .unset, .unset] [(.ref b96), (.ref b96)])) tg
            refine XS.aload X96.here hx rfl (hb hby at_156) rfl rfl ?_
            show Steps p.tables e below (T96.setTop (mkF m 158 #[.val (.int i0), .val (.int i1), .val (.int i2), .val (.int i3), .val (.int i4), .val (.int xa_1), .val (.int xb_1), .val (.int xc_1), .val (.ref b2), .val (.ref b16), .val (.ref b30), .val (.ref b36), .val (.ref b30), .val (.ref b36), .unset, .unset] [(.ref b30), (.ref b96), (.ref b96)])) tg
            refine XS.aload X96.here hx rfl (hb hby at_158) rfl rfl ?_
            show Steps p.tables e below (T96.setTop (mkF m 160 #[.val (.int i0), .val (.int i1), .val (.int i2), .val (.int i3), .val (.int i4), .val (.int xa_1), .val (.int xb_1), .val (.int xc_1), .val (.ref b2), .val (.ref b16), .val (.ref b30), .val (.ref b36), .val (.ref b30), .val (.ref b36), .unset, .unset] [(.ref b36), (.ref b30), (.ref b96), (.ref b96)])) tg
            exact kg
          refine gs c98 ?_
          obtain ⟨_, _, ⟨T99, L99, k99, n99⟩, -, X99, ⟨Lc99, hQ99, l99, y99, z99⟩, st99⟩ := X96.specialBack hx (y := (⟨"com/example/lushan/lushan/policy/MappingDecision", "<init>", "(Lcom/example/lushan/lushan/policy/Mapping;Lcom/example/lushan/lushan/policy/Mapping;)V"⟩ : MethodName)) rfl hown (mvT hZ (hw _ (List.mem_of_getElem? (i := 64) rfl))) (mvT hZ (hw _ (List.mem_of_getElem? (i := 65) rfl))) (mvT hZ (hw _ (List.mem_of_getElem? (i := 66) rfl))) (by decide) (backC (W := 1) (rm_md_ref_ref l Z a0 hw [] b96 b30 b36 h96 n0 Z97 O97 A96 F_request_b96 F_conflict_b96 g_b96) hZ (hw _ (List.mem_of_getElem? (i := 66) rfl)) (hw _ (List.mem_of_getElem? (i := 63) rfl)) (by decide) (by decide)) (g := (mkF m 160 #[.val (.int i0), .val (.int i1), .val (.int i2), .val (.int i3), .val (.int i4), .val (.int xa_1), .val (.int xb_1), .val (.int xc_1), .val (.ref b2), .val (.ref b16), .val (.ref b30), .val (.ref b36), .val (.ref b30), .val (.ref b36), .unset, .unset] [(.ref b36), (.ref b30), (.ref b96), (.ref b96)])) rfl (by rw [hml]; rfl) (Steps.refl _) (a := b96) (argsL := [(.ref b30), (.ref b36)]) (rest := [(.ref b96)]) (lenOf pd_80 rfl) rfl (by show 2 * 0 + _ ≤ _; exact Nat.le_of_eq rfl) (hb hby at_160) (fun _ _ => ⟨rfl, e96, (by decide : 17 + 0 ≤ _), (by decide : 42 + 0 ≤ _)⟩)
          dsimp only [Pt.U, Pt.locs, Pt.cells, Pt.slots] at X99 l99 y99 z99 st99 hQ99
          subst l99 y99 z99
          obtain ⟨rfl, N99q, K99q, F99_0, F99_1⟩ := hQ99
          have N99 := Fr.app N39 N99q
          have Z100 : n0 ≤ T99.heap.size := Nat.le_trans Z97 K99q.1
          have O100 : Old Z n0 T99.heap := O97.keep K99q (allS g_b96 all0)
          have K100 : Keep h0 T99.heap [] := K97.trans K99q (allS (Or.inr sz_b96) all0)
          refine gs (fun _ k => st99.trans k) ?_
          show OwnGo p e below s _ _ _ (T99.setTop (mkF m 163 #[.val (.int i0), .val (.int i1), .val (.int i2), .val (.int i3), .val (.int i4), .val (.int xa_1), .val (.int xb_1), .val (.int xc_1), .val (.ref b2), .val (.ref b16), .val (.ref b30), .val (.ref b36), .val (.ref b30), .val (.ref b36), .unset, .unset] [(.ref b96)]))
          have c101 : ∀ tg, Steps p.tables e below (T99.setTop (mkF m 179 #[.val (.int i0), .val (.int i1), .val (.int i2), .val (.int i3), .val (.int i4), .val (.int xa_1), .val (.int xb_1), .val (.int xc_1), .val (.ref b2), .val (.ref b16), .val (.ref b30), .val (.ref b36), .val (.ref b30), .val (.ref b36), .val (.ref b96), .val (.int (0 : Int32))] [(.ref b96)])) tg → Steps p.tables e below (T99.setTop (mkF m 163 #[.val (.int i0), .val (.int i1), .val (.int i2), .val (.int i3), .val (.int i4), .val (.int xa_1), .val (.int xb_1), .val (.int xc_1), .val (.ref b2), .val (.ref b16), .val (.ref b30), .val (.ref b36), .val (.ref b30), .val (.ref b36), .unset, .unset] [(.ref b96)])) tg := fun tg kg => by
            refine XS.astore X99.here hx rfl (hb hby at_163) rfl rfl (l' := #[.val (.int i0), .val (.int i1), .val (.int i2), .val (.int i3), .val (.int i4), .val (.int xa_1), .val (.int xb_1), .val (.int xc_1), .val (.ref b2), .val (.ref b16), .val (.ref b30), .val (.ref b36), .val (.ref b30), .val (.ref b36), .val (.ref b96), .unset]) rfl ?_
            show Steps p.tables e below (T99.setTop (mkF m 165 #[.val (.int i0), .val (.int i1), .val (.int i2), .val (.int i3), .val (.int i4), .val (.int xa_1), .val (.int xb_1), .val (.int xc_1), .val (.ref b2), .val (.ref b16), .val (.ref b30), .val (.ref b36), .val (.ref b30), .val (.ref b36), .val (.ref b96), .unset] [])) tg
            refine XS.iload X99.here hx rfl (hb hby at_165) rfl ?_
            show Steps p.tables e below (T99.setTop (mkF m 167 #[.val (.int i0), .val (.int i1), .val (.int i2), .val (.int i3), .val (.int i4), .val (.int xa_1), .val (.int xb_1), .val (.int xc_1), .val (.ref b2), .val (.ref b16), .val (.ref b30), .val (.ref b36), .val (.ref b30), .val (.ref b36), .val (.ref b96), .unset] [(.int xb_1)])) tg
            refine XS.ifYes X99.here hx rfl (pc0 := 167) (pc' := 174) rfl (hb hby at_167) rfl ((if0 _ _).trans (feq hc81).2) (by decide) (by decide) ?_
            show Steps p.tables e below (T99.setTop (mkF m 174 #[.val (.int i0), .val (.int i1), .val (.int i2), .val (.int i3), .val (.int i4), .val (.int xa_1), .val (.int xb_1), .val (.int xc_1), .val (.ref b2), .val (.ref b16), .val (.ref b30), .val (.ref b36), .val (.ref b30), .val (.ref b36), .val (.ref b96), .unset] [])) tg
            refine XS.iconst X99.here hx rfl (hb hby at_174) ?_
            show Steps p.tables e below (T99.setTop (mkF m 175 #[.val (.int i0), .val (.int i1), .val (.int i2), .val (.int i3), .val (.int i4), .val (.int xa_1), .val (.int xb_1), .val (.int xc_1), .val (.ref b2), .val (.ref b16), .val (.ref b30), .val (.ref b36), .val (.ref b30), .val (.ref b36), .val (.ref b96), .unset] [(.int (0 : Int32))])) tg
            refine XS.istore X99.here hx rfl (hb hby at_175) rfl (l' := #[.val (.int i0), .val (.int i1), .val (.int i2), .val (.int i3), .val (.int i4), .val (.int xa_1), .val (.int xb_1), .val (.int xc_1), .val (.ref b2), .val (.ref b16), .val (.ref b30), .val (.ref b36), .val (.ref b30), .val (.ref b36), .val (.ref b96), .val (.int (0 : Int32))]) rfl ?_
            show Steps p.tables e below (T99.setTop (mkF m 177 #[.val (.int i0), .val (.int i1), .val (.int i2), .val (.int i3), .val (.int i4), .val (.int xa_1), .val (.int xb_1), .val (.int xc_1), .val (.ref b2), .val (.ref b16), .val (.ref b30), .val (.ref b36), .val (.ref b30), .val (.ref b36), .val (.ref b96), .val (.int (0 : Int32))] [])) tg
            refine XS.aload X99.here hx rfl (hb hby at_177) rfl rfl ?_
            show Steps p.tables e below (T99.setTop (mkF m 179 #[.val (.int i0), .val (.int i1), .val (.int i2), .val (.int i3), .val (.int i4), .val (.int xa_1), .val (.int xb_1), .val (.int xc_1), .val (.ref b2), .val (.ref b16), .val (.ref b30), .val (.ref b36), .val (.ref b30), .val (.ref b36), .val (.ref b96), .val (.int (0 : Int32))] [(.ref b96)])) tg
            exact kg
          refine gs c101 ?_
          have f103 := (A96.keep K99q)
          obtain ⟨cq102, kq102, q102a, q102b, q102c⟩ := isOf hZ rfl f103
          obtain ⟨_, _, ⟨T102, L102, k102, n102⟩, -, X102, ⟨Lc102, hQ102, l102, y102, z102⟩, st102⟩ := X99.virtualBack hx (y := (⟨"com/example/lushan/lushan/policy/MappingDecision", "accepted", "()Z"⟩ : MethodName)) (z := (⟨"com/example/lushan/lushan/policy/MappingDecision", "accepted", "()Z"⟩ : MethodName)) hown (mvT hZ (hw _ (List.mem_of_getElem? (i := 72) rfl))) (mvT hZ (hw _ (List.mem_of_getElem? (i := 73) rfl))) (notFace_of_selects (args := #[]) (mvT hZ (hw _ (List.mem_of_getElem? (i := 75) rfl)))) (mvT hZ (hw _ (List.mem_of_getElem? (i := 75) rfl))) (mvT hZ (hw _ (List.mem_of_getElem? (i := 74) rfl))) (by decide) (backC (W := 0) (rm_acc_ref l Z a0 hw [] b96 b36 T99.heap n0 Z100 O100 F99_1) hZ (hw _ (List.mem_of_getElem? (i := 76) rfl)) (hw _ (List.mem_of_getElem? (i := 63) rfl)) (by decide) (by decide)) q102a q102c (g := (mkF m 179 #[.val (.int i0), .val (.int i1), .val (.int i2), .val (.int i3), .val (.int i4), .val (.int xa_1), .val (.int xb_1), .val (.int xc_1), .val (.ref b2), .val (.ref b16), .val (.ref b30), .val (.ref b36), .val (.ref b30), .val (.ref b36), .val (.ref b96), .val (.int (0 : Int32))] [(.ref b96)])) rfl (by rw [hml]; rfl) (Steps.refl _) (argsL := []) (rest := []) (lenOf pd_81 rfl) rfl (by show 2 * 0 + _ ≤ _; exact Nat.le_of_eq rfl) (hb hby at_179) (fun _ _ => ⟨rfl, rfl, (by decide : 17 + 0 ≤ _), (by decide : 42 + 0 ≤ _)⟩)
          dsimp only [Pt.U, Pt.locs, Pt.cells, Pt.slots] at X102 l102 y102 z102 st102 hQ102
          subst l102 y102 z102
          obtain ⟨rfl, N102q, K102q⟩ := hQ102
          have N102 := Fr.app N99 N102q
          have Z104 : n0 ≤ T102.heap.size := Nat.le_trans Z100 K102q.1
          have O104 : Old Z n0 T102.heap := O100.keep K102q all0
          have K104 : Keep h0 T102.heap [] := K100.trans K102q all0
          refine gs (fun _ k => st102.trans k) ?_
          show OwnGo p e below s _ _ _ (T102.setTop (mkF m 182 #[.val (.int i0), .val (.int i1), .val (.int i2), .val (.int i3), .val (.int i4), .val (.int xa_1), .val (.int xb_1), .val (.int xc_1), .val (.ref b2), .val (.ref b16), .val (.ref b30), .val (.ref b36), .val (.ref b30), .val (.ref b36), .val (.ref b96), .val (.int (0 : Int32))] [(.int (0 : Int32))]))
          have c105 : ∀ tg, Steps p.tables e below (T102.setTop (mkF m 192 #[.val (.int i0), .val (.int i1), .val (.int i2), .val (.int i3), .val (.int i4), .val (.int xa_1), .val (.int xb_1), .val (.int xc_1), .val (.ref b2), .val (.ref b16), .val (.ref b30), .val (.ref b36), .val (.ref b30), .val (.ref b36), .val (.ref b96), .val (.int (0 : Int32))] [(.int (1 : Int32))])) tg → Steps p.tables e below (T102.setTop (mkF m 182 #[.val (.int i0), .val (.int i1), .val (.int i2), .val (.int i3), .val (.int i4), .val (.int xa_1), .val (.int xb_1), .val (.int xc_1), .val (.ref b2), .val (.ref b16), .val (.ref b30), .val (.ref b36), .val (.ref b30), .val (.ref b36), .val (.ref b96), .val (.int (0 : Int32))] [(.int (0 : Int32))])) tg := fun tg kg => by
            refine XS.iload X102.here hx rfl (hb hby at_182) rfl ?_
            show Steps p.tables e below (T102.setTop (mkF m 184 #[.val (.int i0), .val (.int i1), .val (.int i2), .val (.int i3), .val (.int i4), .val (.int xa_1), .val (.int xb_1), .val (.int xc_1), .val (.ref b2), .val (.ref b16), .val (.ref b30), .val (.ref b36), .val (.ref b30), .val (.ref b36), .val (.ref b96), .val (.int (0 : Int32))] [(.int (0 : Int32)), (.int (0 : Int32))])) tg
            refine XS.icmpNo X102.here hx rfl (hb hby at_184) rfl (teq (by decide : (0 : Int32) = (0 : Int32))).2 ?_
            show Steps p.tables e below (T102.setTop (mkF m 187 #[.val (.int i0), .val (.int i1), .val (.int i2), .val (.int i3), .val (.int i4), .val (.int xa_1), .val (.int xb_1), .val (.int xc_1), .val (.ref b2), .val (.ref b16), .val (.ref b30), .val (.ref b36), .val (.ref b30), .val (.ref b36), .val (.ref b96), .val (.int (0 : Int32))] [])) tg
            refine XS.iconst X102.here hx rfl (hb hby at_187) ?_
            show Steps p.tables e below (T102.setTop (mkF m 188 #[.val (.int i0), .val (.int i1), .val (.int i2), .val (.int i3), .val (.int i4), .val (.int xa_1), .val (.int xb_1), .val (.int xc_1), .val (.ref b2), .val (.ref b16), .val (.ref b30), .val (.ref b36), .val (.ref b30), .val (.ref b36), .val (.ref b96), .val (.int (0 : Int32))] [(.int (1 : Int32))])) tg
            refine XS.goto X102.here hx rfl (pc0 := 188) (pc' := 192) rfl (hb hby at_188) (by decide) (by decide) ?_
            show Steps p.tables e below (T102.setTop (mkF m 192 #[.val (.int i0), .val (.int i1), .val (.int i2), .val (.int i3), .val (.int i4), .val (.int xa_1), .val (.int xb_1), .val (.int xc_1), .val (.ref b2), .val (.ref b16), .val (.ref b30), .val (.ref b36), .val (.ref b30), .val (.ref b36), .val (.ref b96), .val (.int (0 : Int32))] [(.int (1 : Int32))])) tg
            exact kg
          refine gs c105 ?_
          refine gout (v := some (.int (1 : Int32))) X102 Bd.notSynchronized (fun h => by rw [Bd.returns] at h; cases h) (by decide) (by decide) ?_ (fun fs hr => retN X102 hx (t := .boolean) Bd.returns (by simp) (hb hby at_192) hr)
          exact ⟨rfl, N102⟩
        · have c106 : ∀ tg, Steps p.tables e below (T39.setTop (mkF m 152 #[.val (.int i0), .val (.int i1), .val (.int i2), .val (.int i3), .val (.int i4), .val (.int xa_1), .val (.int xb_1), .val (.int xc_1), .val (.ref b2), .val (.ref b16), .val (.ref b30), .val (.ref b36), .val (.ref b30), .val (.ref b30), .unset, .unset] [])) tg → Steps p.tables e below (T39.setTop (mkF m 140 #[.val (.int i0), .val (.int i1), .val (.int i2), .val (.int i3), .val (.int i4), .val (.int xa_1), .val (.int xb_1), .val (.int xc_1), .val (.ref b2), .val (.ref b16), .val (.ref b30), .val (.ref b36), .val (.ref b30), .val .null, .unset, .unset] [(.int xc_1)])) tg := fun tg kg => by
            refine XS.ifNo X39.here hx rfl (hb hby at_140) rfl ((if0 _ _).trans (feq hc94).1) ?_
            show Steps p.tables e below (T39.setTop (mkF m 143 #[.val (.int i0), .val (.int i1), .val (.int i2), .val (.int i3), .val (.int i4), .val (.int xa_1), .val (.int xb_1), .val (.int xc_1), .val (.ref b2), .val (.ref b16), .val (.ref b30), .val (.ref b36), .val (.ref b30), .val .null, .unset, .unset] [])) tg
            refine XS.aload X39.here hx rfl (hb hby at_143) rfl rfl ?_
            show Steps p.tables e below (T39.setTop (mkF m 145 #[.val (.int i0), .val (.int i1), .val (.int i2), .val (.int i3), .val (.int i4), .val (.int xa_1), .val (.int xb_1), .val (.int xc_1), .val (.ref b2), .val (.ref b16), .val (.ref b30), .val (.ref b36), .val (.ref b30), .val .null, .unset, .unset] [(.ref b30)])) tg
            refine XS.goto X39.here hx rfl (pc0 := 145) (pc' := 150) rfl (hb hby at_145) (by decide) (by decide) ?_
            show Steps p.tables e below (T39.setTop (mkF m 150 #[.val (.int i0), .val (.int i1), .val (.int i2), .val (.int i3), .val (.int i4), .val (.int xa_1), .val (.int xb_1), .val (.int xc_1), .val (.ref b2), .val (.ref b16), .val (.ref b30), .val (.ref b36), .val (.ref b30), .val .null, .unset, .unset] [(.ref b30)])) tg
            refine XS.astore X39.here hx rfl (hb hby at_150) rfl rfl (l' := #[.val (.int i0), .val (.int i1), .val (.int i2), .val (.int i3), .val (.int i4), .val (.int xa_1), .val (.int xb_1), .val (.int xc_1), .val (.ref b2), .val (.ref b16), .val (.ref b30), .val (.ref b36), .val (.ref b30), .val (.ref b30), .unset, .unset]) rfl ?_
            show Steps p.tables e below (T39.setTop (mkF m 152 #[.val (.int i0), .val (.int i1), .val (.int i2), .val (.int i3), .val (.int i4), .val (.int xa_1), .val (.int xb_1), .val (.int xc_1), .val (.ref b2), .val (.ref b16), .val (.ref b30), .val (.ref b36), .val (.ref b30), .val (.ref b30), .unset, .unset] [])) tg
            exact kg
          refine gs c106 ?_
          obtain ⟨T107, h107, X107, e107, E107, A107, D107, -, st107⟩ := newO X39 hx hZ hown (hw _ (List.mem_of_getElem? (i := 61) rfl)) (hw _ (List.mem_of_getElem? (i := 62) rfl)) (hw _ (List.mem_of_getElem? (i := 63) rfl)) rfl (g := (mkF m 152 #[.val (.int i0), .val (.int i1), .val (.int i2), .val (.int i3), .val (.int i4), .val (.int xa_1), .val (.int xb_1), .val (.int xc_1), .val (.ref b2), .val (.ref b16), .val (.ref b30), .val (.ref b36), .val (.ref b30), .val (.ref b30), .unset, .unset] [])) rfl (hb hby at_152) (by decide) (by decide)
          obtain ⟨b107, q107⟩ : ∃ z, z = T39.heap.size := ⟨_, rfl⟩
          rw [← q107] at A107 D107 st107
          have g_b107 : n0 ≤ b107 := Nat.le_trans Z40 (Nat.le_of_eq q107.symm)
          have sz_b107 : h0.size ≤ b107 := Nat.le_trans K40.1 (Nat.le_of_eq q107.symm)
          have Z108 : n0 ≤ h107.size := Nat.le_trans Z40 E107.1
          have O108 : Old Z n0 h107 := O40.ext E107
          have K108 : Keep h0 h107 [] := K40.ext E107
          have F_request_b107 : Fld Z h107 b107 "com/example/lushan/lushan/policy/MappingDecision" "request" "Lcom/example/lushan/lushan/policy/Mapping;" .null := D107 (Or.inr (hw _ (List.mem_of_getElem? (i := 69) rfl))) (ty := (.object "com/example/lushan/lushan/policy/Mapping")) (by decide)
          have F_conflict_b107 : Fld Z h107 b107 "com/example/lushan/lushan/policy/MappingDecision" "conflict" "Lcom/example/lushan/lushan/policy/Mapping;" .null := D107 (Or.inr (hw _ (List.mem_of_getElem? (i := 71) rfl))) (ty := (.object "com/example/lushan/lushan/policy/Mapping")) (by decide)
          refine gs st107 ?_
          show OwnGo p e below s _ _ _ (T107.setTop (mkF m 155 #[.val (.int i0), .val (.int i1), .val (.int i2), .val (.int i3), .val (.int i4), .val (.int xa_1), .val (.int xb_1), .val (.int xc_1), .val (.ref b2), .val (.ref b16), .val (.ref b30), .val (.ref b36), .val (.ref b30), .val (.ref b30), .unset, .unset] [(.ref b107)]))
          have c109 : ∀ tg, Steps p.tables e below (T107.setTop (mkF m 160 #[.val (.int i0), .val (.int i1), .val (.int i2), .val (.int i3), .val (.int i4), .val (.int xa_1), .val (.int xb_1), .val (.int xc_1), .val (.ref b2), .val (.ref b16), .val (.ref b30), .val (.ref b36), .val (.ref b30), .val (.ref b30), .unset, .unset] [(.ref b30), (.ref b30), (.ref b107), (.ref b107)])) tg → Steps p.tables e below (T107.setTop (mkF m 155 #[.val (.int i0), .val (.int i1), .val (.int i2), .val (.int i3), .val (.int i4), .val (.int xa_1), .val (.int xb_1), .val (.int xc_1), .val (.ref b2), .val (.ref b16), .val (.ref b30), .val (.ref b36), .val (.ref b30), .val (.ref b30), .unset, .unset] [(.ref b107)])) tg := fun tg kg => by
            refine XS.dup X107.here hx rfl (hb hby at_155) rfl rfl ?_
            show Steps p.tables e below (T107.setTop (mkF m 156 #[.val (.int i0), .val (.int i1), .val (.int i2), .val (.int i3), .val (.int i4), .val (.int xa_1), .val (.int xb_1), .val (.int xc_1), .val (.ref b2), .val (.ref b16), .val (.ref b30), .val (.ref b36), .val (.ref b30), .val (.ref b30), .unset, .unset] [(.ref b107), (.ref b107)])) tg
            refine XS.aload X107.here hx rfl (hb hby at_156) rfl rfl ?_
            show Steps p.tables e below (T107.setTop (mkF m 158 #[.val (.int i0), .val (.int i1), .val (.int i2), .val (.int i3), .val (.int i4), .val (.int xa_1), .val (.int xb_1), .val (.int xc_1), .val (.ref b2), .val (.ref b16), .val (.ref b30), .val (.ref b36), .val (.ref b30), .val (.ref b30), .unset, .unset] [(.ref b30), (.ref b107), (.ref b107)])) tg
            refine XS.aload X107.here hx rfl (hb hby at_158) rfl rfl ?_
            show Steps p.tables e below (T107.setTop (mkF m 160 #[.val (.int i0), .val (.int i1), .val (.int i2), .val (.int i3), .val (.int i4), .val (.int xa_1), .val (.int xb_1), .val (.int xc_1), .val (.ref b2), .val (.ref b16), .val (.ref b30), .val (.ref b36), .val (.ref b30), .val (.ref b30), .unset, .unset] [(.ref b30), (.ref b30), (.ref b107), (.ref b107)])) tg
            exact kg
          refine gs c109 ?_
          obtain ⟨_, _, ⟨T110, L110, k110, n110⟩, -, X110, ⟨Lc110, hQ110, l110, y110, z110⟩, st110⟩ := X107.specialBack hx (y := (⟨"com/example/lushan/lushan/policy/MappingDecision", "<init>", "(Lcom/example/lushan/lushan/policy/Mapping;Lcom/example/lushan/lushan/policy/Mapping;)V"⟩ : MethodName)) rfl hown (mvT hZ (hw _ (List.mem_of_getElem? (i := 64) rfl))) (mvT hZ (hw _ (List.mem_of_getElem? (i := 65) rfl))) (mvT hZ (hw _ (List.mem_of_getElem? (i := 66) rfl))) (by decide) (backC (W := 1) (rm_md_ref_ref l Z a0 hw [] b107 b30 b30 h107 n0 Z108 O108 A107 F_request_b107 F_conflict_b107 g_b107) hZ (hw _ (List.mem_of_getElem? (i := 66) rfl)) (hw _ (List.mem_of_getElem? (i := 63) rfl)) (by decide) (by decide)) (g := (mkF m 160 #[.val (.int i0), .val (.int i1), .val (.int i2), .val (.int i3), .val (.int i4), .val (.int xa_1), .val (.int xb_1), .val (.int xc_1), .val (.ref b2), .val (.ref b16), .val (.ref b30), .val (.ref b36), .val (.ref b30), .val (.ref b30), .unset, .unset] [(.ref b30), (.ref b30), (.ref b107), (.ref b107)])) rfl (by rw [hml]; rfl) (Steps.refl _) (a := b107) (argsL := [(.ref b30), (.ref b30)]) (rest := [(.ref b107)]) (lenOf pd_80 rfl) rfl (by show 2 * 0 + _ ≤ _; exact Nat.le_of_eq rfl) (hb hby at_160) (fun _ _ => ⟨rfl, e107, (by decide : 17 + 0 ≤ _), (by decide : 42 + 0 ≤ _)⟩)
          dsimp only [Pt.U, Pt.locs, Pt.cells, Pt.slots] at X110 l110 y110 z110 st110 hQ110
          subst l110 y110 z110
          obtain ⟨rfl, N110q, K110q, F110_0, F110_1⟩ := hQ110
          have N110 := Fr.app N39 N110q
          have Z111 : n0 ≤ T110.heap.size := Nat.le_trans Z108 K110q.1
          have O111 : Old Z n0 T110.heap := O108.keep K110q (allS g_b107 all0)
          have K111 : Keep h0 T110.heap [] := K108.trans K110q (allS (Or.inr sz_b107) all0)
          refine gs (fun _ k => st110.trans k) ?_
          show OwnGo p e below s _ _ _ (T110.setTop (mkF m 163 #[.val (.int i0), .val (.int i1), .val (.int i2), .val (.int i3), .val (.int i4), .val (.int xa_1), .val (.int xb_1), .val (.int xc_1), .val (.ref b2), .val (.ref b16), .val (.ref b30), .val (.ref b36), .val (.ref b30), .val (.ref b30), .unset, .unset] [(.ref b107)]))
          have c112 : ∀ tg, Steps p.tables e below (T110.setTop (mkF m 179 #[.val (.int i0), .val (.int i1), .val (.int i2), .val (.int i3), .val (.int i4), .val (.int xa_1), .val (.int xb_1), .val (.int xc_1), .val (.ref b2), .val (.ref b16), .val (.ref b30), .val (.ref b36), .val (.ref b30), .val (.ref b30), .val (.ref b107), .val (.int (0 : Int32))] [(.ref b107)])) tg → Steps p.tables e below (T110.setTop (mkF m 163 #[.val (.int i0), .val (.int i1), .val (.int i2), .val (.int i3), .val (.int i4), .val (.int xa_1), .val (.int xb_1), .val (.int xc_1), .val (.ref b2), .val (.ref b16), .val (.ref b30), .val (.ref b36), .val (.ref b30), .val (.ref b30), .unset, .unset] [(.ref b107)])) tg := fun tg kg => by
            refine XS.astore X110.here hx rfl (hb hby at_163) rfl rfl (l' := #[.val (.int i0), .val (.int i1), .val (.int i2), .val (.int i3), .val (.int i4), .val (.int xa_1), .val (.int xb_1), .val (.int xc_1), .val (.ref b2), .val (.ref b16), .val (.ref b30), .val (.ref b36), .val (.ref b30), .val (.ref b30), .val (.ref b107), .unset]) rfl ?_
            show Steps p.tables e below (T110.setTop (mkF m 165 #[.val (.int i0), .val (.int i1), .val (.int i2), .val (.int i3), .val (.int i4), .val (.int xa_1), .val (.int xb_1), .val (.int xc_1), .val (.ref b2), .val (.ref b16), .val (.ref b30), .val (.ref b36), .val (.ref b30), .val (.ref b30), .val (.ref b107), .unset] [])) tg
            refine XS.iload X110.here hx rfl (hb hby at_165) rfl ?_
            show Steps p.tables e below (T110.setTop (mkF m 167 #[.val (.int i0), .val (.int i1), .val (.int i2), .val (.int i3), .val (.int i4), .val (.int xa_1), .val (.int xb_1), .val (.int xc_1), .val (.ref b2), .val (.ref b16), .val (.ref b30), .val (.ref b36), .val (.ref b30), .val (.ref b30), .val (.ref b107), .unset] [(.int xb_1)])) tg
            refine XS.ifYes X110.here hx rfl (pc0 := 167) (pc' := 174) rfl (hb hby at_167) rfl ((if0 _ _).trans (feq hc81).2) (by decide) (by decide) ?_
            show Steps p.tables e below (T110.setTop (mkF m 174 #[.val (.int i0), .val (.int i1), .val (.int i2), .val (.int i3), .val (.int i4), .val (.int xa_1), .val (.int xb_1), .val (.int xc_1), .val (.ref b2), .val (.ref b16), .val (.ref b30), .val (.ref b36), .val (.ref b30), .val (.ref b30), .val (.ref b107), .unset] [])) tg
            refine XS.iconst X110.here hx rfl (hb hby at_174) ?_
            show Steps p.tables e below (T110.setTop (mkF m 175 #[.val (.int i0), .val (.int i1), .val (.int i2), .val (.int i3), .val (.int i4), .val (.int xa_1), .val (.int xb_1), .val (.int xc_1), .val (.ref b2), .val (.ref b16), .val (.ref b30), .val (.ref b36), .val (.ref b30), .val (.ref b30), .val (.ref b107), .unset] [(.int (0 : Int32))])) tg
            refine XS.istore X110.here hx rfl (hb hby at_175) rfl (l' := #[.val (.int i0), .val (.int i1), .val (.int i2), .val (.int i3), .val (.int i4), .val (.int xa_1), .val (.int xb_1), .val (.int xc_1), .val (.ref b2), .val (.ref b16), .val (.ref b30), .val (.ref b36), .val (.ref b30), .val (.ref b30), .val (.ref b107), .val (.int (0 : Int32))]) rfl ?_
            show Steps p.tables e below (T110.setTop (mkF m 177 #[.val (.int i0), .val (.int i1), .val (.int i2), .val (.int i3), .val (.int i4), .val (.int xa_1), .val (.int xb_1), .val (.int xc_1), .val (.ref b2), .val (.ref b16), .val (.ref b30), .val (.ref b36), .val (.ref b30), .val (.ref b30), .val (.ref b107), .val (.int (0 : Int32))] [])) tg
            refine XS.aload X110.here hx rfl (hb hby at_177) rfl rfl ?_
            show Steps p.tables e below (T110.setTop (mkF m 179 #[.val (.int i0), .val (.int i1), .val (.int i2), .val (.int i3), .val (.int i4), .val (.int xa_1), .val (.int xb_1), .val (.int xc_1), .val (.ref b2), .val (.ref b16), .val (.ref b30), .val (.ref b36), .val (.ref b30), .val (.ref b30), .val (.ref b107), .val (.int (0 : Int32))] [(.ref b107)])) tg
            exact kg
          refine gs c112 ?_
          have f114 := (A107.keep K110q)
          obtain ⟨cq113, kq113, q113a, q113b, q113c⟩ := isOf hZ rfl f114
          obtain ⟨_, _, ⟨T113, L113, k113, n113⟩, -, X113, ⟨Lc113, hQ113, l113, y113, z113⟩, st113⟩ := X110.virtualBack hx (y := (⟨"com/example/lushan/lushan/policy/MappingDecision", "accepted", "()Z"⟩ : MethodName)) (z := (⟨"com/example/lushan/lushan/policy/MappingDecision", "accepted", "()Z"⟩ : MethodName)) hown (mvT hZ (hw _ (List.mem_of_getElem? (i := 72) rfl))) (mvT hZ (hw _ (List.mem_of_getElem? (i := 73) rfl))) (notFace_of_selects (args := #[]) (mvT hZ (hw _ (List.mem_of_getElem? (i := 75) rfl)))) (mvT hZ (hw _ (List.mem_of_getElem? (i := 75) rfl))) (mvT hZ (hw _ (List.mem_of_getElem? (i := 74) rfl))) (by decide) (backC (W := 0) (rm_acc_ref l Z a0 hw [] b107 b30 T110.heap n0 Z111 O111 F110_1) hZ (hw _ (List.mem_of_getElem? (i := 76) rfl)) (hw _ (List.mem_of_getElem? (i := 63) rfl)) (by decide) (by decide)) q113a q113c (g := (mkF m 179 #[.val (.int i0), .val (.int i1), .val (.int i2), .val (.int i3), .val (.int i4), .val (.int xa_1), .val (.int xb_1), .val (.int xc_1), .val (.ref b2), .val (.ref b16), .val (.ref b30), .val (.ref b36), .val (.ref b30), .val (.ref b30), .val (.ref b107), .val (.int (0 : Int32))] [(.ref b107)])) rfl (by rw [hml]; rfl) (Steps.refl _) (argsL := []) (rest := []) (lenOf pd_81 rfl) rfl (by show 2 * 0 + _ ≤ _; exact Nat.le_of_eq rfl) (hb hby at_179) (fun _ _ => ⟨rfl, rfl, (by decide : 17 + 0 ≤ _), (by decide : 42 + 0 ≤ _)⟩)
          dsimp only [Pt.U, Pt.locs, Pt.cells, Pt.slots] at X113 l113 y113 z113 st113 hQ113
          subst l113 y113 z113
          obtain ⟨rfl, N113q, K113q⟩ := hQ113
          have N113 := Fr.app N110 N113q
          have Z115 : n0 ≤ T113.heap.size := Nat.le_trans Z111 K113q.1
          have O115 : Old Z n0 T113.heap := O111.keep K113q all0
          have K115 : Keep h0 T113.heap [] := K111.trans K113q all0
          refine gs (fun _ k => st113.trans k) ?_
          show OwnGo p e below s _ _ _ (T113.setTop (mkF m 182 #[.val (.int i0), .val (.int i1), .val (.int i2), .val (.int i3), .val (.int i4), .val (.int xa_1), .val (.int xb_1), .val (.int xc_1), .val (.ref b2), .val (.ref b16), .val (.ref b30), .val (.ref b36), .val (.ref b30), .val (.ref b30), .val (.ref b107), .val (.int (0 : Int32))] [(.int (0 : Int32))]))
          have c116 : ∀ tg, Steps p.tables e below (T113.setTop (mkF m 192 #[.val (.int i0), .val (.int i1), .val (.int i2), .val (.int i3), .val (.int i4), .val (.int xa_1), .val (.int xb_1), .val (.int xc_1), .val (.ref b2), .val (.ref b16), .val (.ref b30), .val (.ref b36), .val (.ref b30), .val (.ref b30), .val (.ref b107), .val (.int (0 : Int32))] [(.int (1 : Int32))])) tg → Steps p.tables e below (T113.setTop (mkF m 182 #[.val (.int i0), .val (.int i1), .val (.int i2), .val (.int i3), .val (.int i4), .val (.int xa_1), .val (.int xb_1), .val (.int xc_1), .val (.ref b2), .val (.ref b16), .val (.ref b30), .val (.ref b36), .val (.ref b30), .val (.ref b30), .val (.ref b107), .val (.int (0 : Int32))] [(.int (0 : Int32))])) tg := fun tg kg => by
            refine XS.iload X113.here hx rfl (hb hby at_182) rfl ?_
            show Steps p.tables e below (T113.setTop (mkF m 184 #[.val (.int i0), .val (.int i1), .val (.int i2), .val (.int i3), .val (.int i4), .val (.int xa_1), .val (.int xb_1), .val (.int xc_1), .val (.ref b2), .val (.ref b16), .val (.ref b30), .val (.ref b36), .val (.ref b30), .val (.ref b30), .val (.ref b107), .val (.int (0 : Int32))] [(.int (0 : Int32)), (.int (0 : Int32))])) tg
            refine XS.icmpNo X113.here hx rfl (hb hby at_184) rfl (teq (by decide : (0 : Int32) = (0 : Int32))).2 ?_
            show Steps p.tables e below (T113.setTop (mkF m 187 #[.val (.int i0), .val (.int i1), .val (.int i2), .val (.int i3), .val (.int i4), .val (.int xa_1), .val (.int xb_1), .val (.int xc_1), .val (.ref b2), .val (.ref b16), .val (.ref b30), .val (.ref b36), .val (.ref b30), .val (.ref b30), .val (.ref b107), .val (.int (0 : Int32))] [])) tg
            refine XS.iconst X113.here hx rfl (hb hby at_187) ?_
            show Steps p.tables e below (T113.setTop (mkF m 188 #[.val (.int i0), .val (.int i1), .val (.int i2), .val (.int i3), .val (.int i4), .val (.int xa_1), .val (.int xb_1), .val (.int xc_1), .val (.ref b2), .val (.ref b16), .val (.ref b30), .val (.ref b36), .val (.ref b30), .val (.ref b30), .val (.ref b107), .val (.int (0 : Int32))] [(.int (1 : Int32))])) tg
            refine XS.goto X113.here hx rfl (pc0 := 188) (pc' := 192) rfl (hb hby at_188) (by decide) (by decide) ?_
            show Steps p.tables e below (T113.setTop (mkF m 192 #[.val (.int i0), .val (.int i1), .val (.int i2), .val (.int i3), .val (.int i4), .val (.int xa_1), .val (.int xb_1), .val (.int xc_1), .val (.ref b2), .val (.ref b16), .val (.ref b30), .val (.ref b36), .val (.ref b30), .val (.ref b30), .val (.ref b107), .val (.int (0 : Int32))] [(.int (1 : Int32))])) tg
            exact kg
          refine gs c116 ?_
          refine gout (v := some (.int (1 : Int32))) X113 Bd.notSynchronized (fun h => by rw [Bd.returns] at h; cases h) (by decide) (by decide) ?_ (fun fs hr => retN X113 hx (t := .boolean) Bd.returns (by simp) (hb hby at_192) hr)
          exact ⟨rfl, N113⟩
  have c117 : ∀ tg, Steps p.tables e below (s₁.setTop (mkF m 3 #[.val (.int i0), .val (.int i1), .val (.int i2), .val (.int i3), .val (.int i4), .unset, .unset, .unset, .unset, .unset, .unset, .unset, .unset, .unset, .unset, .unset] [(.int (i0 &&& (2 : Int32)))])) tg → Steps p.tables e below (s₁.setTop (mkF m 0 #[.val (.int i0), .val (.int i1), .val (.int i2), .val (.int i3), .val (.int i4), .unset, .unset, .unset, .unset, .unset, .unset, .unset, .unset, .unset, .unset, .unset] [])) tg := fun tg kg => by
    refine XS.iloadN X0.here hx rfl (hb hby at_0) rfl ?_
    show Steps p.tables e below (s₁.setTop (mkF m 1 #[.val (.int i0), .val (.int i1), .val (.int i2), .val (.int i3), .val (.int i4), .unset, .unset, .unset, .unset, .unset, .unset, .unset, .unset, .unset, .unset, .unset] [(.int i0)])) tg
    refine XS.iconst X0.here hx rfl (hb hby at_1) ?_
    show Steps p.tables e below (s₁.setTop (mkF m 2 #[.val (.int i0), .val (.int i1), .val (.int i2), .val (.int i3), .val (.int i4), .unset, .unset, .unset, .unset, .unset, .unset, .unset, .unset, .unset, .unset, .unset] [(.int (2 : Int32)), (.int i0)])) tg
    refine XS.iand X0.here hx rfl (hb hby at_2) rfl ?_
    show Steps p.tables e below (s₁.setTop (mkF m 3 #[.val (.int i0), .val (.int i1), .val (.int i2), .val (.int i3), .val (.int i4), .unset, .unset, .unset, .unset, .unset, .unset, .unset, .unset, .unset, .unset, .unset] [(.int (i0 &&& (2 : Int32)))])) tg
    exact kg
  refine gs c117 ?_
  by_cases hc118 : (i0 &&& (2 : Int32)) = (0 : Int32)
  · have c119 : ∀ tg, Steps p.tables e below (s₁.setTop (mkF m 16 #[.val (.int i0), .val (.int i1), .val (.int i2), .val (.int i3), .val (.int i4), .val (.int (0 : Int32)), .unset, .unset, .unset, .unset, .unset, .unset, .unset, .unset, .unset, .unset] [(.int (i0 &&& (1 : Int32)))])) tg → Steps p.tables e below (s₁.setTop (mkF m 3 #[.val (.int i0), .val (.int i1), .val (.int i2), .val (.int i3), .val (.int i4), .unset, .unset, .unset, .unset, .unset, .unset, .unset, .unset, .unset, .unset, .unset] [(.int (i0 &&& (2 : Int32)))])) tg := fun tg kg => by
      refine XS.ifYes X0.here hx rfl (pc0 := 3) (pc' := 10) rfl (hb hby at_3) rfl ((if0 _ _).trans (teq hc118).1) (by decide) (by decide) ?_
      show Steps p.tables e below (s₁.setTop (mkF m 10 #[.val (.int i0), .val (.int i1), .val (.int i2), .val (.int i3), .val (.int i4), .unset, .unset, .unset, .unset, .unset, .unset, .unset, .unset, .unset, .unset, .unset] [])) tg
      refine XS.iconst X0.here hx rfl (hb hby at_10) ?_
      show Steps p.tables e below (s₁.setTop (mkF m 11 #[.val (.int i0), .val (.int i1), .val (.int i2), .val (.int i3), .val (.int i4), .unset, .unset, .unset, .unset, .unset, .unset, .unset, .unset, .unset, .unset, .unset] [(.int (0 : Int32))])) tg
      refine XS.istore X0.here hx rfl (hb hby at_11) rfl (l' := #[.val (.int i0), .val (.int i1), .val (.int i2), .val (.int i3), .val (.int i4), .val (.int (0 : Int32)), .unset, .unset, .unset, .unset, .unset, .unset, .unset, .unset, .unset, .unset]) rfl ?_
      show Steps p.tables e below (s₁.setTop (mkF m 13 #[.val (.int i0), .val (.int i1), .val (.int i2), .val (.int i3), .val (.int i4), .val (.int (0 : Int32)), .unset, .unset, .unset, .unset, .unset, .unset, .unset, .unset, .unset, .unset] [])) tg
      refine XS.iloadN X0.here hx rfl (hb hby at_13) rfl ?_
      show Steps p.tables e below (s₁.setTop (mkF m 14 #[.val (.int i0), .val (.int i1), .val (.int i2), .val (.int i3), .val (.int i4), .val (.int (0 : Int32)), .unset, .unset, .unset, .unset, .unset, .unset, .unset, .unset, .unset, .unset] [(.int i0)])) tg
      refine XS.iconst X0.here hx rfl (hb hby at_14) ?_
      show Steps p.tables e below (s₁.setTop (mkF m 15 #[.val (.int i0), .val (.int i1), .val (.int i2), .val (.int i3), .val (.int i4), .val (.int (0 : Int32)), .unset, .unset, .unset, .unset, .unset, .unset, .unset, .unset, .unset, .unset] [(.int (1 : Int32)), (.int i0)])) tg
      refine XS.iand X0.here hx rfl (hb hby at_15) rfl ?_
      show Steps p.tables e below (s₁.setTop (mkF m 16 #[.val (.int i0), .val (.int i1), .val (.int i2), .val (.int i3), .val (.int i4), .val (.int (0 : Int32)), .unset, .unset, .unset, .unset, .unset, .unset, .unset, .unset, .unset, .unset] [(.int (i0 &&& (1 : Int32)))])) tg
      exact kg
    refine gs c119 ?_
    by_cases hc120 : (i0 &&& (1 : Int32)) = (0 : Int32)
    · have c121 : ∀ tg, Steps p.tables e below (s₁.setTop (mkF m 29 #[.val (.int i0), .val (.int i1), .val (.int i2), .val (.int i3), .val (.int i4), .val (.int (0 : Int32)), .val (.int (0 : Int32)), .unset, .unset, .unset, .unset, .unset, .unset, .unset, .unset, .unset] [(.int (i0 &&& (4 : Int32)))])) tg → Steps p.tables e below (s₁.setTop (mkF m 16 #[.val (.int i0), .val (.int i1), .val (.int i2), .val (.int i3), .val (.int i4), .val (.int (0 : Int32)), .unset, .unset, .unset, .unset, .unset, .unset, .unset, .unset, .unset, .unset] [(.int (i0 &&& (1 : Int32)))])) tg := fun tg kg => by
        refine XS.ifYes X0.here hx rfl (pc0 := 16) (pc' := 23) rfl (hb hby at_16) rfl ((if0 _ _).trans (teq hc120).1) (by decide) (by decide) ?_
        show Steps p.tables e below (s₁.setTop (mkF m 23 #[.val (.int i0), .val (.int i1), .val (.int i2), .val (.int i3), .val (.int i4), .val (.int (0 : Int32)), .unset, .unset, .unset, .unset, .unset, .unset, .unset, .unset, .unset, .unset] [])) tg
        refine XS.iconst X0.here hx rfl (hb hby at_23) ?_
        show Steps p.tables e below (s₁.setTop (mkF m 24 #[.val (.int i0), .val (.int i1), .val (.int i2), .val (.int i3), .val (.int i4), .val (.int (0 : Int32)), .unset, .unset, .unset, .unset, .unset, .unset, .unset, .unset, .unset, .unset] [(.int (0 : Int32))])) tg
        refine XS.istore X0.here hx rfl (hb hby at_24) rfl (l' := #[.val (.int i0), .val (.int i1), .val (.int i2), .val (.int i3), .val (.int i4), .val (.int (0 : Int32)), .val (.int (0 : Int32)), .unset, .unset, .unset, .unset, .unset, .unset, .unset, .unset, .unset]) rfl ?_
        show Steps p.tables e below (s₁.setTop (mkF m 26 #[.val (.int i0), .val (.int i1), .val (.int i2), .val (.int i3), .val (.int i4), .val (.int (0 : Int32)), .val (.int (0 : Int32)), .unset, .unset, .unset, .unset, .unset, .unset, .unset, .unset, .unset] [])) tg
        refine XS.iloadN X0.here hx rfl (hb hby at_26) rfl ?_
        show Steps p.tables e below (s₁.setTop (mkF m 27 #[.val (.int i0), .val (.int i1), .val (.int i2), .val (.int i3), .val (.int i4), .val (.int (0 : Int32)), .val (.int (0 : Int32)), .unset, .unset, .unset, .unset, .unset, .unset, .unset, .unset, .unset] [(.int i0)])) tg
        refine XS.iconst X0.here hx rfl (hb hby at_27) ?_
        show Steps p.tables e below (s₁.setTop (mkF m 28 #[.val (.int i0), .val (.int i1), .val (.int i2), .val (.int i3), .val (.int i4), .val (.int (0 : Int32)), .val (.int (0 : Int32)), .unset, .unset, .unset, .unset, .unset, .unset, .unset, .unset, .unset] [(.int (4 : Int32)), (.int i0)])) tg
        refine XS.iand X0.here hx rfl (hb hby at_28) rfl ?_
        show Steps p.tables e below (s₁.setTop (mkF m 29 #[.val (.int i0), .val (.int i1), .val (.int i2), .val (.int i3), .val (.int i4), .val (.int (0 : Int32)), .val (.int (0 : Int32)), .unset, .unset, .unset, .unset, .unset, .unset, .unset, .unset, .unset] [(.int (i0 &&& (4 : Int32)))])) tg
        exact kg
      refine gs c121 ?_
      by_cases hc122 : (i0 &&& (4 : Int32)) = (0 : Int32)
      · have c123 : ∀ tg, Steps p.tables e below (s₁.setTop (mkF m 39 #[.val (.int i0), .val (.int i1), .val (.int i2), .val (.int i3), .val (.int i4), .val (.int (0 : Int32)), .val (.int (0 : Int32)), .val (.int (0 : Int32)), .unset, .unset, .unset, .unset, .unset, .unset, .unset, .unset] [])) tg → Steps p.tables e below (s₁.setTop (mkF m 29 #[.val (.int i0), .val (.int i1), .val (.int i2), .val (.int i3), .val (.int i4), .val (.int (0 : Int32)), .val (.int (0 : Int32)), .unset, .unset, .unset, .unset, .unset, .unset, .unset, .unset, .unset] [(.int (i0 &&& (4 : Int32)))])) tg := fun tg kg => by
          refine XS.ifYes X0.here hx rfl (pc0 := 29) (pc' := 36) rfl (hb hby at_29) rfl ((if0 _ _).trans (teq hc122).1) (by decide) (by decide) ?_
          show Steps p.tables e below (s₁.setTop (mkF m 36 #[.val (.int i0), .val (.int i1), .val (.int i2), .val (.int i3), .val (.int i4), .val (.int (0 : Int32)), .val (.int (0 : Int32)), .unset, .unset, .unset, .unset, .unset, .unset, .unset, .unset, .unset] [])) tg
          refine XS.iconst X0.here hx rfl (hb hby at_36) ?_
          show Steps p.tables e below (s₁.setTop (mkF m 37 #[.val (.int i0), .val (.int i1), .val (.int i2), .val (.int i3), .val (.int i4), .val (.int (0 : Int32)), .val (.int (0 : Int32)), .unset, .unset, .unset, .unset, .unset, .unset, .unset, .unset, .unset] [(.int (0 : Int32))])) tg
          refine XS.istore X0.here hx rfl (hb hby at_37) rfl (l' := #[.val (.int i0), .val (.int i1), .val (.int i2), .val (.int i3), .val (.int i4), .val (.int (0 : Int32)), .val (.int (0 : Int32)), .val (.int (0 : Int32)), .unset, .unset, .unset, .unset, .unset, .unset, .unset, .unset]) rfl ?_
          show Steps p.tables e below (s₁.setTop (mkF m 39 #[.val (.int i0), .val (.int i1), .val (.int i2), .val (.int i3), .val (.int i4), .val (.int (0 : Int32)), .val (.int (0 : Int32)), .val (.int (0 : Int32)), .unset, .unset, .unset, .unset, .unset, .unset, .unset, .unset] [])) tg
          exact kg
        refine gs c123 ?_
        exact mid1 (0 : Int32) (0 : Int32) (0 : Int32)
      · have c124 : ∀ tg, Steps p.tables e below (s₁.setTop (mkF m 39 #[.val (.int i0), .val (.int i1), .val (.int i2), .val (.int i3), .val (.int i4), .val (.int (0 : Int32)), .val (.int (0 : Int32)), .val (.int (1 : Int32)), .unset, .unset, .unset, .unset, .unset, .unset, .unset, .unset] [])) tg → Steps p.tables e below (s₁.setTop (mkF m 29 #[.val (.int i0), .val (.int i1), .val (.int i2), .val (.int i3), .val (.int i4), .val (.int (0 : Int32)), .val (.int (0 : Int32)), .unset, .unset, .unset, .unset, .unset, .unset, .unset, .unset, .unset] [(.int (i0 &&& (4 : Int32)))])) tg := fun tg kg => by
          refine XS.ifNo X0.here hx rfl (hb hby at_29) rfl ((if0 _ _).trans (feq hc122).1) ?_
          show Steps p.tables e below (s₁.setTop (mkF m 32 #[.val (.int i0), .val (.int i1), .val (.int i2), .val (.int i3), .val (.int i4), .val (.int (0 : Int32)), .val (.int (0 : Int32)), .unset, .unset, .unset, .unset, .unset, .unset, .unset, .unset, .unset] [])) tg
          refine XS.iconst X0.here hx rfl (hb hby at_32) ?_
          show Steps p.tables e below (s₁.setTop (mkF m 33 #[.val (.int i0), .val (.int i1), .val (.int i2), .val (.int i3), .val (.int i4), .val (.int (0 : Int32)), .val (.int (0 : Int32)), .unset, .unset, .unset, .unset, .unset, .unset, .unset, .unset, .unset] [(.int (1 : Int32))])) tg
          refine XS.goto X0.here hx rfl (pc0 := 33) (pc' := 37) rfl (hb hby at_33) (by decide) (by decide) ?_
          show Steps p.tables e below (s₁.setTop (mkF m 37 #[.val (.int i0), .val (.int i1), .val (.int i2), .val (.int i3), .val (.int i4), .val (.int (0 : Int32)), .val (.int (0 : Int32)), .unset, .unset, .unset, .unset, .unset, .unset, .unset, .unset, .unset] [(.int (1 : Int32))])) tg
          refine XS.istore X0.here hx rfl (hb hby at_37) rfl (l' := #[.val (.int i0), .val (.int i1), .val (.int i2), .val (.int i3), .val (.int i4), .val (.int (0 : Int32)), .val (.int (0 : Int32)), .val (.int (1 : Int32)), .unset, .unset, .unset, .unset, .unset, .unset, .unset, .unset]) rfl ?_
          show Steps p.tables e below (s₁.setTop (mkF m 39 #[.val (.int i0), .val (.int i1), .val (.int i2), .val (.int i3), .val (.int i4), .val (.int (0 : Int32)), .val (.int (0 : Int32)), .val (.int (1 : Int32)), .unset, .unset, .unset, .unset, .unset, .unset, .unset, .unset] [])) tg
          exact kg
        refine gs c124 ?_
        exact mid1 (0 : Int32) (0 : Int32) (1 : Int32)
    · have c125 : ∀ tg, Steps p.tables e below (s₁.setTop (mkF m 29 #[.val (.int i0), .val (.int i1), .val (.int i2), .val (.int i3), .val (.int i4), .val (.int (0 : Int32)), .val (.int (1 : Int32)), .unset, .unset, .unset, .unset, .unset, .unset, .unset, .unset, .unset] [(.int (i0 &&& (4 : Int32)))])) tg → Steps p.tables e below (s₁.setTop (mkF m 16 #[.val (.int i0), .val (.int i1), .val (.int i2), .val (.int i3), .val (.int i4), .val (.int (0 : Int32)), .unset, .unset, .unset, .unset, .unset, .unset, .unset, .unset, .unset, .unset] [(.int (i0 &&& (1 : Int32)))])) tg := fun tg kg => by
        refine XS.ifNo X0.here hx rfl (hb hby at_16) rfl ((if0 _ _).trans (feq hc120).1) ?_
        show Steps p.tables e below (s₁.setTop (mkF m 19 #[.val (.int i0), .val (.int i1), .val (.int i2), .val (.int i3), .val (.int i4), .val (.int (0 : Int32)), .unset, .unset, .unset, .unset, .unset, .unset, .unset, .unset, .unset, .unset] [])) tg
        refine XS.iconst X0.here hx rfl (hb hby at_19) ?_
        show Steps p.tables e below (s₁.setTop (mkF m 20 #[.val (.int i0), .val (.int i1), .val (.int i2), .val (.int i3), .val (.int i4), .val (.int (0 : Int32)), .unset, .unset, .unset, .unset, .unset, .unset, .unset, .unset, .unset, .unset] [(.int (1 : Int32))])) tg
        refine XS.goto X0.here hx rfl (pc0 := 20) (pc' := 24) rfl (hb hby at_20) (by decide) (by decide) ?_
        show Steps p.tables e below (s₁.setTop (mkF m 24 #[.val (.int i0), .val (.int i1), .val (.int i2), .val (.int i3), .val (.int i4), .val (.int (0 : Int32)), .unset, .unset, .unset, .unset, .unset, .unset, .unset, .unset, .unset, .unset] [(.int (1 : Int32))])) tg
        refine XS.istore X0.here hx rfl (hb hby at_24) rfl (l' := #[.val (.int i0), .val (.int i1), .val (.int i2), .val (.int i3), .val (.int i4), .val (.int (0 : Int32)), .val (.int (1 : Int32)), .unset, .unset, .unset, .unset, .unset, .unset, .unset, .unset, .unset]) rfl ?_
        show Steps p.tables e below (s₁.setTop (mkF m 26 #[.val (.int i0), .val (.int i1), .val (.int i2), .val (.int i3), .val (.int i4), .val (.int (0 : Int32)), .val (.int (1 : Int32)), .unset, .unset, .unset, .unset, .unset, .unset, .unset, .unset, .unset] [])) tg
        refine XS.iloadN X0.here hx rfl (hb hby at_26) rfl ?_
        show Steps p.tables e below (s₁.setTop (mkF m 27 #[.val (.int i0), .val (.int i1), .val (.int i2), .val (.int i3), .val (.int i4), .val (.int (0 : Int32)), .val (.int (1 : Int32)), .unset, .unset, .unset, .unset, .unset, .unset, .unset, .unset, .unset] [(.int i0)])) tg
        refine XS.iconst X0.here hx rfl (hb hby at_27) ?_
        show Steps p.tables e below (s₁.setTop (mkF m 28 #[.val (.int i0), .val (.int i1), .val (.int i2), .val (.int i3), .val (.int i4), .val (.int (0 : Int32)), .val (.int (1 : Int32)), .unset, .unset, .unset, .unset, .unset, .unset, .unset, .unset, .unset] [(.int (4 : Int32)), (.int i0)])) tg
        refine XS.iand X0.here hx rfl (hb hby at_28) rfl ?_
        show Steps p.tables e below (s₁.setTop (mkF m 29 #[.val (.int i0), .val (.int i1), .val (.int i2), .val (.int i3), .val (.int i4), .val (.int (0 : Int32)), .val (.int (1 : Int32)), .unset, .unset, .unset, .unset, .unset, .unset, .unset, .unset, .unset] [(.int (i0 &&& (4 : Int32)))])) tg
        exact kg
      refine gs c125 ?_
      by_cases hc126 : (i0 &&& (4 : Int32)) = (0 : Int32)
      · have c127 : ∀ tg, Steps p.tables e below (s₁.setTop (mkF m 39 #[.val (.int i0), .val (.int i1), .val (.int i2), .val (.int i3), .val (.int i4), .val (.int (0 : Int32)), .val (.int (1 : Int32)), .val (.int (0 : Int32)), .unset, .unset, .unset, .unset, .unset, .unset, .unset, .unset] [])) tg → Steps p.tables e below (s₁.setTop (mkF m 29 #[.val (.int i0), .val (.int i1), .val (.int i2), .val (.int i3), .val (.int i4), .val (.int (0 : Int32)), .val (.int (1 : Int32)), .unset, .unset, .unset, .unset, .unset, .unset, .unset, .unset, .unset] [(.int (i0 &&& (4 : Int32)))])) tg := fun tg kg => by
          refine XS.ifYes X0.here hx rfl (pc0 := 29) (pc' := 36) rfl (hb hby at_29) rfl ((if0 _ _).trans (teq hc126).1) (by decide) (by decide) ?_
          show Steps p.tables e below (s₁.setTop (mkF m 36 #[.val (.int i0), .val (.int i1), .val (.int i2), .val (.int i3), .val (.int i4), .val (.int (0 : Int32)), .val (.int (1 : Int32)), .unset, .unset, .unset, .unset, .unset, .unset, .unset, .unset, .unset] [])) tg
          refine XS.iconst X0.here hx rfl (hb hby at_36) ?_
          show Steps p.tables e below (s₁.setTop (mkF m 37 #[.val (.int i0), .val (.int i1), .val (.int i2), .val (.int i3), .val (.int i4), .val (.int (0 : Int32)), .val (.int (1 : Int32)), .unset, .unset, .unset, .unset, .unset, .unset, .unset, .unset, .unset] [(.int (0 : Int32))])) tg
          refine XS.istore X0.here hx rfl (hb hby at_37) rfl (l' := #[.val (.int i0), .val (.int i1), .val (.int i2), .val (.int i3), .val (.int i4), .val (.int (0 : Int32)), .val (.int (1 : Int32)), .val (.int (0 : Int32)), .unset, .unset, .unset, .unset, .unset, .unset, .unset, .unset]) rfl ?_
          show Steps p.tables e below (s₁.setTop (mkF m 39 #[.val (.int i0), .val (.int i1), .val (.int i2), .val (.int i3), .val (.int i4), .val (.int (0 : Int32)), .val (.int (1 : Int32)), .val (.int (0 : Int32)), .unset, .unset, .unset, .unset, .unset, .unset, .unset, .unset] [])) tg
          exact kg
        refine gs c127 ?_
        exact mid1 (0 : Int32) (1 : Int32) (0 : Int32)
      · have c128 : ∀ tg, Steps p.tables e below (s₁.setTop (mkF m 39 #[.val (.int i0), .val (.int i1), .val (.int i2), .val (.int i3), .val (.int i4), .val (.int (0 : Int32)), .val (.int (1 : Int32)), .val (.int (1 : Int32)), .unset, .unset, .unset, .unset, .unset, .unset, .unset, .unset] [])) tg → Steps p.tables e below (s₁.setTop (mkF m 29 #[.val (.int i0), .val (.int i1), .val (.int i2), .val (.int i3), .val (.int i4), .val (.int (0 : Int32)), .val (.int (1 : Int32)), .unset, .unset, .unset, .unset, .unset, .unset, .unset, .unset, .unset] [(.int (i0 &&& (4 : Int32)))])) tg := fun tg kg => by
          refine XS.ifNo X0.here hx rfl (hb hby at_29) rfl ((if0 _ _).trans (feq hc126).1) ?_
          show Steps p.tables e below (s₁.setTop (mkF m 32 #[.val (.int i0), .val (.int i1), .val (.int i2), .val (.int i3), .val (.int i4), .val (.int (0 : Int32)), .val (.int (1 : Int32)), .unset, .unset, .unset, .unset, .unset, .unset, .unset, .unset, .unset] [])) tg
          refine XS.iconst X0.here hx rfl (hb hby at_32) ?_
          show Steps p.tables e below (s₁.setTop (mkF m 33 #[.val (.int i0), .val (.int i1), .val (.int i2), .val (.int i3), .val (.int i4), .val (.int (0 : Int32)), .val (.int (1 : Int32)), .unset, .unset, .unset, .unset, .unset, .unset, .unset, .unset, .unset] [(.int (1 : Int32))])) tg
          refine XS.goto X0.here hx rfl (pc0 := 33) (pc' := 37) rfl (hb hby at_33) (by decide) (by decide) ?_
          show Steps p.tables e below (s₁.setTop (mkF m 37 #[.val (.int i0), .val (.int i1), .val (.int i2), .val (.int i3), .val (.int i4), .val (.int (0 : Int32)), .val (.int (1 : Int32)), .unset, .unset, .unset, .unset, .unset, .unset, .unset, .unset, .unset] [(.int (1 : Int32))])) tg
          refine XS.istore X0.here hx rfl (hb hby at_37) rfl (l' := #[.val (.int i0), .val (.int i1), .val (.int i2), .val (.int i3), .val (.int i4), .val (.int (0 : Int32)), .val (.int (1 : Int32)), .val (.int (1 : Int32)), .unset, .unset, .unset, .unset, .unset, .unset, .unset, .unset]) rfl ?_
          show Steps p.tables e below (s₁.setTop (mkF m 39 #[.val (.int i0), .val (.int i1), .val (.int i2), .val (.int i3), .val (.int i4), .val (.int (0 : Int32)), .val (.int (1 : Int32)), .val (.int (1 : Int32)), .unset, .unset, .unset, .unset, .unset, .unset, .unset, .unset] [])) tg
          exact kg
        refine gs c128 ?_
        exact mid1 (0 : Int32) (1 : Int32) (1 : Int32)
  · have c129 : ∀ tg, Steps p.tables e below (s₁.setTop (mkF m 16 #[.val (.int i0), .val (.int i1), .val (.int i2), .val (.int i3), .val (.int i4), .val (.int (1 : Int32)), .unset, .unset, .unset, .unset, .unset, .unset, .unset, .unset, .unset, .unset] [(.int (i0 &&& (1 : Int32)))])) tg → Steps p.tables e below (s₁.setTop (mkF m 3 #[.val (.int i0), .val (.int i1), .val (.int i2), .val (.int i3), .val (.int i4), .unset, .unset, .unset, .unset, .unset, .unset, .unset, .unset, .unset, .unset, .unset] [(.int (i0 &&& (2 : Int32)))])) tg := fun tg kg => by
      refine XS.ifNo X0.here hx rfl (hb hby at_3) rfl ((if0 _ _).trans (feq hc118).1) ?_
      show Steps p.tables e below (s₁.setTop (mkF m 6 #[.val (.int i0), .val (.int i1), .val (.int i2), .val (.int i3), .val (.int i4), .unset, .unset, .unset, .unset, .unset, .unset, .unset, .unset, .unset, .unset, .unset] [])) tg
      refine XS.iconst X0.here hx rfl (hb hby at_6) ?_
      show Steps p.tables e below (s₁.setTop (mkF m 7 #[.val (.int i0), .val (.int i1), .val (.int i2), .val (.int i3), .val (.int i4), .unset, .unset, .unset, .unset, .unset, .unset, .unset, .unset, .unset, .unset, .unset] [(.int (1 : Int32))])) tg
      refine XS.goto X0.here hx rfl (pc0 := 7) (pc' := 11) rfl (hb hby at_7) (by decide) (by decide) ?_
      show Steps p.tables e below (s₁.setTop (mkF m 11 #[.val (.int i0), .val (.int i1), .val (.int i2), .val (.int i3), .val (.int i4), .unset, .unset, .unset, .unset, .unset, .unset, .unset, .unset, .unset, .unset, .unset] [(.int (1 : Int32))])) tg
      refine XS.istore X0.here hx rfl (hb hby at_11) rfl (l' := #[.val (.int i0), .val (.int i1), .val (.int i2), .val (.int i3), .val (.int i4), .val (.int (1 : Int32)), .unset, .unset, .unset, .unset, .unset, .unset, .unset, .unset, .unset, .unset]) rfl ?_
      show Steps p.tables e below (s₁.setTop (mkF m 13 #[.val (.int i0), .val (.int i1), .val (.int i2), .val (.int i3), .val (.int i4), .val (.int (1 : Int32)), .unset, .unset, .unset, .unset, .unset, .unset, .unset, .unset, .unset, .unset] [])) tg
      refine XS.iloadN X0.here hx rfl (hb hby at_13) rfl ?_
      show Steps p.tables e below (s₁.setTop (mkF m 14 #[.val (.int i0), .val (.int i1), .val (.int i2), .val (.int i3), .val (.int i4), .val (.int (1 : Int32)), .unset, .unset, .unset, .unset, .unset, .unset, .unset, .unset, .unset, .unset] [(.int i0)])) tg
      refine XS.iconst X0.here hx rfl (hb hby at_14) ?_
      show Steps p.tables e below (s₁.setTop (mkF m 15 #[.val (.int i0), .val (.int i1), .val (.int i2), .val (.int i3), .val (.int i4), .val (.int (1 : Int32)), .unset, .unset, .unset, .unset, .unset, .unset, .unset, .unset, .unset, .unset] [(.int (1 : Int32)), (.int i0)])) tg
      refine XS.iand X0.here hx rfl (hb hby at_15) rfl ?_
      show Steps p.tables e below (s₁.setTop (mkF m 16 #[.val (.int i0), .val (.int i1), .val (.int i2), .val (.int i3), .val (.int i4), .val (.int (1 : Int32)), .unset, .unset, .unset, .unset, .unset, .unset, .unset, .unset, .unset, .unset] [(.int (i0 &&& (1 : Int32)))])) tg
      exact kg
    refine gs c129 ?_
    by_cases hc130 : (i0 &&& (1 : Int32)) = (0 : Int32)
    · have c131 : ∀ tg, Steps p.tables e below (s₁.setTop (mkF m 29 #[.val (.int i0), .val (.int i1), .val (.int i2), .val (.int i3), .val (.int i4), .val (.int (1 : Int32)), .val (.int (0 : Int32)), .unset, .unset, .unset, .unset, .unset, .unset, .unset, .unset, .unset] [(.int (i0 &&& (4 : Int32)))])) tg → Steps p.tables e below (s₁.setTop (mkF m 16 #[.val (.int i0), .val (.int i1), .val (.int i2), .val (.int i3), .val (.int i4), .val (.int (1 : Int32)), .unset, .unset, .unset, .unset, .unset, .unset, .unset, .unset, .unset, .unset] [(.int (i0 &&& (1 : Int32)))])) tg := fun tg kg => by
        refine XS.ifYes X0.here hx rfl (pc0 := 16) (pc' := 23) rfl (hb hby at_16) rfl ((if0 _ _).trans (teq hc130).1) (by decide) (by decide) ?_
        show Steps p.tables e below (s₁.setTop (mkF m 23 #[.val (.int i0), .val (.int i1), .val (.int i2), .val (.int i3), .val (.int i4), .val (.int (1 : Int32)), .unset, .unset, .unset, .unset, .unset, .unset, .unset, .unset, .unset, .unset] [])) tg
        refine XS.iconst X0.here hx rfl (hb hby at_23) ?_
        show Steps p.tables e below (s₁.setTop (mkF m 24 #[.val (.int i0), .val (.int i1), .val (.int i2), .val (.int i3), .val (.int i4), .val (.int (1 : Int32)), .unset, .unset, .unset, .unset, .unset, .unset, .unset, .unset, .unset, .unset] [(.int (0 : Int32))])) tg
        refine XS.istore X0.here hx rfl (hb hby at_24) rfl (l' := #[.val (.int i0), .val (.int i1), .val (.int i2), .val (.int i3), .val (.int i4), .val (.int (1 : Int32)), .val (.int (0 : Int32)), .unset, .unset, .unset, .unset, .unset, .unset, .unset, .unset, .unset]) rfl ?_
        show Steps p.tables e below (s₁.setTop (mkF m 26 #[.val (.int i0), .val (.int i1), .val (.int i2), .val (.int i3), .val (.int i4), .val (.int (1 : Int32)), .val (.int (0 : Int32)), .unset, .unset, .unset, .unset, .unset, .unset, .unset, .unset, .unset] [])) tg
        refine XS.iloadN X0.here hx rfl (hb hby at_26) rfl ?_
        show Steps p.tables e below (s₁.setTop (mkF m 27 #[.val (.int i0), .val (.int i1), .val (.int i2), .val (.int i3), .val (.int i4), .val (.int (1 : Int32)), .val (.int (0 : Int32)), .unset, .unset, .unset, .unset, .unset, .unset, .unset, .unset, .unset] [(.int i0)])) tg
        refine XS.iconst X0.here hx rfl (hb hby at_27) ?_
        show Steps p.tables e below (s₁.setTop (mkF m 28 #[.val (.int i0), .val (.int i1), .val (.int i2), .val (.int i3), .val (.int i4), .val (.int (1 : Int32)), .val (.int (0 : Int32)), .unset, .unset, .unset, .unset, .unset, .unset, .unset, .unset, .unset] [(.int (4 : Int32)), (.int i0)])) tg
        refine XS.iand X0.here hx rfl (hb hby at_28) rfl ?_
        show Steps p.tables e below (s₁.setTop (mkF m 29 #[.val (.int i0), .val (.int i1), .val (.int i2), .val (.int i3), .val (.int i4), .val (.int (1 : Int32)), .val (.int (0 : Int32)), .unset, .unset, .unset, .unset, .unset, .unset, .unset, .unset, .unset] [(.int (i0 &&& (4 : Int32)))])) tg
        exact kg
      refine gs c131 ?_
      by_cases hc132 : (i0 &&& (4 : Int32)) = (0 : Int32)
      · have c133 : ∀ tg, Steps p.tables e below (s₁.setTop (mkF m 39 #[.val (.int i0), .val (.int i1), .val (.int i2), .val (.int i3), .val (.int i4), .val (.int (1 : Int32)), .val (.int (0 : Int32)), .val (.int (0 : Int32)), .unset, .unset, .unset, .unset, .unset, .unset, .unset, .unset] [])) tg → Steps p.tables e below (s₁.setTop (mkF m 29 #[.val (.int i0), .val (.int i1), .val (.int i2), .val (.int i3), .val (.int i4), .val (.int (1 : Int32)), .val (.int (0 : Int32)), .unset, .unset, .unset, .unset, .unset, .unset, .unset, .unset, .unset] [(.int (i0 &&& (4 : Int32)))])) tg := fun tg kg => by
          refine XS.ifYes X0.here hx rfl (pc0 := 29) (pc' := 36) rfl (hb hby at_29) rfl ((if0 _ _).trans (teq hc132).1) (by decide) (by decide) ?_
          show Steps p.tables e below (s₁.setTop (mkF m 36 #[.val (.int i0), .val (.int i1), .val (.int i2), .val (.int i3), .val (.int i4), .val (.int (1 : Int32)), .val (.int (0 : Int32)), .unset, .unset, .unset, .unset, .unset, .unset, .unset, .unset, .unset] [])) tg
          refine XS.iconst X0.here hx rfl (hb hby at_36) ?_
          show Steps p.tables e below (s₁.setTop (mkF m 37 #[.val (.int i0), .val (.int i1), .val (.int i2), .val (.int i3), .val (.int i4), .val (.int (1 : Int32)), .val (.int (0 : Int32)), .unset, .unset, .unset, .unset, .unset, .unset, .unset, .unset, .unset] [(.int (0 : Int32))])) tg
          refine XS.istore X0.here hx rfl (hb hby at_37) rfl (l' := #[.val (.int i0), .val (.int i1), .val (.int i2), .val (.int i3), .val (.int i4), .val (.int (1 : Int32)), .val (.int (0 : Int32)), .val (.int (0 : Int32)), .unset, .unset, .unset, .unset, .unset, .unset, .unset, .unset]) rfl ?_
          show Steps p.tables e below (s₁.setTop (mkF m 39 #[.val (.int i0), .val (.int i1), .val (.int i2), .val (.int i3), .val (.int i4), .val (.int (1 : Int32)), .val (.int (0 : Int32)), .val (.int (0 : Int32)), .unset, .unset, .unset, .unset, .unset, .unset, .unset, .unset] [])) tg
          exact kg
        refine gs c133 ?_
        exact mid1 (1 : Int32) (0 : Int32) (0 : Int32)
      · have c134 : ∀ tg, Steps p.tables e below (s₁.setTop (mkF m 39 #[.val (.int i0), .val (.int i1), .val (.int i2), .val (.int i3), .val (.int i4), .val (.int (1 : Int32)), .val (.int (0 : Int32)), .val (.int (1 : Int32)), .unset, .unset, .unset, .unset, .unset, .unset, .unset, .unset] [])) tg → Steps p.tables e below (s₁.setTop (mkF m 29 #[.val (.int i0), .val (.int i1), .val (.int i2), .val (.int i3), .val (.int i4), .val (.int (1 : Int32)), .val (.int (0 : Int32)), .unset, .unset, .unset, .unset, .unset, .unset, .unset, .unset, .unset] [(.int (i0 &&& (4 : Int32)))])) tg := fun tg kg => by
          refine XS.ifNo X0.here hx rfl (hb hby at_29) rfl ((if0 _ _).trans (feq hc132).1) ?_
          show Steps p.tables e below (s₁.setTop (mkF m 32 #[.val (.int i0), .val (.int i1), .val (.int i2), .val (.int i3), .val (.int i4), .val (.int (1 : Int32)), .val (.int (0 : Int32)), .unset, .unset, .unset, .unset, .unset, .unset, .unset, .unset, .unset] [])) tg
          refine XS.iconst X0.here hx rfl (hb hby at_32) ?_
          show Steps p.tables e below (s₁.setTop (mkF m 33 #[.val (.int i0), .val (.int i1), .val (.int i2), .val (.int i3), .val (.int i4), .val (.int (1 : Int32)), .val (.int (0 : Int32)), .unset, .unset, .unset, .unset, .unset, .unset, .unset, .unset, .unset] [(.int (1 : Int32))])) tg
          refine XS.goto X0.here hx rfl (pc0 := 33) (pc' := 37) rfl (hb hby at_33) (by decide) (by decide) ?_
          show Steps p.tables e below (s₁.setTop (mkF m 37 #[.val (.int i0), .val (.int i1), .val (.int i2), .val (.int i3), .val (.int i4), .val (.int (1 : Int32)), .val (.int (0 : Int32)), .unset, .unset, .unset, .unset, .unset, .unset, .unset, .unset, .unset] [(.int (1 : Int32))])) tg
          refine XS.istore X0.here hx rfl (hb hby at_37) rfl (l' := #[.val (.int i0), .val (.int i1), .val (.int i2), .val (.int i3), .val (.int i4), .val (.int (1 : Int32)), .val (.int (0 : Int32)), .val (.int (1 : Int32)), .unset, .unset, .unset, .unset, .unset, .unset, .unset, .unset]) rfl ?_
          show Steps p.tables e below (s₁.setTop (mkF m 39 #[.val (.int i0), .val (.int i1), .val (.int i2), .val (.int i3), .val (.int i4), .val (.int (1 : Int32)), .val (.int (0 : Int32)), .val (.int (1 : Int32)), .unset, .unset, .unset, .unset, .unset, .unset, .unset, .unset] [])) tg
          exact kg
        refine gs c134 ?_
        exact mid1 (1 : Int32) (0 : Int32) (1 : Int32)
    · have c135 : ∀ tg, Steps p.tables e below (s₁.setTop (mkF m 29 #[.val (.int i0), .val (.int i1), .val (.int i2), .val (.int i3), .val (.int i4), .val (.int (1 : Int32)), .val (.int (1 : Int32)), .unset, .unset, .unset, .unset, .unset, .unset, .unset, .unset, .unset] [(.int (i0 &&& (4 : Int32)))])) tg → Steps p.tables e below (s₁.setTop (mkF m 16 #[.val (.int i0), .val (.int i1), .val (.int i2), .val (.int i3), .val (.int i4), .val (.int (1 : Int32)), .unset, .unset, .unset, .unset, .unset, .unset, .unset, .unset, .unset, .unset] [(.int (i0 &&& (1 : Int32)))])) tg := fun tg kg => by
        refine XS.ifNo X0.here hx rfl (hb hby at_16) rfl ((if0 _ _).trans (feq hc130).1) ?_
        show Steps p.tables e below (s₁.setTop (mkF m 19 #[.val (.int i0), .val (.int i1), .val (.int i2), .val (.int i3), .val (.int i4), .val (.int (1 : Int32)), .unset, .unset, .unset, .unset, .unset, .unset, .unset, .unset, .unset, .unset] [])) tg
        refine XS.iconst X0.here hx rfl (hb hby at_19) ?_
        show Steps p.tables e below (s₁.setTop (mkF m 20 #[.val (.int i0), .val (.int i1), .val (.int i2), .val (.int i3), .val (.int i4), .val (.int (1 : Int32)), .unset, .unset, .unset, .unset, .unset, .unset, .unset, .unset, .unset, .unset] [(.int (1 : Int32))])) tg
        refine XS.goto X0.here hx rfl (pc0 := 20) (pc' := 24) rfl (hb hby at_20) (by decide) (by decide) ?_
        show Steps p.tables e below (s₁.setTop (mkF m 24 #[.val (.int i0), .val (.int i1), .val (.int i2), .val (.int i3), .val (.int i4), .val (.int (1 : Int32)), .unset, .unset, .unset, .unset, .unset, .unset, .unset, .unset, .unset, .unset] [(.int (1 : Int32))])) tg
        refine XS.istore X0.here hx rfl (hb hby at_24) rfl (l' := #[.val (.int i0), .val (.int i1), .val (.int i2), .val (.int i3), .val (.int i4), .val (.int (1 : Int32)), .val (.int (1 : Int32)), .unset, .unset, .unset, .unset, .unset, .unset, .unset, .unset, .unset]) rfl ?_
        show Steps p.tables e below (s₁.setTop (mkF m 26 #[.val (.int i0), .val (.int i1), .val (.int i2), .val (.int i3), .val (.int i4), .val (.int (1 : Int32)), .val (.int (1 : Int32)), .unset, .unset, .unset, .unset, .unset, .unset, .unset, .unset, .unset] [])) tg
        refine XS.iloadN X0.here hx rfl (hb hby at_26) rfl ?_
        show Steps p.tables e below (s₁.setTop (mkF m 27 #[.val (.int i0), .val (.int i1), .val (.int i2), .val (.int i3), .val (.int i4), .val (.int (1 : Int32)), .val (.int (1 : Int32)), .unset, .unset, .unset, .unset, .unset, .unset, .unset, .unset, .unset] [(.int i0)])) tg
        refine XS.iconst X0.here hx rfl (hb hby at_27) ?_
        show Steps p.tables e below (s₁.setTop (mkF m 28 #[.val (.int i0), .val (.int i1), .val (.int i2), .val (.int i3), .val (.int i4), .val (.int (1 : Int32)), .val (.int (1 : Int32)), .unset, .unset, .unset, .unset, .unset, .unset, .unset, .unset, .unset] [(.int (4 : Int32)), (.int i0)])) tg
        refine XS.iand X0.here hx rfl (hb hby at_28) rfl ?_
        show Steps p.tables e below (s₁.setTop (mkF m 29 #[.val (.int i0), .val (.int i1), .val (.int i2), .val (.int i3), .val (.int i4), .val (.int (1 : Int32)), .val (.int (1 : Int32)), .unset, .unset, .unset, .unset, .unset, .unset, .unset, .unset, .unset] [(.int (i0 &&& (4 : Int32)))])) tg
        exact kg
      refine gs c135 ?_
      by_cases hc136 : (i0 &&& (4 : Int32)) = (0 : Int32)
      · have c137 : ∀ tg, Steps p.tables e below (s₁.setTop (mkF m 39 #[.val (.int i0), .val (.int i1), .val (.int i2), .val (.int i3), .val (.int i4), .val (.int (1 : Int32)), .val (.int (1 : Int32)), .val (.int (0 : Int32)), .unset, .unset, .unset, .unset, .unset, .unset, .unset, .unset] [])) tg → Steps p.tables e below (s₁.setTop (mkF m 29 #[.val (.int i0), .val (.int i1), .val (.int i2), .val (.int i3), .val (.int i4), .val (.int (1 : Int32)), .val (.int (1 : Int32)), .unset, .unset, .unset, .unset, .unset, .unset, .unset, .unset, .unset] [(.int (i0 &&& (4 : Int32)))])) tg := fun tg kg => by
          refine XS.ifYes X0.here hx rfl (pc0 := 29) (pc' := 36) rfl (hb hby at_29) rfl ((if0 _ _).trans (teq hc136).1) (by decide) (by decide) ?_
          show Steps p.tables e below (s₁.setTop (mkF m 36 #[.val (.int i0), .val (.int i1), .val (.int i2), .val (.int i3), .val (.int i4), .val (.int (1 : Int32)), .val (.int (1 : Int32)), .unset, .unset, .unset, .unset, .unset, .unset, .unset, .unset, .unset] [])) tg
          refine XS.iconst X0.here hx rfl (hb hby at_36) ?_
          show Steps p.tables e below (s₁.setTop (mkF m 37 #[.val (.int i0), .val (.int i1), .val (.int i2), .val (.int i3), .val (.int i4), .val (.int (1 : Int32)), .val (.int (1 : Int32)), .unset, .unset, .unset, .unset, .unset, .unset, .unset, .unset, .unset] [(.int (0 : Int32))])) tg
          refine XS.istore X0.here hx rfl (hb hby at_37) rfl (l' := #[.val (.int i0), .val (.int i1), .val (.int i2), .val (.int i3), .val (.int i4), .val (.int (1 : Int32)), .val (.int (1 : Int32)), .val (.int (0 : Int32)), .unset, .unset, .unset, .unset, .unset, .unset, .unset, .unset]) rfl ?_
          show Steps p.tables e below (s₁.setTop (mkF m 39 #[.val (.int i0), .val (.int i1), .val (.int i2), .val (.int i3), .val (.int i4), .val (.int (1 : Int32)), .val (.int (1 : Int32)), .val (.int (0 : Int32)), .unset, .unset, .unset, .unset, .unset, .unset, .unset, .unset] [])) tg
          exact kg
        refine gs c137 ?_
        exact mid1 (1 : Int32) (1 : Int32) (0 : Int32)
      · have c138 : ∀ tg, Steps p.tables e below (s₁.setTop (mkF m 39 #[.val (.int i0), .val (.int i1), .val (.int i2), .val (.int i3), .val (.int i4), .val (.int (1 : Int32)), .val (.int (1 : Int32)), .val (.int (1 : Int32)), .unset, .unset, .unset, .unset, .unset, .unset, .unset, .unset] [])) tg → Steps p.tables e below (s₁.setTop (mkF m 29 #[.val (.int i0), .val (.int i1), .val (.int i2), .val (.int i3), .val (.int i4), .val (.int (1 : Int32)), .val (.int (1 : Int32)), .unset, .unset, .unset, .unset, .unset, .unset, .unset, .unset, .unset] [(.int (i0 &&& (4 : Int32)))])) tg := fun tg kg => by
          refine XS.ifNo X0.here hx rfl (hb hby at_29) rfl ((if0 _ _).trans (feq hc136).1) ?_
          show Steps p.tables e below (s₁.setTop (mkF m 32 #[.val (.int i0), .val (.int i1), .val (.int i2), .val (.int i3), .val (.int i4), .val (.int (1 : Int32)), .val (.int (1 : Int32)), .unset, .unset, .unset, .unset, .unset, .unset, .unset, .unset, .unset] [])) tg
          refine XS.iconst X0.here hx rfl (hb hby at_32) ?_
          show Steps p.tables e below (s₁.setTop (mkF m 33 #[.val (.int i0), .val (.int i1), .val (.int i2), .val (.int i3), .val (.int i4), .val (.int (1 : Int32)), .val (.int (1 : Int32)), .unset, .unset, .unset, .unset, .unset, .unset, .unset, .unset, .unset] [(.int (1 : Int32))])) tg
          refine XS.goto X0.here hx rfl (pc0 := 33) (pc' := 37) rfl (hb hby at_33) (by decide) (by decide) ?_
          show Steps p.tables e below (s₁.setTop (mkF m 37 #[.val (.int i0), .val (.int i1), .val (.int i2), .val (.int i3), .val (.int i4), .val (.int (1 : Int32)), .val (.int (1 : Int32)), .unset, .unset, .unset, .unset, .unset, .unset, .unset, .unset, .unset] [(.int (1 : Int32))])) tg
          refine XS.istore X0.here hx rfl (hb hby at_37) rfl (l' := #[.val (.int i0), .val (.int i1), .val (.int i2), .val (.int i3), .val (.int i4), .val (.int (1 : Int32)), .val (.int (1 : Int32)), .val (.int (1 : Int32)), .unset, .unset, .unset, .unset, .unset, .unset, .unset, .unset]) rfl ?_
          show Steps p.tables e below (s₁.setTop (mkF m 39 #[.val (.int i0), .val (.int i1), .val (.int i2), .val (.int i3), .val (.int i4), .val (.int (1 : Int32)), .val (.int (1 : Int32)), .val (.int (1 : Int32)), .unset, .unset, .unset, .unset, .unset, .unset, .unset, .unset] [])) tg
          exact kg
        refine gs c138 ?_
        exact mid1 (1 : Int32) (1 : Int32) (1 : Int32)
set_option maxRecDepth 65536 in
set_option maxHeartbeats 40000000 in
theorem comes_1 {Post : Tables → Env → Array Value → State → Outcome → State → Prop} (hpost : ∀ tb e args s v u, (limb_1_1.after args s (.returned v) u = true ∧ limb_1_2.after args s (.returned v) u = true ∧ True) → FrameEnd s (.returned v) u (Jvm.fieldLocs frame_1_writes args s ++ Jvm.arrayLocs frame_1_arrays args s ++ Jvm.staticLocs frame_1_statics s) 48 192 → Post tb e args s (.returned v) u) :
    ArmFor flags0 classFile x code maxLocals ret World_1 tables_1 room_1 Calls_1 rest_1 Pre_1 Post := by
  intro l hfl _ _ p e ha hc hk s m args below hf hA hF happ hP
  obtain ⟨hcalls, hrest, hpre⟩ := hP
  obtain ⟨-, -, -, hnamed, -, -, -, hat⟩ := (Spec.applies_iff hf).mp happ
  obtain ⟨hg, hn⟩ := and_e (Cond.before_iff.mp (show (Jvm.Cond.and given_1 narrow_1).before args s = true from hpre))
  obtain ⟨hcnt, ga0⟩ := and_e hg
  obtain ⟨gi0, ga1⟩ := and_e ga0
  obtain ⟨gi1, ga2⟩ := and_e ga1
  obtain ⟨gi2, ga3⟩ := and_e ga2
  obtain ⟨gi3, ga4⟩ := and_e ga3
  have gi4 := ga4
  obtain ⟨w0, w1, w2, w3, w4, rfl⟩ : ∃ w0 w1 w2 w3 w4 : Value, args = #[w0, w1, w2, w3, w4] := by
    have hs : args.size = 5 := by simpa [Cond.value, given_1] using hcnt
    obtain ⟨L⟩ := args
    match L, hs with
    | [w0, w1, w2, w3, w4], _ => exact ⟨w0, w1, w2, w3, w4, rfl⟩
  have hw := fun d (hd : d ∈ tables_1) => atoms_spec (ws := Jvm.Cond.code x code maxLocals ret :: tables_1) hat d (List.mem_cons_of_mem _ hd)
  obtain ⟨hsets, hown0⟩ := atoms_of _ (rest_1_c_eq ▸ (show rest_1_c.before _ s = true from hrest))
  have hfit : Fit s := fun {y c} hc i hi => by
    obtain ⟨ha, rfl⟩ := Array.getElem?_eq_some_iff.mp hc
    have q := List.all_eq_true.mp ((Array.all_eq_true_iff_forall_mem.mp hF) _ (Array.getElem_mem ha)) i (List.mem_range.mpr hi)
    simpa [Array.getElem?_eq_getElem hi] using q
  obtain ⟨i0, ei0⟩ := is_v gi0
  obtain rfl : w0 = (.int i0) := Option.some.inj ei0
  obtain ⟨i1, ei1⟩ := is_v gi1
  obtain rfl : w1 = (.int i1) := Option.some.inj ei1
  obtain ⟨i2, ei2⟩ := is_v gi2
  obtain rfl : w2 = (.int i2) := Option.some.inj ei2
  obtain ⟨i3, ei3⟩ := is_v gi3
  obtain rfl : w3 = (.int i3) := Option.some.inj ei3
  obtain ⟨i4, ei4⟩ := is_v gi4
  obtain rfl : w4 = (.int i4) := Option.some.inj ei4
  have n5 := not_v (Cond.before_iff.mp (hsets _ (List.mem_of_getElem? (i := 2) rfl)))
  obtain ⟨cz, ecz⟩ := is_v (Cond.before_iff.mp (hsets _ (List.mem_of_getElem? (i := 1) rfl)))
  have Scz : Sta s s.heap "java/lang/String" "COMPACT_STRINGS" "Z" (.int cz) := Sta.start ecz (Or.inl (hsets _ (List.mem_of_getElem? (i := 0) rfl)))
  have hcz : ¬ (cz = (0 : Int32)) := gotF (Cond.eq_ints ecz (Term.int_eval (0))) n5
  obtain ⟨n, o, h1, h2, h3, _, L, rfl, ⟨rfl, N⟩, hq⟩ := rm_law l s _ hw tables_1 i0 i1 i2 i3 i4 cz s.heap s.heap.size (Nat.le_refl _) (Old.start s) Scz hcz p e ha hc hk s m _ below hf ((Spec.applies_iff_loose hf).mp happ).1 ⟨rfl, State.Warmed39.refl s, rfl⟩ trivial
  refine ⟨n, _, h1, h2, h3, hpost _ _ _ _ _ _ ⟨Cond.after_iff.mpr rfl, Cond.after_iff.mpr (eq_i res_at (Term.int_eval (1)) rfl), trivial⟩ ⟨hq.1, hq.2.1, (hq.2.2.sift fun y hy => Or.inr (N y hy)).mono (by decide) (by decide)⟩⟩
theorem main_1_1 : Claimed_1_1 := comes_1 fun _ _ _ _ _ _ h hF => ⟨h.1, hF⟩
theorem main_1_2 : Claimed_1_2 := comes_1 fun _ _ _ _ _ _ h hF => ⟨h.2.1, hF⟩
end Jvm.Pilot.@@N@@
namespace Jvm.Pilot.@@N@@
open Jvm Jvm.ClassFile Sem Op Lib Jvm.Free Jvm.Stand Jvm.Pilot.@@N@@.Jvm.D
/-! MADE BY PROGRAM (witnessworld.py) out of the Statement's table words and the real class files: 23 classes; the members and pool entries that the words name. The judged class is class 1, her method 2. -/
namespace start1
open Jvm.ClassFile
def u (s : String) : CpInfo := .utf8 (stringToUtf16 s)
/-- a pool by its gaps: so many unusable entries, then the entry; so many at the end -/
def gap : Nat → List CpInfo → List CpInfo
  | 0, r => r
  | n + 1, r => .unusable :: gap n r
def poolList (es : List (Nat × CpInfo)) (last : Nat) : List CpInfo := es.foldr (fun e r => gap e.1 (e.2 :: r)) (gap last [])
def pool (es : List (Nat × CpInfo)) (last : Nat) : Array CpInfo := ⟨poolList es last⟩
def fileOf (pool : Array CpInfo) (this : Nat) (attrs : Array Attribute := #[]) (ms : Array MethodInfo := #[]) (fl : Nat := 33) (sup : Nat := 0) (ifs : Array Nat := #[]) (fds : Array FieldInfo := #[]) : ClassFile where
  minorVersion := 0
  majorVersion := 65
  constantPool := pool
  accessFlags := fl
  thisClass := this
  superClass := sup
  interfaces := ifs
  fields := fds
  methods := ms
  attributes := attrs
def plain (name : String) (sup : Option ClassId) : Class where
  name := name
  kind := .ordinary
  loader := none
  accessFlags := 33
  super := sup
  interfaces := #[]
  cf := none
  fields := #[]
  methods := #[]
  instanceTypes := #[]
  staticTypes := #[]
  resolved := #[]
  callSites := []
  init := .initialized
  statics := none
  mirror := none

def pool0 : Array CpInfo := pool [(5, u "<init>"), (0, u "()V"), (1, .class_ 10), (1, u "java/lang/Object")] 113

def k0c0 : Code := { maxStack := 0, maxLocals := 1, code := object_method_1_code, exceptionTable := #[], attributes := #[] }
def k0m0 : Method := { name := "<init>", desc := "()V", sig := { parameters := [], returnType := none }, accessFlags := 1, code := some k0c0 }
/-- java/lang/Object -/
def k0 : Class := { plain "java/lang/Object" none with
  accessFlags := 33
  interfaces := #[]
  cf := some (fileOf pool0 8 #[] #[{ accessFlags := 1, nameIndex := 5, descriptorIndex := 6, attributes := #[] }] 33 0 #[] #[])
  fields := #[]
  methods := #[k0m0]
  instanceTypes := #[]
  staticTypes := #[]
  resolved := Array.replicate 124 none
  statics := none }

def pool1 : Array CpInfo := pool [(2, .class_ 4), (1, u "java/lang/Object"), (0, u "<init>"), (0, u "()V"), (0, .class_ 8), (0, u "java/lang/String"), (0, .methodref 7 10), (0, .nameAndType 5 11), (0, u "([C)V"), (0, .class_ 13), (0, u "com/example/lushan/lushan/policy/TenantRole"), (0, .methodref 15 16), (0, .class_ 17), (0, .nameAndType 18 19), (0, u "com/example/lushan/lushan/policy/MappingDecisionAcceptedPinLaw"), (0, u "str"), (0, u "(II)Ljava/lang/String;"), (0, .methodref 12 21), (0, .nameAndType 5 22), (0, u "(Ljava/lang/String;Ljava/lang/String;)V"), (0, .class_ 24), (0, u "com/example/lushan/lushan/policy/Mapping"), (0, .methodref 23 26), (0, .nameAndType 5 27), (0, u "(Lcom/example/lushan/lushan/policy/TenantRole;Lcom/example/lushan/lushan/policy/TenantRole;)V"), (0, .class_ 29), (0, u "com/example/lushan/lushan/policy/MappingDecision"), (0, .methodref 28 31), (0, .nameAndType 5 32), (0, u "(Lcom/example/lushan/lushan/policy/Mapping;Lcom/example/lushan/lushan/policy/Mapping;)V"), (0, .methodref 28 34), (0, .nameAndType 35 36), (0, u "accepted"), (0, u "()Z"), (2, u "law"), (0, u "(IIIII)Z")] 3

def k1m0 : Method := { name := "<init>", desc := "()V", sig := { parameters := [], returnType := none }, accessFlags := 2, code := none }
def k1c1 : Code := { maxStack := 5, maxLocals := 3, code := method_2_code, exceptionTable := #[], attributes := #[] }
def k1m1 : Method := { name := "str", desc := "(II)Ljava/lang/String;", sig := { parameters := [.int, .int], returnType := some (.object "java/lang/String") }, accessFlags := 10, code := some k1c1 }
def k1c2 : Code := { maxStack := 6, maxLocals := 16, code := code, exceptionTable := #[], attributes := #[] }
def k1m2 : Method := { name := "law", desc := "(IIIII)Z", sig := { parameters := [.int, .int, .int, .int, .int], returnType := some .boolean }, accessFlags := 9, code := some k1c2 }
/-- com/example/lushan/lushan/policy/MappingDecisionAcceptedPinLaw -/
def k1 : Class := { plain "com/example/lushan/lushan/policy/MappingDecisionAcceptedPinLaw" (some 0) with
  accessFlags := 49
  interfaces := #[]
  cf := some (fileOf pool1 15 #[] #[{ accessFlags := 2, nameIndex := 5, descriptorIndex := 6, attributes := #[] }, { accessFlags := 10, nameIndex := 18, descriptorIndex := 19, attributes := #[] }, { accessFlags := 9, nameIndex := 39, descriptorIndex := 40, attributes := #[] }] 49 2 #[] #[])
  fields := #[]
  methods := #[k1m0, k1m1, k1m2]
  instanceTypes := #[]
  staticTypes := #[]
  resolved := Array.replicate 44 none
  statics := none }

def pool2 : Array CpInfo := pool [(1, .methodref 2 3), (0, .class_ 4), (0, .nameAndType 5 6), (0, u "java/lang/Object"), (0, u "<init>"), (0, u "()V"), (0, .class_ 8), (0, u "java/lang/Record")] 13

def k2c0 : Code := { maxStack := 1, maxLocals := 1, code := jdk_30_method_1_code, exceptionTable := #[], attributes := #[] }
def k2m0 : Method := { name := "<init>", desc := "()V", sig := { parameters := [], returnType := none }, accessFlags := 4, code := some k2c0 }
/-- java/lang/Record -/
def k2 : Class := { plain "java/lang/Record" (some 0) with
  accessFlags := 1057
  interfaces := #[]
  cf := some (fileOf pool2 7 #[] #[{ accessFlags := 4, nameIndex := 5, descriptorIndex := 6, attributes := #[] }] 1057 2 #[] #[])
  fields := #[]
  methods := #[k2m0]
  instanceTypes := #[]
  staticTypes := #[]
  resolved := Array.replicate 22 none
  statics := none }

def pool3 : Array CpInfo := pool [(1, .methodref 2 3), (0, .class_ 4), (0, .nameAndType 5 6), (0, u "java/lang/Record"), (0, u "<init>"), (0, u "()V"), (0, .fieldref 8 9), (0, .class_ 10), (0, .nameAndType 11 12), (0, u "com/example/lushan/lushan/policy/TenantRole"), (0, u "tenant"), (0, u "Ljava/lang/String;"), (0, .fieldref 8 14), (0, .nameAndType 15 12), (0, u "role"), (12, u "(Ljava/lang/String;Ljava/lang/String;)V")] 27

def k3c0 : Code := { maxStack := 2, maxLocals := 3, code := prog_45_method_1_code, exceptionTable := #[], attributes := #[] }
def k3m0 : Method := { name := "<init>", desc := "(Ljava/lang/String;Ljava/lang/String;)V", sig := { parameters := [(.object "java/lang/String"), (.object "java/lang/String")], returnType := none }, accessFlags := 1, code := some k3c0 }
/-- com/example/lushan/lushan/policy/TenantRole -/
def k3 : Class := { plain "com/example/lushan/lushan/policy/TenantRole" (some 2) with
  accessFlags := 49
  interfaces := #[]
  cf := some (fileOf pool3 8 #[] #[{ accessFlags := 1, nameIndex := 5, descriptorIndex := 28, attributes := #[] }] 49 2 #[] #[{ accessFlags := 18, nameIndex := 11, descriptorIndex := 12, attributes := #[] }, { accessFlags := 18, nameIndex := 15, descriptorIndex := 12, attributes := #[] }])
  fields := #[{ name := "tenant", type := (.object "java/lang/String"), accessFlags := 18, slot := 0, constantValue := 0 }, { name := "role", type := (.object "java/lang/String"), accessFlags := 18, slot := 1, constantValue := 0 }]
  methods := #[k3m0]
  instanceTypes := #[(.object "java/lang/String"), (.object "java/lang/String")]
  staticTypes := #[]
  resolved := Array.replicate 56 none
  statics := none }

def pool4 : Array CpInfo := pool [(1, .class_ 2), (0, u "java/io/Serializable"), (0, .class_ 4), (0, u "java/lang/Object")] 2

/-- java/io/Serializable -/
def k4 : Class := { plain "java/io/Serializable" (some 0) with
  accessFlags := 1537
  interfaces := #[]
  cf := some (fileOf pool4 1 #[] #[] 1537 3 #[] #[])
  fields := #[]
  methods := #[]
  instanceTypes := #[]
  staticTypes := #[]
  resolved := Array.replicate 7 none
  statics := none }

def pool5 : Array CpInfo := pool [(1, .class_ 2), (0, u "java/lang/Comparable"), (0, .class_ 4), (0, u "java/lang/Object")] 7

/-- java/lang/Comparable -/
def k5 : Class := { plain "java/lang/Comparable" (some 0) with
  accessFlags := 1537
  interfaces := #[]
  cf := some (fileOf pool5 1 #[] #[] 1537 3 #[] #[])
  fields := #[]
  methods := #[]
  instanceTypes := #[]
  staticTypes := #[]
  resolved := Array.replicate 12 none
  statics := none }

def pool6 : Array CpInfo := pool [(2, .class_ 4), (1, u "java/lang/CharSequence"), (42, .class_ 48), (0, u "java/lang/CharSequence$1CodePointIterator"), (10, .class_ 60), (0, u "java/lang/CharSequence$1CharIterator"), (5, .class_ 67), (0, u "java/lang/Object")] 63

/-- java/lang/CharSequence -/
def k6 : Class := { plain "java/lang/CharSequence" (some 0) with
  accessFlags := 1537
  interfaces := #[]
  cf := some (fileOf pool6 2 #[.nestMembers #[47, 59]] #[] 1537 66 #[] #[])
  fields := #[]
  methods := #[]
  instanceTypes := #[]
  staticTypes := #[]
  resolved := Array.replicate 131 none
  statics := none }

def pool7 : Array CpInfo := pool [(1, .class_ 2), (0, u "java/lang/constant/Constable"), (0, .class_ 4), (0, u "java/lang/Object")] 6

/-- java/lang/constant/Constable -/
def k7 : Class := { plain "java/lang/constant/Constable" (some 0) with
  accessFlags := 1537
  interfaces := #[]
  cf := some (fileOf pool7 1 #[] #[] 1537 3 #[] #[])
  fields := #[]
  methods := #[]
  instanceTypes := #[]
  staticTypes := #[]
  resolved := Array.replicate 11 none
  statics := none }

def pool8 : Array CpInfo := pool [(1, .class_ 2), (0, u "java/lang/constant/ConstantDesc"), (0, .class_ 4), (0, u "java/lang/Object")] 32

/-- java/lang/constant/ConstantDesc -/
def k8 : Class := { plain "java/lang/constant/ConstantDesc" (some 0) with
  accessFlags := 1537
  interfaces := #[]
  cf := some (fileOf pool8 1 #[] #[] 1537 3 #[] #[])
  fields := #[]
  methods := #[]
  instanceTypes := #[]
  staticTypes := #[]
  resolved := Array.replicate 37 none
  statics := none }

def pool9 : Array CpInfo := pool [(1, .methodref 2 3), (0, .class_ 4), (0, .nameAndType 5 6), (0, u "java/lang/Object"), (0, u "<init>"), (0, u "()V"), (2, .fieldref 10 11), (0, .class_ 12), (0, .nameAndType 13 14), (0, u "java/lang/String"), (0, u "value"), (0, u "[B"), (0, .fieldref 10 16), (0, .nameAndType 17 18), (0, u "coder"), (0, u "B"), (2, u "hash"), (0, u "I"), (2, u "hashIsZero"), (0, u "Z"), (0, .methodref 10 28), (0, .nameAndType 5 29), (0, u "([CIILjava/lang/Void;)V"), (8, .fieldref 10 39), (0, .nameAndType 40 26), (0, u "COMPACT_STRINGS"), (1, .class_ 44), (1, u "java/lang/StringUTF16"), (0, u "compress"), (1, .methodref 42 48), (0, .nameAndType 49 50), (0, u "coderFromArrayLen"), (0, u "([BI)B"), (126, .methodref 42 178), (0, .nameAndType 45 179), (0, u "([CII)[B"), (395, .class_ 576), (0, u "java/lang/CharSequence"), (22, u "CASE_INSENSITIVE_ORDER"), (0, u "Ljava/util/Comparator;"), (409, u "([C)V"), (90, u "serialPersistentFields"), (0, u "[Ljava/io/ObjectStreamField;"), (0, .class_ 1104), (0, u "java/lang/String$CaseInsensitiveComparator"), (1, .class_ 1107), (0, u "java/io/Serializable"), (0, .class_ 1109), (0, u "java/lang/Comparable"), (0, .class_ 1111), (0, u "java/lang/constant/Constable"), (0, .class_ 1113), (0, u "java/lang/constant/ConstantDesc"), (2, u "serialVersionUID"), (0, u "J"), (3, u "REPL"), (0, u "C"), (2, u "LATIN1"), (1, u "UTF16")] 323

def k9m0 : Method := { name := "<init>", desc := "()V", sig := { parameters := [], returnType := none }, accessFlags := 1, code := none }
def k9c1 : Code := { maxStack := 5, maxLocals := 2, code := jdk_42_method_3_code, exceptionTable := #[], attributes := #[] }
def k9m1 : Method := { name := "<init>", desc := "([C)V", sig := { parameters := [(.array .char)], returnType := none }, accessFlags := 1, code := some k9c1 }
def k9c2 : Code := { maxStack := 4, maxLocals := 6, code := jdk_42_method_149_code, exceptionTable := #[], attributes := #[] }
def k9m2 : Method := { name := "<init>", desc := "([CIILjava/lang/Void;)V", sig := { parameters := [(.array .char), .int, .int, (.object "java/lang/Void")], returnType := none }, accessFlags := 2, code := some k9c2 }
/-- java/lang/String -/
def k9 : Class := { plain "java/lang/String" (some 0) with
  accessFlags := 49
  interfaces := #[4, 5, 6, 7, 8]
  cf := some (fileOf pool9 10 #[.nestMembers #[1103]] #[{ accessFlags := 1, nameIndex := 5, descriptorIndex := 6, attributes := #[] }, { accessFlags := 1, nameIndex := 5, descriptorIndex := 1010, attributes := #[] }, { accessFlags := 2, nameIndex := 5, descriptorIndex := 29, attributes := #[] }] 49 2 #[1106, 1108, 575, 1110, 1112] #[{ accessFlags := 18, nameIndex := 13, descriptorIndex := 14, attributes := #[] }, { accessFlags := 18, nameIndex := 17, descriptorIndex := 18, attributes := #[] }, { accessFlags := 2, nameIndex := 21, descriptorIndex := 22, attributes := #[] }, { accessFlags := 2, nameIndex := 25, descriptorIndex := 26, attributes := #[] }, { accessFlags := 26, nameIndex := 1116, descriptorIndex := 1117, attributes := #[] }, { accessFlags := 24, nameIndex := 40, descriptorIndex := 26, attributes := #[] }, { accessFlags := 26, nameIndex := 1101, descriptorIndex := 1102, attributes := #[] }, { accessFlags := 26, nameIndex := 1121, descriptorIndex := 1122, attributes := #[] }, { accessFlags := 25, nameIndex := 599, descriptorIndex := 600, attributes := #[] }, { accessFlags := 24, nameIndex := 1125, descriptorIndex := 18, attributes := #[] }, { accessFlags := 24, nameIndex := 1127, descriptorIndex := 18, attributes := #[] }])
  fields := #[{ name := "value", type := (.array .byte), accessFlags := 18, slot := 0, constantValue := 0 }, { name := "coder", type := .byte, accessFlags := 18, slot := 1, constantValue := 0 }, { name := "hash", type := .int, accessFlags := 2, slot := 2, constantValue := 0 }, { name := "hashIsZero", type := .boolean, accessFlags := 2, slot := 3, constantValue := 0 }, { name := "serialVersionUID", type := .long, accessFlags := 26, slot := 0, constantValue := 0 }, { name := "COMPACT_STRINGS", type := .boolean, accessFlags := 24, slot := 1, constantValue := 0 }, { name := "serialPersistentFields", type := (.array (.object "java/io/ObjectStreamField")), accessFlags := 26, slot := 2, constantValue := 0 }, { name := "REPL", type := .char, accessFlags := 26, slot := 3, constantValue := 0 }, { name := "CASE_INSENSITIVE_ORDER", type := (.object "java/util/Comparator"), accessFlags := 25, slot := 4, constantValue := 0 }, { name := "LATIN1", type := .byte, accessFlags := 24, slot := 5, constantValue := 0 }, { name := "UTF16", type := .byte, accessFlags := 24, slot := 6, constantValue := 0 }]
  methods := #[k9m0, k9m1, k9m2]
  instanceTypes := #[(.array .byte), .byte, .int, .boolean]
  staticTypes := #[.long, .boolean, (.array (.object "java/io/ObjectStreamField")), .char, (.object "java/util/Comparator"), .byte, .byte]
  resolved := Array.replicate 1451 none
  statics := some 0 }

def pool10 : Array CpInfo := pool [(6, .class_ 8), (1, u "java/lang/Object"), (0, u "<init>"), (0, u "()V"), (1, .class_ 14), (1, u "java/lang/StringUTF16"), (31, u "$assertionsDisabled"), (0, u "Z"), (13, u "HI_BYTE_SHIFT"), (0, u "I"), (2, u "LO_BYTE_SHIFT"), (49, .methodref 12 116), (0, .nameAndType 117 118), (0, u "compress"), (0, u "([CI[BII)I"), (3, u "([CII)[B"), (138, u "coderFromArrayLen"), (0, u "([BI)B"), (106, .class_ 371), (1, u "java/lang/StringUTF16$LinesSpliterator"), (58, u "MAX_LENGTH"), (196, .class_ 628), (0, u "java/lang/StringUTF16$CodePointsSpliterator"), (0, .class_ 630), (0, u "java/lang/StringUTF16$CharsSpliterator")] 4

def k10m0 : Method := { name := "<init>", desc := "()V", sig := { parameters := [], returnType := none }, accessFlags := 0, code := none }
def k10c1 : Code := { maxStack := 2, maxLocals := 2, code := jdk_52_method_15_code, exceptionTable := #[], attributes := #[] }
def k10m1 : Method := { name := "coderFromArrayLen", desc := "([BI)B", sig := { parameters := [(.array .byte), .int], returnType := some .byte }, accessFlags := 8, code := some k10c1 }
def k10c2 : Code := { maxStack := 5, maxLocals := 6, code := jdk_52_method_16_code, exceptionTable := #[], attributes := #[] }
def k10m2 : Method := { name := "compress", desc := "([CII)[B", sig := { parameters := [(.array .char), .int, .int], returnType := some (.array .byte) }, accessFlags := 9, code := some k10c2 }
def k10c3 : Code := { maxStack := 3, maxLocals := 7, code := jdk_52_method_21_code, exceptionTable := #[], attributes := #[] }
def k10m3 : Method := { name := "compress", desc := "([CI[BII)I", sig := { parameters := [(.array .char), .int, (.array .byte), .int, .int], returnType := some .int }, accessFlags := 9, code := some k10c3 }
/-- java/lang/StringUTF16 -/
def k10 : Class := { plain "java/lang/StringUTF16" (some 0) with
  accessFlags := 48
  interfaces := #[]
  cf := some (fileOf pool10 12 #[.nestMembers #[627, 629, 369]] #[{ accessFlags := 0, nameIndex := 9, descriptorIndex := 10, attributes := #[] }, { accessFlags := 8, nameIndex := 261, descriptorIndex := 262, attributes := #[] }, { accessFlags := 9, nameIndex := 117, descriptorIndex := 122, attributes := #[] }, { accessFlags := 9, nameIndex := 117, descriptorIndex := 118, attributes := #[] }] 48 6 #[] #[{ accessFlags := 26, nameIndex := 61, descriptorIndex := 62, attributes := #[] }, { accessFlags := 26, nameIndex := 65, descriptorIndex := 62, attributes := #[] }, { accessFlags := 24, nameIndex := 430, descriptorIndex := 62, attributes := #[] }, { accessFlags := 4120, nameIndex := 46, descriptorIndex := 47, attributes := #[] }])
  fields := #[{ name := "HI_BYTE_SHIFT", type := .int, accessFlags := 26, slot := 0, constantValue := 0 }, { name := "LO_BYTE_SHIFT", type := .int, accessFlags := 26, slot := 1, constantValue := 0 }, { name := "MAX_LENGTH", type := .int, accessFlags := 24, slot := 2, constantValue := 0 }, { name := "$assertionsDisabled", type := .boolean, accessFlags := 4120, slot := 3, constantValue := 0 }]
  methods := #[k10m0, k10m1, k10m2, k10m3]
  instanceTypes := #[]
  staticTypes := #[.int, .int, .int, .boolean]
  resolved := Array.replicate 635 none
  statics := none }

def pool11 : Array CpInfo := pool [(1, .methodref 2 3), (0, .class_ 4), (0, .nameAndType 5 6), (0, u "java/lang/Record"), (0, u "<init>"), (0, u "()V"), (0, .fieldref 8 9), (0, .class_ 10), (0, .nameAndType 11 12), (0, u "com/example/lushan/lushan/policy/Mapping"), (0, u "from"), (0, u "Lcom/example/lushan/lushan/policy/TenantRole;"), (0, .fieldref 8 14), (0, .nameAndType 15 12), (0, u "to"), (12, u "(Lcom/example/lushan/lushan/policy/TenantRole;Lcom/example/lushan/lushan/policy/TenantRole;)V")] 28

def k11c0 : Code := { maxStack := 2, maxLocals := 3, code := prog_24_method_1_code, exceptionTable := #[], attributes := #[] }
def k11m0 : Method := { name := "<init>", desc := "(Lcom/example/lushan/lushan/policy/TenantRole;Lcom/example/lushan/lushan/policy/TenantRole;)V", sig := { parameters := [(.object "com/example/lushan/lushan/policy/TenantRole"), (.object "com/example/lushan/lushan/policy/TenantRole")], returnType := none }, accessFlags := 1, code := some k11c0 }
/-- com/example/lushan/lushan/policy/Mapping -/
def k11 : Class := { plain "com/example/lushan/lushan/policy/Mapping" (some 2) with
  accessFlags := 49
  interfaces := #[]
  cf := some (fileOf pool11 8 #[] #[{ accessFlags := 1, nameIndex := 5, descriptorIndex := 28, attributes := #[] }] 49 2 #[] #[{ accessFlags := 18, nameIndex := 11, descriptorIndex := 12, attributes := #[] }, { accessFlags := 18, nameIndex := 15, descriptorIndex := 12, attributes := #[] }])
  fields := #[{ name := "from", type := (.object "com/example/lushan/lushan/policy/TenantRole"), accessFlags := 18, slot := 0, constantValue := 0 }, { name := "to", type := (.object "com/example/lushan/lushan/policy/TenantRole"), accessFlags := 18, slot := 1, constantValue := 0 }]
  methods := #[k11m0]
  instanceTypes := #[(.object "com/example/lushan/lushan/policy/TenantRole"), (.object "com/example/lushan/lushan/policy/TenantRole")]
  staticTypes := #[]
  resolved := Array.replicate 57 none
  statics := none }

def pool12 : Array CpInfo := pool [(1, .methodref 2 3), (0, .class_ 4), (0, .nameAndType 5 6), (0, u "java/lang/Record"), (0, u "<init>"), (0, u "()V"), (0, .fieldref 8 9), (0, .class_ 10), (0, .nameAndType 11 12), (0, u "com/example/lushan/lushan/policy/MappingDecision"), (0, u "request"), (0, u "Lcom/example/lushan/lushan/policy/Mapping;"), (0, .fieldref 8 14), (0, .nameAndType 15 12), (0, u "conflict"), (12, u "(Lcom/example/lushan/lushan/policy/Mapping;Lcom/example/lushan/lushan/policy/Mapping;)V"), (3, u "accepted"), (0, u "()Z")] 26

def k12c0 : Code := { maxStack := 2, maxLocals := 3, code := prog_25_method_1_code, exceptionTable := #[], attributes := #[] }
def k12m0 : Method := { name := "<init>", desc := "(Lcom/example/lushan/lushan/policy/Mapping;Lcom/example/lushan/lushan/policy/Mapping;)V", sig := { parameters := [(.object "com/example/lushan/lushan/policy/Mapping"), (.object "com/example/lushan/lushan/policy/Mapping")], returnType := none }, accessFlags := 1, code := some k12c0 }
def k12c1 : Code := { maxStack := 1, maxLocals := 1, code := prog_25_method_2_code, exceptionTable := #[], attributes := #[] }
def k12m1 : Method := { name := "accepted", desc := "()Z", sig := { parameters := [], returnType := some .boolean }, accessFlags := 1, code := some k12c1 }
/-- com/example/lushan/lushan/policy/MappingDecision -/
def k12 : Class := { plain "com/example/lushan/lushan/policy/MappingDecision" (some 2) with
  accessFlags := 49
  interfaces := #[]
  cf := some (fileOf pool12 8 #[] #[{ accessFlags := 1, nameIndex := 5, descriptorIndex := 28, attributes := #[] }, { accessFlags := 1, nameIndex := 32, descriptorIndex := 33, attributes := #[] }] 49 2 #[] #[{ accessFlags := 18, nameIndex := 11, descriptorIndex := 12, attributes := #[] }, { accessFlags := 18, nameIndex := 15, descriptorIndex := 12, attributes := #[] }])
  fields := #[{ name := "request", type := (.object "com/example/lushan/lushan/policy/Mapping"), accessFlags := 18, slot := 0, constantValue := 0 }, { name := "conflict", type := (.object "com/example/lushan/lushan/policy/Mapping"), accessFlags := 18, slot := 1, constantValue := 0 }]
  methods := #[k12m0, k12m1]
  instanceTypes := #[(.object "com/example/lushan/lushan/policy/Mapping"), (.object "com/example/lushan/lushan/policy/Mapping")]
  staticTypes := #[]
  resolved := Array.replicate 60 none
  statics := none }

def pool13 : Array CpInfo := pool [(4, .class_ 6), (1, u "java/lang/Object"), (0, u "<init>"), (0, u "()V"), (5, .class_ 16), (1, u "java/lang/StringLatin1"), (104, u "$assertionsDisabled"), (0, u "Z"), (98, .class_ 223), (1, u "java/lang/StringLatin1$LinesSpliterator"), (166, .class_ 391), (0, u "java/lang/StringLatin1$CharsSpliterator")] 3

def k13m0 : Method := { name := "<init>", desc := "()V", sig := { parameters := [], returnType := none }, accessFlags := 0, code := none }
/-- java/lang/StringLatin1 -/
def k13 : Class := { plain "java/lang/StringLatin1" (some 0) with
  accessFlags := 48
  interfaces := #[]
  cf := some (fileOf pool13 14 #[.nestMembers #[390, 221]] #[{ accessFlags := 0, nameIndex := 7, descriptorIndex := 8, attributes := #[] }] 48 4 #[] #[{ accessFlags := 4120, nameIndex := 121, descriptorIndex := 122, attributes := #[] }])
  fields := #[{ name := "$assertionsDisabled", type := .boolean, accessFlags := 4120, slot := 0, constantValue := 0 }]
  methods := #[k13m0]
  instanceTypes := #[]
  staticTypes := #[.boolean]
  resolved := Array.replicate 395 none
  statics := none }

def pool14 : Array CpInfo := pool [(2, .class_ 4), (1, u "java/lang/Object"), (0, u "<init>"), (0, u "()V"), (17, .class_ 26), (1, u "jdk/internal/util/Preconditions"), (28, .class_ 56), (0, u "jdk/internal/util/Preconditions$4"), (57, .class_ 115), (0, u "jdk/internal/util/Preconditions$1"), (7, u "SIOOBE_FORMATTER"), (0, u "Ljava/util/function/BiFunction;"), (0, .class_ 126), (0, u "jdk/internal/util/Preconditions$2"), (3, u "AIOOBE_FORMATTER"), (0, .class_ 132), (0, u "jdk/internal/util/Preconditions$3"), (3, u "IOOBE_FORMATTER")] 57

def k14m0 : Method := { name := "<init>", desc := "()V", sig := { parameters := [], returnType := none }, accessFlags := 1, code := none }
/-- jdk/internal/util/Preconditions -/
def k14 : Class := { plain "jdk/internal/util/Preconditions" (some 0) with
  accessFlags := 33
  interfaces := #[]
  cf := some (fileOf pool14 24 #[.nestMembers #[55, 131, 125, 114]] #[{ accessFlags := 1, nameIndex := 5, descriptorIndex := 6, attributes := #[] }] 33 2 #[] #[{ accessFlags := 25, nameIndex := 123, descriptorIndex := 124, attributes := #[] }, { accessFlags := 25, nameIndex := 130, descriptorIndex := 124, attributes := #[] }, { accessFlags := 25, nameIndex := 136, descriptorIndex := 124, attributes := #[] }])
  fields := #[{ name := "SIOOBE_FORMATTER", type := (.object "java/util/function/BiFunction"), accessFlags := 25, slot := 0, constantValue := 0 }, { name := "AIOOBE_FORMATTER", type := (.object "java/util/function/BiFunction"), accessFlags := 25, slot := 1, constantValue := 0 }, { name := "IOOBE_FORMATTER", type := (.object "java/util/function/BiFunction"), accessFlags := 25, slot := 2, constantValue := 0 }]
  methods := #[k14m0]
  instanceTypes := #[]
  staticTypes := #[(.object "java/util/function/BiFunction"), (.object "java/util/function/BiFunction"), (.object "java/util/function/BiFunction")]
  resolved := Array.replicate 194 none
  statics := some 1 }

def pool15 : Array CpInfo := pool [(9, u "<init>"), (6, .class_ 18), (1, u "java/lang/Object"), (0, u "()V"), (1, .class_ 23), (1, u "jdk/internal/util/ArraysSupport"), (0, u "LOG2_ARRAY_LONG_INDEX_SCALE"), (0, u "I"), (2, u "U"), (0, u "Ljdk/internal/misc/Unsafe;"), (8, u "BIG_ENDIAN"), (0, u "Z"), (8, u "LOG2_BYTE_BIT_SIZE"), (4, u "LOG2_ARRAY_INT_INDEX_SCALE"), (54, u "JLA"), (0, u "Ljdk/internal/access/JavaLangAccess;"), (11, u "LOG2_ARRAY_BOOLEAN_INDEX_SCALE"), (9, u "LOG2_ARRAY_BYTE_INDEX_SCALE"), (5, u "LOG2_ARRAY_CHAR_INDEX_SCALE"), (5, u "LOG2_ARRAY_SHORT_INDEX_SCALE"), (18, u "LOG2_ARRAY_FLOAT_INDEX_SCALE"), (24, u "LOG2_ARRAY_DOUBLE_INDEX_SCALE"), (89, u "T_BOOLEAN"), (2, u "T_CHAR"), (1, u "T_FLOAT"), (1, u "T_DOUBLE"), (1, u "T_BYTE"), (1, u "T_SHORT"), (1, u "T_INT"), (1, u "T_LONG"), (1, u "SOFT_MAX_ARRAY_LENGTH")] 83

def k15m0 : Method := { name := "<init>", desc := "()V", sig := { parameters := [], returnType := none }, accessFlags := 2, code := none }
/-- jdk/internal/util/ArraysSupport -/
def k15 : Class := { plain "jdk/internal/util/ArraysSupport" (some 0) with
  accessFlags := 33
  interfaces := #[]
  cf := some (fileOf pool15 21 #[] #[{ accessFlags := 2, nameIndex := 9, descriptorIndex := 19, attributes := #[] }] 33 16 #[] #[{ accessFlags := 24, nameIndex := 28, descriptorIndex := 29, attributes := #[] }, { accessFlags := 26, nameIndex := 38, descriptorIndex := 39, attributes := #[] }, { accessFlags := 25, nameIndex := 121, descriptorIndex := 25, attributes := #[] }, { accessFlags := 25, nameIndex := 131, descriptorIndex := 25, attributes := #[] }, { accessFlags := 25, nameIndex := 137, descriptorIndex := 25, attributes := #[] }, { accessFlags := 25, nameIndex := 143, descriptorIndex := 25, attributes := #[] }, { accessFlags := 25, nameIndex := 53, descriptorIndex := 25, attributes := #[] }, { accessFlags := 25, nameIndex := 24, descriptorIndex := 25, attributes := #[] }, { accessFlags := 25, nameIndex := 162, descriptorIndex := 25, attributes := #[] }, { accessFlags := 25, nameIndex := 187, descriptorIndex := 25, attributes := #[] }, { accessFlags := 26, nameIndex := 48, descriptorIndex := 25, attributes := #[] }, { accessFlags := 25, nameIndex := 277, descriptorIndex := 25, attributes := #[] }, { accessFlags := 25, nameIndex := 280, descriptorIndex := 25, attributes := #[] }, { accessFlags := 25, nameIndex := 282, descriptorIndex := 25, attributes := #[] }, { accessFlags := 25, nameIndex := 284, descriptorIndex := 25, attributes := #[] }, { accessFlags := 25, nameIndex := 286, descriptorIndex := 25, attributes := #[] }, { accessFlags := 25, nameIndex := 288, descriptorIndex := 25, attributes := #[] }, { accessFlags := 25, nameIndex := 290, descriptorIndex := 25, attributes := #[] }, { accessFlags := 25, nameIndex := 292, descriptorIndex := 25, attributes := #[] }, { accessFlags := 26, nameIndex := 108, descriptorIndex := 109, attributes := #[] }, { accessFlags := 25, nameIndex := 294, descriptorIndex := 25, attributes := #[] }])
  fields := #[{ name := "U", type := (.object "jdk/internal/misc/Unsafe"), accessFlags := 24, slot := 0, constantValue := 0 }, { name := "BIG_ENDIAN", type := .boolean, accessFlags := 26, slot := 1, constantValue := 0 }, { name := "LOG2_ARRAY_BOOLEAN_INDEX_SCALE", type := .int, accessFlags := 25, slot := 2, constantValue := 0 }, { name := "LOG2_ARRAY_BYTE_INDEX_SCALE", type := .int, accessFlags := 25, slot := 3, constantValue := 0 }, { name := "LOG2_ARRAY_CHAR_INDEX_SCALE", type := .int, accessFlags := 25, slot := 4, constantValue := 0 }, { name := "LOG2_ARRAY_SHORT_INDEX_SCALE", type := .int, accessFlags := 25, slot := 5, constantValue := 0 }, { name := "LOG2_ARRAY_INT_INDEX_SCALE", type := .int, accessFlags := 25, slot := 6, constantValue := 0 }, { name := "LOG2_ARRAY_LONG_INDEX_SCALE", type := .int, accessFlags := 25, slot := 7, constantValue := 0 }, { name := "LOG2_ARRAY_FLOAT_INDEX_SCALE", type := .int, accessFlags := 25, slot := 8, constantValue := 0 }, { name := "LOG2_ARRAY_DOUBLE_INDEX_SCALE", type := .int, accessFlags := 25, slot := 9, constantValue := 0 }, { name := "LOG2_BYTE_BIT_SIZE", type := .int, accessFlags := 26, slot := 10, constantValue := 0 }, { name := "T_BOOLEAN", type := .int, accessFlags := 25, slot := 11, constantValue := 0 }, { name := "T_CHAR", type := .int, accessFlags := 25, slot := 12, constantValue := 0 }, { name := "T_FLOAT", type := .int, accessFlags := 25, slot := 13, constantValue := 0 }, { name := "T_DOUBLE", type := .int, accessFlags := 25, slot := 14, constantValue := 0 }, { name := "T_BYTE", type := .int, accessFlags := 25, slot := 15, constantValue := 0 }, { name := "T_SHORT", type := .int, accessFlags := 25, slot := 16, constantValue := 0 }, { name := "T_INT", type := .int, accessFlags := 25, slot := 17, constantValue := 0 }, { name := "T_LONG", type := .int, accessFlags := 25, slot := 18, constantValue := 0 }, { name := "JLA", type := (.object "jdk/internal/access/JavaLangAccess"), accessFlags := 26, slot := 19, constantValue := 0 }, { name := "SOFT_MAX_ARRAY_LENGTH", type := .int, accessFlags := 25, slot := 20, constantValue := 0 }]
  methods := #[k15m0]
  instanceTypes := #[]
  staticTypes := #[(.object "jdk/internal/misc/Unsafe"), .boolean, .int, .int, .int, .int, .int, .int, .int, .int, .int, .int, .int, .int, .int, .int, .int, .int, .int, (.object "jdk/internal/access/JavaLangAccess"), .int]
  resolved := Array.replicate 378 none
  statics := none }

def pool16 : Array CpInfo := pool [(1, u "java/lang/Cloneable"), (0, .class_ 1), (0, u "java/lang/Object"), (0, .class_ 3)] 3

/-- java/lang/Cloneable -/
def k16 : Class := { plain "java/lang/Cloneable" (some 0) with
  accessFlags := 1537
  interfaces := #[]
  cf := some (fileOf pool16 2 #[] #[] 1537 4 #[] #[])
  fields := #[]
  methods := #[]
  instanceTypes := #[]
  staticTypes := #[]
  resolved := Array.replicate 8 none
  statics := none }

/-- the primitive byte -/
def k17 : Class := { plain "byte" none with kind := .primitive 'B', accessFlags := 0x411 }
/-- [B -/
def k18 : Class := { plain "[B" (some 0) with kind := .array 17 .byte, interfaces := #[16, 4], accessFlags := 1041 }

/-- the primitive char -/
def k19 : Class := { plain "char" none with kind := .primitive 'C', accessFlags := 0x411 }
/-- [C -/
def k20 : Class := { plain "[C" (some 0) with kind := .array 19 .char, interfaces := #[16, 4], accessFlags := 1041 }

/-- the primitive int -/
def k21 : Class := { plain "int" none with kind := .primitive 'I', accessFlags := 0x411 }
/-- [I -/
def k22 : Class := { plain "[I" (some 0) with kind := .array 21 .int, interfaces := #[16, 4], accessFlags := 1041 }

def heap : Heap := #[{ cls := 9, slots := #[.long 0, .int 1, .null, .int 0, .null, .int 0, .int 0], vm := .statics 9 },
  { cls := 14, slots := #[.null, .null, .null], vm := .statics 14 }]
def classes : Array Class := #[k0, k1, k2, k3, k4, k5, k6, k7, k8, k9, k10, k11, k12, k13, k14, k15, k16, k17, k18, k19, k20, k21, k22]
def interned : List (Array UInt16 × Addr) := []
def slotsUsed : Nat := 10
def theMethod : MethodId := ⟨1, 2⟩
def args0 : Array Value := #[.int 1, .int 2, .int 3, .int 4, .int 5]
def aboutOver (below : List Frame) : State where
  vm := { classes := classes, interned := interned.toArray }
  heap := heap
  slotsUsed := slotsUsed
  threads := #[{ frames := .invoking theMethod args0 :: below }]
def below0 : List Frame := [.native { method := ⟨0, 0⟩, args := #[] }]
def about1 : State := aboutOver below0
def p0 : Program := .bare "" "" ""
def e0 : Env := launch0.env 0 0 0
theorem w_frames : about1.frames = Frame.invoking theMethod args0 :: below0 := rfl
set_option maxRecDepth 65536 in
theorem w_args : argsFit about1.vm theMethod args0 = true := by decide +kernel
set_option maxRecDepth 65536 in
theorem w_heap : heapFits about1 = true := by decide +kernel
set_option maxRecDepth 65536 in
theorem w_runnable : about1.curStatus? = some .runnable := by decide +kernel
set_option maxRecDepth 65536 in
theorem w_alone : about1.alone = true := by decide +kernel
set_option maxRecDepth 65536 in
theorem w_named : about1.methodNamed? x = some theMethod := by decide +kernel
set_option maxRecDepth 65536 in
theorem w_hears : about1.hears theMethod below0 = true := by decide +kernel
set_option maxRecDepth 65536 in
theorem w_ripe : about1.ripe theMethod args0 below0 = true := by decide +kernel
theorem w_running : about1.status = .running := rfl
set_option maxRecDepth 65536 in
theorem w_room : about1.hasRoom e0.platform room_1 = true :=
  launch0.hasRoom_least _ room_1 (by decide +kernel) (by decide +kernel) (by decide +kernel) (by decide +kernel) (by decide +kernel) (by decide +kernel)
theorem allAtoms_all (ts : List Jvm.Cond) (a : Array Jvm.Value) (st : Jvm.State) : (allAtoms ts).before a st = ts.all (fun c => c.before a st) := by
  induction ts with
  | nil => rfl
  | cons c t ih =>
    show (Jvm.Cond.and c (allAtoms t)).before a st = _
    rw [Jvm.Cond.before_and, ih, List.all_cons]
def words1 : List Jvm.Cond := Jvm.Cond.code x code maxLocals ret :: tables_1
/-- a 'code' word, met by the world's own term for the bytes: nothing is compared byte by byte -/
theorem code_word {y : MethodName} {bytes : ByteArray} {mx : Nat} {rt : Option FieldType} {a : Array Value} {s : State} {m : MethodId} {meth : Method} {c : Code} (h1 : s.methodNamed? y = some m) (h2 : s.vm.method? m = some meth) (h3 : meth.code = some c) (h4 : c.code = bytes)
    (h5 : (c.maxLocals == mx && c.exceptionTable.isEmpty && decide (c.maxStack ≤ mostOperands) && decide (meth.sig.returnType = rt) && !meth.locks && decide (parseMethodDescriptor y.desc = some meth.sig)) = true) : (Jvm.Cond.code y bytes mx rt).before a s = true := by
  simp only [Bool.and_eq_true, beq_iff_eq, Bool.not_eq_true', decide_eq_true_eq] at h5
  obtain ⟨⟨⟨⟨⟨g1, g2⟩, g3⟩, g4⟩, g5⟩, g6⟩ := h5
  simp [Cond.before, Cond.holds, Cond.value, h1, h2, h3, h4, g1, g2, g3, g4, g5, g6]
def isCode : Jvm.Cond → Bool
  | .code _ _ _ _ => true
  | _ => false
theorem all_split {L : List Jvm.Cond} {P : Jvm.Cond → Bool} (h1 : L.all (fun c => isCode c || P c) = true) (h2 : ∀ c ∈ L.filter isCode, P c = true) : L.all P = true := by
  refine List.all_eq_true.mpr fun c hc => ?_
  have h := List.all_eq_true.mp h1 c hc
  rcases Bool.eq_false_or_eq_true (isCode c) with hi | hi
  · exact h2 c (List.mem_filter.mpr ⟨hc, hi⟩)
  · simpa [hi] using h
set_option maxRecDepth 65536 in
theorem w_c0 : (Jvm.Cond.code x code maxLocals ret).before args0 about1 = true := code_word (m := ⟨1, 2⟩) (meth := k1m2) (c := k1c2) (by decide +kernel) rfl rfl rfl (by decide +kernel)
set_option maxRecDepth 65536 in
theorem w_c1 : (Jvm.Cond.code ({ cls := "com/example/lushan/lushan/policy/MappingDecisionAcceptedPinLaw", name := "str", desc := "(II)Ljava/lang/String;" } : Jvm.MethodName) method_2_code (3 : Nat) (Option.some (Jvm.ClassFile.FieldType.object "java/lang/String"))).before args0 about1 = true := code_word (m := ⟨1, 1⟩) (meth := k1m1) (c := k1c1) (by decide +kernel) rfl rfl rfl (by decide +kernel)
set_option maxRecDepth 65536 in
theorem w_c2 : (Jvm.Cond.code ({ cls := "java/lang/String", name := "<init>", desc := "([C)V" } : Jvm.MethodName) jdk_42_method_3_code (2 : Nat) (Option.none : Option Jvm.ClassFile.FieldType)).before args0 about1 = true := code_word (m := ⟨9, 1⟩) (meth := k9m1) (c := k9c1) (by decide +kernel) rfl rfl rfl (by decide +kernel)
set_option maxRecDepth 65536 in
theorem w_c3 : (Jvm.Cond.code ({ cls := "java/lang/String", name := "<init>", desc := "([CIILjava/lang/Void;)V" } : Jvm.MethodName) jdk_42_method_149_code (6 : Nat) (Option.none : Option Jvm.ClassFile.FieldType)).before args0 about1 = true := code_word (m := ⟨9, 2⟩) (meth := k9m2) (c := k9c2) (by decide +kernel) rfl rfl rfl (by decide +kernel)
set_option maxRecDepth 65536 in
theorem w_c4 : (Jvm.Cond.code ({ cls := "java/lang/Object", name := "<init>", desc := "()V" } : Jvm.MethodName) object_method_1_code (1 : Nat) (Option.none : Option Jvm.ClassFile.FieldType)).before args0 about1 = true := code_word (m := ⟨0, 0⟩) (meth := k0m0) (c := k0c0) (by decide +kernel) rfl rfl rfl (by decide +kernel)
set_option maxRecDepth 65536 in
theorem w_c5 : (Jvm.Cond.code ({ cls := "java/lang/StringUTF16", name := "compress", desc := "([CII)[B" } : Jvm.MethodName) jdk_52_method_16_code (6 : Nat) (Option.some (Jvm.ClassFile.FieldType.array Jvm.ClassFile.FieldType.byte))).before args0 about1 = true := code_word (m := ⟨10, 2⟩) (meth := k10m2) (c := k10c2) (by decide +kernel) rfl rfl rfl (by decide +kernel)
set_option maxRecDepth 65536 in
theorem w_c6 : (Jvm.Cond.code ({ cls := "java/lang/StringUTF16", name := "compress", desc := "([CI[BII)I" } : Jvm.MethodName) jdk_52_method_21_code (7 : Nat) (Option.some Jvm.ClassFile.FieldType.int)).before args0 about1 = true := code_word (m := ⟨10, 3⟩) (meth := k10m3) (c := k10c3) (by decide +kernel) rfl rfl rfl (by decide +kernel)
set_option maxRecDepth 65536 in
theorem w_c7 : (Jvm.Cond.code ({ cls := "java/lang/StringUTF16", name := "coderFromArrayLen", desc := "([BI)B" } : Jvm.MethodName) jdk_52_method_15_code (2 : Nat) (Option.some Jvm.ClassFile.FieldType.byte)).before args0 about1 = true := code_word (m := ⟨10, 1⟩) (meth := k10m1) (c := k10c1) (by decide +kernel) rfl rfl rfl (by decide +kernel)
set_option maxRecDepth 65536 in
theorem w_c8 : (Jvm.Cond.code ({ cls := "com/example/lushan/lushan/policy/TenantRole", name := "<init>", desc := "(Ljava/lang/String;Ljava/lang/String;)V" } : Jvm.MethodName) prog_45_method_1_code (3 : Nat) (Option.none : Option Jvm.ClassFile.FieldType)).before args0 about1 = true := code_word (m := ⟨3, 0⟩) (meth := k3m0) (c := k3c0) (by decide +kernel) rfl rfl rfl (by decide +kernel)
set_option maxRecDepth 65536 in
theorem w_c9 : (Jvm.Cond.code ({ cls := "java/lang/Record", name := "<init>", desc := "()V" } : Jvm.MethodName) jdk_30_method_1_code (1 : Nat) (Option.none : Option Jvm.ClassFile.FieldType)).before args0 about1 = true := code_word (m := ⟨2, 0⟩) (meth := k2m0) (c := k2c0) (by decide +kernel) rfl rfl rfl (by decide +kernel)
set_option maxRecDepth 65536 in
theorem w_c10 : (Jvm.Cond.code ({ cls := "com/example/lushan/lushan/policy/Mapping", name := "<init>", desc := "(Lcom/example/lushan/lushan/policy/TenantRole;Lcom/example/lushan/lushan/policy/TenantRole;)V" } : Jvm.MethodName) prog_24_method_1_code (3 : Nat) (Option.none : Option Jvm.ClassFile.FieldType)).before args0 about1 = true := code_word (m := ⟨11, 0⟩) (meth := k11m0) (c := k11c0) (by decide +kernel) rfl rfl rfl (by decide +kernel)
set_option maxRecDepth 65536 in
theorem w_c11 : (Jvm.Cond.code ({ cls := "com/example/lushan/lushan/policy/MappingDecision", name := "<init>", desc := "(Lcom/example/lushan/lushan/policy/Mapping;Lcom/example/lushan/lushan/policy/Mapping;)V" } : Jvm.MethodName) prog_25_method_1_code (3 : Nat) (Option.none : Option Jvm.ClassFile.FieldType)).before args0 about1 = true := code_word (m := ⟨12, 0⟩) (meth := k12m0) (c := k12c0) (by decide +kernel) rfl rfl rfl (by decide +kernel)
set_option maxRecDepth 65536 in
theorem w_c12 : (Jvm.Cond.code ({ cls := "com/example/lushan/lushan/policy/MappingDecision", name := "accepted", desc := "()Z" } : Jvm.MethodName) prog_25_method_2_code (1 : Nat) (Option.some Jvm.ClassFile.FieldType.boolean)).before args0 about1 = true := code_word (m := ⟨12, 1⟩) (meth := k12m1) (c := k12c1) (by decide +kernel) rfl rfl rfl (by decide +kernel)
def codes1 : List Jvm.Cond := [Jvm.Cond.code x code maxLocals ret, Jvm.Cond.code ({ cls := "com/example/lushan/lushan/policy/MappingDecisionAcceptedPinLaw", name := "str", desc := "(II)Ljava/lang/String;" } : Jvm.MethodName) method_2_code (3 : Nat) (Option.some (Jvm.ClassFile.FieldType.object "java/lang/String")), Jvm.Cond.code ({ cls := "java/lang/String", name := "<init>", desc := "([C)V" } : Jvm.MethodName) jdk_42_method_3_code (2 : Nat) (Option.none : Option Jvm.ClassFile.FieldType), Jvm.Cond.code ({ cls := "java/lang/String", name := "<init>", desc := "([CIILjava/lang/Void;)V" } : Jvm.MethodName) jdk_42_method_149_code (6 : Nat) (Option.none : Option Jvm.ClassFile.FieldType), Jvm.Cond.code ({ cls := "java/lang/Object", name := "<init>", desc := "()V" } : Jvm.MethodName) object_method_1_code (1 : Nat) (Option.none : Option Jvm.ClassFile.FieldType), Jvm.Cond.code ({ cls := "java/lang/StringUTF16", name := "compress", desc := "([CII)[B" } : Jvm.MethodName) jdk_52_method_16_code (6 : Nat) (Option.some (Jvm.ClassFile.FieldType.array Jvm.ClassFile.FieldType.byte)), Jvm.Cond.code ({ cls := "java/lang/StringUTF16", name := "compress", desc := "([CI[BII)I" } : Jvm.MethodName) jdk_52_method_21_code (7 : Nat) (Option.some Jvm.ClassFile.FieldType.int), Jvm.Cond.code ({ cls := "java/lang/StringUTF16", name := "coderFromArrayLen", desc := "([BI)B" } : Jvm.MethodName) jdk_52_method_15_code (2 : Nat) (Option.some Jvm.ClassFile.FieldType.byte), Jvm.Cond.code ({ cls := "com/example/lushan/lushan/policy/TenantRole", name := "<init>", desc := "(Ljava/lang/String;Ljava/lang/String;)V" } : Jvm.MethodName) prog_45_method_1_code (3 : Nat) (Option.none : Option Jvm.ClassFile.FieldType), Jvm.Cond.code ({ cls := "java/lang/Record", name := "<init>", desc := "()V" } : Jvm.MethodName) jdk_30_method_1_code (1 : Nat) (Option.none : Option Jvm.ClassFile.FieldType), Jvm.Cond.code ({ cls := "com/example/lushan/lushan/policy/Mapping", name := "<init>", desc := "(Lcom/example/lushan/lushan/policy/TenantRole;Lcom/example/lushan/lushan/policy/TenantRole;)V" } : Jvm.MethodName) prog_24_method_1_code (3 : Nat) (Option.none : Option Jvm.ClassFile.FieldType), Jvm.Cond.code ({ cls := "com/example/lushan/lushan/policy/MappingDecision", name := "<init>", desc := "(Lcom/example/lushan/lushan/policy/Mapping;Lcom/example/lushan/lushan/policy/Mapping;)V" } : Jvm.MethodName) prog_25_method_1_code (3 : Nat) (Option.none : Option Jvm.ClassFile.FieldType), Jvm.Cond.code ({ cls := "com/example/lushan/lushan/policy/MappingDecision", name := "accepted", desc := "()Z" } : Jvm.MethodName) prog_25_method_2_code (1 : Nat) (Option.some Jvm.ClassFile.FieldType.boolean)]
set_option maxRecDepth 65536 in
theorem codes_eq : words1.filter isCode = codes1 := rfl
theorem w_codes : ∀ c ∈ words1.filter isCode, c.before args0 about1 = true := by
  rw [codes_eq]
  intro c hc
  simp only [codes1, List.mem_cons, List.not_mem_nil, or_false] at hc
  rcases hc with rfl | rfl | rfl | rfl | rfl | rfl | rfl | rfl | rfl | rfl | rfl | rfl | rfl
  · exact w_c0
  · exact w_c1
  · exact w_c2
  · exact w_c3
  · exact w_c4
  · exact w_c5
  · exact w_c6
  · exact w_c7
  · exact w_c8
  · exact w_c9
  · exact w_c10
  · exact w_c11
  · exact w_c12
set_option maxRecDepth 65536 in
theorem w_t1 : (words1.take 24).all (fun c => isCode c || c.before args0 about1) = true := by decide +kernel
set_option maxRecDepth 65536 in
theorem w_t2 : ((words1.drop 24).take 24).all (fun c => isCode c || c.before args0 about1) = true := by decide +kernel
set_option maxRecDepth 65536 in
theorem w_t3 : (((words1.drop 24).drop 24).take 24).all (fun c => isCode c || c.before args0 about1) = true := by decide +kernel
set_option maxRecDepth 65536 in
theorem w_t4 : (((words1.drop 24).drop 24).drop 24).all (fun c => isCode c || c.before args0 about1) = true := by decide +kernel
theorem w_tables : (allAtoms (Jvm.Cond.code x code maxLocals ret :: tables_1)).before args0 about1 = true := by
  rw [allAtoms_all]
  show words1.all (fun c => c.before args0 about1) = true
  refine all_split ?_ w_codes
  rw [← List.take_append_drop 24 words1, List.all_append, w_t1, ← List.take_append_drop 24 (words1.drop 24), List.all_append, w_t2, ← List.take_append_drop 24 ((words1.drop 24).drop 24), List.all_append, w_t3, w_t4]
  rfl
set_option maxRecDepth 65536 in
theorem w_rest : rest_1_c.before args0 about1 = true := by decide +kernel
set_option maxRecDepth 65536 in
theorem w_case : (Jvm.Cond.and given_1 narrow_1).before args0 about1 = true := by decide +kernel
theorem w_applies : (headSpec (Jvm.Cond.code x code maxLocals ret :: tables_1) room_1).applies x e0.platform about1 = true :=
  (Spec.applies_iff w_frames).mpr ⟨w_running, w_runnable, w_alone, w_named, w_hears, w_ripe, w_room, w_tables⟩
theorem atStart : AtStart classFile x code maxLocals ret World_1 tables_1 room_1 Calls_1 rest_1 Pre_1 launch0 p0 e0 about1 theMethod args0 below0 :=
  ⟨lists_1, trivial, launch0.admits_env _ _ _, launch0.least_env, fairChoices_fair.cas, fairChoices_fair.clock, w_frames, w_args, w_heap, w_applies, trivial, w_rest, w_case⟩
end start1
theorem witness_1 : WitnessClaimed_1 := ⟨start1.p0, start1.e0, start1.about1, start1.theMethod, start1.args0, start1.below0, start1.atStart⟩
end Jvm.Pilot.@@N@@
