import JvmDerived
import JvmDerived.Pilot.@@N@@Statement
import JvmDerived.Pilot.@@N@@Code
set_option linter.unusedVariables false
set_option linter.unusedSimpArgs false
namespace Jvm.RoadKit
open Sem ClassFile Op Lib Jvm.Stand Jvm.Free Jvm.LawKit
section New
variable {p : Program} {l : Launch} {e : Env} {R : Room} {s : State} {m : MethodId} {args : Array Value} {below : List Frame} {meth : Method} {c : Code} {T : State} {locs : List Loc} {cells slots : Nat}
theorem retI (X : Stand p l e R s m args below meth c T locs cells slots) (hx : p.tables.exec = Jvm.exec) {pc : Nat} {Ls : Array Slot} {z : Int32} {rest : List Value} (hret : meth.sig.returnType = some .int) (hd : decode c.code pc = .ok (.ireturn, 1)) {fs : List Frame}
    (hl : ∀ (f : JFrame) (acts : List Action), f.method = m → f.locked = none → f.entered = [] → (doReturn e (T.setTop f) acts (some (.int z))).1 = T.setFrames fs) : Steps p.tables e below (T.setTop (mkF m pc Ls (.int z :: rest))) (T.setFrames fs) := by
  have hm' : T.vm.method? m = some meth := X.method'
  have hn : narrow .int (.int z) = .int z := rfl
  show Steps p.tables e below (T.setTop { method := m, pc := pc, locals := Ls, stack := _ :: rest, locked := none }) _
  jvm_step X.here [X.here.top, hx, hd, hm', hret, hn]
  first | (intro acts; rw [hl _ acts rfl rfl rfl]) | rw [hl _ _ rfl rfl rfl]
  exact Steps.refl _
/-- what is left of a walk: from S the run comes to its end, and Q is said of that -/
def OwnGo (p : Program) (e : Env) (below : List Frame) (s : State) (Q : Option Value → Heap → List Loc → Prop) (k n : Nat) (S : State) : Prop :=
  ∃ s₂ o, Steps p.tables e below S s₂ ∧ s₂.status = .running ∧ Ended s₂ below o ∧ ∃ v L, o = .returned v ∧ Q v s₂.heap L ∧ FrameEnd s o s₂ L k n
theorem gs {Q : Option Value → Heap → List Loc → Prop} {k n : Nat} {S S' : State} (f : ∀ t, Steps p.tables e below S' t → Steps p.tables e below S t) (h : OwnGo p e below s Q k n S') : OwnGo p e below s Q k n S := by
  obtain ⟨s₂, o, h1, r⟩ := h; exact ⟨s₂, o, f _ h1, r⟩
theorem gout {Q : Option Value → Heap → List Loc → Prop} {k n : Nat} {S : State} (X : Stand p l e R s m args below meth c T locs cells slots) (hlk : meth.locks = false) {v : Option Value} (hv : meth.sig.returnType = none → v = none) (hk : cells ≤ k) (hn : slots ≤ n) (hq : Q v T.heap locs)
    (st : ∀ fs, (∀ (f : JFrame) (acts : List Action), f.method = m → f.locked = none → f.entered = [] → (doReturn e (T.setTop f) acts v).1 = T.setFrames fs) → Steps p.tables e below S (T.setFrames fs)) : OwnGo p e below s Q k n S := by
  obtain ⟨fs, hr, hrun, hended, hW, hsame⟩ := X.leave (v := v) hv hlk
  exact ⟨_, _, st fs hr, hrun, hended, v, _, rfl, hq, ⟨v, rfl⟩, hW, hsame.mono hk hn⟩
/-- .. where String constants may be loaded on the way -/
def OwnGoW (p : Program) (e : Env) (below : List Frame) (s : State) (Z : State) (EL : List (String × Nat)) (Q : Option Value → Heap → List Loc → Prop) (k n : Nat) (S : State) : Prop :=
  ∃ s₂ o, Steps p.tables e below S s₂ ∧ s₂.status = .running ∧ Ended s₂ below o ∧ ∃ v L, o = .returned v ∧ Q v s₂.heap L ∧ CHr Z EL s.vm s.heap s₂.vm s₂.heap ∧ ReturnedEndW s o s₂ L k n
theorem gsW {Z : State} {EL : List (String × Nat)} {Q : Option Value → Heap → List Loc → Prop} {k n : Nat} {S S' : State} (f : ∀ t, Steps p.tables e below S' t → Steps p.tables e below S t) (h : OwnGoW p e below s Z EL Q k n S') : OwnGoW p e below s Z EL Q k n S := by
  obtain ⟨s₂, o, h1, r⟩ := h; exact ⟨s₂, o, f _ h1, r⟩
theorem goutW {Z : State} {a0 : Array Value} {EL : List (String × Nat)} {Q : Option Value → Heap → List Loc → Prop} {k n k0 : Nat} {S : State} {vm1 : Vm} {h0 h : Heap} (X : Stand p l e R (s.setVm vm1) m args below meth c T locs cells slots) (hS : s.Since vm1 k0) (hkk : k0 ≤ h.size) (hZ : Z.Warmed39 (s.setVm vm1).vm) (hEL : EW Z a0 EL) (hh : s.heap = h0) (eT : T.heap = h) (hR : CHr Z EL s.vm h0 vm1 h)
    (hlk : meth.locks = false) {v : Option Value} (hv : meth.sig.returnType = none → v = none) (hk : cells ≤ k) (hn : slots ≤ n) (hq : Q v h locs)
    (st : ∀ fs, (∀ (f : JFrame) (acts : List Action), f.method = m → f.locked = none → f.entered = [] → (doReturn e (T.setTop f) acts v).1 = T.setFrames fs) → Steps p.tables e below S (T.setFrames fs)) : OwnGoW p e below s Z EL Q k n S := by
  subst eT hh
  obtain ⟨fs, hr, hrun, hended, hE⟩ := X.leaveW hS hkk (v := v) hv hlk
  exact ⟨_, _, st fs hr, hrun, hended, v, _, rfl, hq, hR.trans (show CHr Z EL vm1 T.heap T.vm T.heap from CHv.at X hZ hEL hR.1), hE.1, hE.2.1, hE.2.2.1, hE.2.2.2.mono hk hn⟩
end New
def CtrW (l : Launch) (Z : State) (EL : List (String × Nat)) (y : MethodName) (bytes : ByteArray) (maxL : Nat) (ret : Option FieldType) (ws : List Jvm.Cond) (R : Room) (as' : Array Value) (h0 : Heap) (Q : Option Value → Heap → List Loc → Prop) : Prop :=
  MetFree l y (head1 (Jvm.Cond.code y bytes maxL ret :: ws) R) (fun a U => a = as' ∧ Z.Warmed39 U.vm ∧ U.heap = h0 ∧ CHv Z EL U.vm h0) (fun _ _ _ _ _ => True) (fun _ U o U' => ∃ v L, o = .returned v ∧ Q v U'.heap L ∧ CHr Z EL U.vm U.heap U'.vm U'.heap ∧ ReturnedEndW U o U' L R.cells R.slots)
/-- a method's contract -/
def Ctr (l : Launch) (Z : State) (y : MethodName) (bytes : ByteArray) (maxL : Nat) (ret : Option FieldType) (ws : List Jvm.Cond) (R : Room) (as' : Array Value) (h0 : Heap) (Q : Option Value → Heap → List Loc → Prop) : Prop :=
  MetFree l y (head1 (Jvm.Cond.code y bytes maxL ret :: ws) R) (fun a U => a = as' ∧ Z.Warmed39 U.vm ∧ U.heap = h0) (fun _ _ _ _ _ => True) (fun _ U o U' => ∃ v L, o = .returned v ∧ Q v U'.heap L ∧ FrameEnd U o U' L R.cells R.slots)
section Own
variable {p : Program} {l : Launch} {e : Env} {R : Room} {s Z : State} {args a0 : Array Value} {below : List Frame} {y : MethodName} {bytes : ByteArray} {maxL : Nat} {ret : Option FieldType} {rm : Room} {len W : Nat} {as' : Array Value} {h : Heap} {Q : Option Value → Heap → List Loc → Prop} {EL : List (String × Nat)} {vm0 : Vm} {ws : List Jvm.Cond}
theorem Ctr.of (hM : MetFree l y (head1 (Jvm.Cond.code y bytes maxL ret :: ws) R) (fun a U => a = as' ∧ Z.Warmed39 U.vm ∧ U.heap = h) (fun _ _ _ _ _ => True) (fun _ U o U' => ∃ v L, o = .returned v ∧ Q v U'.heap L ∧ FrameEnd U o U' L R.cells R.slots)) : Ctr l Z y bytes maxL ret ws R as' h Q := hM
theorem CtrW.of (hM : MetFree l y (head1 (Jvm.Cond.code y bytes maxL ret :: ws) R) (fun a U => a = as' ∧ Z.Warmed39 U.vm ∧ U.heap = h ∧ CHv Z EL U.vm h) (fun _ _ _ _ _ => True) (fun _ U o U' => ∃ v L, o = .returned v ∧ Q v U'.heap L ∧ CHr Z EL U.vm U.heap U'.vm U'.heap ∧ ReturnedEndW U o U' L R.cells R.slots)) : CtrW l Z EL y bytes maxL ret ws R as' h Q := hM
theorem backC (hM : Ctr l Z y bytes maxL ret [] rm as' h Q) (hZ : Z.Warmed39 s.vm) (wc : (Cond.code y bytes maxL ret).before a0 Z = true) (wz : (Cond.initialized y.cls).before a0 Z = true) (hf : rm.frames + 1 ≤ R.frames) (hl : W + (maxL + 11) + rm.locals ≤ R.locals) :
    Back l R p e below s args y len W (fun A a => a = as' ∧ A.U.heap = h ∧ A.cells + rm.cells ≤ R.cells ∧ A.slots + rm.slots ≤ R.slots)
      (fun A _ v B => ∃ L, Q v B.U.heap L ∧ B.locs = A.locs ++ L ∧ B.cells = A.cells + rm.cells ∧ B.slots = A.slots + rm.slots) := backOf (Q := Q) hM hZ wc wz hf hl
theorem backCW (hM : CtrW l Z EL y bytes maxL ret [] rm as' h Q) (hZ : Z.Warmed39 vm0) (wc : (Cond.code y bytes maxL ret).before a0 Z = true) (wz : (Cond.initialized y.cls).before a0 Z = true) (hf : rm.frames + 1 ≤ R.frames) (hl : W + (maxL + 11) + rm.locals ≤ R.locals) (hEL : EW Z a0 EL) (H : CHv Z EL vm0 h) :
    BackS l R p e below (s.setVm vm0) args y len W (fun A a => a = as' ∧ A.U.heap = h ∧ A.cells + rm.cells ≤ R.cells ∧ A.slots + rm.slots ≤ R.slots)
      (fun A _ v B => ∃ L, Q v B.U.heap L ∧ B.locs = A.locs ++ L ∧ B.cells = A.cells + rm.cells ∧ B.slots = A.slots + rm.slots ∧ CHr Z EL vm0 h B.U.vm B.U.heap) := backOfSH (Q := Q) hM hZ wc wz hf hl hEL H
end Own
end Jvm.RoadKit
/- laws to paste: Road.backV (cut by pick.py; bodies as the Statement names them) -/
namespace Jvm.Pilot.@@N@@
namespace StrChars
open Jvm Sem ClassFile Op Lib Jvm.Stand Jvm.Free.XT Jvm.Free.ALB Jvm.Free.JM Jvm.Free
open Jvm.Lib.Cold (StaticIs)
/-- a char array whose places are chars -/
def Ch (a : Addr) (A : Cell) (U : State) : Prop := Arr .char a A U ∧ Typed .char A
theorem Ch.mv {a : Addr} {A : Cell} {U U' : State} (h : Ch a A U) (hal : U.vm.Alike U'.vm) (hh : U'.heap = U.heap) : Ch a A U' := ⟨h.1.mv hal hh, h.2⟩
theorem Ch.keep {a : Addr} {A : Cell} {U U' : State} (h : Ch a A U) (hal : U.vm.Alike U'.vm) (hk : U'.heap[a]? = some A) : Ch a A U' := ⟨h.1.keep hal hk, h.2⟩
/-- what place i of a char[]'s cell holds -/
def cv (A : Cell) (i : Nat) : Int32 := match A.slots[i]? with | some (.int x) => x | _ => 0
theorem Ch.get {a : Addr} {A : Cell} {U : State} (h : Ch a A U) {i : Nat} (hi : i < A.slots.size) : A.slots[i]? = some (.int (cv A i)) := by
  have e := Array.getElem?_eq_getElem hi
  have f := h.2 i _ e
  unfold cv; rw [e]
  generalize A.slots[i] = v at f
  cases v <;> simp [fits] at f ⊢
/-- the byte that i2b leaves of a char -/
def lo8 (x : Int32) : Int32 := x.toInt8.toInt32
theorem fits_lo8 (y : Int32) : fits .byte (.int (lo8 y)) = true := by
  have h1 := y.toInt8.le_toInt
  have h2 := y.toInt8.toInt_lt
  simp only [lo8, fits, Bool.and_eq_true, decide_eq_true_eq, Int32.le_iff_toInt_le, Int8.toInt_toInt32, show (-128 : Int32).toInt = -128 from by decide, show (127 : Int32).toInt = 127 from by decide]
  omega
/-- A' is A but that each place j of lo .. hi - 1 holds f j -/
def Laid (A A' : Cell) (lo hi : Nat) (f : Nat → Value) : Prop := A'.cls = A.cls ∧ A'.vm = A.vm ∧ A'.slots.size = A.slots.size ∧ ∀ i, A'.slots[i]? = if lo ≤ i ∧ i < hi then some (f i) else A.slots[i]?
theorem Laid.zero (A : Cell) (lo : Nat) (f : Nat → Value) : Laid A A lo (lo + 0) f := ⟨rfl, rfl, rfl, fun i => by rw [if_neg (by omega)]⟩
theorem Laid.step {A Ak : Cell} {lo k : Nat} {f : Nat → Value} {v : Value} (h : Laid A Ak lo k f) (hlo : lo ≤ k) (hk : k < Ak.slots.size) (hv : v = f k) : Laid A (Ak.setSlot k v) lo (k + 1) f := by
  refine ⟨h.1, h.2.1, by simpa [Cell.setSlot] using h.2.2.1, fun i => ?_⟩
  by_cases e : k = i
  · subst e; rw [Cell.slots_setSlot_self v hk, if_pos (by omega), hv]
  · rw [Cell.slots_setSlot_ne v e, h.2.2.2 i]
    by_cases q : lo ≤ i ∧ i < k
    · rw [if_pos q, if_pos (by omega)]
    · rw [if_neg q, if_neg (by omega)]
def U16 : String := "java/lang/StringUTF16"
namespace Cmp5
def yN : MethodName := ⟨"java/lang/StringUTF16", "compress", "([CI[BII)I"⟩
abbrev yB : ByteArray := jdk_52_method_21_code
theorem d0 : decode yB 0 = .ok (.iconst 0, 1) := by decide +kernel
theorem d1 : decode yB 1 = .ok (.istore 5, 2) := by decide +kernel
theorem d3 : decode yB 3 = .ok (.iload 5, 2) := by decide +kernel
theorem d5 : decode yB 5 = .ok (.iload 4, 2) := by decide +kernel
theorem d7 : decode yB 7 = .ok (.if_icmp (.ge) 37, 3) := by decide +kernel
theorem d10 : decode yB 10 = .ok (.aload_n 0, 1) := by decide +kernel
theorem d11 : decode yB 11 = .ok (.iload_n 1, 1) := by decide +kernel
theorem d12 : decode yB 12 = .ok (.caload, 1) := by decide +kernel
theorem d13 : decode yB 13 = .ok (.istore 6, 2) := by decide +kernel
theorem d15 : decode yB 15 = .ok (.iload 6, 2) := by decide +kernel
theorem d17 : decode yB 17 = .ok (.sipush 255, 3) := by decide +kernel
theorem d20 : decode yB 20 = .ok (.if_icmp (.le) 6, 3) := by decide +kernel
theorem d26 : decode yB 26 = .ok (.aload_n 2, 1) := by decide +kernel
theorem d27 : decode yB 27 = .ok (.iload_n 3, 1) := by decide +kernel
theorem d28 : decode yB 28 = .ok (.iload 6, 2) := by decide +kernel
theorem d30 : decode yB 30 = .ok (.i2b, 1) := by decide +kernel
theorem d31 : decode yB 31 = .ok (.bastore, 1) := by decide +kernel
theorem d32 : decode yB 32 = .ok (.iinc 1 1, 3) := by decide +kernel
theorem d35 : decode yB 35 = .ok (.iinc 3 1, 3) := by decide +kernel
theorem d38 : decode yB 38 = .ok (.iinc 5 1, 3) := by decide +kernel
theorem d41 : decode yB 41 = .ok (.goto (-38), 3) := by decide +kernel
theorem d44 : decode yB 44 = .ok (.iload 4, 2) := by decide +kernel
theorem d46 : decode yB 46 = .ok (.ireturn, 1) := by decide +kernel
def site : List Cond := []
def tab : Cond := tabOf yN yB 7 (some .int) site
def P (b : Addr) (A : Cell) (d : Addr) (B : Cell) (o q len : Nat) (args : Array Value) (s : State) : Prop := args = #[.ref b, .int (Int32.ofNat o), .ref d, .int (Int32.ofNat q), .int (Int32.ofNat len)] ∧ Ch b A s ∧ Arr .byte d B s ∧ b ≠ d ∧ o + len ≤ A.slots.size ∧ q + len ≤ B.slots.size ∧ ∀ i, i < len → ¬ 255 < cv A (o + i)
def E (b : Addr) (A : Cell) (d : Addr) (B : Cell) (o q len : Nat) (r : Option Value) (s u : State) : Prop := r = some (.int (Int32.ofNat len)) ∧ ∃ B', Put d B' s u ∧ Laid B B' q (q + len) (fun j => Value.int (lo8 (cv A (o + (j - q)))))
/-- no char of the range above 255: len; the places written hold each char's low byte -/
theorem law (l : Launch) (b : Addr) (A : Cell) (d : Addr) (B : Cell) (o q len : Nat) : Law l yN 5 5 0 0 yB 7 (some .int) site (P b A d B o q len) (E b A d B o q len) (copyLocs d q len) 0 0 := by
  refine Law.of_walk (plainFor_of_name (by decide +kernel)) (by decide +kernel) (by decide +kernel) (by decide) (fun _ _ h => by rw [h.1]; rfl) (fun _ U U' hal hh h => ⟨h.1, h.2.1.mv hal hh, h.2.2.1.mv hal hh, h.2.2.2⟩) (fun r U U' V V' h1 hal h2 h => ⟨h.1, h.2.elim fun B' q => ⟨B', q.1.mv h1 h2, q.2⟩⟩) ?_
  intro p e s m args below meth c s₁ X0 hexec hbytes hml hret hlk hnm hown hh0 W hP
  obtain ⟨rfl, hA, hB, hne, l1, l2, hp⟩ := hP
  have c1 : Steps p.tables e below (s₁.setTop (entryFrame m #[.ref b, .int (Int32.ofNat o), .ref d, .int (Int32.ofNat q), .int (Int32.ofNat len)] 7)) (s₁.setTop (mkF m 0 #[.val (.ref b), .val (.int (Int32.ofNat o)), .val (.ref d), .val (.int (Int32.ofNat q)), .val (.int (Int32.ofNat len)), .unset, .unset] [])) := entry rfl
  have hA0 := hA.1.mv X0.warmed.alike hh0
  have hB0 := hB.mv X0.warmed.alike hh0
  have a31 := hA.1.2.2.2
  have c2 : Steps p.tables e below (s₁.setTop (entryFrame m #[.ref b, .int (Int32.ofNat o), .ref d, .int (Int32.ofNat q), .int (Int32.ofNat len)] 7)) (s₁.setTop (mkF m 3 #[.val (.ref b), .val (.int (Int32.ofNat o)), .val (.ref d), .val (.int (Int32.ofNat q)), .val (.int (Int32.ofNat len)), .val (.int 0), .unset] [])) := c1.trans (by
    refine iconstV X0.here hexec rfl 0 (hb hbytes d0) (by decide) ?_
    refine XS.istore X0.here hexec rfl (hb hbytes d1) rfl rfl ?_
    exact Steps.refl _)
  have loop : ∀ (r i : Nat), i + r = len → ∀ (z : Slot), (z = .unset ∨ ∃ w, z = .val w ∧ w.category = 1) → ∀ (Tl : State) (Bk : Cell), Stand p l e { frames := 0, locals := 0, cells := 0, slots := 0 } s m #[.ref b, .int (Int32.ofNat o), .ref d, .int (Int32.ofNat q), .int (Int32.ofNat len)] below meth c Tl ([] ++ copyLocs d q i) 0 0 → Put d Bk s₁ Tl → Laid B Bk q (q + i) (fun j => Value.int (lo8 (cv A (o + (j - q))))) →
      Steps p.tables e below (s₁.setTop (entryFrame m #[.ref b, .int (Int32.ofNat o), .ref d, .int (Int32.ofNat q), .int (Int32.ofNat len)] 7)) (Tl.setTop (mkF m 3 #[.val (.ref b), .val (.int (Int32.ofNat (o + i))), .val (.ref d), .val (.int (Int32.ofNat (q + i))), .val (.int (Int32.ofNat len)), .val (.int (Int32.ofNat i)), z] [])) → ∃ (T' : State) (B' : Cell) (z' : Slot), Stand p l e { frames := 0, locals := 0, cells := 0, slots := 0 } s m #[.ref b, .int (Int32.ofNat o), .ref d, .int (Int32.ofNat q), .int (Int32.ofNat len)] below meth c T' ([] ++ copyLocs d q len) 0 0 ∧ Put d B' s₁ T' ∧ Laid B B' q (q + len) (fun j => Value.int (lo8 (cv A (o + (j - q))))) ∧
      Steps p.tables e below (s₁.setTop (entryFrame m #[.ref b, .int (Int32.ofNat o), .ref d, .int (Int32.ofNat q), .int (Int32.ofNat len)] 7)) (T'.setTop (mkF m 3 #[.val (.ref b), .val (.int (Int32.ofNat (o + len))), .val (.ref d), .val (.int (Int32.ofNat (q + len))), .val (.int (Int32.ofNat len)), .val (.int (Int32.ofNat len)), z'] [])) := by
    intro r
    induction r with
    | zero =>
      intro i hi z hz Tl Bk Xl pl fl cl
      have hil : i = len := by omega
      rw [hil] at Xl fl cl
      exact ⟨Tl, Bk, z, Xl, pl, fl, cl⟩
    | succ r ih =>
      intro i hi z hz Tl Bk Xl pl fl cl
      have all := X0.warmed.alike.symm.trans Xl.warmed.alike
      have hAl := hA0.keep all (pl.other hne hA0.1)
      have hBk := hB0.like all pl.1 fl.1 fl.2.1 fl.2.2.1
      have hlt : q + i < Bk.slots.size := by rw [fl.2.2.1]; omega
      have c3 : Steps p.tables e below (s₁.setTop (entryFrame m #[.ref b, .int (Int32.ofNat o), .ref d, .int (Int32.ofNat q), .int (Int32.ofNat len)] 7)) (Tl.setTop (mkF m 12 #[.val (.ref b), .val (.int (Int32.ofNat (o + i))), .val (.ref d), .val (.int (Int32.ofNat (q + i))), .val (.int (Int32.ofNat len)), .val (.int (Int32.ofNat i)), z] [.int (Int32.ofNat (o + i)), .ref b])) := cl.trans (by
        refine XS.iload Xl.here hexec rfl (hb hbytes d3) rfl ?_
        refine XS.iload Xl.here hexec rfl (hb hbytes d5) rfl ?_
        refine XS.icmpNo Xl.here hexec rfl (hb hbytes d7) rfl (ii_ge_f (lt32 (by omega) (by omega))) ?_
        refine XS.aloadN Xl.here hexec rfl (hb hbytes d10) rfl rfl ?_
        refine XS.iloadN Xl.here hexec rfl (hb hbytes d11) rfl ?_
        exact Steps.refl _)
      have c4 : Steps p.tables e below (s₁.setTop (entryFrame m #[.ref b, .int (Int32.ofNat o), .ref d, .int (Int32.ofNat q), .int (Int32.ofNat len)] 7)) (Tl.setTop (mkF m 13 #[.val (.ref b), .val (.int (Int32.ofNat (o + i))), .val (.ref d), .val (.int (Int32.ofNat (q + i))), .val (.int (Int32.ofNat len)), .val (.int (Int32.ofNat i)), z] [.int (cv A (o + i))])) := c3.trans (by
        refine Xl.aget hexec hAl rfl (hA.get (i := o + i) (by omega)) rfl rfl (hb hbytes d12) ?_
        exact Steps.refl _)
      have c5 : Steps p.tables e below (s₁.setTop (entryFrame m #[.ref b, .int (Int32.ofNat o), .ref d, .int (Int32.ofNat q), .int (Int32.ofNat len)] 7)) (Tl.setTop (mkF m 15 #[.val (.ref b), .val (.int (Int32.ofNat (o + i))), .val (.ref d), .val (.int (Int32.ofNat (q + i))), .val (.int (Int32.ofNat len)), .val (.int (Int32.ofNat i)), .val (.int (cv A (o + i)))] [])) := c4.trans (by
        refine XS.istoreS Xl.here hexec rfl (hb hbytes d13) rfl rfl hz ?_
        exact Steps.refl _)
      have c6 : Steps p.tables e below (s₁.setTop (entryFrame m #[.ref b, .int (Int32.ofNat o), .ref d, .int (Int32.ofNat q), .int (Int32.ofNat len)] 7)) (Tl.setTop (mkF m 31 #[.val (.ref b), .val (.int (Int32.ofNat (o + i))), .val (.ref d), .val (.int (Int32.ofNat (q + i))), .val (.int (Int32.ofNat len)), .val (.int (Int32.ofNat i)), .val (.int (cv A (o + i)))] [.int (lo8 (cv A (o + i))), .int (Int32.ofNat (q + i)), .ref d])) := c5.trans (by
        refine XS.iload Xl.here hexec rfl (hb hbytes d15) rfl ?_
        refine sipushV Xl.here hexec rfl 255 (hb hbytes d17) (by decide) ?_
        refine XS.icmpYes Xl.here hexec rfl (pc0 := 20) rfl (hb hbytes d20) rfl (ii_le_t (hp i (by omega))) (by decide) rfl ?_
        refine XS.aloadN Xl.here hexec rfl (hb hbytes d26) rfl rfl ?_
        refine XS.iloadN Xl.here hexec rfl (hb hbytes d27) rfl ?_
        refine XS.iload Xl.here hexec rfl (hb hbytes d28) rfl ?_
        refine i2b Xl.here hexec rfl (hb hbytes d30) rfl ?_
        exact Steps.refl _)
      obtain ⟨T7, X7, p7, st7⟩ := Xl.aput hexec hBk rfl hlt rfl (fits_lo8 (cv A (o + i))) (g := (mkF m 31 #[.val (.ref b), .val (.int (Int32.ofNat (o + i))), .val (.ref d), .val (.int (Int32.ofNat (q + i))), .val (.int (Int32.ofNat len)), .val (.int (Int32.ofNat i)), .val (.int (cv A (o + i)))] [.int (lo8 (cv A (o + i))), .int (Int32.ofNat (q + i)), .ref d])) rfl (rest := []) rfl (hb hbytes d31)
      have c8 : Steps p.tables e below (s₁.setTop (entryFrame m #[.ref b, .int (Int32.ofNat o), .ref d, .int (Int32.ofNat q), .int (Int32.ofNat len)] 7)) (T7.setTop (mkF m 32 #[.val (.ref b), .val (.int (Int32.ofNat (o + i))), .val (.ref d), .val (.int (Int32.ofNat (q + i))), .val (.int (Int32.ofNat len)), .val (.int (Int32.ofNat i)), .val (.int (cv A (o + i)))] [])) := c6.trans (st7 _ (Steps.refl _))
      have c9 : Steps p.tables e below (s₁.setTop (entryFrame m #[.ref b, .int (Int32.ofNat o), .ref d, .int (Int32.ofNat q), .int (Int32.ofNat len)] 7)) (T7.setTop (mkF m 3 #[.val (.ref b), .val (.int (Int32.ofNat (o + i) + 1)), .val (.ref d), .val (.int (Int32.ofNat (q + i) + 1)), .val (.int (Int32.ofNat len)), .val (.int (Int32.ofNat i + 1)), .val (.int (cv A (o + i)))] [])) := c8.trans (by
        refine iincV X7.here hexec rfl 1 (hb hbytes d32) (by decide) rfl rfl ?_
        refine iincV X7.here hexec rfl 1 (hb hbytes d35) (by decide) rfl rfl ?_
        refine iincV X7.here hexec rfl 1 (hb hbytes d38) (by decide) rfl rfl ?_
        refine XS.goto X7.here hexec rfl (pc0 := 41) rfl (hb hbytes d41) (by decide) rfl ?_
        exact Steps.refl _)
      have c10 : Steps p.tables e below (s₁.setTop (entryFrame m #[.ref b, .int (Int32.ofNat o), .ref d, .int (Int32.ofNat q), .int (Int32.ofNat len)] 7)) (T7.setTop (mkF m 3 #[.val (.ref b), .val (.int (Int32.ofNat (o + (i + 1)))), .val (.ref d), .val (.int (Int32.ofNat (q + (i + 1)))), .val (.int (Int32.ofNat len)), .val (.int (Int32.ofNat (i + 1))), .val (.int (cv A (o + i)))] [])) := by
        have := c9
        rw [succ32, succ32, succ32] at this
        exact this
      exact ih (i + 1) (by omega) _ (Or.inr ⟨_, rfl, rfl⟩) T7 _ (by rw [copyLocs_step, ← List.append_assoc]; exact X7) (pl.trans p7) (fl.step (by omega) hlt (by simp)) c10
  obtain ⟨T9, B9, z9, X9, p9, f9, g9⟩ := loop len 0 (by omega) .unset (Or.inl rfl) s₁ B (by simpa [copyLocs] using X0) ⟨hB0.1, fun _ _ => rfl, rfl⟩ (Laid.zero _ _ _) c2
  have c11 : Steps p.tables e below (s₁.setTop (entryFrame m #[.ref b, .int (Int32.ofNat o), .ref d, .int (Int32.ofNat q), .int (Int32.ofNat len)] 7)) (T9.setTop (mkF m 46 #[.val (.ref b), .val (.int (Int32.ofNat (o + len))), .val (.ref d), .val (.int (Int32.ofNat (q + len))), .val (.int (Int32.ofNat len)), .val (.int (Int32.ofNat len)), z9] [.int (Int32.ofNat len)])) := g9.trans (by
    refine XS.iload X9.here hexec rfl (hb hbytes d3) rfl ?_
    refine XS.iload X9.here hexec rfl (hb hbytes d5) rfl ?_
    refine XS.icmpYes X9.here hexec rfl (pc0 := 7) rfl (hb hbytes d7) rfl (ii_ge_t (nlt32 (by omega) (Nat.le_refl _))) (by decide) rfl ?_
    refine XS.iload X9.here hexec rfl (hb hbytes d44) rfl ?_
    exact Steps.refl _)
  exact ⟨T9, some (.int (Int32.ofNat len)), _, _, _, X9, by simp, rfl, rfl, (fun h => by cases h), ⟨rfl, B9, p9.from hh0, f9⟩, fun fs hl => c11.trans (X9.ireturnOut hexec hret rfl (Or.inl rfl) (hb hbytes d46) hl)⟩
end Cmp5
namespace Cmp3
def yN : MethodName := ⟨"java/lang/StringUTF16", "compress", "([CII)[B"⟩
abbrev yB : ByteArray := jdk_52_method_16_code
theorem d0 : decode yB 0 = .ok (.iload_n 2, 1) := by decide +kernel
theorem d1 : decode yB 1 = .ok (.newarray .byte, 2) := by decide +kernel
theorem d3 : decode yB 3 = .ok (.astore_n 3, 1) := by decide +kernel
theorem d4 : decode yB 4 = .ok (.aload_n 0, 1) := by decide +kernel
theorem d5 : decode yB 5 = .ok (.iload_n 1, 1) := by decide +kernel
theorem d6 : decode yB 6 = .ok (.aload_n 3, 1) := by decide +kernel
theorem d7 : decode yB 7 = .ok (.iconst 0, 1) := by decide +kernel
theorem d8 : decode yB 8 = .ok (.iload_n 2, 1) := by decide +kernel
theorem d9 : decode yB 9 = .ok (.invokestatic 115, 3) := by decide +kernel
theorem d12 : decode yB 12 = .ok (.istore 4, 2) := by decide +kernel
theorem d14 : decode yB 14 = .ok (.iload 4, 2) := by decide +kernel
theorem d16 : decode yB 16 = .ok (.iload_n 2, 1) := by decide +kernel
theorem d17 : decode yB 17 = .ok (.if_icmp (.eq) 40, 3) := by decide +kernel
theorem d57 : decode yB 57 = .ok (.aload_n 3, 1) := by decide +kernel
theorem d58 : decode yB 58 = .ok (.areturn, 1) := by decide +kernel
def site : List Cond := [.arrayClass .byte, Cmp5.tab] ++ staticW U16 115 Cmp5.yN
def tab : Cond := tabOf yN yB 6 (some (.array .byte)) site
def P (b : Addr) (A : Cell) (o len : Nat) (args : Array Value) (s : State) : Prop := args = #[.ref b, .int (Int32.ofNat o), .int (Int32.ofNat len)] ∧ Ch b A s ∧ o + len ≤ A.slots.size ∧ len ≤ 536870912 ∧ ∀ i, i < len → ¬ 255 < cv A (o + i)
def E (b : Addr) (A : Cell) (o len : Nat) (r : Option Value) (s u : State) : Prop := NewArr .byte "[B" len (fun j => .int (lo8 (cv A (o + j)))) r s u ∧ u.heap.size = s.heap.size + 1
/-- no char of the range above 255: a new byte[] of their low bytes -/
theorem law (l : Launch) (b : Addr) (A : Cell) (o len : Nat) : Law l yN 3 3 1 18 yB 6 (some (.array .byte)) site (P b A o len) (E b A o len) [] 1 len := by
  refine Law.of_walk (plainFor_of_name (by decide +kernel)) (by decide +kernel) (by decide +kernel) (by decide) (fun _ _ h => by rw [h.1]; rfl) (fun _ U U' hal hh h => ⟨h.1, h.2.1.mv hal hh, h.2.2⟩) (fun r U U' V V' h1 hal h2 h => ⟨NewArr.mv r U U' V V' h1 hal h2 h.1, by rw [h1, h2]; exact h.2⟩) ?_
  intro p e s m args below meth c s₁ X0 hexec hbytes hml hret hlk hnm hown hh0 W hP
  obtain ⟨rfl, hA, l1, l2, hp⟩ := hP
  have a31 := hA.1.2.2.2
  have c1 : Steps p.tables e below (s₁.setTop (entryFrame m #[.ref b, .int (Int32.ofNat o), .int (Int32.ofNat len)] 6)) (s₁.setTop (mkF m 0 #[.val (.ref b), .val (.int (Int32.ofNat o)), .val (.int (Int32.ofNat len)), .unset, .unset, .unset] [])) := entry rfl
  have c2 : Steps p.tables e below (s₁.setTop (entryFrame m #[.ref b, .int (Int32.ofNat o), .int (Int32.ofNat len)] 6)) (s₁.setTop (mkF m 1 #[.val (.ref b), .val (.int (Int32.ofNat o)), .val (.int (Int32.ofNat len)), .unset, .unset, .unset] [.int (Int32.ofNat len)])) := c1.trans (by
    refine XS.iloadN X0.here hexec rfl (hb hbytes d0) rfl ?_
    exact Steps.refl _)
  obtain ⟨T3, B3, X3, ba3, bs3, bv3, bh3, bf3, st3⟩ := X0.anew hexec (atype := .byte) (wk W (.arrayClass .byte)) rfl (by show len * 1 ≤ _; omega) (by omega) (g := (mkF m 1 #[.val (.ref b), .val (.int (Int32.ofNat o)), .val (.int (Int32.ofNat len)), .unset, .unset, .unset] [.int (Int32.ofNat len)])) rfl (hb hbytes d1) (rest := []) rfl (Nat.le_refl _) (by show 0 + len ≤ len; omega)
  rw [hh0] at ba3 st3
  have kp3 : XT.Kept s T3 := (XT.Kept.of_eq hh0).push bh3
  have hA3 := hA.keep X3.warmed.alike (kp3 _ _ hA.1.1)
  have hne : b ≠ s.heap.size := hA.1.ne
  have c4 : Steps p.tables e below (s₁.setTop (entryFrame m #[.ref b, .int (Int32.ofNat o), .int (Int32.ofNat len)] 6)) (T3.setTop (mkF m 3 #[.val (.ref b), .val (.int (Int32.ofNat o)), .val (.int (Int32.ofNat len)), .unset, .unset, .unset] [.ref s.heap.size])) := c2.trans (st3 _ (Steps.refl _))
  have c5 : Steps p.tables e below (s₁.setTop (entryFrame m #[.ref b, .int (Int32.ofNat o), .int (Int32.ofNat len)] 6)) (T3.setTop (mkF m 9 #[.val (.ref b), .val (.int (Int32.ofNat o)), .val (.int (Int32.ofNat len)), .val (.ref s.heap.size), .unset, .unset] [.int (Int32.ofNat len), .int 0, .ref s.heap.size, .int (Int32.ofNat o), .ref b])) := c4.trans (by
    refine XS.astoreN X3.here hexec rfl (hb hbytes d3) rfl rfl rfl ?_
    refine XS.aloadN X3.here hexec rfl (hb hbytes d4) rfl rfl ?_
    refine XS.iloadN X3.here hexec rfl (hb hbytes d5) rfl ?_
    refine XS.aloadN X3.here hexec rfl (hb hbytes d6) rfl rfl ?_
    refine iconstV X3.here hexec rfl 0 (hb hbytes d7) (by decide) ?_
    refine XS.iloadN X3.here hexec rfl (hb hbytes d8) rfl ?_
    exact Steps.refl _)
  obtain ⟨v6, T6, X6, E6, g6⟩ := X3.callS hexec (Cmp5.law l b A s.heap.size B3 o 0 len) hown (wks W (staticW U16 115 Cmp5.yN)) (wk W Cmp5.tab) (W := 0) (Nat.le_of_ble_eq_true rfl) (Nat.le_of_ble_eq_true rfl) (Nat.le_refl _) (by show 0 + len + 0 ≤ len; omega) (g := (mkF m 9 #[.val (.ref b), .val (.int (Int32.ofNat o)), .val (.int (Int32.ofNat len)), .val (.ref s.heap.size), .unset, .unset] [.int (Int32.ofNat len), .int (Int32.ofNat 0), .ref s.heap.size, .int (Int32.ofNat o), .ref b])) rfl (by rw [hml]; rfl) c5 (argsL := [.ref b, .int (Int32.ofNat o), .ref s.heap.size, .int (Int32.ofNat 0), .int (Int32.ofNat len)]) (rest := []) rfl rfl (by show 2 * 0 + 0 ≤ _; decide) (hb hbytes d9) (⟨rfl, hA3, ba3, hne, l1, by rw [bs3]; simp, hp⟩)
  obtain ⟨rfl, B6, p6, f6⟩ := E6
  have c7 : Steps p.tables e below (s₁.setTop (entryFrame m #[.ref b, .int (Int32.ofNat o), .int (Int32.ofNat len)] 6)) (T6.setTop (mkF m 12 #[.val (.ref b), .val (.int (Int32.ofNat o)), .val (.int (Int32.ofNat len)), .val (.ref s.heap.size), .unset, .unset] [.int (Int32.ofNat len)])) := g6
  have c8 : Steps p.tables e below (s₁.setTop (entryFrame m #[.ref b, .int (Int32.ofNat o), .int (Int32.ofNat len)] 6)) (T6.setTop (mkF m 58 #[.val (.ref b), .val (.int (Int32.ofNat o)), .val (.int (Int32.ofNat len)), .val (.ref s.heap.size), .val (.int (Int32.ofNat len)), .unset] [.ref s.heap.size])) := c7.trans (by
    refine XS.istore X6.here hexec rfl (hb hbytes d12) rfl rfl ?_
    refine XS.iload X6.here hexec rfl (hb hbytes d14) rfl ?_
    refine XS.iloadN X6.here hexec rfl (hb hbytes d16) rfl ?_
    refine XS.icmpYes X6.here hexec rfl (pc0 := 17) rfl (hb hbytes d17) rfl (ii_eq_t rfl) (by decide) rfl ?_
    refine XS.aloadN X6.here hexec rfl (hb hbytes d57) rfl rfl ?_
    exact Steps.refl _)
  have X8 := X6.wide (L' := []) (cells' := 1) (slots' := len) (fun x hx hlt => by
    simp only [List.nil_append, copyLocs, List.mem_map, List.mem_range] at hx
    obtain ⟨i, -, rfl⟩ := hx
    exact absurd hlt (Nat.lt_irrefl _)) (Nat.le_refl _) (by omega)
  exact ⟨T6, some (.ref s.heap.size), _, _, _, X8, rfl, rfl, rfl, (fun h => by cases h), ⟨⟨rfl, B6, ba3.like (X3.warmed.alike.symm.trans X6.warmed.alike) p6.1 f6.1 f6.2.1 f6.2.2.1, f6.2.1.trans bv3, by rw [X6.warmed.alike.findClass, f6.1]; exact bf3, by rw [f6.2.2.1, bs3]; simp, fun j hj => by rw [f6.2.2.2 j, if_pos (by omega)]; rfl, kp3.put p6 (Nat.le_refl _)⟩, by rw [p6.2.2, bh3, hh0]; simp⟩, fun fs hl => c8.trans (X8.areturnOut hexec rfl hret rfl (hb hbytes d58) hl)⟩
end Cmp3
namespace CodL
def yN : MethodName := ⟨"java/lang/StringUTF16", "coderFromArrayLen", "([BI)B"⟩
abbrev yB : ByteArray := jdk_52_method_15_code
theorem d0 : decode yB 0 = .ok (.iload_n 1, 1) := by decide +kernel
theorem d1 : decode yB 1 = .ok (.aload_n 0, 1) := by decide +kernel
theorem d2 : decode yB 2 = .ok (.arraylength, 1) := by decide +kernel
theorem d3 : decode yB 3 = .ok (.isub, 1) := by decide +kernel
theorem d4 : decode yB 4 = .ok (.bipush 31, 2) := by decide +kernel
theorem d6 : decode yB 6 = .ok (.iushr, 1) := by decide +kernel
theorem d7 : decode yB 7 = .ok (.i2b, 1) := by decide +kernel
theorem d8 : decode yB 8 = .ok (.ireturn, 1) := by decide +kernel
def site : List Cond := []
def tab : Cond := tabOf yN yB 2 (some .byte) site
def P (d : Addr) (B : Cell) (args : Array Value) (s : State) : Prop := args = #[.ref d, .int (Int32.ofNat B.slots.size)] ∧ Arr .byte d B s
def E (r : Option Value) (s u : State) : Prop := XT.PureE (some (.int 0)) r s u
/-- an array as long as the number of chars: LATIN1 -/
theorem law (l : Launch) (d : Addr) (B : Cell) : Law l yN 2 2 0 0 yB 2 (some .byte) site (P d B) E [] 0 0 := by
  refine Law.of_walk (plainFor_of_name (by decide +kernel)) (by decide +kernel) (by decide +kernel) (by decide) (fun _ _ h => by rw [h.1]; rfl) (fun _ U U' hal hh h => ⟨h.1, h.2.mv hal hh⟩) (fun r U U' V V' h1 hal h2 h => XT.PureE.mv r U U' V V' h1 hal h2 h) ?_
  intro p e s m args below meth c s₁ X0 hexec hbytes hml hret hlk hnm hown hh0 W hP
  obtain ⟨rfl, hB⟩ := hP
  have hB0 := hB.mv X0.warmed.alike hh0
  have c1 : Steps p.tables e below (s₁.setTop (entryFrame m #[.ref d, .int (Int32.ofNat B.slots.size)] 2)) (s₁.setTop (mkF m 0 #[.val (.ref d), .val (.int (Int32.ofNat B.slots.size))] [])) := entry rfl
  have c2 : Steps p.tables e below (s₁.setTop (entryFrame m #[.ref d, .int (Int32.ofNat B.slots.size)] 2)) (s₁.setTop (mkF m 2 #[.val (.ref d), .val (.int (Int32.ofNat B.slots.size))] [.ref d, .int (Int32.ofNat B.slots.size)])) := c1.trans (by
    refine XS.iloadN X0.here hexec rfl (hb hbytes d0) rfl ?_
    refine XS.aloadN X0.here hexec rfl (hb hbytes d1) rfl rfl ?_
    exact Steps.refl _)
  have c3 : Steps p.tables e below (s₁.setTop (entryFrame m #[.ref d, .int (Int32.ofNat B.slots.size)] 2)) (s₁.setTop (mkF m 8 #[.val (.ref d), .val (.int (Int32.ofNat B.slots.size))] [.int (lo8 (ushr (Int32.ofNat B.slots.size - Int32.ofNat B.slots.size) 31))])) := c2.trans (by
    refine X0.alen hexec hB0 rfl rfl (hb hbytes d2) ?_
    refine XS.isub X0.here hexec rfl (hb hbytes d3) rfl ?_
    refine bipushV X0.here hexec rfl 31 (hb hbytes d4) (by decide) ?_
    refine iushr X0.here hexec rfl (hb hbytes d6) rfl ?_
    refine i2b X0.here hexec rfl (hb hbytes d7) rfl ?_
    exact Steps.refl _)
  have e0 : lo8 (ushr (Int32.ofNat B.slots.size - Int32.ofNat B.slots.size) 31) = 0 := by rw [Int32.sub_self]; decide
  rw [e0] at c3
  exact ⟨s₁, some (.int 0), _, _, _, X0, rfl, rfl, rfl, (fun h => by cases h), ⟨rfl, hh0⟩, fun fs hl => c3.trans (X0.ireturnOut hexec hret rfl (Or.inr (Or.inr (Or.inl rfl))) (hb hbytes d8) hl)⟩
end CodL
/-- the String at a is Latin-1 over a new byte[] (the heap's one new cell): the low bytes of the len chars of A from o on; every cell but a is kept -/
def Got (a : Addr) (D : Cell) (fV fC : Field) (A : Cell) (o len : Nat) (r : Option Value) (s u : State) : Prop := r = none ∧ ∃ D' V : Cell, Blank "java/lang/String" a D' u ∧ Same D D' [fV.slot, fC.slot] ∧ D'.slots[fV.slot]? = some (.ref s.heap.size) ∧ D'.slots[fC.slot]? = some (.int 0) ∧ Arr .byte s.heap.size V u ∧ V.vm = .none ∧ u.vm.findClass "[B" = some V.cls ∧ V.slots.size = len ∧ (∀ j, j < len → V.slots[j]? = some (.int (lo8 (cv A (o + j))))) ∧ (∀ (y : Addr) (c : Cell), y ≠ a → s.heap[y]? = some c → u.heap[y]? = some c) ∧ u.heap.size = s.heap.size + 1
theorem Got.mv {a : Addr} {D A : Cell} {fV fC : Field} {o len : Nat} : ∀ r (U U' V V' : State), U'.heap = U.heap → V.vm.Alike V'.vm → V'.heap = V.heap → Got a D fV fC A o len r U V → Got a D fV fC A o len r U' V' :=
  fun r U U' V V' h1 hal h2 ⟨e0, D', X, a1, a2, a3, a4, a5, a6, a7, a8, a9, a10, a11⟩ => ⟨e0, D', X, a1.mv hal h2, a2, by rw [h1]; exact a3, a4, by rw [h1]; exact a5.mv hal h2, a6, by rw [hal.findClass]; exact a7, a8, a9, by rw [h1, h2]; exact a10, by rw [h1, h2]; exact a11⟩
namespace New4
def yN : MethodName := ⟨"java/lang/String", "<init>", "([CIILjava/lang/Void;)V"⟩
abbrev yB : ByteArray := jdk_42_method_149_code
theorem d0 : decode yB 0 = .ok (.aload_n 0, 1) := by decide +kernel
theorem d1 : decode yB 1 = .ok (.invokespecial 1, 3) := by decide +kernel
theorem d4 : decode yB 4 = .ok (.iload_n 3, 1) := by decide +kernel
theorem d5 : decode yB 5 = .ok (.ifCond (.ne) 22, 3) := by decide +kernel
theorem d27 : decode yB 27 = .ok (.getstatic 38, 3) := by decide +kernel
theorem d30 : decode yB 30 = .ok (.ifCond (.eq) 28, 3) := by decide +kernel
theorem d33 : decode yB 33 = .ok (.aload_n 1, 1) := by decide +kernel
theorem d34 : decode yB 34 = .ok (.iload_n 2, 1) := by decide +kernel
theorem d35 : decode yB 35 = .ok (.iload_n 3, 1) := by decide +kernel
theorem d36 : decode yB 36 = .ok (.invokestatic 177, 3) := by decide +kernel
theorem d39 : decode yB 39 = .ok (.astore 5, 2) := by decide +kernel
theorem d41 : decode yB 41 = .ok (.aload_n 0, 1) := by decide +kernel
theorem d42 : decode yB 42 = .ok (.aload 5, 2) := by decide +kernel
theorem d44 : decode yB 44 = .ok (.iload_n 3, 1) := by decide +kernel
theorem d45 : decode yB 45 = .ok (.invokestatic 47, 3) := by decide +kernel
theorem d48 : decode yB 48 = .ok (.putfield 15, 3) := by decide +kernel
theorem d51 : decode yB 51 = .ok (.aload_n 0, 1) := by decide +kernel
theorem d52 : decode yB 52 = .ok (.aload 5, 2) := by decide +kernel
theorem d54 : decode yB 54 = .ok (.putfield 9, 3) := by decide +kernel
theorem d57 : decode yB 57 = .ok (.return_, 1) := by decide +kernel
def site : List Cond := [.fieldLink "java/lang/String" 38 "java/lang/String" "COMPACT_STRINGS" "Z", Cmp3.tab, CodL.tab, .laysFinal "java/lang/String" "java/lang/String" "value" "[B", .fieldLink "java/lang/String" 9 "java/lang/String" "value" "[B", .laysFinal "java/lang/String" "java/lang/String" "coder" "B", .fieldLink "java/lang/String" 15 "java/lang/String" "coder" "B"] ++ objW "java/lang/String" 1 ++ staticW "java/lang/String" 177 Cmp3.yN ++ staticW "java/lang/String" 47 CodL.yN
def tab : Cond := tabOf yN yB 6 none site
def P (a : Addr) (D : Cell) (fV fC : Field) (b : Addr) (A : Cell) (z : Int32) (o len : Nat) (args : Array Value) (s : State) : Prop := args = #[.ref a, .ref b, .int (Int32.ofNat o), .int (Int32.ofNat len), .null] ∧ Blank "java/lang/String" a D s ∧ Found "java/lang/String" "value" "[B" fV s ∧ Found "java/lang/String" "coder" "B" fC s ∧ Ch b A s ∧ StaticIs s "java/lang/String" "COMPACT_STRINGS" "Z" (.int z) ∧ ¬ z = 0 ∧ 0 < len ∧ o + len ≤ A.slots.size ∧ len ≤ 536870912 ∧ ∀ i, i < len → ¬ 255 < cv A (o + i)
def E (a : Addr) (D : Cell) (fV fC : Field) (A : Cell) (o len : Nat) (r : Option Value) (s u : State) : Prop := Got a D fV fC A o len r s u
/-- len > 0, no char of the range above 255: a Latin-1 String of their low bytes -/
theorem law (l : Launch) (a : Addr) (D : Cell) (fV fC : Field) (b : Addr) (A : Cell) (z : Int32) (o len : Nat) : Law l yN 5 4 2 35 yB 6 none site (P a D fV fC b A z o len) (E a D fV fC A o len) [⟨a, fC.slot⟩, ⟨a, fV.slot⟩] 1 len := by
  refine Law.of_walk (plainFor_of_name (by decide +kernel)) (by decide +kernel) (by decide +kernel) (by decide) (fun _ _ h => by rw [h.1]; rfl) (fun _ U U' hal hh h => ⟨h.1, h.2.1.mv hal hh, h.2.2.1.al hal, h.2.2.2.1.al hal, h.2.2.2.2.1.mv hal hh, h.2.2.2.2.2.1.there hal hh, h.2.2.2.2.2.2⟩) (fun r U U' V V' h1 hal h2 h => Got.mv r U U' V V' h1 hal h2 h) ?_
  intro p e s m args below meth c s₁ X0 hexec hbytes hml hret hlk hnm hown hh0 W hP
  obtain ⟨rfl, hB, f1, f2, hA, s1, hz, l0, l1, l2, hp⟩ := hP
  have a31 := hA.1.2.2.2
  have c1 : Steps p.tables e below (s₁.setTop (entryFrame m #[.ref a, .ref b, .int (Int32.ofNat o), .int (Int32.ofNat len), .null] 6)) (s₁.setTop (mkF m 0 #[.val (.ref a), .val (.ref b), .val (.int (Int32.ofNat o)), .val (.int (Int32.ofNat len)), .val .null, .unset] [])) := entry rfl
  have c2 : Steps p.tables e below (s₁.setTop (entryFrame m #[.ref a, .ref b, .int (Int32.ofNat o), .int (Int32.ofNat len), .null] 6)) (s₁.setTop (mkF m 1 #[.val (.ref a), .val (.ref b), .val (.int (Int32.ofNat o)), .val (.int (Int32.ofNat len)), .val .null, .unset] [.ref a])) := c1.trans (by
    refine XS.aloadN X0.here hexec rfl (hb hbytes d0) rfl rfl ?_
    exact Steps.refl _)
  obtain ⟨T3, X3, q3, st3⟩ := X0.oinit hexec hown (wks W (objW "java/lang/String" 1)) (g := (mkF m 1 #[.val (.ref a), .val (.ref b), .val (.int (Int32.ofNat o)), .val (.int (Int32.ofNat len)), .val .null, .unset] [.ref a])) rfl (by rw [hml]; rfl) (rest := []) rfl (hb hbytes d1) (W := 0) (by show 2 * 0 + 0 ≤ _; decide) (Nat.le_of_ble_eq_true rfl) (Nat.le_of_ble_eq_true rfl)
  have hh3 := q3.trans hh0
  have c4 : Steps p.tables e below (s₁.setTop (entryFrame m #[.ref a, .ref b, .int (Int32.ofNat o), .int (Int32.ofNat len), .null] 6)) (T3.setTop (mkF m 27 #[.val (.ref a), .val (.ref b), .val (.int (Int32.ofNat o)), .val (.int (Int32.ofNat len)), .val .null, .unset] [])) := (c2.trans (st3 _ (Steps.refl _))).trans (by
    refine XS.iloadN X3.here hexec rfl (hb hbytes d4) rfl ?_
    refine XS.ifYes X3.here hexec rfl (pc0 := 5) rfl (hb hbytes d5) rfl (i0_ne_t (nz32 (by omega) l0)) (by decide) rfl ?_
    exact Steps.refl _)
  obtain ⟨T5, X5, q5, st5⟩ := X3.sget hexec hown (wk W (.fieldLink "java/lang/String" 38 "java/lang/String" "COMPACT_STRINGS" "Z")) s1 (fun _ _ h => by rw [hh3]; exact h) (g := (mkF m 27 #[.val (.ref a), .val (.ref b), .val (.int (Int32.ofNat o)), .val (.int (Int32.ofNat len)), .val .null, .unset] [])) rfl (hb hbytes d27)
  have hh5 := q5.trans hh3
  have c6 : Steps p.tables e below (s₁.setTop (entryFrame m #[.ref a, .ref b, .int (Int32.ofNat o), .int (Int32.ofNat len), .null] 6)) (T5.setTop (mkF m 30 #[.val (.ref a), .val (.ref b), .val (.int (Int32.ofNat o)), .val (.int (Int32.ofNat len)), .val .null, .unset] [.int z])) := c4.trans (st5 _ (Steps.refl _))
  have c7 : Steps p.tables e below (s₁.setTop (entryFrame m #[.ref a, .ref b, .int (Int32.ofNat o), .int (Int32.ofNat len), .null] 6)) (T5.setTop (mkF m 36 #[.val (.ref a), .val (.ref b), .val (.int (Int32.ofNat o)), .val (.int (Int32.ofNat len)), .val .null, .unset] [.int (Int32.ofNat len), .int (Int32.ofNat o), .ref b])) := c6.trans (by
    refine XS.ifNo X5.here hexec rfl (hb hbytes d30) rfl (i0_eq_f hz) ?_
    refine XS.aloadN X5.here hexec rfl (hb hbytes d33) rfl rfl ?_
    refine XS.iloadN X5.here hexec rfl (hb hbytes d34) rfl ?_
    refine XS.iloadN X5.here hexec rfl (hb hbytes d35) rfl ?_
    exact Steps.refl _)
  obtain ⟨v8, T8, X8, E8, g8⟩ := X5.callS hexec (Cmp3.law l b A o len) hown (wks W (staticW "java/lang/String" 177 Cmp3.yN)) (wk W Cmp3.tab) (W := 0) (Nat.le_of_ble_eq_true rfl) (Nat.le_of_ble_eq_true rfl) (Nat.le_refl _) (by show 0 + len ≤ len; omega) (g := (mkF m 36 #[.val (.ref a), .val (.ref b), .val (.int (Int32.ofNat o)), .val (.int (Int32.ofNat len)), .val .null, .unset] [.int (Int32.ofNat len), .int (Int32.ofNat o), .ref b])) rfl (by rw [hml]; rfl) c7 (argsL := [.ref b, .int (Int32.ofNat o), .int (Int32.ofNat len)]) (rest := []) rfl rfl (by show 2 * 0 + 0 ≤ _; decide) (hb hbytes d36) (⟨rfl, hA.mv X5.warmed.alike hh5, l1, l2, hp⟩)
  obtain ⟨e8, z8⟩ := E8
  obtain ⟨rfl, N, n1, n2, n3, n4, n5, n6⟩ := NewArr.mv _ T5 s _ _ hh5.symm (Vm.Alike.refl _) rfl e8
  rw [hh5] at z8
  have hB1 := hB.keep X8.warmed.alike (n6 _ _ hB.1)
  have hne : s.heap.size ≠ a := (Nat.ne_of_lt (Array.getElem?_eq_some_iff.mp hB.1).1).symm
  have c9 : Steps p.tables e below (s₁.setTop (entryFrame m #[.ref a, .ref b, .int (Int32.ofNat o), .int (Int32.ofNat len), .null] 6)) (T8.setTop (mkF m 39 #[.val (.ref a), .val (.ref b), .val (.int (Int32.ofNat o)), .val (.int (Int32.ofNat len)), .val .null, .unset] [.ref s.heap.size])) := g8
  have c10 : Steps p.tables e below (s₁.setTop (entryFrame m #[.ref a, .ref b, .int (Int32.ofNat o), .int (Int32.ofNat len), .null] 6)) (T8.setTop (mkF m 45 #[.val (.ref a), .val (.ref b), .val (.int (Int32.ofNat o)), .val (.int (Int32.ofNat len)), .val .null, .val (.ref s.heap.size)] [.int (Int32.ofNat N.slots.size), .ref s.heap.size, .ref a])) := by
    have hc : Steps p.tables e below (s₁.setTop (entryFrame m #[.ref a, .ref b, .int (Int32.ofNat o), .int (Int32.ofNat len), .null] 6)) (T8.setTop (mkF m 45 #[.val (.ref a), .val (.ref b), .val (.int (Int32.ofNat o)), .val (.int (Int32.ofNat len)), .val .null, .val (.ref s.heap.size)] [.int (Int32.ofNat len), .ref s.heap.size, .ref a])) := c9.trans (by
      refine XS.astore X8.here hexec rfl (hb hbytes d39) rfl rfl rfl ?_
      refine XS.aloadN X8.here hexec rfl (hb hbytes d41) rfl rfl ?_
      refine XS.aload X8.here hexec rfl (hb hbytes d42) rfl rfl ?_
      refine XS.iloadN X8.here hexec rfl (hb hbytes d44) rfl ?_
      exact Steps.refl _)
    rw [n4]; exact hc
  obtain ⟨v11, T11, X11, E11, g11⟩ := X8.callS hexec (CodL.law l s.heap.size N) hown (wks W (staticW "java/lang/String" 47 CodL.yN)) (wk W CodL.tab) (W := 1) (Nat.le_of_ble_eq_true rfl) (Nat.le_of_ble_eq_true rfl) (Nat.le_refl _) (by show 0 + len + 0 ≤ len; omega) (g := (mkF m 45 #[.val (.ref a), .val (.ref b), .val (.int (Int32.ofNat o)), .val (.int (Int32.ofNat len)), .val .null, .val (.ref s.heap.size)] [.int (Int32.ofNat N.slots.size), .ref s.heap.size, .ref a])) rfl (by rw [hml]; rfl) c10 (argsL := [.ref s.heap.size, .int (Int32.ofNat N.slots.size)]) (rest := [.ref a]) rfl rfl (by show 2 * 0 + (1 + 0) ≤ _; decide) (hb hbytes d45) (⟨rfl, n1⟩)
  obtain ⟨rfl, q11⟩ := E11
  have hB11 := hB1.mv (X8.warmed.alike.symm.trans X11.warmed.alike) q11
  have c12 : Steps p.tables e below (s₁.setTop (entryFrame m #[.ref a, .ref b, .int (Int32.ofNat o), .int (Int32.ofNat len), .null] 6)) (T11.setTop (mkF m 48 #[.val (.ref a), .val (.ref b), .val (.int (Int32.ofNat o)), .val (.int (Int32.ofNat len)), .val .null, .val (.ref s.heap.size)] [.int 0, .ref a])) := g11
  obtain ⟨T13, X13, p13, bl13, sl13, st13⟩ := X11.finit hexec hown (wk W (.fieldLink "java/lang/String" 15 "java/lang/String" "coder" "B")) (Or.inr ⟨_, (wk W (.laysFinal "java/lang/String" "java/lang/String" "coder" "B"))⟩) (Or.inl ⟨rfl, hnm⟩) f2 (Or.inl rfl) hB11 (t := .byte) (by decide +kernel) rfl (g := (mkF m 48 #[.val (.ref a), .val (.ref b), .val (.int (Int32.ofNat o)), .val (.int (Int32.ofNat len)), .val .null, .val (.ref s.heap.size)] [.int 0, .ref a])) rfl (rest := []) rfl (hb hbytes d48)
  have c14 : Steps p.tables e below (s₁.setTop (entryFrame m #[.ref a, .ref b, .int (Int32.ofNat o), .int (Int32.ofNat len), .null] 6)) (T13.setTop (mkF m 54 #[.val (.ref a), .val (.ref b), .val (.int (Int32.ofNat o)), .val (.int (Int32.ofNat len)), .val .null, .val (.ref s.heap.size)] [.ref s.heap.size, .ref a])) := (c12.trans (st13 _ (Steps.refl _))).trans (by
    refine XS.aloadN X13.here hexec rfl (hb hbytes d51) rfl rfl ?_
    refine XS.aload X13.here hexec rfl (hb hbytes d52) rfl rfl ?_
    exact Steps.refl _)
  obtain ⟨T15, X15, p15, bl15, sl15, st15⟩ := X13.finit hexec hown (wk W (.fieldLink "java/lang/String" 9 "java/lang/String" "value" "[B")) (Or.inr ⟨_, (wk W (.laysFinal "java/lang/String" "java/lang/String" "value" "[B"))⟩) (Or.inl ⟨rfl, hnm⟩) f1 (Or.inl rfl) bl13 (t := (.array .byte)) (by decide +kernel) rfl (g := (mkF m 54 #[.val (.ref a), .val (.ref b), .val (.int (Int32.ofNat o)), .val (.int (Int32.ofNat len)), .val .null, .val (.ref s.heap.size)] [.ref s.heap.size, .ref a])) rfl (rest := []) rfl (hb hbytes d54)
  have c16 : Steps p.tables e below (s₁.setTop (entryFrame m #[.ref a, .ref b, .int (Int32.ofNat o), .int (Int32.ofNat len), .null] 6)) (T15.setTop (mkF m 57 #[.val (.ref a), .val (.ref b), .val (.int (Int32.ofNat o)), .val (.int (Int32.ofNat len)), .val .null, .val (.ref s.heap.size)] [])) := c14.trans (st15 _ (Steps.refl _))
  have ap := apart (Or.inr ⟨_, (wk W (.laysFinal "java/lang/String" "java/lang/String" "value" "[B"))⟩) (Or.inr ⟨_, (wk W (.laysFinal "java/lang/String" "java/lang/String" "coder" "B"))⟩) f1 f2 (t₁ := .array .byte) (t₂ := .byte) (by decide +kernel) (by decide +kernel) (by decide)
  have al := X8.warmed.alike.symm.trans X15.warmed.alike
  have n7 : T11.heap[s.heap.size]? = some N := by rw [q11]; exact n1.1
  exact ⟨T15, none, _, _, _, X15, by simp, rfl, by omega, (fun _ => rfl), ⟨rfl, _, N, bl15, ((Same.refl D _).set _ (by simp)).set _ (by simp), sl15, (Cell.slots_setSlot_ne _ ap).trans sl13, n1.keep al (p15.other hne (p13.other hne n7)), n2, by rw [al.findClass]; exact n3, n4, n5, fun y c h1 h2 => p15.other h1 (p13.other h1 (by rw [q11]; exact n6 y c h2)), by rw [p15.2.2, p13.2.2, q11]; exact z8⟩, fun fs hl => c16.trans (X15.returnOut hexec hret (hb hbytes d57) hl)⟩
end New4
namespace New1
def yN : MethodName := ⟨"java/lang/String", "<init>", "([C)V"⟩
abbrev yB : ByteArray := jdk_42_method_3_code
theorem d0 : decode yB 0 = .ok (.aload_n 0, 1) := by decide +kernel
theorem d1 : decode yB 1 = .ok (.aload_n 1, 1) := by decide +kernel
theorem d2 : decode yB 2 = .ok (.iconst 0, 1) := by decide +kernel
theorem d3 : decode yB 3 = .ok (.aload_n 1, 1) := by decide +kernel
theorem d4 : decode yB 4 = .ok (.arraylength, 1) := by decide +kernel
theorem d5 : decode yB 5 = .ok (.aconst_null, 1) := by decide +kernel
theorem d6 : decode yB 6 = .ok (.invokespecial 27, 3) := by decide +kernel
theorem d9 : decode yB 9 = .ok (.return_, 1) := by decide +kernel
def site : List Cond := [New4.tab] ++ initW "java/lang/String" 27 New4.yN
def tab : Cond := tabOf yN yB 2 none site
def P (a : Addr) (D : Cell) (fV fC : Field) (b : Addr) (A : Cell) (z : Int32) (args : Array Value) (s : State) : Prop := args = #[.ref a, .ref b] ∧ Blank "java/lang/String" a D s ∧ Found "java/lang/String" "value" "[B" fV s ∧ Found "java/lang/String" "coder" "B" fC s ∧ Ch b A s ∧ StaticIs s "java/lang/String" "COMPACT_STRINGS" "Z" (.int z) ∧ ¬ z = 0 ∧ 0 < A.slots.size ∧ A.slots.size ≤ 536870912 ∧ ∀ i, i < A.slots.size → ¬ 255 < cv A i
def E (a : Addr) (D : Cell) (fV fC : Field) (A : Cell) (r : Option Value) (s u : State) : Prop := Got a D fV fC A 0 A.slots.size r s u
/-- new String(chars), not empty, no char above 255: a Latin-1 String of their low bytes -/
theorem law (l : Launch) (a : Addr) (D : Cell) (fV fC : Field) (b : Addr) (A : Cell) (z : Int32) : Law l yN 2 1 3 52 yB 2 none site (P a D fV fC b A z) (E a D fV fC A) [⟨a, fC.slot⟩, ⟨a, fV.slot⟩] 1 A.slots.size := by
  refine Law.of_walk (plainFor_of_name (by decide +kernel)) (by decide +kernel) (by decide +kernel) (by decide) (fun _ _ h => by rw [h.1]; rfl) (fun _ U U' hal hh h => ⟨h.1, h.2.1.mv hal hh, h.2.2.1.al hal, h.2.2.2.1.al hal, h.2.2.2.2.1.mv hal hh, h.2.2.2.2.2.1.there hal hh, h.2.2.2.2.2.2⟩) (fun r U U' V V' h1 hal h2 h => Got.mv r U U' V V' h1 hal h2 h) ?_
  intro p e s m args below meth c s₁ X0 hexec hbytes hml hret hlk hnm hown hh0 W hP
  obtain ⟨rfl, hB, f1, f2, hA, s1, hz, l0, l2, hp⟩ := hP
  have c1 : Steps p.tables e below (s₁.setTop (entryFrame m #[.ref a, .ref b] 2)) (s₁.setTop (mkF m 0 #[.val (.ref a), .val (.ref b)] [])) := entry rfl
  have c2 : Steps p.tables e below (s₁.setTop (entryFrame m #[.ref a, .ref b] 2)) (s₁.setTop (mkF m 6 #[.val (.ref a), .val (.ref b)] [.null, .int (Int32.ofNat A.slots.size), .int 0, .ref b, .ref a])) := c1.trans (by
    refine XS.aloadN X0.here hexec rfl (hb hbytes d0) rfl rfl ?_
    refine XS.aloadN X0.here hexec rfl (hb hbytes d1) rfl rfl ?_
    refine iconstV X0.here hexec rfl 0 (hb hbytes d2) (by decide) ?_
    refine XS.aloadN X0.here hexec rfl (hb hbytes d3) rfl rfl ?_
    refine X0.alen hexec (hA.1.mv X0.warmed.alike hh0) rfl rfl (hb hbytes d4) ?_
    refine XS.aconstNull X0.here hexec rfl (hb hbytes d5) ?_
    exact Steps.refl _)
  obtain ⟨v3, T3, X3, E3, g3⟩ := X0.callN hexec (New4.law l a D fV fC b A z 0 A.slots.size) rfl hown (wks W (initW "java/lang/String" 27 New4.yN)) (W New4.tab (by simp only [site, List.mem_cons, List.mem_append, true_or, or_true])) (W := 0) (Nat.le_of_ble_eq_true rfl) (Nat.le_of_ble_eq_true rfl) (Nat.le_refl _) (by show 0 + A.slots.size ≤ A.slots.size; omega) (g := (mkF m 6 #[.val (.ref a), .val (.ref b)] [.null, .int (Int32.ofNat A.slots.size), .int (Int32.ofNat 0), .ref b, .ref a])) rfl (by rw [hml]; rfl) c2 (argsL := [.ref b, .int (Int32.ofNat 0), .int (Int32.ofNat A.slots.size), .null]) (rest := []) rfl rfl (by show 2 * 0 + 0 ≤ _; decide) (hb hbytes d6) (⟨rfl, hB.mv X0.warmed.alike hh0, f1.al X0.warmed.alike, f2.al X0.warmed.alike, hA.mv X0.warmed.alike hh0, s1.there X0.warmed.alike hh0, hz, l0, by omega, l2, fun i hi => by rw [Nat.zero_add]; exact hp i hi⟩)
  have e0 := Got.mv _ s₁ s _ _ hh0.symm (Vm.Alike.refl _) rfl E3
  obtain rfl := e0.1
  have c4 : Steps p.tables e below (s₁.setTop (entryFrame m #[.ref a, .ref b] 2)) (T3.setTop (mkF m 9 #[.val (.ref a), .val (.ref b)] [])) := g3
  exact ⟨T3, none, _, _, _, X3, by simp, rfl, by omega, (fun _ => rfl), e0, fun fs hl => c4.trans (X3.returnOut hexec hret (hb hbytes d9) hl)⟩
theorem pays {l : Launch} {R : Room} {p : Program} {e : Env} {below : List Frame} {s : State} {sargs : Array Value} {len W : Nat} (a : Addr) (D : Cell) (fV fC : Field) (b : Addr) (A : Cell) (z : Int32) (htab : tab.before sargs s = true) (hfr : 4 ≤ R.frames) (hlo : W + 65 ≤ R.locals) :
    Back l R p e below s sargs yN len W (fun A₁ a₁ => A₁.cells + 1 ≤ R.cells ∧ A₁.slots + A.slots.size ≤ R.slots ∧ P a D fV fC b A z a₁ A₁.U) (fun A₁ _ v₁ B₁ => E a D fV fC A v₁ A₁.U B₁.U ∧ B₁.locs = A₁.locs ++ [⟨a, fC.slot⟩, ⟨a, fV.slot⟩] ∧ B₁.cells = A₁.cells + 1 ∧ B₁.slots = A₁.slots + A.slots.size) :=
  (law l a D fV fC b A z).pays htab hfr (by omega)
end New1
end StrChars
namespace StrChars.Road
open Jvm Sem ClassFile Op Lib Jvm.Stand Jvm.Free Jvm.Free.XT
open Jvm.Lib.Cold (StaticIs)
abbrev ST : String := "java/lang/String"
/-- every table word that New1's law asks, flat -/
abbrev words : List Jvm.Cond := [.code New1.yN New1.yB 2 none, .initialized ST, .methodLink ST 27 New4.yN, .instanceMethod New4.yN,
  .code New4.yN New4.yB 6 none, .fieldLink ST 38 ST "COMPACT_STRINGS" "Z", .laysFinal ST ST "value" "[B", .fieldLink ST 9 ST "value" "[B", .laysFinal ST ST "coder" "B", .fieldLink ST 15 ST "coder" "B",
  .methodLink ST 1 Lib.objectInit, .instanceMethod Lib.objectInit, .code Lib.objectInit ⟨#[0xb1]⟩ 1 none, .methodLink ST 177 Cmp3.yN, .static Cmp3.yN, .methodLink ST 47 CodL.yN, .static CodL.yN,
  .code Cmp3.yN Cmp3.yB 6 (some (.array .byte)), .initialized U16, .arrayClass .byte, .methodLink U16 115 Cmp5.yN, .static Cmp5.yN, .code Cmp5.yN Cmp5.yB 7 (some .int), .code CodL.yN CodL.yB 2 (some .byte)]
theorem tab_of {a : Array Value} {s : State} (h : ∀ w ∈ words, w.before a s = true) : New1.tab.before a s = true := by
  have h5 : Cmp5.tab.before a s = true := unparts (wk h (.code Cmp5.yN Cmp5.yB 7 (some .int))) (wks h (.initialized Cmp5.yN.cls :: Cmp5.site))
  have hc : CodL.tab.before a s = true := unparts (wk h (.code CodL.yN CodL.yB 2 (some .byte))) (wks h (.initialized CodL.yN.cls :: CodL.site))
  have q5 : ∀ w ∈ Cmp5.tab :: words, w.before a s = true := fun w hw => (List.mem_cons.mp hw).elim (fun e => e ▸ h5) (h w)
  have h3 : Cmp3.tab.before a s = true := unparts (wk q5 (.code Cmp3.yN Cmp3.yB 6 (some (.array .byte)))) (wks q5 (.initialized Cmp3.yN.cls :: Cmp3.site))
  have q3 : ∀ w ∈ Cmp3.tab :: CodL.tab :: words, w.before a s = true := fun w hw => (List.mem_cons.mp hw).elim (fun e => e ▸ h3) fun hw => (List.mem_cons.mp hw).elim (fun e => e ▸ hc) (h w)
  have h4 : New4.tab.before a s = true := unparts (wk q3 (.code New4.yN New4.yB 6 none)) (wks q3 (.initialized New4.yN.cls :: New4.site))
  have q4 : ∀ w ∈ New4.tab :: words, w.before a s = true := fun w hw => (List.mem_cons.mp hw).elim (fun e => e ▸ h4) (h w)
  exact unparts (wk q4 (.code New1.yN New1.yB 2 none)) (wks q4 (.initialized New1.yN.cls :: New1.site))
/-- the words ride from the start Z to the walk's own state -/
theorem moved {Z s : State} {a0 args : Array Value} (hZ : Z.Warmed39 s.vm) (hw : ∀ d ∈ words, d.before a0 Z = true) : ∀ d ∈ words, d.before args s = true := fun d hd => by
  have q := hw d hd
  have t : ∀ d ∈ words, d = .arrayClass .byte ∨ (d.onTables && d.keepsFace) = true := by decide +kernel
  rcases t d hd with rfl | t
  · exact RoadKit.mvA hZ q
  · exact RoadKit.mv hZ q t
/-- WHAT COMES BACK, over the tables of the start Z: h the heap at the call, h' behind it -/
def Q (Z : State) (x : Addr) (A : Cell) (h : Heap) (v : Option Value) (h' : Heap) (L : List Loc) : Prop := v = none ∧ (∀ y ∈ L, y.base = x) ∧ RoadKit.Keep h h' [x] ∧ h'.size = h.size + 1 ∧ RoadKit.Exa Z h' x ST ∧ RoadKit.Fld Z h' x ST "value" "[B" (.ref h.size) ∧ RoadKit.Fld Z h' x ST "coder" "B" (.int 0) ∧
  (∃ V : Cell, RoadKit.Arr Z h' h.size V .byte ∧ V.vm = .none ∧ Z.vm.findClass "[B" = some V.cls ∧ V.slots.size = A.slots.size ∧ ∀ j, j < A.slots.size → V.slots[j]? = some (.int (lo8 (cv A j)))) ∧
  ∀ (O n d : String) (w : Value), RoadKit.Fld Z h x O n d w → RoadKit.slotOf Z O n d ≠ RoadKit.slotOf Z ST "value" "[B" → RoadKit.slotOf Z O n d ≠ RoadKit.slotOf Z ST "coder" "B" → RoadKit.Fld Z h' x O n d w
/-- **new String(chars) AT A CALL, IN THE ROAD'S FORM**: for specialBack behind newO: x the fresh String, b the char[] with the cell A -/
theorem back {p : Program} {l : Launch} {e : Env} {R : Room} {s : State} {args : Array Value} {below : List Frame} {len W : Nat} {Z : State} {a0 : Array Value} {h : Heap} (hZ : Z.Warmed39 s.vm) (hw : ∀ d ∈ words, d.before a0 Z = true) {kI : Nat} (wi : (Jvm.Cond.instantiable ST kI).before a0 Z = true)
    {x b : Addr} {A : Cell} {z : Int32} {v0 c0 : Value} (E : RoadKit.Exa Z h x ST) (V : RoadKit.Fld Z h x ST "value" "[B" v0) (C : RoadKit.Fld Z h x ST "coder" "B" c0) (K : RoadKit.Arr Z h b A .char) (hty : Typed .char A) (S : RoadKit.Sta Z h ST "COMPACT_STRINGS" "Z" (.int z)) (hz : ¬ z = 0)
    (l0 : 0 < A.slots.size) (l2 : A.slots.size ≤ 536870912) (hp : ∀ i, i < A.slots.size → ¬ 255 < cv A i) (hfr : 4 ≤ R.frames) (hlo : W + 65 ≤ R.locals) :
    Back l R p e below s args New1.yN len W (fun P a => a = #[.ref x, .ref b] ∧ P.U.heap = h ∧ P.cells + 1 ≤ R.cells ∧ P.slots + A.slots.size ≤ R.slots)
      (fun P _ v B => ∃ L, Q Z x A h v B.U.heap L ∧ B.locs = P.locs ++ L ∧ B.cells = P.cells + 1 ∧ B.slots = P.slots + A.slots.size) := by
  intro m meth c P g ig mk a X hg hsize hdg hW hn hp'
  obtain ⟨rfl, rfl, r1, r2⟩ := hp'
  have al : Z.vm.Alike P.U.vm := hZ.alike.trans X.warmed.alike
  obtain ⟨D, cfV, kV, iV, fV, hD, gV, stV, knV, obV, asV, slV⟩ := id V
  obtain ⟨D', cfC, kC, iC, fC, hD', gC, stC, -, -, asC, slC⟩ := id C
  cases hD.symm.trans hD'
  obtain ⟨D2, kD, e1, e2, e3, e4, e5⟩ := id E
  cases hD.symm.trans e1
  obtain ⟨c2, k2, i1, i2, i3, -⟩ := Cond.instantiable_spec wi
  cases e2.symm.trans i1
  cases e3.symm.trans i2
  obtain ⟨kU, u1, u2⟩ := al.2.2 _ _ e3
  have hB : Blank ST x D P.U := ⟨hD, ⟨knV, fun q hq => by rw [hq] at obV; cases obV⟩, by rw [al.findClass]; exact e2, kU, u1, by rw [u2]; exact i3, by rw [u2]; exact e5 i3⟩
  have F1 : Found ST "value" "[B" fV P.U := ⟨SBG.found_only al ⟨cfV, kV, iV, gV⟩, stV⟩
  have F2 : Found ST "coder" "B" fC P.U := ⟨SBG.found_only al ⟨cfC, kC, iC, gC⟩, stC⟩
  have hA : Ch b A P.U := ⟨⟨K.1, State.isArrayOf_alike al K.2.1, K.2.2, by omega⟩, hty⟩
  have hS : StaticIs P.U ST "COMPACT_STRINGS" "Z" (.int z) := by
    obtain ⟨cfS, iS, kS, fS, st, cS, t1, t2, t3, t4, t5, t6, t7⟩ := S
    exact StaticIs.there (s := { Z with heap := P.U.heap }) ⟨cfS, iS, kS, fS, st, cS, t1, t2, t3, t4, t5, (fun q => by rw [q] at t6; cases t6), t7⟩ al rfl
  obtain ⟨v, B, X', ⟨⟨hv, E', V', q1, q2, q3, q4, q5, q6, q7, q8, q9, q10, q11⟩, hl, hc, hs⟩, st⟩ := New1.pays x D fV fC b A z (tab_of (moved hZ hw)) hfr hlo m meth c P g ig mk _ X hg hsize hdg hW hn ⟨r1, r2, rfl, hB, F1, F2, hA, hS, hz, l0, l2, hp⟩
  have al' : Z.vm.Alike B.U.vm := hZ.alike.trans X'.warmed.alike
  have hsz : E'.slots.size = D.slots.size := by
    obtain ⟨-, -, -, kB, w1, w2, w3⟩ := q1
    obtain ⟨kB', y1, y2⟩ := al'.2.2 _ _ e3
    rw [q2.2.1] at w1
    cases w1.symm.trans y1
    rw [w3, e5 i3, y2]
  refine ⟨v, B, X', ⟨_, ⟨hv, ?_, ⟨by omega, fun y cy hy hn' => q10 y cy (by simpa using hn') hy, fun y cy hy => ?_⟩, q11, ⟨E', _, q1.1, by rw [q2.2.1]; exact e2, by rw [q2.2.1]; exact e3, by rw [q2.1]; exact obV, fun _ => by rw [hsz]; exact e5 i3⟩,
    ⟨E', cfV, kV, iV, fV, q1.1, gV, stV, by rw [q2.1]; exact knV, by rw [q2.1]; exact obV, by rw [q2.2.1]; exact asV, q3⟩, ⟨E', cfC, kC, iC, fC, q1.1, gC, stC, by rw [q2.1]; exact knV, by rw [q2.1]; exact obV, by rw [q2.2.1]; exact asC, q4⟩,
    ⟨V', ⟨q5.1, State.isArrayOf_alike al'.symm q5.2.1, q5.2.2.1⟩, q6, by rw [← al'.findClass]; exact q7, q8, fun j hj => by have := q9 j hj; rwa [Nat.zero_add] at this⟩, fun O n d w F n1 n2 => ?_⟩, hl, hc, hs⟩, st⟩
  · intro y hy
    simp only [List.mem_cons, List.not_mem_nil, or_false] at hy
    rcases hy with rfl | rfl <;> rfl
  · by_cases q : y = x
    · subst q
      cases hD.symm.trans hy
      exact ⟨E', q1.1, q2.2.1, q2.1, hsz⟩
    · exact ⟨cy, q10 y cy q hy, rfl, rfl, rfl⟩
  · obtain ⟨D3, cf, k, i, f, g1, g2, g3, g4, g5, g6, g7⟩ := F
    cases hD.symm.trans g1
    simp only [RoadKit.slotOf, g2, gV, gC, Option.map_some, Option.getD_some] at n1 n2
    exact ⟨E', cf, k, i, f, q1.1, g2, g3, by rw [q2.1]; exact g4, by rw [q2.1]; exact g5, by rw [q2.2.1]; exact g6, by rw [q2.2.2 f.slot (by simp [n1, n2])]; exact g7⟩
end StrChars.Road
namespace StrChars.Road
open Jvm Sem ClassFile Op Lib Jvm.Stand Jvm.Free Jvm.Free.XT
/-- WHAT COMES BACK, the byte[] as a list of values -/
def QA (Z : State) (x : Addr) (zn : Int32) (cs : List Int32) (h : Heap) (v : Option Value) (h' : Heap) (L : List Loc) : Prop := v = none ∧ (∀ y ∈ L, y.base = x) ∧ RoadKit.Keep h h' [x] ∧ h'.size = h.size + 1 ∧ RoadKit.Exa Z h' x ST ∧ RoadKit.Fld Z h' x ST "value" "[B" (.ref h.size) ∧ RoadKit.Fld Z h' x ST "coder" "B" (.int 0) ∧
  (∃ kb, Z.vm.findClass "[B" = some kb ∧ RoadKit.Arv Z h' h.size kb .byte zn (cs.map fun c => .int (lo8 c)) (.int 0)) ∧
  ∀ (O n d : String) (w : Value), RoadKit.Fld Z h x O n d w → RoadKit.slotOf Z O n d ≠ RoadKit.slotOf Z ST "value" "[B" → RoadKit.slotOf Z O n d ≠ RoadKit.slotOf Z ST "coder" "B" → RoadKit.Fld Z h' x O n d w
/-- **new String(chars) AT A CALL, THE ARRAYS AS LISTS**: the char[] at b holds cs, not empty, no char above 255 -/
theorem backArv {p : Program} {l : Launch} {e : Env} {R : Room} {s : State} {args : Array Value} {below : List Frame} {len W : Nat} {Z : State} {a0 : Array Value} {h : Heap} (hZ : Z.Warmed39 s.vm) (hw : ∀ d ∈ words, d.before a0 Z = true) {kI : Nat} (wi : (Jvm.Cond.instantiable ST kI).before a0 Z = true)
    {x b : Addr} {k : ClassId} {zn z : Int32} {cs : List Int32} {dv v0 c0 : Value} (E : RoadKit.Exa Z h x ST) (V : RoadKit.Fld Z h x ST "value" "[B" v0) (C : RoadKit.Fld Z h x ST "coder" "B" c0) (K : RoadKit.Arv Z h b k .char zn (cs.map Value.int) dv) (S : RoadKit.Sta Z h ST "COMPACT_STRINGS" "Z" (.int z)) (hz : ¬ z = 0)
    (hlen : zn.toNatClampNeg = cs.length) (h0 : 0 < cs.length) (hbig : cs.length ≤ 536870912) (hall : ∀ c ∈ cs, ¬ 255 < c) (hfr : 4 ≤ R.frames) (hlo : W + 65 ≤ R.locals) :
    Back l R p e below s args New1.yN len W (fun P a => a = #[.ref x, .ref b] ∧ P.U.heap = h ∧ P.cells + 1 ≤ R.cells ∧ P.slots + cs.length ≤ R.slots)
      (fun P _ v B => ∃ L, QA Z x zn cs h v B.U.heap L ∧ B.locs = P.locs ++ L ∧ B.cells = P.cells + 1 ∧ B.slots = P.slots + cs.length) := by
  obtain ⟨A, K1, K2, K3, K4, K5, K6⟩ := K
  have e : A.slots.size = cs.length := K3.trans hlen
  have hat : ∀ (i : Nat) (hi : i < cs.length), A.slots[i]? = some (.int cs[i]) := fun i hi => by rw [K5 i (by omega)]; simp [List.getD_eq_getElem?_getD, hi]
  have hcv : ∀ (i : Nat) (hi : i < cs.length), cv A i = cs[i] := fun i hi => by unfold cv; rw [hat i hi]
  have hty : Typed .char A := fun i v hv => by
    have hi : i < A.slots.size := (Array.getElem?_eq_some_iff.mp hv).1
    have q := K5 i hi
    rw [hv] at q
    rw [Option.some.inj q]
    exact K6 i hi
  refine Back.mono (back hZ hw wi E V C K1 hty S hz (by omega) (by omega) (fun i hi => by rw [hcv i (by omega)]; exact hall _ (List.getElem_mem _)) hfr hlo) (fun P a hp => ⟨hp.1, hp.2.1, hp.2.2.1, by rw [e]; exact hp.2.2.2⟩) (fun P a v B hp hq => ?_)
  obtain ⟨L, ⟨q1, q2, q3, q4, q5, q6, q7, ⟨V', v1, v2, v3, v4, v5⟩, q9⟩, hl, hc, hs⟩ := hq
  refine ⟨L, ⟨q1, q2, q3, q4, q5, q6, q7, ⟨V'.cls, v3, V', v1, rfl, by rw [v4, e, hlen], K4, fun i hi => ?_, fun i hi => ?_⟩, q9⟩, hl, hc, by rw [hs, e]⟩
  · have hi' : i < cs.length := by omega
    rw [v5 i (by omega), hcv i hi']; simp [List.getD_eq_getElem?_getD, hi']
  · have hi' : i < cs.length := by omega
    simp only [List.getD_eq_getElem?_getD, List.getElem?_map, List.getElem?_eq_getElem hi', Option.map_some, Option.getD_some]
    exact fits_lo8 _
end StrChars.Road
namespace StrChars.Road
open Jvm Sem ClassFile Op Lib Jvm.Stand Jvm.Free Jvm.Free.XT
/-- WHAT COMES BACK, in the writer's own shape -/
def QV (Z : State) (x : Addr) (N : Int32) (bs : List Int32) (h : Heap) (n0 : Nat) (v : Option Value) (h' : Heap) (L : List Loc) : Prop := v = none ∧ RoadKit.Fr n0 L ∧ RoadKit.Keep h h' [x] ∧ RoadKit.Exa Z h' x ST ∧ RoadKit.Fld Z h' x ST "coder" "B" (.int 0) ∧
  ∃ (t : Addr) (kb : ClassId), n0 ≤ t ∧ h.size ≤ t ∧ ¬ t = x ∧ RoadKit.Fld Z h' x ST "value" "[B" (.ref t) ∧ RoadKit.Arv Z h' t kb .byte N (bs.map Value.int) (.int 0)
/-- **new String(chars) AT A CALL, FOR THE WRITER**: a char[] of n known ints, each 0 to 255 -/
theorem backV {p : Program} {l : Launch} {e : Env} {R : Room} {s : State} {args : Array Value} {below : List Frame} {len W : Nat} {Z : State} {a0 : Array Value} {h : Heap} (hZ : Z.Warmed39 s.vm) (hw : ∀ d ∈ words, d.before a0 Z = true) {kI : Nat} (wi : (Jvm.Cond.instantiable ST kI).before a0 Z = true)
    {x b : Addr} {kC : ClassId} {cs bs : List Int32} {d v0 c0 : Value} {z N : Int32} {n n0 : Nat} (hx0 : n0 ≤ x) (hh0 : n0 ≤ h.size) (E : RoadKit.Exa Z h x ST) (V : RoadKit.Fld Z h x ST "value" "[B" v0) (C : RoadKit.Fld Z h x ST "coder" "B" c0) (K : RoadKit.Arv Z h b kC .char N (cs.map Value.int) d) (S : RoadKit.Sta Z h ST "COMPACT_STRINGS" "Z" (.int z)) (hz : ¬ z = 0)
    (hn : cs.length = n) (hN : N = Int32.ofNat n) (l0 : 0 < n) (l2 : n ≤ 4000) (hp : ∀ c ∈ cs, ¬ c < 0 ∧ ¬ (255 : Int32) < c) (hb : bs = cs.map (fun c => c.toInt8.toInt32)) (hfr : 4 ≤ R.frames) (hlo : W + 65 ≤ R.locals) :
    Back l R p e below s args (⟨"java/lang/String", "<init>", "([C)V"⟩ : MethodName) len W (fun P a => a = #[.ref x, .ref b] ∧ P.U.heap = h ∧ P.cells + 1 ≤ R.cells ∧ P.slots + n ≤ R.slots)
      (fun P _ v B => ∃ L, QV Z x N bs h n0 v B.U.heap L ∧ B.locs = P.locs ++ L ∧ B.cells = P.cells + 1 ∧ B.slots = P.slots + n) := by
  subst hn hN hb
  refine Back.mono (backArv hZ hw wi E V C K S hz (n32 (by omega)) l0 (by omega) (fun c hc => (hp c hc).2) hfr hlo) (fun P a hp => hp) (fun P a v B hp hq => ?_)
  obtain ⟨L, ⟨q1, q2, q3, q4, q5, q6, q7, ⟨kb, v1, v2⟩, q9⟩, hl, hc, hs⟩ := hq
  exact ⟨L, ⟨q1, fun y hy => by rw [q2 y hy]; exact hx0, q3, q5, q7, h.size, kb, hh0, Nat.le_refl _, Nat.ne_of_gt E.lt, q6, by rw [List.map_map]; exact v2⟩, hl, hc, hs⟩
end StrChars.Road
end Jvm.Pilot.@@N@@
namespace Jvm.Pilot.@@N@@
open Jvm Jvm.ClassFile Sem Op Lib Jvm.Free Jvm.Stand Jvm.LawKit Jvm.RoadKit Bundle Jvm.Pilot.@@N@@.Jvm.D
theorem own_and255 (x : Int32) : ¬ nar .char ((x &&& (255 : Int32)).toUInt32.toUInt16.toUInt32.toInt32) < 0 ∧ ¬ (255 : Int32) < nar .char ((x &&& (255 : Int32)).toUInt32.toUInt16.toUInt32.toInt32) := by
  have h := c_i2c (x &&& (255 : Int32)); have h2 := c_and x 255 (by decide)
  have h3 := c_i2c ((x &&& (255 : Int32)).toUInt32.toUInt16.toUInt32.toInt32)
  have e : (255 : Int32).toInt = 255 := by decide
  have z : (0 : Int32).toInt = 0 := by decide
  show ¬ ((x &&& (255 : Int32)).toUInt32.toUInt16.toUInt32.toInt32).toUInt32.toUInt16.toUInt32.toInt32 < 0 ∧ ¬ (255 : Int32) < ((x &&& (255 : Int32)).toUInt32.toUInt16.toUInt32.toInt32).toUInt32.toUInt16.toUInt32.toInt32
  simp only [Int32.lt_iff_toInt_lt]
  omega
theorem own_k3 (x : Int32) (h0 : ¬ (x &&& (2147483647 : Int32)) % (3 : Int32) = (0 : Int32)) (h1 : ¬ (x &&& (2147483647 : Int32)) % (3 : Int32) = (1 : Int32)) : (x &&& (2147483647 : Int32)) % (3 : Int32) = (2 : Int32) := by
  have a := c_and x 2147483647 (by decide)
  have b := (c_iremV (x &&& (2147483647 : Int32)) 3).1 a.1 (by decide)
  have e3 : (3 : Int32).toInt = 3 := by decide
  have e2 : (2 : Int32).toInt = 2 := by decide
  have e1 : (1 : Int32).toInt = 1 := by decide
  have e0 : (0 : Int32).toInt = 0 := by decide
  simp only [← Int32.toInt_inj, e0, e1, e2] at h0 h1 ⊢
  omega
theorem ef_0 (m : MethodId) (x0 : Addr) : entryFrame m #[(.ref x0)] 1 = mkF m 0 #[.val (.ref x0)] [] := by first | (simp [entryFrame, mkF, argsToLocals, Value.category]; done) | rfl
theorem d_jdk_30_method_1_code_0 : decode jdk_30_method_1_code 0 = .ok (.aload_n 0, 1) := by decide +kernel
theorem d_jdk_30_method_1_code_1 : decode jdk_30_method_1_code 1 = .ok (.invokespecial 1, 3) := by decide +kernel
theorem d_jdk_30_method_1_code_4 : decode jdk_30_method_1_code 4 = .ok (.return_, 1) := by decide +kernel
theorem pn_4 : plainName "java/lang/Record" = true := by first | (simp [plainName, overriddenIn]; done) | decide +kernel
set_option maxRecDepth 65536 in
set_option maxHeartbeats 40000000 in
theorem rm_rec (l : Launch) (Z : State) (a0 : Array Value) (hw : ∀ d ∈ tables_1, d.before a0 Z = true) (ws : List Jvm.Cond) (a : Addr) (h0 : Heap) (n0 : Nat) (Z0 : n0 ≤ h0.size) (O0 : Old Z n0 h0)  :
    Ctr l Z (⟨"java/lang/Record", "<init>", "()V"⟩ : MethodName) jdk_30_method_1_code 1 ((Option.none : Option Jvm.ClassFile.FieldType)) ws ({ frames := 1, cells := 0, slots := 0, locals := 12 } : Room) #[(.ref a)] h0 (fun v h L => v = none ∧ Fr n0 L ∧ Keep h0 h []) := by
  refine Ctr.of (MetFree.of_bodySF (plainFor_of_name pn_4) hisR ?_)
  intro p e s m args below meth c s₁ Bd hml0 hP hK
  obtain ⟨rfl, hZ, hh⟩ := hP
  have hx := Bd.exec
  have hby := Bd.bytes
  have hml : c.maxLocals = 1 := hml0
  have hown : s.vm.findClass "java/lang/Record" = some m.cls := findClass_of_methodNamed Bd.named
  have hnm := (name_of_methodNamed Bd.named Bd.method).1
  have X0 : Stand p l e ({ frames := 1, cells := 0, slots := 0, locals := 12 } : Room) s m #[(.ref a)] below meth c s₁ [] 0 0 := Stand.of_body Bd
  have e0 : s₁.heap = h0 := by rw [← hh, Bd.state]; rfl
  have N0 := Fr.nil n0
  have K0 : Keep h0 h0 [] := Keep.refl h0 []
  show OwnGo p e below s (fun v h L => v = none ∧ Fr n0 L ∧ Keep h0 h []) ({ frames := 1, cells := 0, slots := 0, locals := 12 } : Room).cells ({ frames := 1, cells := 0, slots := 0, locals := 12 } : Room).slots _
  refine gs (S' := s₁.setTop (mkF m 0 #[.val (.ref a)] [])) (fun tg kg => castTop (ef_0 m a) kg) ?_
  have c1 : ∀ tg, Steps p.tables e below (s₁.setTop (mkF m 1 #[.val (.ref a)] [(.ref a)])) tg → Steps p.tables e below (s₁.setTop (mkF m 0 #[.val (.ref a)] [])) tg := fun tg kg => by
    refine XS.aloadN X0.here hx rfl (hb hby d_jdk_30_method_1_code_0) rfl rfl ?_
    show Steps p.tables e below (s₁.setTop (mkF m 1 #[.val (.ref a)] [(.ref a)])) tg
    exact kg
  refine gs c1 ?_
  obtain ⟨T2, X2, e2, st2⟩ := initO X0 hx hZ hown (hw _ (List.mem_of_getElem? (i := 45) rfl)) (hw _ (List.mem_of_getElem? (i := 16) rfl)) (hw _ (List.mem_of_getElem? (i := 17) rfl)) e0 (g := (mkF m 1 #[.val (.ref a)] [(.ref a)])) rfl (by rw [hml]; rfl) rfl (hb hby d_jdk_30_method_1_code_1) (by decide) (W := 0) (by show 2 * 0 + _ ≤ _; exact Nat.le_of_eq rfl) (by decide)
  refine gs st2 ?_
  show OwnGo p e below s _ _ _ (T2.setTop (mkF m 4 #[.val (.ref a)] []))
  refine gout (v := none) X2 Bd.notSynchronized (fun _ => rfl) (by decide) (by decide) ?_ (fun fs hr => X2.returnOut hx Bd.returns (hb hby d_jdk_30_method_1_code_4) hr)
  rw [e2]
  exact ⟨rfl, N0, K0⟩
theorem ef_5 (m : MethodId) (x0 : Int32) : entryFrame m #[(.int x0)] 2 = mkF m 0 #[.val (.int x0), .unset] [] := by first | (simp [entryFrame, mkF, argsToLocals, Value.category]; done) | rfl
theorem d_method_3_code_0 : decode method_3_code 0 = .ok (.iconst 2, 1) := by decide +kernel
theorem d_method_3_code_1 : decode method_3_code 1 = .ok (.newarray .char, 2) := by decide +kernel
theorem d_method_3_code_3 : decode method_3_code 3 = .ok (.astore_n 1, 1) := by decide +kernel
theorem d_method_3_code_4 : decode method_3_code 4 = .ok (.aload_n 1, 1) := by decide +kernel
theorem d_method_3_code_5 : decode method_3_code 5 = .ok (.iconst 0, 1) := by decide +kernel
theorem d_method_3_code_6 : decode method_3_code 6 = .ok (.iload_n 0, 1) := by decide +kernel
theorem d_method_3_code_7 : decode method_3_code 7 = .ok (.sipush 255, 3) := by decide +kernel
theorem d_method_3_code_10 : decode method_3_code 10 = .ok (.iand, 1) := by decide +kernel
theorem d_method_3_code_11 : decode method_3_code 11 = .ok (.i2c, 1) := by decide +kernel
theorem d_method_3_code_12 : decode method_3_code 12 = .ok (.castore, 1) := by decide +kernel
theorem d_method_3_code_13 : decode method_3_code 13 = .ok (.aload_n 1, 1) := by decide +kernel
theorem d_method_3_code_14 : decode method_3_code 14 = .ok (.iconst 1, 1) := by decide +kernel
theorem d_method_3_code_15 : decode method_3_code 15 = .ok (.iload_n 0, 1) := by decide +kernel
theorem d_method_3_code_16 : decode method_3_code 16 = .ok (.bipush 8, 2) := by decide +kernel
theorem d_method_3_code_18 : decode method_3_code 18 = .ok (.iushr, 1) := by decide +kernel
theorem d_method_3_code_19 : decode method_3_code 19 = .ok (.sipush 255, 3) := by decide +kernel
theorem d_method_3_code_22 : decode method_3_code 22 = .ok (.iand, 1) := by decide +kernel
theorem d_method_3_code_23 : decode method_3_code 23 = .ok (.i2c, 1) := by decide +kernel
theorem d_method_3_code_24 : decode method_3_code 24 = .ok (.castore, 1) := by decide +kernel
theorem d_method_3_code_25 : decode method_3_code 25 = .ok (.new 44, 3) := by decide +kernel
theorem d_method_3_code_28 : decode method_3_code 28 = .ok (.dup, 1) := by decide +kernel
theorem d_method_3_code_29 : decode method_3_code 29 = .ok (.aload_n 1, 1) := by decide +kernel
theorem d_method_3_code_30 : decode method_3_code 30 = .ok (.invokespecial 46, 3) := by decide +kernel
theorem pd_29 : parseMethodDescriptor "([C)V" = some ⟨[(.array .char)], none⟩ := by decide +kernel
theorem d_method_3_code_33 : decode method_3_code 33 = .ok (.areturn, 1) := by decide +kernel
theorem pn_31 : plainName "com/example/sealed_orders/sealedorders/rules/SeasonNamesOfPinLaw" = true := by first | (simp [plainName, overriddenIn]; done) | decide +kernel
set_option maxRecDepth 65536 in
set_option maxHeartbeats 40000000 in
theorem rm_str (l : Launch) (Z : State) (a0 : Array Value) (hw : ∀ d ∈ tables_1, d.before a0 Z = true) (ws : List Jvm.Cond) (p1 : Int32) (z : Int32) (h0 : Heap) (n0 : Nat) (Z0 : n0 ≤ h0.size) (O0 : Old Z n0 h0) (S0 : Sta Z Z.heap "java/lang/String" "COMPACT_STRINGS" "Z" (.int z)) (hz : ¬ z = 0) :
    Ctr l Z (⟨"com/example/sealed_orders/sealedorders/rules/SeasonNamesOfPinLaw", "str", "(I)Ljava/lang/String;"⟩ : MethodName) method_3_code 2 ((Option.some (Jvm.ClassFile.FieldType.object "java/lang/String"))) ws ({ frames := 4, cells := 3, slots := 8, locals := 66 } : Room) #[(.int p1)] h0 (fun v h L => ∃ a : Addr, v = some (.ref a) ∧ Fr n0 L ∧ Keep h0 h []) := by
  refine Ctr.of (MetFree.of_bodySF (plainFor_of_name pn_31) hisR ?_)
  intro p e s m args below meth c s₁ Bd hml0 hP hK
  obtain ⟨rfl, hZ, hh⟩ := hP
  have hx := Bd.exec
  have hby := Bd.bytes
  have hml : c.maxLocals = 2 := hml0
  have hown : s.vm.findClass "com/example/sealed_orders/sealedorders/rules/SeasonNamesOfPinLaw" = some m.cls := findClass_of_methodNamed Bd.named
  have hnm := (name_of_methodNamed Bd.named Bd.method).1
  have X0 : Stand p l e ({ frames := 4, cells := 3, slots := 8, locals := 66 } : Room) s m #[(.int p1)] below meth c s₁ [] 0 0 := Stand.of_body Bd
  have e0 : s₁.heap = h0 := by rw [← hh, Bd.state]; rfl
  have N0 := Fr.nil n0
  have K0 : Keep h0 h0 [] := Keep.refl h0 []
  show OwnGo p e below s (fun v h L => ∃ a : Addr, v = some (.ref a) ∧ Fr n0 L ∧ Keep h0 h []) ({ frames := 4, cells := 3, slots := 8, locals := 66 } : Room).cells ({ frames := 4, cells := 3, slots := 8, locals := 66 } : Room).slots _
  refine gs (S' := s₁.setTop (mkF m 0 #[.val (.int p1), .unset] [])) (fun tg kg => castTop (ef_5 m p1) kg) ?_
  have hws : ∀ d ∈ StrChars.Road.words, d.before a0 Z = true := fun d hd => hw d ((by decide +kernel : ∀ d ∈ StrChars.Road.words, d ∈ tables_1) d hd)
  have c1 : ∀ tg, Steps p.tables e below (s₁.setTop (mkF m 1 #[.val (.int p1), .unset] [(.int (2 : Int32))])) tg → Steps p.tables e below (s₁.setTop (mkF m 0 #[.val (.int p1), .unset] [])) tg := fun tg kg => by
    refine XS.iconst X0.here hx rfl (hb hby d_method_3_code_0) ?_
    show Steps p.tables e below (s₁.setTop (mkF m 1 #[.val (.int p1), .unset] [(.int (2 : Int32))])) tg
    exact kg
  refine gs c1 ?_
  obtain ⟨T2, h2, k2, X2, e2, E2, A2, st2⟩ := newP X0 hx hZ (hw _ (List.mem_of_getElem? (i := 4) rfl)) e0 (g := (mkF m 1 #[.val (.int p1), .unset] [(.int (2 : Int32))])) rfl (hb hby d_method_3_code_1) rfl (by decide) (cap := 2) (by decide) (by decide) (by decide) (by decide)
  obtain ⟨b2, q2⟩ : ∃ z, z = h0.size := ⟨_, rfl⟩
  rw [← q2] at A2 st2
  have g_b2 : n0 ≤ b2 := Nat.le_trans Z0 (Nat.le_of_eq q2.symm)
  have sz_b2 : h0.size ≤ b2 := Nat.le_trans K0.1 (Nat.le_of_eq q2.symm)
  have Z3 : n0 ≤ h2.size := Nat.le_trans Z0 E2.1
  have O3 : Old Z n0 h2 := O0.ext E2
  have K3 : Keep h0 h2 [] := K0.ext E2
  have V2 : Arv Z h2 b2 k2 .char (2 : Int32) [(.int (0 : Int32)), (.int (0 : Int32))] (.int (0 : Int32)) := (Arv.new A2 (by decide)).pad (pad_rep [] (.int (0 : Int32)) 2)
  refine gs st2 ?_
  show OwnGo p e below s _ _ _ (T2.setTop (mkF m 3 #[.val (.int p1), .unset] [(.ref b2)]))
  have c4 : ∀ tg, Steps p.tables e below (T2.setTop (mkF m 12 #[.val (.int p1), .val (.ref b2)] [(.int ((p1 &&& (255 : Int32)).toUInt32.toUInt16.toUInt32.toInt32)), (.int (0 : Int32)), (.ref b2)])) tg → Steps p.tables e below (T2.setTop (mkF m 3 #[.val (.int p1), .unset] [(.ref b2)])) tg := fun tg kg => by
    refine XS.astoreN X2.here hx rfl (hb hby d_method_3_code_3) rfl rfl (l' := #[.val (.int p1), .val (.ref b2)]) rfl ?_
    show Steps p.tables e below (T2.setTop (mkF m 4 #[.val (.int p1), .val (.ref b2)] [])) tg
    refine XS.aloadN X2.here hx rfl (hb hby d_method_3_code_4) rfl rfl ?_
    show Steps p.tables e below (T2.setTop (mkF m 5 #[.val (.int p1), .val (.ref b2)] [(.ref b2)])) tg
    refine XS.iconst X2.here hx rfl (hb hby d_method_3_code_5) ?_
    show Steps p.tables e below (T2.setTop (mkF m 6 #[.val (.int p1), .val (.ref b2)] [(.int (0 : Int32)), (.ref b2)])) tg
    refine XS.iloadN X2.here hx rfl (hb hby d_method_3_code_6) rfl ?_
    show Steps p.tables e below (T2.setTop (mkF m 7 #[.val (.int p1), .val (.ref b2)] [(.int p1), (.int (0 : Int32)), (.ref b2)])) tg
    refine XS.sipush X2.here hx rfl (hb hby d_method_3_code_7) ?_
    show Steps p.tables e below (T2.setTop (mkF m 10 #[.val (.int p1), .val (.ref b2)] [(.int (255 : Int32)), (.int p1), (.int (0 : Int32)), (.ref b2)])) tg
    refine XS.iand X2.here hx rfl (hb hby d_method_3_code_10) rfl ?_
    show Steps p.tables e below (T2.setTop (mkF m 11 #[.val (.int p1), .val (.ref b2)] [(.int (p1 &&& (255 : Int32))), (.int (0 : Int32)), (.ref b2)])) tg
    refine XS.i2c X2.here hx rfl (hb hby d_method_3_code_11) rfl ?_
    show Steps p.tables e below (T2.setTop (mkF m 12 #[.val (.int p1), .val (.ref b2)] [(.int ((p1 &&& (255 : Int32)).toUInt32.toUInt16.toUInt32.toInt32)), (.int (0 : Int32)), (.ref b2)])) tg
    exact kg
  refine gs c4 ?_
  obtain ⟨cl5, A5, a5q, a5S, a5N, a5H, a5G⟩ := id V2
  obtain ⟨T5, h5, X5, e5, W5, st5⟩ := stC X2 hx hZ e2 A5 (j := (0 : Int32)) (inb_of a5S ⟨by decide, by decide⟩) (g := (mkF m 12 #[.val (.int p1), .val (.ref b2)] [(.int ((p1 &&& (255 : Int32)).toUInt32.toUInt16.toUInt32.toInt32)), (.int (0 : Int32)), (.ref b2)])) rfl rfl (hb hby d_method_3_code_12)
  have V5 : Arv Z h5 b2 k2 .char (2 : Int32) [(.int (nar .char ((p1 &&& (255 : Int32)).toUInt32.toUInt16.toUInt32.toInt32))), (.int (0 : Int32))] (.int (0 : Int32)) := Arv.set A5 a5q a5S a5N a5H a5G (fits_nar_char _) W5 0 rfl (Nat.le_of_ble_eq_true rfl)
  have N5 := Fr.snoc X5 N0 g_b2
  have Z6 : n0 ≤ h5.size := Nat.le_trans Z3 (Keep.of_wr W5).1
  have O6 : Old Z n0 h5 := O3.wr W5 g_b2
  have K6 : Keep h0 h5 [] := K3.wr W5 (Or.inr sz_b2)
  refine gs st5 ?_
  show OwnGo p e below s _ _ _ (T5.setTop (mkF m 13 #[.val (.int p1), .val (.ref b2)] []))
  have c7 : ∀ tg, Steps p.tables e below (T5.setTop (mkF m 24 #[.val (.int p1), .val (.ref b2)] [(.int ((((p1.toUInt32 >>> ((8 : Int32) &&& 31).toUInt32).toInt32) &&& (255 : Int32)).toUInt32.toUInt16.toUInt32.toInt32)), (.int (1 : Int32)), (.ref b2)])) tg → Steps p.tables e below (T5.setTop (mkF m 13 #[.val (.int p1), .val (.ref b2)] [])) tg := fun tg kg => by
    refine XS.aloadN X5.here hx rfl (hb hby d_method_3_code_13) rfl rfl ?_
    show Steps p.tables e below (T5.setTop (mkF m 14 #[.val (.int p1), .val (.ref b2)] [(.ref b2)])) tg
    refine XS.iconst X5.here hx rfl (hb hby d_method_3_code_14) ?_
    show Steps p.tables e below (T5.setTop (mkF m 15 #[.val (.int p1), .val (.ref b2)] [(.int (1 : Int32)), (.ref b2)])) tg
    refine XS.iloadN X5.here hx rfl (hb hby d_method_3_code_15) rfl ?_
    show Steps p.tables e below (T5.setTop (mkF m 16 #[.val (.int p1), .val (.ref b2)] [(.int p1), (.int (1 : Int32)), (.ref b2)])) tg
    refine XS.bipush X5.here hx rfl (hb hby d_method_3_code_16) ?_
    show Steps p.tables e below (T5.setTop (mkF m 18 #[.val (.int p1), .val (.ref b2)] [(.int (8 : Int32)), (.int p1), (.int (1 : Int32)), (.ref b2)])) tg
    refine XS.iushr X5.here hx rfl (hb hby d_method_3_code_18) rfl ?_
    show Steps p.tables e below (T5.setTop (mkF m 19 #[.val (.int p1), .val (.ref b2)] [(.int ((p1.toUInt32 >>> ((8 : Int32) &&& 31).toUInt32).toInt32)), (.int (1 : Int32)), (.ref b2)])) tg
    refine XS.sipush X5.here hx rfl (hb hby d_method_3_code_19) ?_
    show Steps p.tables e below (T5.setTop (mkF m 22 #[.val (.int p1), .val (.ref b2)] [(.int (255 : Int32)), (.int ((p1.toUInt32 >>> ((8 : Int32) &&& 31).toUInt32).toInt32)), (.int (1 : Int32)), (.ref b2)])) tg
    refine XS.iand X5.here hx rfl (hb hby d_method_3_code_22) rfl ?_
    show Steps p.tables e below (T5.setTop (mkF m 23 #[.val (.int p1), .val (.ref b2)] [(.int (((p1.toUInt32 >>> ((8 : Int32) &&& 31).toUInt32).toInt32) &&& (255 : Int32))), (.int (1 : Int32)), (.ref b2)])) tg
    refine XS.i2c X5.here hx rfl (hb hby d_method_3_code_23) rfl ?_
    show Steps p.tables e below (T5.setTop (mkF m 24 #[.val (.int p1), .val (.ref b2)] [(.int ((((p1.toUInt32 >>> ((8 : Int32) &&& 31).toUInt32).toInt32) &&& (255 : Int32)).toUInt32.toUInt16.toUInt32.toInt32)), (.int (1 : Int32)), (.ref b2)])) tg
    exact kg
  refine gs c7 ?_
  obtain ⟨cl8, A8, a8q, a8S, a8N, a8H, a8G⟩ := id V5
  obtain ⟨T8, h8, X8, e8, W8, st8⟩ := stC X5 hx hZ e5 A8 (j := (1 : Int32)) (inb_of a8S ⟨by decide, by decide⟩) (g := (mkF m 24 #[.val (.int p1), .val (.ref b2)] [(.int ((((p1.toUInt32 >>> ((8 : Int32) &&& 31).toUInt32).toInt32) &&& (255 : Int32)).toUInt32.toUInt16.toUInt32.toInt32)), (.int (1 : Int32)), (.ref b2)])) rfl rfl (hb hby d_method_3_code_24)
  have V8 : Arv Z h8 b2 k2 .char (2 : Int32) [(.int (nar .char ((p1 &&& (255 : Int32)).toUInt32.toUInt16.toUInt32.toInt32))), (.int (nar .char ((((p1.toUInt32 >>> ((8 : Int32) &&& 31).toUInt32).toInt32) &&& (255 : Int32)).toUInt32.toUInt16.toUInt32.toInt32)))] (.int (0 : Int32)) := Arv.set A8 a8q a8S a8N a8H a8G (fits_nar_char _) W8 1 rfl (Nat.le_of_ble_eq_true rfl)
  have N8 := Fr.snoc X8 N5 g_b2
  have Z9 : n0 ≤ h8.size := Nat.le_trans Z6 (Keep.of_wr W8).1
  have O9 : Old Z n0 h8 := O6.wr W8 g_b2
  have K9 : Keep h0 h8 [] := K6.wr W8 (Or.inr sz_b2)
  refine gs st8 ?_
  show OwnGo p e below s _ _ _ (T8.setTop (mkF m 25 #[.val (.int p1), .val (.ref b2)] []))
  obtain ⟨T10, h10, X10, e10, E10, A10, D10, -, st10⟩ := newO X8 hx hZ hown (hw _ (List.mem_of_getElem? (i := 5) rfl)) (hw _ (List.mem_of_getElem? (i := 6) rfl)) (hw _ (List.mem_of_getElem? (i := 7) rfl)) e8 (g := (mkF m 25 #[.val (.int p1), .val (.ref b2)] [])) rfl (hb hby d_method_3_code_25) (by decide) (by decide)
  obtain ⟨b10, q10⟩ : ∃ z, z = h8.size := ⟨_, rfl⟩
  rw [← q10] at A10 D10 st10
  have g_b10 : n0 ≤ b10 := Nat.le_trans Z9 (Nat.le_of_eq q10.symm)
  have sz_b10 : h0.size ≤ b10 := Nat.le_trans K9.1 (Nat.le_of_eq q10.symm)
  have Z11 : n0 ≤ h10.size := Nat.le_trans Z9 E10.1
  have O11 : Old Z n0 h10 := O9.ext E10
  have K11 : Keep h0 h10 [] := K9.ext E10
  have F_coder_b10 : Fld Z h10 b10 "java/lang/String" "coder" "B" (.int (0 : Int32)) := D10 (Or.inr (hw _ (List.mem_of_getElem? (i := 31) rfl))) (ty := .byte) (by decide)
  have F_value_b10 : Fld Z h10 b10 "java/lang/String" "value" "[B" .null := D10 (Or.inr (hw _ (List.mem_of_getElem? (i := 33) rfl))) (ty := (.array .byte)) (by decide)
  refine gs st10 ?_
  show OwnGo p e below s _ _ _ (T10.setTop (mkF m 28 #[.val (.int p1), .val (.ref b2)] [(.ref b10)]))
  have c12 : ∀ tg, Steps p.tables e below (T10.setTop (mkF m 30 #[.val (.int p1), .val (.ref b2)] [(.ref b2), (.ref b10), (.ref b10)])) tg → Steps p.tables e below (T10.setTop (mkF m 28 #[.val (.int p1), .val (.ref b2)] [(.ref b10)])) tg := fun tg kg => by
    refine XS.dup X10.here hx rfl (hb hby d_method_3_code_28) rfl rfl ?_
    show Steps p.tables e below (T10.setTop (mkF m 29 #[.val (.int p1), .val (.ref b2)] [(.ref b10), (.ref b10)])) tg
    refine XS.aloadN X10.here hx rfl (hb hby d_method_3_code_29) rfl rfl ?_
    show Steps p.tables e below (T10.setTop (mkF m 30 #[.val (.int p1), .val (.ref b2)] [(.ref b2), (.ref b10), (.ref b10)])) tg
    exact kg
  refine gs c12 ?_
  have hp : ∀ c ∈ ([(nar .char ((p1 &&& (255 : Int32)).toUInt32.toUInt16.toUInt32.toInt32)), (nar .char ((((p1.toUInt32 >>> ((8 : Int32) &&& 31).toUInt32).toInt32) &&& (255 : Int32)).toUInt32.toUInt16.toUInt32.toInt32))] : List Int32), ¬ c < 0 ∧ ¬ (255 : Int32) < c := by
    intro c hc
    simp only [List.mem_cons, List.not_mem_nil, or_false] at hc
    rcases hc with rfl | rfl
    all_goals exact own_and255 _
  have f13 := (V8.ext E10)
  obtain ⟨_, _, ⟨T14, L14, k14, n14⟩, -, X14, ⟨Lc14, hQ14, l14, y14, z14⟩, st14⟩ := X10.specialBack hx (y := (⟨"java/lang/String", "<init>", "([C)V"⟩ : MethodName)) rfl hown (mvT hZ (hw _ (List.mem_of_getElem? (i := 8) rfl))) (mvT hZ (hw _ (List.mem_of_getElem? (i := 9) rfl))) (mvT hZ (hw _ (List.mem_of_getElem? (i := 10) rfl))) (by decide) (StrChars.Road.backV (W := 1) hZ hws (kI := 4) (hw _ (List.mem_of_getElem? (i := 6) rfl)) (cs := ([(nar .char ((p1 &&& (255 : Int32)).toUInt32.toUInt16.toUInt32.toInt32)), (nar .char ((((p1.toUInt32 >>> ((8 : Int32) &&& 31).toUInt32).toInt32) &&& (255 : Int32)).toUInt32.toUInt16.toUInt32.toInt32))] : List Int32)) (bs := ([(nar .char ((p1 &&& (255 : Int32)).toUInt32.toUInt16.toUInt32.toInt32)), (nar .char ((((p1.toUInt32 >>> ((8 : Int32) &&& 31).toUInt32).toInt32) &&& (255 : Int32)).toUInt32.toUInt16.toUInt32.toInt32))] : List Int32).map (fun c => c.toInt8.toInt32)) (n := 2) g_b10 Z11 A10 F_value_b10 F_coder_b10 f13 (S0.ext O11.2) hz rfl rfl (by decide) (by decide) hp rfl (by decide) (by decide)) (g := (mkF m 30 #[.val (.int p1), .val (.ref b2)] [(.ref b2), (.ref b10), (.ref b10)])) rfl (by rw [hml]; rfl) (Steps.refl _) (a := b10) (argsL := [(.ref b2)]) (rest := [(.ref b10)]) (lenOf pd_29 rfl) rfl (by show 2 * 0 + _ ≤ _; exact Nat.le_of_eq rfl) (hb hby d_method_3_code_30) (fun _ _ => ⟨rfl, e10, (by decide : 2 + 1 ≤ _), (by decide : 6 + 2 ≤ _)⟩)
  dsimp only [Pt.U, Pt.locs, Pt.cells, Pt.slots] at X14 l14 y14 z14 st14 hQ14
  subst l14 y14 z14
  obtain ⟨rfl, N14q, K14q, g14e, g14c, t14, kb14, -, g14t, -, g14v, g14a⟩ := hQ14
  have N14 := Fr.app N8 N14q
  have Z15 : n0 ≤ T14.heap.size := Nat.le_trans Z11 K14q.1
  have O15 : Old Z n0 T14.heap := O11.keep K14q (allS g_b10 all0)
  have K15 : Keep h0 T14.heap [] := K11.trans K14q (allS (Or.inr sz_b10) all0)
  refine gs (fun _ k => st14.trans k) ?_
  show OwnGo p e below s _ _ _ (T14.setTop (mkF m 33 #[.val (.int p1), .val (.ref b2)] [(.ref b10)]))
  refine gout (v := some (.ref b10)) X14 Bd.notSynchronized (fun h => by rw [Bd.returns] at h; cases h) (by decide) (by decide) ?_ (fun fs hr => retOut X14 hx Bd.returns rfl (Or.inr (Or.inr (Or.inr (Or.inr ⟨rfl, rfl, rfl⟩)))) (hb hby d_method_3_code_33) hr)
  exact ⟨_, rfl, N14, K15⟩
theorem ef_32 (m : MethodId) (x0 : Addr) (x1 : Addr) (x2 : Addr) (x3 : Addr) : entryFrame m #[(.ref x0), (.ref x1), (.ref x2), (.ref x3)] 4 = mkF m 0 #[.val (.ref x0), .val (.ref x1), .val (.ref x2), .val (.ref x3)] [] := by first | (simp [entryFrame, mkF, argsToLocals, Value.category]; done) | rfl
theorem d_prog_61_method_1_code_0 : decode prog_61_method_1_code 0 = .ok (.aload_n 0, 1) := by decide +kernel
theorem d_prog_61_method_1_code_1 : decode prog_61_method_1_code 1 = .ok (.invokespecial 1, 3) := by decide +kernel
theorem pd_35 : parseMethodDescriptor "()V" = some ⟨[], none⟩ := by decide +kernel
theorem d_prog_61_method_1_code_4 : decode prog_61_method_1_code 4 = .ok (.aload_n 0, 1) := by decide +kernel
theorem d_prog_61_method_1_code_5 : decode prog_61_method_1_code 5 = .ok (.aload_n 1, 1) := by decide +kernel
theorem d_prog_61_method_1_code_6 : decode prog_61_method_1_code 6 = .ok (.putfield 7, 3) := by decide +kernel
theorem d_prog_61_method_1_code_9 : decode prog_61_method_1_code 9 = .ok (.aload_n 0, 1) := by decide +kernel
theorem d_prog_61_method_1_code_10 : decode prog_61_method_1_code 10 = .ok (.aload_n 2, 1) := by decide +kernel
theorem d_prog_61_method_1_code_11 : decode prog_61_method_1_code 11 = .ok (.putfield 13, 3) := by decide +kernel
theorem d_prog_61_method_1_code_14 : decode prog_61_method_1_code 14 = .ok (.aload_n 0, 1) := by decide +kernel
theorem d_prog_61_method_1_code_15 : decode prog_61_method_1_code 15 = .ok (.aload_n 3, 1) := by decide +kernel
theorem d_prog_61_method_1_code_16 : decode prog_61_method_1_code 16 = .ok (.putfield 16, 3) := by decide +kernel
theorem d_prog_61_method_1_code_19 : decode prog_61_method_1_code 19 = .ok (.return_, 1) := by decide +kernel
theorem pn_46 : plainName "com/example/sealed_orders/sealedorders/rules/SeasonNames" = true := by first | (simp [plainName, overriddenIn]; done) | decide +kernel
set_option maxRecDepth 65536 in
set_option maxHeartbeats 40000000 in
theorem rm_ini (l : Launch) (Z : State) (a0 : Array Value) (hw : ∀ d ∈ tables_1, d.before a0 Z = true) (ws : List Jvm.Cond) (a : Addr) (s1 : Addr) (s2 : Addr) (s3 : Addr) (h0 : Heap) (n0 : Nat) (Z0 : n0 ≤ h0.size) (O0 : Old Z n0 h0) (E_a : Exa Z h0 a "com/example/sealed_orders/sealedorders/rules/SeasonNames") (F_0 : Fld Z h0 a "com/example/sealed_orders/sealedorders/rules/SeasonNames" "first" "Ljava/lang/String;" .null) (F_1 : Fld Z h0 a "com/example/sealed_orders/sealedorders/rules/SeasonNames" "second" "Ljava/lang/String;" .null) (F_2 : Fld Z h0 a "com/example/sealed_orders/sealedorders/rules/SeasonNames" "adjustment" "Ljava/lang/String;" .null) (g_a : n0 ≤ a) :
    Ctr l Z (⟨"com/example/sealed_orders/sealedorders/rules/SeasonNames", "<init>", "(Ljava/lang/String;Ljava/lang/String;Ljava/lang/String;)V"⟩ : MethodName) prog_61_method_1_code 4 ((Option.none : Option Jvm.ClassFile.FieldType)) ws ({ frames := 2, cells := 0, slots := 0, locals := 24 } : Room) #[(.ref a), (.ref s1), (.ref s2), (.ref s3)] h0 (fun v h L => v = none ∧ Fr n0 L ∧ Keep h0 h [a] ∧ Fld Z h a "com/example/sealed_orders/sealedorders/rules/SeasonNames" "first" "Ljava/lang/String;" (.ref s1) ∧ Fld Z h a "com/example/sealed_orders/sealedorders/rules/SeasonNames" "second" "Ljava/lang/String;" (.ref s2) ∧ Fld Z h a "com/example/sealed_orders/sealedorders/rules/SeasonNames" "adjustment" "Ljava/lang/String;" (.ref s3)) := by
  refine Ctr.of (MetFree.of_bodySF (plainFor_of_name pn_46) hisR ?_)
  intro p e s m args below meth c s₁ Bd hml0 hP hK
  obtain ⟨rfl, hZ, hh⟩ := hP
  have hx := Bd.exec
  have hby := Bd.bytes
  have hml : c.maxLocals = 4 := hml0
  have hown : s.vm.findClass "com/example/sealed_orders/sealedorders/rules/SeasonNames" = some m.cls := findClass_of_methodNamed Bd.named
  have hnm := (name_of_methodNamed Bd.named Bd.method).1
  have X0 : Stand p l e ({ frames := 2, cells := 0, slots := 0, locals := 24 } : Room) s m #[(.ref a), (.ref s1), (.ref s2), (.ref s3)] below meth c s₁ [] 0 0 := Stand.of_body Bd
  have e0 : s₁.heap = h0 := by rw [← hh, Bd.state]; rfl
  have N0 := Fr.nil n0
  have K0 : Keep h0 h0 [a] := Keep.refl h0 [a]
  show OwnGo p e below s (fun v h L => v = none ∧ Fr n0 L ∧ Keep h0 h [a] ∧ Fld Z h a "com/example/sealed_orders/sealedorders/rules/SeasonNames" "first" "Ljava/lang/String;" (.ref s1) ∧ Fld Z h a "com/example/sealed_orders/sealedorders/rules/SeasonNames" "second" "Ljava/lang/String;" (.ref s2) ∧ Fld Z h a "com/example/sealed_orders/sealedorders/rules/SeasonNames" "adjustment" "Ljava/lang/String;" (.ref s3)) ({ frames := 2, cells := 0, slots := 0, locals := 24 } : Room).cells ({ frames := 2, cells := 0, slots := 0, locals := 24 } : Room).slots _
  refine gs (S' := s₁.setTop (mkF m 0 #[.val (.ref a), .val (.ref s1), .val (.ref s2), .val (.ref s3)] [])) (fun tg kg => castTop (ef_32 m a s1 s2 s3) kg) ?_
  have c1 : ∀ tg, Steps p.tables e below (s₁.setTop (mkF m 1 #[.val (.ref a), .val (.ref s1), .val (.ref s2), .val (.ref s3)] [(.ref a)])) tg → Steps p.tables e below (s₁.setTop (mkF m 0 #[.val (.ref a), .val (.ref s1), .val (.ref s2), .val (.ref s3)] [])) tg := fun tg kg => by
    refine XS.aloadN X0.here hx rfl (hb hby d_prog_61_method_1_code_0) rfl rfl ?_
    show Steps p.tables e below (s₁.setTop (mkF m 1 #[.val (.ref a), .val (.ref s1), .val (.ref s2), .val (.ref s3)] [(.ref a)])) tg
    exact kg
  refine gs c1 ?_
  obtain ⟨_, _, ⟨T2, L2, k2, n2⟩, -, X2, ⟨Lc2, hQ2, l2, y2, z2⟩, st2⟩ := X0.specialBack hx (y := (⟨"java/lang/Record", "<init>", "()V"⟩ : MethodName)) rfl hown (mvT hZ (hw _ (List.mem_of_getElem? (i := 40) rfl))) (mvT hZ (hw _ (List.mem_of_getElem? (i := 41) rfl))) (mvT hZ (hw _ (List.mem_of_getElem? (i := 44) rfl))) (by decide) (backC (W := 0) (rm_rec l Z a0 hw [] a h0 n0 Z0 O0 ) hZ (hw _ (List.mem_of_getElem? (i := 44) rfl)) (hw _ (List.mem_of_getElem? (i := 43) rfl)) (by decide) (by decide)) (g := (mkF m 1 #[.val (.ref a), .val (.ref s1), .val (.ref s2), .val (.ref s3)] [(.ref a)])) rfl (by rw [hml]; rfl) (Steps.refl _) (a := a) (argsL := []) (rest := []) (lenOf pd_35 rfl) rfl (by show 2 * 0 + _ ≤ _; exact Nat.le_of_eq rfl) (hb hby d_prog_61_method_1_code_1) (fun _ _ => ⟨rfl, e0, (by decide : 0 + 0 ≤ _), (by decide : 0 + 0 ≤ _)⟩)
  dsimp only [Pt.U, Pt.locs, Pt.cells, Pt.slots] at X2 l2 y2 z2 st2 hQ2
  subst l2 y2 z2
  obtain ⟨rfl, N2q, K2q⟩ := hQ2
  have N2 := Fr.app N0 N2q
  have Z3 : n0 ≤ T2.heap.size := Nat.le_trans Z0 K2q.1
  have O3 : Old Z n0 T2.heap := O0.keep K2q all0
  have K3 : Keep h0 T2.heap [a] := K0.trans K2q all0
  refine gs (fun _ k => st2.trans k) ?_
  show OwnGo p e below s _ _ _ (T2.setTop (mkF m 4 #[.val (.ref a), .val (.ref s1), .val (.ref s2), .val (.ref s3)] []))
  have c4 : ∀ tg, Steps p.tables e below (T2.setTop (mkF m 6 #[.val (.ref a), .val (.ref s1), .val (.ref s2), .val (.ref s3)] [(.ref s1), (.ref a)])) tg → Steps p.tables e below (T2.setTop (mkF m 4 #[.val (.ref a), .val (.ref s1), .val (.ref s2), .val (.ref s3)] [])) tg := fun tg kg => by
    refine XS.aloadN X2.here hx rfl (hb hby d_prog_61_method_1_code_4) rfl rfl ?_
    show Steps p.tables e below (T2.setTop (mkF m 5 #[.val (.ref a), .val (.ref s1), .val (.ref s2), .val (.ref s3)] [(.ref a)])) tg
    refine XS.aloadN X2.here hx rfl (hb hby d_prog_61_method_1_code_5) rfl rfl ?_
    show Steps p.tables e below (T2.setTop (mkF m 6 #[.val (.ref a), .val (.ref s1), .val (.ref s2), .val (.ref s3)] [(.ref s1), (.ref a)])) tg
    exact kg
  refine gs c4 ?_
  have f5 := (F_0.keep K2q nin0)
  have f6 := (E_a.keep K2q)
  obtain ⟨T7, h7, X7, e7, W7, st7⟩ := putF X2 hx hZ hown (host := "") (Or.inl (hw _ (List.mem_of_getElem? (i := 46) rfl))) Via.refl rfl f5 f6 (Or.inr ⟨(hw _ (List.mem_of_getElem? (i := 47) rfl)), rfl, hnm⟩) (hw _ (List.mem_of_getElem? (i := 35) rfl)) (ty := (.object "java/lang/String")) (by decide) rfl rfl (g := (mkF m 6 #[.val (.ref a), .val (.ref s1), .val (.ref s2), .val (.ref s3)] [(.ref s1), (.ref a)])) rfl rfl (hb hby d_prog_61_method_1_code_6)
  have N7 := Fr.snoc X7 N2 g_a
  have Fw7 := f5.same W7
  have Z8 : n0 ≤ h7.size := Nat.le_trans Z3 (Keep.of_wr W7).1
  have O8 : Old Z n0 h7 := O3.wr W7 g_a
  have K8 : Keep h0 h7 [a] := K3.wr W7 (Or.inl (List.mem_of_getElem? (i := 0) rfl))
  refine gs st7 ?_
  show OwnGo p e below s _ _ _ (T7.setTop (mkF m 9 #[.val (.ref a), .val (.ref s1), .val (.ref s2), .val (.ref s3)] []))
  have c9 : ∀ tg, Steps p.tables e below (T7.setTop (mkF m 11 #[.val (.ref a), .val (.ref s1), .val (.ref s2), .val (.ref s3)] [(.ref s2), (.ref a)])) tg → Steps p.tables e below (T7.setTop (mkF m 9 #[.val (.ref a), .val (.ref s1), .val (.ref s2), .val (.ref s3)] [])) tg := fun tg kg => by
    refine XS.aloadN X7.here hx rfl (hb hby d_prog_61_method_1_code_9) rfl rfl ?_
    show Steps p.tables e below (T7.setTop (mkF m 10 #[.val (.ref a), .val (.ref s1), .val (.ref s2), .val (.ref s3)] [(.ref a)])) tg
    refine XS.aloadN X7.here hx rfl (hb hby d_prog_61_method_1_code_10) rfl rfl ?_
    show Steps p.tables e below (T7.setTop (mkF m 11 #[.val (.ref a), .val (.ref s1), .val (.ref s2), .val (.ref s3)] [(.ref s2), (.ref a)])) tg
    exact kg
  refine gs c9 ?_
  have f10 := ((F_1.keep K2q nin0).other W7 (Or.inr (slot_ne (Or.inr (hw _ (List.mem_of_getElem? (i := 49) rfl))) (Or.inr (hw _ (List.mem_of_getElem? (i := 47) rfl))) (by decide) (t := (.object "java/lang/String")) (t' := (.object "java/lang/String")) (by decide) (by decide))))
  have f11 := (f6.wr W7)
  obtain ⟨T12, h12, X12, e12, W12, st12⟩ := putF X7 hx hZ hown (host := "") (Or.inl (hw _ (List.mem_of_getElem? (i := 48) rfl))) Via.refl e7 f10 f11 (Or.inr ⟨(hw _ (List.mem_of_getElem? (i := 49) rfl)), rfl, hnm⟩) (hw _ (List.mem_of_getElem? (i := 35) rfl)) (ty := (.object "java/lang/String")) (by decide) rfl rfl (g := (mkF m 11 #[.val (.ref a), .val (.ref s1), .val (.ref s2), .val (.ref s3)] [(.ref s2), (.ref a)])) rfl rfl (hb hby d_prog_61_method_1_code_11)
  have N12 := Fr.snoc X12 N7 g_a
  have Fw12 := f10.same W12
  have Z13 : n0 ≤ h12.size := Nat.le_trans Z8 (Keep.of_wr W12).1
  have O13 : Old Z n0 h12 := O8.wr W12 g_a
  have K13 : Keep h0 h12 [a] := K8.wr W12 (Or.inl (List.mem_of_getElem? (i := 0) rfl))
  refine gs st12 ?_
  show OwnGo p e below s _ _ _ (T12.setTop (mkF m 14 #[.val (.ref a), .val (.ref s1), .val (.ref s2), .val (.ref s3)] []))
  have c14 : ∀ tg, Steps p.tables e below (T12.setTop (mkF m 16 #[.val (.ref a), .val (.ref s1), .val (.ref s2), .val (.ref s3)] [(.ref s3), (.ref a)])) tg → Steps p.tables e below (T12.setTop (mkF m 14 #[.val (.ref a), .val (.ref s1), .val (.ref s2), .val (.ref s3)] [])) tg := fun tg kg => by
    refine XS.aloadN X12.here hx rfl (hb hby d_prog_61_method_1_code_14) rfl rfl ?_
    show Steps p.tables e below (T12.setTop (mkF m 15 #[.val (.ref a), .val (.ref s1), .val (.ref s2), .val (.ref s3)] [(.ref a)])) tg
    refine XS.aloadN X12.here hx rfl (hb hby d_prog_61_method_1_code_15) rfl rfl ?_
    show Steps p.tables e below (T12.setTop (mkF m 16 #[.val (.ref a), .val (.ref s1), .val (.ref s2), .val (.ref s3)] [(.ref s3), (.ref a)])) tg
    exact kg
  refine gs c14 ?_
  have f15 := (((F_2.keep K2q nin0).other W7 (Or.inr (slot_ne (Or.inr (hw _ (List.mem_of_getElem? (i := 51) rfl))) (Or.inr (hw _ (List.mem_of_getElem? (i := 47) rfl))) (by decide) (t := (.object "java/lang/String")) (t' := (.object "java/lang/String")) (by decide) (by decide)))).other W12 (Or.inr (slot_ne (Or.inr (hw _ (List.mem_of_getElem? (i := 51) rfl))) (Or.inr (hw _ (List.mem_of_getElem? (i := 49) rfl))) (by decide) (t := (.object "java/lang/String")) (t' := (.object "java/lang/String")) (by decide) (by decide))))
  have f16 := (f11.wr W12)
  obtain ⟨T17, h17, X17, e17, W17, st17⟩ := putF X12 hx hZ hown (host := "") (Or.inl (hw _ (List.mem_of_getElem? (i := 50) rfl))) Via.refl e12 f15 f16 (Or.inr ⟨(hw _ (List.mem_of_getElem? (i := 51) rfl)), rfl, hnm⟩) (hw _ (List.mem_of_getElem? (i := 35) rfl)) (ty := (.object "java/lang/String")) (by decide) rfl rfl (g := (mkF m 16 #[.val (.ref a), .val (.ref s1), .val (.ref s2), .val (.ref s3)] [(.ref s3), (.ref a)])) rfl rfl (hb hby d_prog_61_method_1_code_16)
  have N17 := Fr.snoc X17 N12 g_a
  have Fw17 := f15.same W17
  have Z18 : n0 ≤ h17.size := Nat.le_trans Z13 (Keep.of_wr W17).1
  have O18 : Old Z n0 h17 := O13.wr W17 g_a
  have K18 : Keep h0 h17 [a] := K13.wr W17 (Or.inl (List.mem_of_getElem? (i := 0) rfl))
  refine gs st17 ?_
  show OwnGo p e below s _ _ _ (T17.setTop (mkF m 19 #[.val (.ref a), .val (.ref s1), .val (.ref s2), .val (.ref s3)] []))
  have f19 := ((Fw7.other W12 (Or.inr (slot_ne (Or.inr (hw _ (List.mem_of_getElem? (i := 47) rfl))) (Or.inr (hw _ (List.mem_of_getElem? (i := 49) rfl))) (by decide) (t := (.object "java/lang/String")) (t' := (.object "java/lang/String")) (by decide) (by decide)))).other W17 (Or.inr (slot_ne (Or.inr (hw _ (List.mem_of_getElem? (i := 47) rfl))) (Or.inr (hw _ (List.mem_of_getElem? (i := 51) rfl))) (by decide) (t := (.object "java/lang/String")) (t' := (.object "java/lang/String")) (by decide) (by decide))))
  have f20 := (Fw12.other W17 (Or.inr (slot_ne (Or.inr (hw _ (List.mem_of_getElem? (i := 49) rfl))) (Or.inr (hw _ (List.mem_of_getElem? (i := 51) rfl))) (by decide) (t := (.object "java/lang/String")) (t' := (.object "java/lang/String")) (by decide) (by decide))))
  refine gout (v := none) X17 Bd.notSynchronized (fun _ => rfl) (by decide) (by decide) ?_ (fun fs hr => X17.returnOut hx Bd.returns (hb hby d_prog_61_method_1_code_19) hr)
  rw [e17]
  exact ⟨rfl, N17, K18, f19, f20, Fw17⟩
theorem ef_47 (m : MethodId) (x0 : Addr) (x1 : Addr) (x2 : Addr) : entryFrame m #[(.ref x0), (.ref x1), (.ref x2)] 4 = mkF m 0 #[.val (.ref x0), .val (.ref x1), .val (.ref x2), .unset] [] := by first | (simp [entryFrame, mkF, argsToLocals, Value.category]; done) | rfl
theorem d_prog_61_method_2_code_0 : decode prog_61_method_2_code 0 = .ok (.aload_n 2, 1) := by decide +kernel
theorem d_prog_61_method_2_code_1 : decode prog_61_method_2_code 1 = .ok (.getstatic 19, 3) := by decide +kernel
theorem d_prog_61_method_2_code_4 : decode prog_61_method_2_code 4 = .ok (.if_acmp .ne 11, 3) := by decide +kernel
theorem d_prog_61_method_2_code_7 : decode prog_61_method_2_code 7 = .ok (.aload_n 0, 1) := by decide +kernel
theorem d_prog_61_method_2_code_8 : decode prog_61_method_2_code 8 = .ok (.getfield 16, 3) := by decide +kernel
theorem d_prog_61_method_2_code_11 : decode prog_61_method_2_code 11 = .ok (.astore_n 3, 1) := by decide +kernel
theorem d_prog_61_method_2_code_12 : decode prog_61_method_2_code 12 = .ok (.goto 23, 3) := by decide +kernel
theorem d_prog_61_method_2_code_35 : decode prog_61_method_2_code 35 = .ok (.aload_n 3, 1) := by decide +kernel
theorem d_prog_61_method_2_code_36 : decode prog_61_method_2_code 36 = .ok (.areturn, 1) := by decide +kernel
theorem d_prog_61_method_2_code_15 : decode prog_61_method_2_code 15 = .ok (.aload_n 1, 1) := by decide +kernel
theorem d_prog_61_method_2_code_16 : decode prog_61_method_2_code 16 = .ok (.getstatic 25, 3) := by decide +kernel
theorem d_prog_61_method_2_code_19 : decode prog_61_method_2_code 19 = .ok (.if_acmp .ne 11, 3) := by decide +kernel
theorem d_prog_61_method_2_code_22 : decode prog_61_method_2_code 22 = .ok (.aload_n 0, 1) := by decide +kernel
theorem d_prog_61_method_2_code_23 : decode prog_61_method_2_code 23 = .ok (.getfield 7, 3) := by decide +kernel
theorem d_prog_61_method_2_code_26 : decode prog_61_method_2_code 26 = .ok (.astore_n 3, 1) := by decide +kernel
theorem d_prog_61_method_2_code_27 : decode prog_61_method_2_code 27 = .ok (.goto 8, 3) := by decide +kernel
theorem d_prog_61_method_2_code_30 : decode prog_61_method_2_code 30 = .ok (.aload_n 0, 1) := by decide +kernel
theorem d_prog_61_method_2_code_31 : decode prog_61_method_2_code 31 = .ok (.getfield 13, 3) := by decide +kernel
theorem d_prog_61_method_2_code_34 : decode prog_61_method_2_code 34 = .ok (.astore_n 3, 1) := by decide +kernel
set_option maxRecDepth 65536 in
set_option maxHeartbeats 40000000 in
theorem rm_of (l : Launch) (Z : State) (a0 : Array Value) (hw : ∀ d ∈ tables_1, d.before a0 Z = true) (ws : List Jvm.Cond) (a : Addr) (ss : Addr) (kk : Addr) (f1 : Addr) (f2 : Addr) (f3 : Addr) (adj : Addr) (spr : Addr) (h0 : Heap) (n0 : Nat) (Z0 : n0 ≤ h0.size) (O0 : Old Z n0 h0) (F_0 : Fld Z h0 a "com/example/sealed_orders/sealedorders/rules/SeasonNames" "first" "Ljava/lang/String;" (.ref f1)) (F_1 : Fld Z h0 a "com/example/sealed_orders/sealedorders/rules/SeasonNames" "second" "Ljava/lang/String;" (.ref f2)) (F_2 : Fld Z h0 a "com/example/sealed_orders/sealedorders/rules/SeasonNames" "adjustment" "Ljava/lang/String;" (.ref f3)) (S_adj : Sta Z Z.heap "com/example/sealed_orders/sealedorders/rules/Phase$Kind" "ADJUSTMENT" "Lcom/example/sealed_orders/sealedorders/rules/Phase$Kind;" (.ref adj)) (S_spr : Sta Z Z.heap "com/example/sealed_orders/sealedorders/rules/Phase$Season" "SPRING" "Lcom/example/sealed_orders/sealedorders/rules/Phase$Season;" (.ref spr)) :
    Ctr l Z (⟨"com/example/sealed_orders/sealedorders/rules/SeasonNames", "of", "(Lcom/example/sealed_orders/sealedorders/rules/Phase$Season;Lcom/example/sealed_orders/sealedorders/rules/Phase$Kind;)Ljava/lang/String;"⟩ : MethodName) prog_61_method_2_code 4 ((Option.some (Jvm.ClassFile.FieldType.object "java/lang/String"))) ws ({ frames := 0, cells := 0, slots := 0, locals := 0 } : Room) #[(.ref a), (.ref ss), (.ref kk)] h0 (fun v h L => ∃ r : Addr, v = some (.ref r) ∧ Fr n0 L ∧ Keep h0 h [] ∧ (kk = adj → r = f3) ∧ (¬ kk = adj → ss = spr → r = f1) ∧ (¬ kk = adj → ¬ ss = spr → r = f2)) := by
  refine Ctr.of (MetFree.of_bodySF (plainFor_of_name pn_46) hisR ?_)
  intro p e s m args below meth c s₁ Bd hml0 hP hK
  obtain ⟨rfl, hZ, hh⟩ := hP
  have hx := Bd.exec
  have hby := Bd.bytes
  have hml : c.maxLocals = 4 := hml0
  have hown : s.vm.findClass "com/example/sealed_orders/sealedorders/rules/SeasonNames" = some m.cls := findClass_of_methodNamed Bd.named
  have hnm := (name_of_methodNamed Bd.named Bd.method).1
  have X0 : Stand p l e ({ frames := 0, cells := 0, slots := 0, locals := 0 } : Room) s m #[(.ref a), (.ref ss), (.ref kk)] below meth c s₁ [] 0 0 := Stand.of_body Bd
  have e0 : s₁.heap = h0 := by rw [← hh, Bd.state]; rfl
  have N0 := Fr.nil n0
  have K0 : Keep h0 h0 [] := Keep.refl h0 []
  show OwnGo p e below s (fun v h L => ∃ r : Addr, v = some (.ref r) ∧ Fr n0 L ∧ Keep h0 h [] ∧ (kk = adj → r = f3) ∧ (¬ kk = adj → ss = spr → r = f1) ∧ (¬ kk = adj → ¬ ss = spr → r = f2)) ({ frames := 0, cells := 0, slots := 0, locals := 0 } : Room).cells ({ frames := 0, cells := 0, slots := 0, locals := 0 } : Room).slots _
  refine gs (S' := s₁.setTop (mkF m 0 #[.val (.ref a), .val (.ref ss), .val (.ref kk), .unset] [])) (fun tg kg => castTop (ef_47 m a ss kk) kg) ?_
  have c1 : ∀ tg, Steps p.tables e below (s₁.setTop (mkF m 1 #[.val (.ref a), .val (.ref ss), .val (.ref kk), .unset] [(.ref kk)])) tg → Steps p.tables e below (s₁.setTop (mkF m 0 #[.val (.ref a), .val (.ref ss), .val (.ref kk), .unset] [])) tg := fun tg kg => by
    refine XS.aloadN X0.here hx rfl (hb hby d_prog_61_method_2_code_0) rfl rfl ?_
    show Steps p.tables e below (s₁.setTop (mkF m 1 #[.val (.ref a), .val (.ref ss), .val (.ref kk), .unset] [(.ref kk)])) tg
    exact kg
  refine gs c1 ?_
  obtain ⟨T2, X2, e2, st2⟩ := getS2 X0 hx hZ hown (host := "") (Or.inl (hw _ (List.mem_of_getElem? (i := 64) rfl))) Via.refl e0 (S_adj.ext O0.2) (g := (mkF m 1 #[.val (.ref a), .val (.ref ss), .val (.ref kk), .unset] [(.ref kk)])) rfl (hb hby d_prog_61_method_2_code_1)
  refine gs st2 ?_
  show OwnGo p e below s _ _ _ (T2.setTop (mkF m 4 #[.val (.ref a), .val (.ref ss), .val (.ref kk), .unset] [(.ref adj), (.ref kk)]))
  by_cases hc3 : kk = adj
  · have c4 : ∀ tg, Steps p.tables e below (T2.setTop (mkF m 8 #[.val (.ref a), .val (.ref ss), .val (.ref kk), .unset] [(.ref a)])) tg → Steps p.tables e below (T2.setTop (mkF m 4 #[.val (.ref a), .val (.ref ss), .val (.ref kk), .unset] [(.ref adj), (.ref kk)])) tg := fun tg kg => by
      refine Jvm.RoadKit.acmp (g := (mkF m 4 #[.val (.ref a), .val (.ref ss), .val (.ref kk), .unset] [(.ref adj), (.ref kk)])) X2 hx rfl rfl rfl (pc0 := 4) (pc' := 7) (same := true) rfl (hb hby d_prog_61_method_2_code_4) rfl (decide_eq_true (congrArg Value.ref hc3)) (by decide) (by decide) ?_
      show Steps p.tables e below (T2.setTop (mkF m 7 #[.val (.ref a), .val (.ref ss), .val (.ref kk), .unset] [])) tg
      refine XS.aloadN X2.here hx rfl (hb hby d_prog_61_method_2_code_7) rfl rfl ?_
      show Steps p.tables e below (T2.setTop (mkF m 8 #[.val (.ref a), .val (.ref ss), .val (.ref kk), .unset] [(.ref a)])) tg
      exact kg
    refine gs c4 ?_
    obtain ⟨T5, X5, e5, st5⟩ := getF X2 hx hZ hown (host := "") (Or.inl (hw _ (List.mem_of_getElem? (i := 50) rfl))) Via.refl e2 F_2 (g := (mkF m 8 #[.val (.ref a), .val (.ref ss), .val (.ref kk), .unset] [(.ref a)])) rfl rfl (hb hby d_prog_61_method_2_code_8)
    refine gs st5 ?_
    show OwnGo p e below s _ _ _ (T5.setTop (mkF m 11 #[.val (.ref a), .val (.ref ss), .val (.ref kk), .unset] [(.ref f3)]))
    have c6 : ∀ tg, Steps p.tables e below (T5.setTop (mkF m 36 #[.val (.ref a), .val (.ref ss), .val (.ref kk), .val (.ref f3)] [(.ref f3)])) tg → Steps p.tables e below (T5.setTop (mkF m 11 #[.val (.ref a), .val (.ref ss), .val (.ref kk), .unset] [(.ref f3)])) tg := fun tg kg => by
      refine XS.astoreN X5.here hx rfl (hb hby d_prog_61_method_2_code_11) rfl rfl (l' := #[.val (.ref a), .val (.ref ss), .val (.ref kk), .val (.ref f3)]) rfl ?_
      show Steps p.tables e below (T5.setTop (mkF m 12 #[.val (.ref a), .val (.ref ss), .val (.ref kk), .val (.ref f3)] [])) tg
      refine XS.goto X5.here hx rfl (pc0 := 12) (pc' := 35) rfl (hb hby d_prog_61_method_2_code_12) (by decide) (by decide) ?_
      show Steps p.tables e below (T5.setTop (mkF m 35 #[.val (.ref a), .val (.ref ss), .val (.ref kk), .val (.ref f3)] [])) tg
      refine XS.aloadN X5.here hx rfl (hb hby d_prog_61_method_2_code_35) rfl rfl ?_
      show Steps p.tables e below (T5.setTop (mkF m 36 #[.val (.ref a), .val (.ref ss), .val (.ref kk), .val (.ref f3)] [(.ref f3)])) tg
      exact kg
    refine gs c6 ?_
    refine gout (v := some (.ref f3)) X5 Bd.notSynchronized (fun h => by rw [Bd.returns] at h; cases h) (by decide) (by decide) ?_ (fun fs hr => retOut X5 hx Bd.returns rfl (Or.inr (Or.inr (Or.inr (Or.inr ⟨rfl, rfl, rfl⟩)))) (hb hby d_prog_61_method_2_code_36) hr)
    rw [e5]
    exact ⟨_, rfl, N0, K0, by simp_all, by simp_all, by simp_all⟩
  · have c7 : ∀ tg, Steps p.tables e below (T2.setTop (mkF m 16 #[.val (.ref a), .val (.ref ss), .val (.ref kk), .unset] [(.ref ss)])) tg → Steps p.tables e below (T2.setTop (mkF m 4 #[.val (.ref a), .val (.ref ss), .val (.ref kk), .unset] [(.ref adj), (.ref kk)])) tg := fun tg kg => by
      refine Jvm.RoadKit.acmp (g := (mkF m 4 #[.val (.ref a), .val (.ref ss), .val (.ref kk), .unset] [(.ref adj), (.ref kk)])) X2 hx rfl rfl rfl (pc0 := 4) (pc' := 15) (same := false) rfl (hb hby d_prog_61_method_2_code_4) rfl (decide_eq_false fun q => hc3 (Value.ref.inj q)) (by decide) (by decide) ?_
      show Steps p.tables e below (T2.setTop (mkF m 15 #[.val (.ref a), .val (.ref ss), .val (.ref kk), .unset] [])) tg
      refine XS.aloadN X2.here hx rfl (hb hby d_prog_61_method_2_code_15) rfl rfl ?_
      show Steps p.tables e below (T2.setTop (mkF m 16 #[.val (.ref a), .val (.ref ss), .val (.ref kk), .unset] [(.ref ss)])) tg
      exact kg
    refine gs c7 ?_
    obtain ⟨T8, X8, e8, st8⟩ := getS2 X2 hx hZ hown (host := "") (Or.inl (hw _ (List.mem_of_getElem? (i := 66) rfl))) Via.refl e2 (S_spr.ext O0.2) (g := (mkF m 16 #[.val (.ref a), .val (.ref ss), .val (.ref kk), .unset] [(.ref ss)])) rfl (hb hby d_prog_61_method_2_code_16)
    refine gs st8 ?_
    show OwnGo p e below s _ _ _ (T8.setTop (mkF m 19 #[.val (.ref a), .val (.ref ss), .val (.ref kk), .unset] [(.ref spr), (.ref ss)]))
    by_cases hc9 : ss = spr
    · have c10 : ∀ tg, Steps p.tables e below (T8.setTop (mkF m 23 #[.val (.ref a), .val (.ref ss), .val (.ref kk), .unset] [(.ref a)])) tg → Steps p.tables e below (T8.setTop (mkF m 19 #[.val (.ref a), .val (.ref ss), .val (.ref kk), .unset] [(.ref spr), (.ref ss)])) tg := fun tg kg => by
        refine Jvm.RoadKit.acmp (g := (mkF m 19 #[.val (.ref a), .val (.ref ss), .val (.ref kk), .unset] [(.ref spr), (.ref ss)])) X8 hx rfl rfl rfl (pc0 := 19) (pc' := 22) (same := true) rfl (hb hby d_prog_61_method_2_code_19) rfl (decide_eq_true (congrArg Value.ref hc9)) (by decide) (by decide) ?_
        show Steps p.tables e below (T8.setTop (mkF m 22 #[.val (.ref a), .val (.ref ss), .val (.ref kk), .unset] [])) tg
        refine XS.aloadN X8.here hx rfl (hb hby d_prog_61_method_2_code_22) rfl rfl ?_
        show Steps p.tables e below (T8.setTop (mkF m 23 #[.val (.ref a), .val (.ref ss), .val (.ref kk), .unset] [(.ref a)])) tg
        exact kg
      refine gs c10 ?_
      obtain ⟨T11, X11, e11, st11⟩ := getF X8 hx hZ hown (host := "") (Or.inl (hw _ (List.mem_of_getElem? (i := 46) rfl))) Via.refl e8 F_0 (g := (mkF m 23 #[.val (.ref a), .val (.ref ss), .val (.ref kk), .unset] [(.ref a)])) rfl rfl (hb hby d_prog_61_method_2_code_23)
      refine gs st11 ?_
      show OwnGo p e below s _ _ _ (T11.setTop (mkF m 26 #[.val (.ref a), .val (.ref ss), .val (.ref kk), .unset] [(.ref f1)]))
      have c12 : ∀ tg, Steps p.tables e below (T11.setTop (mkF m 36 #[.val (.ref a), .val (.ref ss), .val (.ref kk), .val (.ref f1)] [(.ref f1)])) tg → Steps p.tables e below (T11.setTop (mkF m 26 #[.val (.ref a), .val (.ref ss), .val (.ref kk), .unset] [(.ref f1)])) tg := fun tg kg => by
        refine XS.astoreN X11.here hx rfl (hb hby d_prog_61_method_2_code_26) rfl rfl (l' := #[.val (.ref a), .val (.ref ss), .val (.ref kk), .val (.ref f1)]) rfl ?_
        show Steps p.tables e below (T11.setTop (mkF m 27 #[.val (.ref a), .val (.ref ss), .val (.ref kk), .val (.ref f1)] [])) tg
        refine XS.goto X11.here hx rfl (pc0 := 27) (pc' := 35) rfl (hb hby d_prog_61_method_2_code_27) (by decide) (by decide) ?_
        show Steps p.tables e below (T11.setTop (mkF m 35 #[.val (.ref a), .val (.ref ss), .val (.ref kk), .val (.ref f1)] [])) tg
        refine XS.aloadN X11.here hx rfl (hb hby d_prog_61_method_2_code_35) rfl rfl ?_
        show Steps p.tables e below (T11.setTop (mkF m 36 #[.val (.ref a), .val (.ref ss), .val (.ref kk), .val (.ref f1)] [(.ref f1)])) tg
        exact kg
      refine gs c12 ?_
      refine gout (v := some (.ref f1)) X11 Bd.notSynchronized (fun h => by rw [Bd.returns] at h; cases h) (by decide) (by decide) ?_ (fun fs hr => retOut X11 hx Bd.returns rfl (Or.inr (Or.inr (Or.inr (Or.inr ⟨rfl, rfl, rfl⟩)))) (hb hby d_prog_61_method_2_code_36) hr)
      rw [e11]
      exact ⟨_, rfl, N0, K0, by simp_all, by simp_all, by simp_all⟩
    · have c13 : ∀ tg, Steps p.tables e below (T8.setTop (mkF m 31 #[.val (.ref a), .val (.ref ss), .val (.ref kk), .unset] [(.ref a)])) tg → Steps p.tables e below (T8.setTop (mkF m 19 #[.val (.ref a), .val (.ref ss), .val (.ref kk), .unset] [(.ref spr), (.ref ss)])) tg := fun tg kg => by
        refine Jvm.RoadKit.acmp (g := (mkF m 19 #[.val (.ref a), .val (.ref ss), .val (.ref kk), .unset] [(.ref spr), (.ref ss)])) X8 hx rfl rfl rfl (pc0 := 19) (pc' := 30) (same := false) rfl (hb hby d_prog_61_method_2_code_19) rfl (decide_eq_false fun q => hc9 (Value.ref.inj q)) (by decide) (by decide) ?_
        show Steps p.tables e below (T8.setTop (mkF m 30 #[.val (.ref a), .val (.ref ss), .val (.ref kk), .unset] [])) tg
        refine XS.aloadN X8.here hx rfl (hb hby d_prog_61_method_2_code_30) rfl rfl ?_
        show Steps p.tables e below (T8.setTop (mkF m 31 #[.val (.ref a), .val (.ref ss), .val (.ref kk), .unset] [(.ref a)])) tg
        exact kg
      refine gs c13 ?_
      obtain ⟨T14, X14, e14, st14⟩ := getF X8 hx hZ hown (host := "") (Or.inl (hw _ (List.mem_of_getElem? (i := 48) rfl))) Via.refl e8 F_1 (g := (mkF m 31 #[.val (.ref a), .val (.ref ss), .val (.ref kk), .unset] [(.ref a)])) rfl rfl (hb hby d_prog_61_method_2_code_31)
      refine gs st14 ?_
      show OwnGo p e below s _ _ _ (T14.setTop (mkF m 34 #[.val (.ref a), .val (.ref ss), .val (.ref kk), .unset] [(.ref f2)]))
      have c15 : ∀ tg, Steps p.tables e below (T14.setTop (mkF m 36 #[.val (.ref a), .val (.ref ss), .val (.ref kk), .val (.ref f2)] [(.ref f2)])) tg → Steps p.tables e below (T14.setTop (mkF m 34 #[.val (.ref a), .val (.ref ss), .val (.ref kk), .unset] [(.ref f2)])) tg := fun tg kg => by
        refine XS.astoreN X14.here hx rfl (hb hby d_prog_61_method_2_code_34) rfl rfl (l' := #[.val (.ref a), .val (.ref ss), .val (.ref kk), .val (.ref f2)]) rfl ?_
        show Steps p.tables e below (T14.setTop (mkF m 35 #[.val (.ref a), .val (.ref ss), .val (.ref kk), .val (.ref f2)] [])) tg
        refine XS.aloadN X14.here hx rfl (hb hby d_prog_61_method_2_code_35) rfl rfl ?_
        show Steps p.tables e below (T14.setTop (mkF m 36 #[.val (.ref a), .val (.ref ss), .val (.ref kk), .val (.ref f2)] [(.ref f2)])) tg
        exact kg
      refine gs c15 ?_
      refine gout (v := some (.ref f2)) X14 Bd.notSynchronized (fun h => by rw [Bd.returns] at h; cases h) (by decide) (by decide) ?_ (fun fs hr => retOut X14 hx Bd.returns rfl (Or.inr (Or.inr (Or.inr (Or.inr ⟨rfl, rfl, rfl⟩)))) (hb hby d_prog_61_method_2_code_36) hr)
      rw [e14]
      exact ⟨_, rfl, N0, K0, by simp_all, by simp_all, by simp_all⟩
theorem ef_67 (m : MethodId) (x0 : Int32) (x1 : Int32) (x2 : Int32) (x3 : Int32) : entryFrame m #[(.int x0), (.int x1), (.int x2), (.int x3)] maxLocals = mkF m 0 #[.val (.int x0), .val (.int x1), .val (.int x2), .val (.int x3), .unset, .unset, .unset, .unset, .unset, .unset, .unset, .unset, .unset, .unset] [] := by first | (simp [entryFrame, mkF, argsToLocals, Value.category, maxLocals]; done) | rfl
theorem pd_68 : parseMethodDescriptor "(I)Ljava/lang/String;" = some ⟨[.int], some (.object "java/lang/String")⟩ := by decide +kernel
theorem pd_69 : parseMethodDescriptor "(Ljava/lang/String;Ljava/lang/String;Ljava/lang/String;)V" = some ⟨[(.object "java/lang/String"), (.object "java/lang/String"), (.object "java/lang/String")], none⟩ := by decide +kernel
theorem pd_70 : parseMethodDescriptor "(Lcom/example/sealed_orders/sealedorders/rules/Phase$Season;Lcom/example/sealed_orders/sealedorders/rules/Phase$Kind;)Ljava/lang/String;" = some ⟨[(.object "com/example/sealed_orders/sealedorders/rules/Phase$Season"), (.object "com/example/sealed_orders/sealedorders/rules/Phase$Kind")], some (.object "java/lang/String")⟩ := by decide +kernel
set_option maxRecDepth 65536 in
set_option maxHeartbeats 40000000 in
theorem rm_law (l : Launch) (Z : State) (a0 : Array Value) (hw : ∀ d ∈ tables_1, d.before a0 Z = true) (ws : List Jvm.Cond) (i0 : Int32) (i1 : Int32) (i2 : Int32) (i3 : Int32) (z : Int32) (emov : Addr) (eret : Addr) (eadj : Addr) (espr : Addr) (efal : Addr) (h0 : Heap) (n0 : Nat) (Z0 : n0 ≤ h0.size) (O0 : Old Z n0 h0) (S0 : Sta Z Z.heap "java/lang/String" "COMPACT_STRINGS" "Z" (.int z)) (hz : ¬ z = 0) (S_mov : Sta Z Z.heap "com/example/sealed_orders/sealedorders/rules/Phase$Kind" "MOVEMENT" "Lcom/example/sealed_orders/sealedorders/rules/Phase$Kind;" (.ref emov)) (S_ret : Sta Z Z.heap "com/example/sealed_orders/sealedorders/rules/Phase$Kind" "RETREAT" "Lcom/example/sealed_orders/sealedorders/rules/Phase$Kind;" (.ref eret)) (S_adj : Sta Z Z.heap "com/example/sealed_orders/sealedorders/rules/Phase$Kind" "ADJUSTMENT" "Lcom/example/sealed_orders/sealedorders/rules/Phase$Kind;" (.ref eadj)) (S_spr : Sta Z Z.heap "com/example/sealed_orders/sealedorders/rules/Phase$Season" "SPRING" "Lcom/example/sealed_orders/sealedorders/rules/Phase$Season;" (.ref espr)) (S_fal : Sta Z Z.heap "com/example/sealed_orders/sealedorders/rules/Phase$Season" "FALL" "Lcom/example/sealed_orders/sealedorders/rules/Phase$Season;" (.ref efal)) (n_ma : ¬ emov = eadj) (n_ra : ¬ eret = eadj) (n_fs : ¬ efal = espr) :
    Ctr l Z x code maxLocals ret ws room_1 #[(.int i0), (.int i1), (.int i2), (.int i3)] h0 (fun v h L => v = some (.int 1) ∧ Fr n0 L) := by
  refine Ctr.of (MetFree.of_bodySF (plainFor_of_name pn_31) hisR ?_)
  intro p e s m args below meth c s₁ Bd hml0 hP hK
  obtain ⟨rfl, hZ, hh⟩ := hP
  have hx := Bd.exec
  have hby := Bd.bytes
  have hml : c.maxLocals = 14 := hml0
  have hown : s.vm.findClass "com/example/sealed_orders/sealedorders/rules/SeasonNamesOfPinLaw" = some m.cls := findClass_of_methodNamed Bd.named
  have hnm := (name_of_methodNamed Bd.named Bd.method).1
  have X0 : Stand p l e room_1 s m #[(.int i0), (.int i1), (.int i2), (.int i3)] below meth c s₁ [] 0 0 := Stand.of_body Bd
  have e0 : s₁.heap = h0 := by rw [← hh, Bd.state]; rfl
  have N0 := Fr.nil n0
  have K0 : Keep h0 h0 [] := Keep.refl h0 []
  show OwnGo p e below s (fun v h L => v = some (.int 1) ∧ Fr n0 L) room_1.cells room_1.slots _
  refine gs (S' := s₁.setTop (mkF m 0 #[.val (.int i0), .val (.int i1), .val (.int i2), .val (.int i3), .unset, .unset, .unset, .unset, .unset, .unset, .unset, .unset, .unset, .unset] [])) (fun tg kg => castTop (ef_67 m i0 i1 i2 i3) kg) ?_
  have c1 : ∀ tg, Steps p.tables e below (s₁.setTop (mkF m 1 #[.val (.int i0), .val (.int i1), .val (.int i2), .val (.int i3), .unset, .unset, .unset, .unset, .unset, .unset, .unset, .unset, .unset, .unset] [(.int i0)])) tg → Steps p.tables e below (s₁.setTop (mkF m 0 #[.val (.int i0), .val (.int i1), .val (.int i2), .val (.int i3), .unset, .unset, .unset, .unset, .unset, .unset, .unset, .unset, .unset, .unset] [])) tg := fun tg kg => by
    refine XS.iloadN X0.here hx rfl (hb hby at_0) rfl ?_
    show Steps p.tables e below (s₁.setTop (mkF m 1 #[.val (.int i0), .val (.int i1), .val (.int i2), .val (.int i3), .unset, .unset, .unset, .unset, .unset, .unset, .unset, .unset, .unset, .unset] [(.int i0)])) tg
    exact kg
  refine gs c1 ?_
  obtain ⟨_, _, ⟨T2, L2, k2, n2⟩, -, X2, ⟨Lc2, hQ2, l2, y2, z2⟩, st2⟩ := Jvm.LawKit.callS X0 hx (y := (⟨"com/example/sealed_orders/sealedorders/rules/SeasonNamesOfPinLaw", "str", "(I)Ljava/lang/String;"⟩ : MethodName)) hown (mvT hZ (hw _ (List.mem_of_getElem? (i := 0) rfl))) (mvT hZ (hw _ (List.mem_of_getElem? (i := 1) rfl))) (mvT hZ (hw _ (List.mem_of_getElem? (i := 2) rfl))) (mvT hZ (hw _ (List.mem_of_getElem? (i := 3) rfl))) (by decide) (backC (W := 0) (rm_str l Z a0 hw [] i0 z h0 n0 Z0 O0 S0 hz) hZ (hw _ (List.mem_of_getElem? (i := 3) rfl)) (hw _ (List.mem_of_getElem? (i := 2) rfl)) (by decide) (by decide)) (g := (mkF m 1 #[.val (.int i0), .val (.int i1), .val (.int i2), .val (.int i3), .unset, .unset, .unset, .unset, .unset, .unset, .unset, .unset, .unset, .unset] [(.int i0)])) rfl (by rw [hml]; rfl) (argsL := [(.int i0)]) (rest := []) (lenOf pd_68 rfl) rfl (by show 2 * 0 + _ ≤ _; exact Nat.le_of_eq rfl) (hb hby at_1) (fun _ _ => ⟨rfl, e0, (by decide : 0 + 3 ≤ _), (by decide : 0 + 8 ≤ _)⟩)
  dsimp only [Pt.U, Pt.locs, Pt.cells, Pt.slots] at X2 l2 y2 z2 st2 hQ2
  subst l2 y2 z2
  obtain ⟨a2, rfl, N2q, K2q⟩ := hQ2
  have N2 := Fr.app N0 N2q
  have Z3 : n0 ≤ T2.heap.size := Nat.le_trans Z0 K2q.1
  have O3 : Old Z n0 T2.heap := O0.keep K2q all0
  have K3 : Keep h0 T2.heap [] := K0.trans K2q all0
  refine gs st2 ?_
  show OwnGo p e below s _ _ _ (T2.setTop (mkF m 4 #[.val (.int i0), .val (.int i1), .val (.int i2), .val (.int i3), .unset, .unset, .unset, .unset, .unset, .unset, .unset, .unset, .unset, .unset] [(.ref a2)]))
  have c4 : ∀ tg, Steps p.tables e below (T2.setTop (mkF m 7 #[.val (.int i0), .val (.int i1), .val (.int i2), .val (.int i3), .val (.ref a2), .unset, .unset, .unset, .unset, .unset, .unset, .unset, .unset, .unset] [(.int i1)])) tg → Steps p.tables e below (T2.setTop (mkF m 4 #[.val (.int i0), .val (.int i1), .val (.int i2), .val (.int i3), .unset, .unset, .unset, .unset, .unset, .unset, .unset, .unset, .unset, .unset] [(.ref a2)])) tg := fun tg kg => by
    refine XS.astore X2.here hx rfl (hb hby at_4) rfl rfl (l' := #[.val (.int i0), .val (.int i1), .val (.int i2), .val (.int i3), .val (.ref a2), .unset, .unset, .unset, .unset, .unset, .unset, .unset, .unset, .unset]) rfl ?_
    show Steps p.tables e below (T2.setTop (mkF m 6 #[.val (.int i0), .val (.int i1), .val (.int i2), .val (.int i3), .val (.ref a2), .unset, .unset, .unset, .unset, .unset, .unset, .unset, .unset, .unset] [])) tg
    refine XS.iloadN X2.here hx rfl (hb hby at_6) rfl ?_
    show Steps p.tables e below (T2.setTop (mkF m 7 #[.val (.int i0), .val (.int i1), .val (.int i2), .val (.int i3), .val (.ref a2), .unset, .unset, .unset, .unset, .unset, .unset, .unset, .unset, .unset] [(.int i1)])) tg
    exact kg
  refine gs c4 ?_
  obtain ⟨_, _, ⟨T5, L5, k5, n5⟩, -, X5, ⟨Lc5, hQ5, l5, y5, z5⟩, st5⟩ := Jvm.LawKit.callS X2 hx (y := (⟨"com/example/sealed_orders/sealedorders/rules/SeasonNamesOfPinLaw", "str", "(I)Ljava/lang/String;"⟩ : MethodName)) hown (mvT hZ (hw _ (List.mem_of_getElem? (i := 0) rfl))) (mvT hZ (hw _ (List.mem_of_getElem? (i := 1) rfl))) (mvT hZ (hw _ (List.mem_of_getElem? (i := 2) rfl))) (mvT hZ (hw _ (List.mem_of_getElem? (i := 3) rfl))) (by decide) (backC (W := 0) (rm_str l Z a0 hw [] i1 z T2.heap n0 Z3 O3 S0 hz) hZ (hw _ (List.mem_of_getElem? (i := 3) rfl)) (hw _ (List.mem_of_getElem? (i := 2) rfl)) (by decide) (by decide)) (g := (mkF m 7 #[.val (.int i0), .val (.int i1), .val (.int i2), .val (.int i3), .val (.ref a2), .unset, .unset, .unset, .unset, .unset, .unset, .unset, .unset, .unset] [(.int i1)])) rfl (by rw [hml]; rfl) (argsL := [(.int i1)]) (rest := []) (lenOf pd_68 rfl) rfl (by show 2 * 0 + _ ≤ _; exact Nat.le_of_eq rfl) (hb hby at_7) (fun _ _ => ⟨rfl, rfl, (by decide : 3 + 3 ≤ _), (by decide : 8 + 8 ≤ _)⟩)
  dsimp only [Pt.U, Pt.locs, Pt.cells, Pt.slots] at X5 l5 y5 z5 st5 hQ5
  subst l5 y5 z5
  obtain ⟨a5, rfl, N5q, K5q⟩ := hQ5
  have N5 := Fr.app N2 N5q
  have Z6 : n0 ≤ T5.heap.size := Nat.le_trans Z3 K5q.1
  have O6 : Old Z n0 T5.heap := O3.keep K5q all0
  have K6 : Keep h0 T5.heap [] := K3.trans K5q all0
  refine gs st5 ?_
  show OwnGo p e below s _ _ _ (T5.setTop (mkF m 10 #[.val (.int i0), .val (.int i1), .val (.int i2), .val (.int i3), .val (.ref a2), .unset, .unset, .unset, .unset, .unset, .unset, .unset, .unset, .unset] [(.ref a5)]))
  have c7 : ∀ tg, Steps p.tables e below (T5.setTop (mkF m 13 #[.val (.int i0), .val (.int i1), .val (.int i2), .val (.int i3), .val (.ref a2), .val (.ref a5), .unset, .unset, .unset, .unset, .unset, .unset, .unset, .unset] [(.int i2)])) tg → Steps p.tables e below (T5.setTop (mkF m 10 #[.val (.int i0), .val (.int i1), .val (.int i2), .val (.int i3), .val (.ref a2), .unset, .unset, .unset, .unset, .unset, .unset, .unset, .unset, .unset] [(.ref a5)])) tg := fun tg kg => by
    refine XS.astore X5.here hx rfl (hb hby at_10) rfl rfl (l' := #[.val (.int i0), .val (.int i1), .val (.int i2), .val (.int i3), .val (.ref a2), .val (.ref a5), .unset, .unset, .unset, .unset, .unset, .unset, .unset, .unset]) rfl ?_
    show Steps p.tables e below (T5.setTop (mkF m 12 #[.val (.int i0), .val (.int i1), .val (.int i2), .val (.int i3), .val (.ref a2), .val (.ref a5), .unset, .unset, .unset, .unset, .unset, .unset, .unset, .unset] [])) tg
    refine XS.iloadN X5.here hx rfl (hb hby at_12) rfl ?_
    show Steps p.tables e below (T5.setTop (mkF m 13 #[.val (.int i0), .val (.int i1), .val (.int i2), .val (.int i3), .val (.ref a2), .val (.ref a5), .unset, .unset, .unset, .unset, .unset, .unset, .unset, .unset] [(.int i2)])) tg
    exact kg
  refine gs c7 ?_
  obtain ⟨_, _, ⟨T8, L8, k8, n8⟩, -, X8, ⟨Lc8, hQ8, l8, y8, z8⟩, st8⟩ := Jvm.LawKit.callS X5 hx (y := (⟨"com/example/sealed_orders/sealedorders/rules/SeasonNamesOfPinLaw", "str", "(I)Ljava/lang/String;"⟩ : MethodName)) hown (mvT hZ (hw _ (List.mem_of_getElem? (i := 0) rfl))) (mvT hZ (hw _ (List.mem_of_getElem? (i := 1) rfl))) (mvT hZ (hw _ (List.mem_of_getElem? (i := 2) rfl))) (mvT hZ (hw _ (List.mem_of_getElem? (i := 3) rfl))) (by decide) (backC (W := 0) (rm_str l Z a0 hw [] i2 z T5.heap n0 Z6 O6 S0 hz) hZ (hw _ (List.mem_of_getElem? (i := 3) rfl)) (hw _ (List.mem_of_getElem? (i := 2) rfl)) (by decide) (by decide)) (g := (mkF m 13 #[.val (.int i0), .val (.int i1), .val (.int i2), .val (.int i3), .val (.ref a2), .val (.ref a5), .unset, .unset, .unset, .unset, .unset, .unset, .unset, .unset] [(.int i2)])) rfl (by rw [hml]; rfl) (argsL := [(.int i2)]) (rest := []) (lenOf pd_68 rfl) rfl (by show 2 * 0 + _ ≤ _; exact Nat.le_of_eq rfl) (hb hby at_13) (fun _ _ => ⟨rfl, rfl, (by decide : 6 + 3 ≤ _), (by decide : 16 + 8 ≤ _)⟩)
  dsimp only [Pt.U, Pt.locs, Pt.cells, Pt.slots] at X8 l8 y8 z8 st8 hQ8
  subst l8 y8 z8
  obtain ⟨a8, rfl, N8q, K8q⟩ := hQ8
  have N8 := Fr.app N5 N8q
  have Z9 : n0 ≤ T8.heap.size := Nat.le_trans Z6 K8q.1
  have O9 : Old Z n0 T8.heap := O6.keep K8q all0
  have K9 : Keep h0 T8.heap [] := K6.trans K8q all0
  refine gs st8 ?_
  show OwnGo p e below s _ _ _ (T8.setTop (mkF m 16 #[.val (.int i0), .val (.int i1), .val (.int i2), .val (.int i3), .val (.ref a2), .val (.ref a5), .unset, .unset, .unset, .unset, .unset, .unset, .unset, .unset] [(.ref a8)]))
  have c10 : ∀ tg, Steps p.tables e below (T8.setTop (mkF m 18 #[.val (.int i0), .val (.int i1), .val (.int i2), .val (.int i3), .val (.ref a2), .val (.ref a5), .val (.ref a8), .unset, .unset, .unset, .unset, .unset, .unset, .unset] [])) tg → Steps p.tables e below (T8.setTop (mkF m 16 #[.val (.int i0), .val (.int i1), .val (.int i2), .val (.int i3), .val (.ref a2), .val (.ref a5), .unset, .unset, .unset, .unset, .unset, .unset, .unset, .unset] [(.ref a8)])) tg := fun tg kg => by
    refine XS.astore X8.here hx rfl (hb hby at_16) rfl rfl (l' := #[.val (.int i0), .val (.int i1), .val (.int i2), .val (.int i3), .val (.ref a2), .val (.ref a5), .val (.ref a8), .unset, .unset, .unset, .unset, .unset, .unset, .unset]) rfl ?_
    show Steps p.tables e below (T8.setTop (mkF m 18 #[.val (.int i0), .val (.int i1), .val (.int i2), .val (.int i3), .val (.ref a2), .val (.ref a5), .val (.ref a8), .unset, .unset, .unset, .unset, .unset, .unset, .unset] [])) tg
    exact kg
  refine gs c10 ?_
  obtain ⟨T11, h11, X11, e11, E11, A11, D11, -, st11⟩ := newO X8 hx hZ hown (hw _ (List.mem_of_getElem? (i := 34) rfl)) (hw _ (List.mem_of_getElem? (i := 35) rfl)) (hw _ (List.mem_of_getElem? (i := 36) rfl)) rfl (g := (mkF m 18 #[.val (.int i0), .val (.int i1), .val (.int i2), .val (.int i3), .val (.ref a2), .val (.ref a5), .val (.ref a8), .unset, .unset, .unset, .unset, .unset, .unset, .unset] [])) rfl (hb hby at_18) (by decide) (by decide)
  obtain ⟨b11, q11⟩ : ∃ z, z = T8.heap.size := ⟨_, rfl⟩
  rw [← q11] at A11 D11 st11
  have g_b11 : n0 ≤ b11 := Nat.le_trans Z9 (Nat.le_of_eq q11.symm)
  have sz_b11 : h0.size ≤ b11 := Nat.le_trans K9.1 (Nat.le_of_eq q11.symm)
  have Z12 : n0 ≤ h11.size := Nat.le_trans Z9 E11.1
  have O12 : Old Z n0 h11 := O9.ext E11
  have K12 : Keep h0 h11 [] := K9.ext E11
  have F_first_b11 : Fld Z h11 b11 "com/example/sealed_orders/sealedorders/rules/SeasonNames" "first" "Ljava/lang/String;" .null := D11 (Or.inr (hw _ (List.mem_of_getElem? (i := 47) rfl))) (ty := (.object "java/lang/String")) (by decide)
  have F_second_b11 : Fld Z h11 b11 "com/example/sealed_orders/sealedorders/rules/SeasonNames" "second" "Ljava/lang/String;" .null := D11 (Or.inr (hw _ (List.mem_of_getElem? (i := 49) rfl))) (ty := (.object "java/lang/String")) (by decide)
  have F_adjustment_b11 : Fld Z h11 b11 "com/example/sealed_orders/sealedorders/rules/SeasonNames" "adjustment" "Ljava/lang/String;" .null := D11 (Or.inr (hw _ (List.mem_of_getElem? (i := 51) rfl))) (ty := (.object "java/lang/String")) (by decide)
  refine gs st11 ?_
  show OwnGo p e below s _ _ _ (T11.setTop (mkF m 21 #[.val (.int i0), .val (.int i1), .val (.int i2), .val (.int i3), .val (.ref a2), .val (.ref a5), .val (.ref a8), .unset, .unset, .unset, .unset, .unset, .unset, .unset] [(.ref b11)]))
  have c13 : ∀ tg, Steps p.tables e below (T11.setTop (mkF m 28 #[.val (.int i0), .val (.int i1), .val (.int i2), .val (.int i3), .val (.ref a2), .val (.ref a5), .val (.ref a8), .unset, .unset, .unset, .unset, .unset, .unset, .unset] [(.ref a8), (.ref a5), (.ref a2), (.ref b11), (.ref b11)])) tg → Steps p.tables e below (T11.setTop (mkF m 21 #[.val (.int i0), .val (.int i1), .val (.int i2), .val (.int i3), .val (.ref a2), .val (.ref a5), .val (.ref a8), .unset, .unset, .unset, .unset, .unset, .unset, .unset] [(.ref b11)])) tg := fun tg kg => by
    refine XS.dup X11.here hx rfl (hb hby at_21) rfl rfl ?_
    show Steps p.tables e below (T11.setTop (mkF m 22 #[.val (.int i0), .val (.int i1), .val (.int i2), .val (.int i3), .val (.ref a2), .val (.ref a5), .val (.ref a8), .unset, .unset, .unset, .unset, .unset, .unset, .unset] [(.ref b11), (.ref b11)])) tg
    refine XS.aload X11.here hx rfl (hb hby at_22) rfl rfl ?_
    show Steps p.tables e below (T11.setTop (mkF m 24 #[.val (.int i0), .val (.int i1), .val (.int i2), .val (.int i3), .val (.ref a2), .val (.ref a5), .val (.ref a8), .unset, .unset, .unset, .unset, .unset, .unset, .unset] [(.ref a2), (.ref b11), (.ref b11)])) tg
    refine XS.aload X11.here hx rfl (hb hby at_24) rfl rfl ?_
    show Steps p.tables e below (T11.setTop (mkF m 26 #[.val (.int i0), .val (.int i1), .val (.int i2), .val (.int i3), .val (.ref a2), .val (.ref a5), .val (.ref a8), .unset, .unset, .unset, .unset, .unset, .unset, .unset] [(.ref a5), (.ref a2), (.ref b11), (.ref b11)])) tg
    refine XS.aload X11.here hx rfl (hb hby at_26) rfl rfl ?_
    show Steps p.tables e below (T11.setTop (mkF m 28 #[.val (.int i0), .val (.int i1), .val (.int i2), .val (.int i3), .val (.ref a2), .val (.ref a5), .val (.ref a8), .unset, .unset, .unset, .unset, .unset, .unset, .unset] [(.ref a8), (.ref a5), (.ref a2), (.ref b11), (.ref b11)])) tg
    exact kg
  refine gs c13 ?_
  obtain ⟨_, _, ⟨T14, L14, k14, n14⟩, -, X14, ⟨Lc14, hQ14, l14, y14, z14⟩, st14⟩ := X11.specialBack hx (y := (⟨"com/example/sealed_orders/sealedorders/rules/SeasonNames", "<init>", "(Ljava/lang/String;Ljava/lang/String;Ljava/lang/String;)V"⟩ : MethodName)) rfl hown (mvT hZ (hw _ (List.mem_of_getElem? (i := 37) rfl))) (mvT hZ (hw _ (List.mem_of_getElem? (i := 38) rfl))) (mvT hZ (hw _ (List.mem_of_getElem? (i := 39) rfl))) (by decide) (backC (W := 1) (rm_ini l Z a0 hw [] b11 a2 a5 a8 h11 n0 Z12 O12 A11 F_first_b11 F_second_b11 F_adjustment_b11 g_b11) hZ (hw _ (List.mem_of_getElem? (i := 39) rfl)) (hw _ (List.mem_of_getElem? (i := 36) rfl)) (by decide) (by decide)) (g := (mkF m 28 #[.val (.int i0), .val (.int i1), .val (.int i2), .val (.int i3), .val (.ref a2), .val (.ref a5), .val (.ref a8), .unset, .unset, .unset, .unset, .unset, .unset, .unset] [(.ref a8), (.ref a5), (.ref a2), (.ref b11), (.ref b11)])) rfl (by rw [hml]; rfl) (Steps.refl _) (a := b11) (argsL := [(.ref a2), (.ref a5), (.ref a8)]) (rest := [(.ref b11)]) (lenOf pd_69 rfl) rfl (by show 2 * 0 + _ ≤ _; exact Nat.le_of_eq rfl) (hb hby at_28) (fun _ _ => ⟨rfl, e11, (by decide : 10 + 0 ≤ _), (by decide : 27 + 0 ≤ _)⟩)
  dsimp only [Pt.U, Pt.locs, Pt.cells, Pt.slots] at X14 l14 y14 z14 st14 hQ14
  subst l14 y14 z14
  obtain ⟨rfl, N14q, K14q, F14_0, F14_1, F14_2⟩ := hQ14
  have N14 := Fr.app N8 N14q
  have Z15 : n0 ≤ T14.heap.size := Nat.le_trans Z12 K14q.1
  have O15 : Old Z n0 T14.heap := O12.keep K14q (allS g_b11 all0)
  have K15 : Keep h0 T14.heap [] := K12.trans K14q (allS (Or.inr sz_b11) all0)
  refine gs (fun _ k => st14.trans k) ?_
  show OwnGo p e below s _ _ _ (T14.setTop (mkF m 31 #[.val (.int i0), .val (.int i1), .val (.int i2), .val (.int i3), .val (.ref a2), .val (.ref a5), .val (.ref a8), .unset, .unset, .unset, .unset, .unset, .unset, .unset] [(.ref b11)]))
  have c16 : ∀ tg, Steps p.tables e below (T14.setTop (mkF m 42 #[.val (.int i0), .val (.int i1), .val (.int i2), .val (.int i3), .val (.ref a2), .val (.ref a5), .val (.ref a8), .val (.ref b11), .val (.int ((i3 &&& (2147483647 : Int32)) % (3 : Int32))), .unset, .unset, .unset, .unset, .unset] [(.int i3)])) tg → Steps p.tables e below (T14.setTop (mkF m 31 #[.val (.int i0), .val (.int i1), .val (.int i2), .val (.int i3), .val (.ref a2), .val (.ref a5), .val (.ref a8), .unset, .unset, .unset, .unset, .unset, .unset, .unset] [(.ref b11)])) tg := fun tg kg => by
    refine XS.astore X14.here hx rfl (hb hby at_31) rfl rfl (l' := #[.val (.int i0), .val (.int i1), .val (.int i2), .val (.int i3), .val (.ref a2), .val (.ref a5), .val (.ref a8), .val (.ref b11), .unset, .unset, .unset, .unset, .unset, .unset]) rfl ?_
    show Steps p.tables e below (T14.setTop (mkF m 33 #[.val (.int i0), .val (.int i1), .val (.int i2), .val (.int i3), .val (.ref a2), .val (.ref a5), .val (.ref a8), .val (.ref b11), .unset, .unset, .unset, .unset, .unset, .unset] [])) tg
    refine XS.iloadN X14.here hx rfl (hb hby at_33) rfl ?_
    show Steps p.tables e below (T14.setTop (mkF m 34 #[.val (.int i0), .val (.int i1), .val (.int i2), .val (.int i3), .val (.ref a2), .val (.ref a5), .val (.ref a8), .val (.ref b11), .unset, .unset, .unset, .unset, .unset, .unset] [(.int i3)])) tg
    refine X14.ldcInt hx hown (mvT hZ (hw _ (List.mem_of_getElem? (i := 52) rfl))) (g := (mkF m 34 #[.val (.int i0), .val (.int i1), .val (.int i2), .val (.int i3), .val (.ref a2), .val (.ref a5), .val (.ref a8), .val (.ref b11), .unset, .unset, .unset, .unset, .unset, .unset] [(.int i3)])) rfl (hb hby at_34) _ ?_
    show Steps p.tables e below (T14.setTop (mkF m 36 #[.val (.int i0), .val (.int i1), .val (.int i2), .val (.int i3), .val (.ref a2), .val (.ref a5), .val (.ref a8), .val (.ref b11), .unset, .unset, .unset, .unset, .unset, .unset] [(.int (2147483647 : Int32)), (.int i3)])) tg
    refine XS.iand X14.here hx rfl (hb hby at_36) rfl ?_
    show Steps p.tables e below (T14.setTop (mkF m 37 #[.val (.int i0), .val (.int i1), .val (.int i2), .val (.int i3), .val (.ref a2), .val (.ref a5), .val (.ref a8), .val (.ref b11), .unset, .unset, .unset, .unset, .unset, .unset] [(.int (i3 &&& (2147483647 : Int32)))])) tg
    refine XS.iconst X14.here hx rfl (hb hby at_37) ?_
    show Steps p.tables e below (T14.setTop (mkF m 38 #[.val (.int i0), .val (.int i1), .val (.int i2), .val (.int i3), .val (.ref a2), .val (.ref a5), .val (.ref a8), .val (.ref b11), .unset, .unset, .unset, .unset, .unset, .unset] [(.int (3 : Int32)), (.int (i3 &&& (2147483647 : Int32)))])) tg
    refine Jvm.RoadKit.iremM X14 hx (g := (mkF m 38 #[.val (.int i0), .val (.int i1), .val (.int i2), .val (.int i3), .val (.ref a2), .val (.ref a5), .val (.ref a8), .val (.ref b11), .unset, .unset, .unset, .unset, .unset, .unset] [(.int (3 : Int32)), (.int (i3 &&& (2147483647 : Int32)))])) rfl (hb hby at_38) rfl (by decide) ?_
    show Steps p.tables e below (T14.setTop (mkF m 39 #[.val (.int i0), .val (.int i1), .val (.int i2), .val (.int i3), .val (.ref a2), .val (.ref a5), .val (.ref a8), .val (.ref b11), .unset, .unset, .unset, .unset, .unset, .unset] [(.int ((i3 &&& (2147483647 : Int32)) % (3 : Int32)))])) tg
    refine XS.istore X14.here hx rfl (hb hby at_39) rfl (l' := #[.val (.int i0), .val (.int i1), .val (.int i2), .val (.int i3), .val (.ref a2), .val (.ref a5), .val (.ref a8), .val (.ref b11), .val (.int ((i3 &&& (2147483647 : Int32)) % (3 : Int32))), .unset, .unset, .unset, .unset, .unset]) rfl ?_
    show Steps p.tables e below (T14.setTop (mkF m 41 #[.val (.int i0), .val (.int i1), .val (.int i2), .val (.int i3), .val (.ref a2), .val (.ref a5), .val (.ref a8), .val (.ref b11), .val (.int ((i3 &&& (2147483647 : Int32)) % (3 : Int32))), .unset, .unset, .unset, .unset, .unset] [])) tg
    refine XS.iloadN X14.here hx rfl (hb hby at_41) rfl ?_
    show Steps p.tables e below (T14.setTop (mkF m 42 #[.val (.int i0), .val (.int i1), .val (.int i2), .val (.int i3), .val (.ref a2), .val (.ref a5), .val (.ref a8), .val (.ref b11), .val (.int ((i3 &&& (2147483647 : Int32)) % (3 : Int32))), .unset, .unset, .unset, .unset, .unset] [(.int i3)])) tg
    exact kg
  refine gs c16 ?_
  by_cases hc17 : i3 < (0 : Int32)
  · have c18 : ∀ tg, Steps p.tables e below (T14.setTop (mkF m 54 #[.val (.int i0), .val (.int i1), .val (.int i2), .val (.int i3), .val (.ref a2), .val (.ref a5), .val (.ref a8), .val (.ref b11), .val (.int ((i3 &&& (2147483647 : Int32)) % (3 : Int32))), .val (.int (0 : Int32)), .unset, .unset, .unset, .unset] [(.int ((i3 &&& (2147483647 : Int32)) % (3 : Int32)))])) tg → Steps p.tables e below (T14.setTop (mkF m 42 #[.val (.int i0), .val (.int i1), .val (.int i2), .val (.int i3), .val (.ref a2), .val (.ref a5), .val (.ref a8), .val (.ref b11), .val (.int ((i3 &&& (2147483647 : Int32)) % (3 : Int32))), .unset, .unset, .unset, .unset, .unset] [(.int i3)])) tg := fun tg kg => by
      refine XS.ifYes X14.here hx rfl (pc0 := 42) (pc' := 49) rfl (hb hby at_42) rfl ((if0 _ _).trans (tlt hc17).1) (by decide) (by decide) ?_
      show Steps p.tables e below (T14.setTop (mkF m 49 #[.val (.int i0), .val (.int i1), .val (.int i2), .val (.int i3), .val (.ref a2), .val (.ref a5), .val (.ref a8), .val (.ref b11), .val (.int ((i3 &&& (2147483647 : Int32)) % (3 : Int32))), .unset, .unset, .unset, .unset, .unset] [])) tg
      refine XS.iconst X14.here hx rfl (hb hby at_49) ?_
      show Steps p.tables e below (T14.setTop (mkF m 50 #[.val (.int i0), .val (.int i1), .val (.int i2), .val (.int i3), .val (.ref a2), .val (.ref a5), .val (.ref a8), .val (.ref b11), .val (.int ((i3 &&& (2147483647 : Int32)) % (3 : Int32))), .unset, .unset, .unset, .unset, .unset] [(.int (0 : Int32))])) tg
      refine XS.istore X14.here hx rfl (hb hby at_50) rfl (l' := #[.val (.int i0), .val (.int i1), .val (.int i2), .val (.int i3), .val (.ref a2), .val (.ref a5), .val (.ref a8), .val (.ref b11), .val (.int ((i3 &&& (2147483647 : Int32)) % (3 : Int32))), .val (.int (0 : Int32)), .unset, .unset, .unset, .unset]) rfl ?_
      show Steps p.tables e below (T14.setTop (mkF m 52 #[.val (.int i0), .val (.int i1), .val (.int i2), .val (.int i3), .val (.ref a2), .val (.ref a5), .val (.ref a8), .val (.ref b11), .val (.int ((i3 &&& (2147483647 : Int32)) % (3 : Int32))), .val (.int (0 : Int32)), .unset, .unset, .unset, .unset] [])) tg
      refine XS.iload X14.here hx rfl (hb hby at_52) rfl ?_
      show Steps p.tables e below (T14.setTop (mkF m 54 #[.val (.int i0), .val (.int i1), .val (.int i2), .val (.int i3), .val (.ref a2), .val (.ref a5), .val (.ref a8), .val (.ref b11), .val (.int ((i3 &&& (2147483647 : Int32)) % (3 : Int32))), .val (.int (0 : Int32)), .unset, .unset, .unset, .unset] [(.int ((i3 &&& (2147483647 : Int32)) % (3 : Int32)))])) tg
      exact kg
    refine gs c18 ?_
    by_cases hc19 : ((i3 &&& (2147483647 : Int32)) % (3 : Int32)) = (0 : Int32)
    · have c20 : ∀ tg, Steps p.tables e below (T14.setTop (mkF m 57 #[.val (.int i0), .val (.int i1), .val (.int i2), .val (.int i3), .val (.ref a2), .val (.ref a5), .val (.ref a8), .val (.ref b11), .val (.int ((i3 &&& (2147483647 : Int32)) % (3 : Int32))), .val (.int (0 : Int32)), .unset, .unset, .unset, .unset] [])) tg → Steps p.tables e below (T14.setTop (mkF m 54 #[.val (.int i0), .val (.int i1), .val (.int i2), .val (.int i3), .val (.ref a2), .val (.ref a5), .val (.ref a8), .val (.ref b11), .val (.int ((i3 &&& (2147483647 : Int32)) % (3 : Int32))), .val (.int (0 : Int32)), .unset, .unset, .unset, .unset] [(.int ((i3 &&& (2147483647 : Int32)) % (3 : Int32)))])) tg := fun tg kg => by
        refine XS.ifNo X14.here hx rfl (hb hby at_54) rfl ((if0 _ _).trans (teq hc19).2) ?_
        show Steps p.tables e below (T14.setTop (mkF m 57 #[.val (.int i0), .val (.int i1), .val (.int i2), .val (.int i3), .val (.ref a2), .val (.ref a5), .val (.ref a8), .val (.ref b11), .val (.int ((i3 &&& (2147483647 : Int32)) % (3 : Int32))), .val (.int (0 : Int32)), .unset, .unset, .unset, .unset] [])) tg
        exact kg
      refine gs c20 ?_
      obtain ⟨T21, X21, e21, st21⟩ := getS2 X14 hx hZ hown (host := "") (Or.inl (hw _ (List.mem_of_getElem? (i := 70) rfl))) Via.refl rfl (S_mov.ext O15.2) (g := (mkF m 57 #[.val (.int i0), .val (.int i1), .val (.int i2), .val (.int i3), .val (.ref a2), .val (.ref a5), .val (.ref a8), .val (.ref b11), .val (.int ((i3 &&& (2147483647 : Int32)) % (3 : Int32))), .val (.int (0 : Int32)), .unset, .unset, .unset, .unset] [])) rfl (hb hby at_57)
      refine gs st21 ?_
      show OwnGo p e below s _ _ _ (T21.setTop (mkF m 60 #[.val (.int i0), .val (.int i1), .val (.int i2), .val (.int i3), .val (.ref a2), .val (.ref a5), .val (.ref a8), .val (.ref b11), .val (.int ((i3 &&& (2147483647 : Int32)) % (3 : Int32))), .val (.int (0 : Int32)), .unset, .unset, .unset, .unset] [(.ref emov)]))
      have c22 : ∀ tg, Steps p.tables e below (T21.setTop (mkF m 97 #[.val (.int i0), .val (.int i1), .val (.int i2), .val (.int i3), .val (.ref a2), .val (.ref a5), .val (.ref a8), .val (.ref b11), .val (.int ((i3 &&& (2147483647 : Int32)) % (3 : Int32))), .val (.int (0 : Int32)), .val (.ref emov), .unset, .unset, .unset] [])) tg → Steps p.tables e below (T21.setTop (mkF m 60 #[.val (.int i0), .val (.int i1), .val (.int i2), .val (.int i3), .val (.ref a2), .val (.ref a5), .val (.ref a8), .val (.ref b11), .val (.int ((i3 &&& (2147483647 : Int32)) % (3 : Int32))), .val (.int (0 : Int32)), .unset, .unset, .unset, .unset] [(.ref emov)])) tg := fun tg kg => by
        refine XS.astore X21.here hx rfl (hb hby at_60) rfl rfl (l' := #[.val (.int i0), .val (.int i1), .val (.int i2), .val (.int i3), .val (.ref a2), .val (.ref a5), .val (.ref a8), .val (.ref b11), .val (.int ((i3 &&& (2147483647 : Int32)) % (3 : Int32))), .val (.int (0 : Int32)), .val (.ref emov), .unset, .unset, .unset]) rfl ?_
        show Steps p.tables e below (T21.setTop (mkF m 62 #[.val (.int i0), .val (.int i1), .val (.int i2), .val (.int i3), .val (.ref a2), .val (.ref a5), .val (.ref a8), .val (.ref b11), .val (.int ((i3 &&& (2147483647 : Int32)) % (3 : Int32))), .val (.int (0 : Int32)), .val (.ref emov), .unset, .unset, .unset] [])) tg
        refine XS.goto X21.here hx rfl (pc0 := 62) (pc' := 84) rfl (hb hby at_62) (by decide) (by decide) ?_
        show Steps p.tables e below (T21.setTop (mkF m 84 #[.val (.int i0), .val (.int i1), .val (.int i2), .val (.int i3), .val (.ref a2), .val (.ref a5), .val (.ref a8), .val (.ref b11), .val (.int ((i3 &&& (2147483647 : Int32)) % (3 : Int32))), .val (.int (0 : Int32)), .val (.ref emov), .unset, .unset, .unset] [])) tg
        refine XS.iload X21.here hx rfl (hb hby at_84) rfl ?_
        show Steps p.tables e below (T21.setTop (mkF m 86 #[.val (.int i0), .val (.int i1), .val (.int i2), .val (.int i3), .val (.ref a2), .val (.ref a5), .val (.ref a8), .val (.ref b11), .val (.int ((i3 &&& (2147483647 : Int32)) % (3 : Int32))), .val (.int (0 : Int32)), .val (.ref emov), .unset, .unset, .unset] [(.int (0 : Int32))])) tg
        refine XS.ifYes X21.here hx rfl (pc0 := 86) (pc' := 97) rfl (hb hby at_86) rfl ((if0 _ _).trans (teq (by decide : (0 : Int32) = (0 : Int32))).1) (by decide) (by decide) ?_
        show Steps p.tables e below (T21.setTop (mkF m 97 #[.val (.int i0), .val (.int i1), .val (.int i2), .val (.int i3), .val (.ref a2), .val (.ref a5), .val (.ref a8), .val (.ref b11), .val (.int ((i3 &&& (2147483647 : Int32)) % (3 : Int32))), .val (.int (0 : Int32)), .val (.ref emov), .unset, .unset, .unset] [])) tg
        exact kg
      refine gs c22 ?_
      obtain ⟨T23, X23, e23, st23⟩ := getS2 X21 hx hZ hown (host := "") (Or.inl (hw _ (List.mem_of_getElem? (i := 67) rfl))) Via.refl e21 (S_fal.ext O15.2) (g := (mkF m 97 #[.val (.int i0), .val (.int i1), .val (.int i2), .val (.int i3), .val (.ref a2), .val (.ref a5), .val (.ref a8), .val (.ref b11), .val (.int ((i3 &&& (2147483647 : Int32)) % (3 : Int32))), .val (.int (0 : Int32)), .val (.ref emov), .unset, .unset, .unset] [])) rfl (hb hby at_97)
      refine gs st23 ?_
      show OwnGo p e below s _ _ _ (T23.setTop (mkF m 100 #[.val (.int i0), .val (.int i1), .val (.int i2), .val (.int i3), .val (.ref a2), .val (.ref a5), .val (.ref a8), .val (.ref b11), .val (.int ((i3 &&& (2147483647 : Int32)) % (3 : Int32))), .val (.int (0 : Int32)), .val (.ref emov), .unset, .unset, .unset] [(.ref efal)]))
      have c24 : ∀ tg, Steps p.tables e below (T23.setTop (mkF m 137 #[.val (.int i0), .val (.int i1), .val (.int i2), .val (.int i3), .val (.ref a2), .val (.ref a5), .val (.ref a8), .val (.ref b11), .val (.int ((i3 &&& (2147483647 : Int32)) % (3 : Int32))), .val (.int (0 : Int32)), .val (.ref emov), .val (.ref efal), .val (.ref a5), .unset] [(.ref emov), (.ref efal), (.ref b11)])) tg → Steps p.tables e below (T23.setTop (mkF m 100 #[.val (.int i0), .val (.int i1), .val (.int i2), .val (.int i3), .val (.ref a2), .val (.ref a5), .val (.ref a8), .val (.ref b11), .val (.int ((i3 &&& (2147483647 : Int32)) % (3 : Int32))), .val (.int (0 : Int32)), .val (.ref emov), .unset, .unset, .unset] [(.ref efal)])) tg := fun tg kg => by
        refine XS.astore X23.here hx rfl (hb hby at_100) rfl rfl (l' := #[.val (.int i0), .val (.int i1), .val (.int i2), .val (.int i3), .val (.ref a2), .val (.ref a5), .val (.ref a8), .val (.ref b11), .val (.int ((i3 &&& (2147483647 : Int32)) % (3 : Int32))), .val (.int (0 : Int32)), .val (.ref emov), .val (.ref efal), .unset, .unset]) rfl ?_
        show Steps p.tables e below (T23.setTop (mkF m 102 #[.val (.int i0), .val (.int i1), .val (.int i2), .val (.int i3), .val (.ref a2), .val (.ref a5), .val (.ref a8), .val (.ref b11), .val (.int ((i3 &&& (2147483647 : Int32)) % (3 : Int32))), .val (.int (0 : Int32)), .val (.ref emov), .val (.ref efal), .unset, .unset] [])) tg
        refine XS.iload X23.here hx rfl (hb hby at_102) rfl ?_
        show Steps p.tables e below (T23.setTop (mkF m 104 #[.val (.int i0), .val (.int i1), .val (.int i2), .val (.int i3), .val (.ref a2), .val (.ref a5), .val (.ref a8), .val (.ref b11), .val (.int ((i3 &&& (2147483647 : Int32)) % (3 : Int32))), .val (.int (0 : Int32)), .val (.ref emov), .val (.ref efal), .unset, .unset] [(.int ((i3 &&& (2147483647 : Int32)) % (3 : Int32)))])) tg
        refine XS.iconst X23.here hx rfl (hb hby at_104) ?_
        show Steps p.tables e below (T23.setTop (mkF m 105 #[.val (.int i0), .val (.int i1), .val (.int i2), .val (.int i3), .val (.ref a2), .val (.ref a5), .val (.ref a8), .val (.ref b11), .val (.int ((i3 &&& (2147483647 : Int32)) % (3 : Int32))), .val (.int (0 : Int32)), .val (.ref emov), .val (.ref efal), .unset, .unset] [(.int (2 : Int32)), (.int ((i3 &&& (2147483647 : Int32)) % (3 : Int32)))])) tg
        refine XS.icmpYes X23.here hx rfl (pc0 := 105) (pc' := 115) rfl (hb hby at_105) rfl (feq (by rw [hc19]; decide)).2 (by decide) (by decide) ?_
        show Steps p.tables e below (T23.setTop (mkF m 115 #[.val (.int i0), .val (.int i1), .val (.int i2), .val (.int i3), .val (.ref a2), .val (.ref a5), .val (.ref a8), .val (.ref b11), .val (.int ((i3 &&& (2147483647 : Int32)) % (3 : Int32))), .val (.int (0 : Int32)), .val (.ref emov), .val (.ref efal), .unset, .unset] [])) tg
        refine XS.iload X23.here hx rfl (hb hby at_115) rfl ?_
        show Steps p.tables e below (T23.setTop (mkF m 117 #[.val (.int i0), .val (.int i1), .val (.int i2), .val (.int i3), .val (.ref a2), .val (.ref a5), .val (.ref a8), .val (.ref b11), .val (.int ((i3 &&& (2147483647 : Int32)) % (3 : Int32))), .val (.int (0 : Int32)), .val (.ref emov), .val (.ref efal), .unset, .unset] [(.int (0 : Int32))])) tg
        refine XS.ifYes X23.here hx rfl (pc0 := 117) (pc' := 127) rfl (hb hby at_117) rfl ((if0 _ _).trans (teq (by decide : (0 : Int32) = (0 : Int32))).1) (by decide) (by decide) ?_
        show Steps p.tables e below (T23.setTop (mkF m 127 #[.val (.int i0), .val (.int i1), .val (.int i2), .val (.int i3), .val (.ref a2), .val (.ref a5), .val (.ref a8), .val (.ref b11), .val (.int ((i3 &&& (2147483647 : Int32)) % (3 : Int32))), .val (.int (0 : Int32)), .val (.ref emov), .val (.ref efal), .unset, .unset] [])) tg
        refine XS.aload X23.here hx rfl (hb hby at_127) rfl rfl ?_
        show Steps p.tables e below (T23.setTop (mkF m 129 #[.val (.int i0), .val (.int i1), .val (.int i2), .val (.int i3), .val (.ref a2), .val (.ref a5), .val (.ref a8), .val (.ref b11), .val (.int ((i3 &&& (2147483647 : Int32)) % (3 : Int32))), .val (.int (0 : Int32)), .val (.ref emov), .val (.ref efal), .unset, .unset] [(.ref a5)])) tg
        refine XS.astore X23.here hx rfl (hb hby at_129) rfl rfl (l' := #[.val (.int i0), .val (.int i1), .val (.int i2), .val (.int i3), .val (.ref a2), .val (.ref a5), .val (.ref a8), .val (.ref b11), .val (.int ((i3 &&& (2147483647 : Int32)) % (3 : Int32))), .val (.int (0 : Int32)), .val (.ref emov), .val (.ref efal), .val (.ref a5), .unset]) rfl ?_
        show Steps p.tables e below (T23.setTop (mkF m 131 #[.val (.int i0), .val (.int i1), .val (.int i2), .val (.int i3), .val (.ref a2), .val (.ref a5), .val (.ref a8), .val (.ref b11), .val (.int ((i3 &&& (2147483647 : Int32)) % (3 : Int32))), .val (.int (0 : Int32)), .val (.ref emov), .val (.ref efal), .val (.ref a5), .unset] [])) tg
        refine XS.aload X23.here hx rfl (hb hby at_131) rfl rfl ?_
        show Steps p.tables e below (T23.setTop (mkF m 133 #[.val (.int i0), .val (.int i1), .val (.int i2), .val (.int i3), .val (.ref a2), .val (.ref a5), .val (.ref a8), .val (.ref b11), .val (.int ((i3 &&& (2147483647 : Int32)) % (3 : Int32))), .val (.int (0 : Int32)), .val (.ref emov), .val (.ref efal), .val (.ref a5), .unset] [(.ref b11)])) tg
        refine XS.aload X23.here hx rfl (hb hby at_133) rfl rfl ?_
        show Steps p.tables e below (T23.setTop (mkF m 135 #[.val (.int i0), .val (.int i1), .val (.int i2), .val (.int i3), .val (.ref a2), .val (.ref a5), .val (.ref a8), .val (.ref b11), .val (.int ((i3 &&& (2147483647 : Int32)) % (3 : Int32))), .val (.int (0 : Int32)), .val (.ref emov), .val (.ref efal), .val (.ref a5), .unset] [(.ref efal), (.ref b11)])) tg
        refine XS.aload X23.here hx rfl (hb hby at_135) rfl rfl ?_
        show Steps p.tables e below (T23.setTop (mkF m 137 #[.val (.int i0), .val (.int i1), .val (.int i2), .val (.int i3), .val (.ref a2), .val (.ref a5), .val (.ref a8), .val (.ref b11), .val (.int ((i3 &&& (2147483647 : Int32)) % (3 : Int32))), .val (.int (0 : Int32)), .val (.ref emov), .val (.ref efal), .val (.ref a5), .unset] [(.ref emov), (.ref efal), (.ref b11)])) tg
        exact kg
      refine gs c24 ?_
      have f26 := (A11.keep K14q)
      obtain ⟨cq25, kq25, q25a, q25b, q25c⟩ := isOf hZ e23 f26
      obtain ⟨_, _, ⟨T25, L25, k25, n25⟩, -, X25, ⟨Lc25, hQ25, l25, y25, z25⟩, st25⟩ := X23.virtualBack hx (y := (⟨"com/example/sealed_orders/sealedorders/rules/SeasonNames", "of", "(Lcom/example/sealed_orders/sealedorders/rules/Phase$Season;Lcom/example/sealed_orders/sealedorders/rules/Phase$Kind;)Ljava/lang/String;"⟩ : MethodName)) (z := (⟨"com/example/sealed_orders/sealedorders/rules/SeasonNames", "of", "(Lcom/example/sealed_orders/sealedorders/rules/Phase$Season;Lcom/example/sealed_orders/sealedorders/rules/Phase$Kind;)Ljava/lang/String;"⟩ : MethodName)) hown (mvT hZ (hw _ (List.mem_of_getElem? (i := 59) rfl))) (mvT hZ (hw _ (List.mem_of_getElem? (i := 60) rfl))) (notFace_of_selects (args := #[]) (mvT hZ (hw _ (List.mem_of_getElem? (i := 62) rfl)))) (mvT hZ (hw _ (List.mem_of_getElem? (i := 62) rfl))) (mvT hZ (hw _ (List.mem_of_getElem? (i := 61) rfl))) (by decide) (backC (W := 0) (rm_of l Z a0 hw [] b11 efal emov a2 a5 a8 eadj espr T14.heap n0 Z15 O15 F14_0 F14_1 F14_2 S_adj S_spr) hZ (hw _ (List.mem_of_getElem? (i := 63) rfl)) (hw _ (List.mem_of_getElem? (i := 36) rfl)) (by decide) (by decide)) q25a q25c (g := (mkF m 137 #[.val (.int i0), .val (.int i1), .val (.int i2), .val (.int i3), .val (.ref a2), .val (.ref a5), .val (.ref a8), .val (.ref b11), .val (.int ((i3 &&& (2147483647 : Int32)) % (3 : Int32))), .val (.int (0 : Int32)), .val (.ref emov), .val (.ref efal), .val (.ref a5), .unset] [(.ref emov), (.ref efal), (.ref b11)])) rfl (by rw [hml]; rfl) (Steps.refl _) (argsL := [(.ref efal), (.ref emov)]) (rest := []) (lenOf pd_70 rfl) rfl (by show 2 * 0 + _ ≤ _; exact Nat.le_of_eq rfl) (hb hby at_137) (fun _ _ => ⟨rfl, e23, (by decide : 10 + 0 ≤ _), (by decide : 27 + 0 ≤ _)⟩)
      dsimp only [Pt.U, Pt.locs, Pt.cells, Pt.slots] at X25 l25 y25 z25 st25 hQ25
      subst l25 y25 z25
      obtain ⟨r25, rfl, N25q, K25q, q25x, q25y, q25z⟩ := hQ25
      have N25 := Fr.app N14 N25q
      have Z27 : n0 ≤ T25.heap.size := Nat.le_trans Z15 K25q.1
      have O27 : Old Z n0 T25.heap := O15.keep K25q all0
      have K27 : Keep h0 T25.heap [] := K15.trans K25q all0
      obtain rfl : a5 = r25 := (q25z n_ma n_fs).symm
      refine gs (fun _ k => st25.trans k) ?_
      show OwnGo p e below s _ _ _ (T25.setTop (mkF m 140 #[.val (.int i0), .val (.int i1), .val (.int i2), .val (.int i3), .val (.ref a2), .val (.ref a5), .val (.ref a8), .val (.ref b11), .val (.int ((i3 &&& (2147483647 : Int32)) % (3 : Int32))), .val (.int (0 : Int32)), .val (.ref emov), .val (.ref efal), .val (.ref a5), .unset] [(.ref a5)]))
      have c28 : ∀ tg, Steps p.tables e below (T25.setTop (mkF m 154 #[.val (.int i0), .val (.int i1), .val (.int i2), .val (.int i3), .val (.ref a2), .val (.ref a5), .val (.ref a8), .val (.ref b11), .val (.int ((i3 &&& (2147483647 : Int32)) % (3 : Int32))), .val (.int (0 : Int32)), .val (.ref emov), .val (.ref efal), .val (.ref a5), .val (.ref a5)] [(.int (1 : Int32))])) tg → Steps p.tables e below (T25.setTop (mkF m 140 #[.val (.int i0), .val (.int i1), .val (.int i2), .val (.int i3), .val (.ref a2), .val (.ref a5), .val (.ref a8), .val (.ref b11), .val (.int ((i3 &&& (2147483647 : Int32)) % (3 : Int32))), .val (.int (0 : Int32)), .val (.ref emov), .val (.ref efal), .val (.ref a5), .unset] [(.ref a5)])) tg := fun tg kg => by
        refine XS.astore X25.here hx rfl (hb hby at_140) rfl rfl (l' := #[.val (.int i0), .val (.int i1), .val (.int i2), .val (.int i3), .val (.ref a2), .val (.ref a5), .val (.ref a8), .val (.ref b11), .val (.int ((i3 &&& (2147483647 : Int32)) % (3 : Int32))), .val (.int (0 : Int32)), .val (.ref emov), .val (.ref efal), .val (.ref a5), .val (.ref a5)]) rfl ?_
        show Steps p.tables e below (T25.setTop (mkF m 142 #[.val (.int i0), .val (.int i1), .val (.int i2), .val (.int i3), .val (.ref a2), .val (.ref a5), .val (.ref a8), .val (.ref b11), .val (.int ((i3 &&& (2147483647 : Int32)) % (3 : Int32))), .val (.int (0 : Int32)), .val (.ref emov), .val (.ref efal), .val (.ref a5), .val (.ref a5)] [])) tg
        refine XS.aload X25.here hx rfl (hb hby at_142) rfl rfl ?_
        show Steps p.tables e below (T25.setTop (mkF m 144 #[.val (.int i0), .val (.int i1), .val (.int i2), .val (.int i3), .val (.ref a2), .val (.ref a5), .val (.ref a8), .val (.ref b11), .val (.int ((i3 &&& (2147483647 : Int32)) % (3 : Int32))), .val (.int (0 : Int32)), .val (.ref emov), .val (.ref efal), .val (.ref a5), .val (.ref a5)] [(.ref a5)])) tg
        refine XS.aload X25.here hx rfl (hb hby at_144) rfl rfl ?_
        show Steps p.tables e below (T25.setTop (mkF m 146 #[.val (.int i0), .val (.int i1), .val (.int i2), .val (.int i3), .val (.ref a2), .val (.ref a5), .val (.ref a8), .val (.ref b11), .val (.int ((i3 &&& (2147483647 : Int32)) % (3 : Int32))), .val (.int (0 : Int32)), .val (.ref emov), .val (.ref efal), .val (.ref a5), .val (.ref a5)] [(.ref a5), (.ref a5)])) tg
        refine Jvm.RoadKit.acmp (g := (mkF m 146 #[.val (.int i0), .val (.int i1), .val (.int i2), .val (.int i3), .val (.ref a2), .val (.ref a5), .val (.ref a8), .val (.ref b11), .val (.int ((i3 &&& (2147483647 : Int32)) % (3 : Int32))), .val (.int (0 : Int32)), .val (.ref emov), .val (.ref efal), .val (.ref a5), .val (.ref a5)] [(.ref a5), (.ref a5)])) X25 hx rfl rfl rfl (pc0 := 146) (pc' := 149) (same := true) rfl (hb hby at_146) rfl (decide_eq_true rfl) (by decide) (by decide) ?_
        show Steps p.tables e below (T25.setTop (mkF m 149 #[.val (.int i0), .val (.int i1), .val (.int i2), .val (.int i3), .val (.ref a2), .val (.ref a5), .val (.ref a8), .val (.ref b11), .val (.int ((i3 &&& (2147483647 : Int32)) % (3 : Int32))), .val (.int (0 : Int32)), .val (.ref emov), .val (.ref efal), .val (.ref a5), .val (.ref a5)] [])) tg
        refine XS.iconst X25.here hx rfl (hb hby at_149) ?_
        show Steps p.tables e below (T25.setTop (mkF m 150 #[.val (.int i0), .val (.int i1), .val (.int i2), .val (.int i3), .val (.ref a2), .val (.ref a5), .val (.ref a8), .val (.ref b11), .val (.int ((i3 &&& (2147483647 : Int32)) % (3 : Int32))), .val (.int (0 : Int32)), .val (.ref emov), .val (.ref efal), .val (.ref a5), .val (.ref a5)] [(.int (1 : Int32))])) tg
        refine XS.goto X25.here hx rfl (pc0 := 150) (pc' := 154) rfl (hb hby at_150) (by decide) (by decide) ?_
        show Steps p.tables e below (T25.setTop (mkF m 154 #[.val (.int i0), .val (.int i1), .val (.int i2), .val (.int i3), .val (.ref a2), .val (.ref a5), .val (.ref a8), .val (.ref b11), .val (.int ((i3 &&& (2147483647 : Int32)) % (3 : Int32))), .val (.int (0 : Int32)), .val (.ref emov), .val (.ref efal), .val (.ref a5), .val (.ref a5)] [(.int (1 : Int32))])) tg
        exact kg
      refine gs c28 ?_
      refine gout (v := some (.int (1 : Int32))) X25 Bd.notSynchronized (fun h => by rw [Bd.returns] at h; cases h) (by decide) (by decide) ?_ (fun fs hr => retN X25 hx (t := .boolean) Bd.returns (by simp) (hb hby at_154) hr)
      exact ⟨rfl, N25⟩
    · have c29 : ∀ tg, Steps p.tables e below (T14.setTop (mkF m 68 #[.val (.int i0), .val (.int i1), .val (.int i2), .val (.int i3), .val (.ref a2), .val (.ref a5), .val (.ref a8), .val (.ref b11), .val (.int ((i3 &&& (2147483647 : Int32)) % (3 : Int32))), .val (.int (0 : Int32)), .unset, .unset, .unset, .unset] [(.int (1 : Int32)), (.int ((i3 &&& (2147483647 : Int32)) % (3 : Int32)))])) tg → Steps p.tables e below (T14.setTop (mkF m 54 #[.val (.int i0), .val (.int i1), .val (.int i2), .val (.int i3), .val (.ref a2), .val (.ref a5), .val (.ref a8), .val (.ref b11), .val (.int ((i3 &&& (2147483647 : Int32)) % (3 : Int32))), .val (.int (0 : Int32)), .unset, .unset, .unset, .unset] [(.int ((i3 &&& (2147483647 : Int32)) % (3 : Int32)))])) tg := fun tg kg => by
        refine XS.ifYes X14.here hx rfl (pc0 := 54) (pc' := 65) rfl (hb hby at_54) rfl ((if0 _ _).trans (feq hc19).2) (by decide) (by decide) ?_
        show Steps p.tables e below (T14.setTop (mkF m 65 #[.val (.int i0), .val (.int i1), .val (.int i2), .val (.int i3), .val (.ref a2), .val (.ref a5), .val (.ref a8), .val (.ref b11), .val (.int ((i3 &&& (2147483647 : Int32)) % (3 : Int32))), .val (.int (0 : Int32)), .unset, .unset, .unset, .unset] [])) tg
        refine XS.iload X14.here hx rfl (hb hby at_65) rfl ?_
        show Steps p.tables e below (T14.setTop (mkF m 67 #[.val (.int i0), .val (.int i1), .val (.int i2), .val (.int i3), .val (.ref a2), .val (.ref a5), .val (.ref a8), .val (.ref b11), .val (.int ((i3 &&& (2147483647 : Int32)) % (3 : Int32))), .val (.int (0 : Int32)), .unset, .unset, .unset, .unset] [(.int ((i3 &&& (2147483647 : Int32)) % (3 : Int32)))])) tg
        refine XS.iconst X14.here hx rfl (hb hby at_67) ?_
        show Steps p.tables e below (T14.setTop (mkF m 68 #[.val (.int i0), .val (.int i1), .val (.int i2), .val (.int i3), .val (.ref a2), .val (.ref a5), .val (.ref a8), .val (.ref b11), .val (.int ((i3 &&& (2147483647 : Int32)) % (3 : Int32))), .val (.int (0 : Int32)), .unset, .unset, .unset, .unset] [(.int (1 : Int32)), (.int ((i3 &&& (2147483647 : Int32)) % (3 : Int32)))])) tg
        exact kg
      refine gs c29 ?_
      by_cases hc30 : ((i3 &&& (2147483647 : Int32)) % (3 : Int32)) = (1 : Int32)
      · have c31 : ∀ tg, Steps p.tables e below (T14.setTop (mkF m 71 #[.val (.int i0), .val (.int i1), .val (.int i2), .val (.int i3), .val (.ref a2), .val (.ref a5), .val (.ref a8), .val (.ref b11), .val (.int ((i3 &&& (2147483647 : Int32)) % (3 : Int32))), .val (.int (0 : Int32)), .unset, .unset, .unset, .unset] [])) tg → Steps p.tables e below (T14.setTop (mkF m 68 #[.val (.int i0), .val (.int i1), .val (.int i2), .val (.int i3), .val (.ref a2), .val (.ref a5), .val (.ref a8), .val (.ref b11), .val (.int ((i3 &&& (2147483647 : Int32)) % (3 : Int32))), .val (.int (0 : Int32)), .unset, .unset, .unset, .unset] [(.int (1 : Int32)), (.int ((i3 &&& (2147483647 : Int32)) % (3 : Int32)))])) tg := fun tg kg => by
          refine XS.icmpNo X14.here hx rfl (hb hby at_68) rfl (teq hc30).2 ?_
          show Steps p.tables e below (T14.setTop (mkF m 71 #[.val (.int i0), .val (.int i1), .val (.int i2), .val (.int i3), .val (.ref a2), .val (.ref a5), .val (.ref a8), .val (.ref b11), .val (.int ((i3 &&& (2147483647 : Int32)) % (3 : Int32))), .val (.int (0 : Int32)), .unset, .unset, .unset, .unset] [])) tg
          exact kg
        refine gs c31 ?_
        obtain ⟨T32, X32, e32, st32⟩ := getS2 X14 hx hZ hown (host := "") (Or.inl (hw _ (List.mem_of_getElem? (i := 53) rfl))) Via.refl rfl (S_ret.ext O15.2) (g := (mkF m 71 #[.val (.int i0), .val (.int i1), .val (.int i2), .val (.int i3), .val (.ref a2), .val (.ref a5), .val (.ref a8), .val (.ref b11), .val (.int ((i3 &&& (2147483647 : Int32)) % (3 : Int32))), .val (.int (0 : Int32)), .unset, .unset, .unset, .unset] [])) rfl (hb hby at_71)
        refine gs st32 ?_
        show OwnGo p e below s _ _ _ (T32.setTop (mkF m 74 #[.val (.int i0), .val (.int i1), .val (.int i2), .val (.int i3), .val (.ref a2), .val (.ref a5), .val (.ref a8), .val (.ref b11), .val (.int ((i3 &&& (2147483647 : Int32)) % (3 : Int32))), .val (.int (0 : Int32)), .unset, .unset, .unset, .unset] [(.ref eret)]))
        have c33 : ∀ tg, Steps p.tables e below (T32.setTop (mkF m 97 #[.val (.int i0), .val (.int i1), .val (.int i2), .val (.int i3), .val (.ref a2), .val (.ref a5), .val (.ref a8), .val (.ref b11), .val (.int ((i3 &&& (2147483647 : Int32)) % (3 : Int32))), .val (.int (0 : Int32)), .val (.ref eret), .unset, .unset, .unset] [])) tg → Steps p.tables e below (T32.setTop (mkF m 74 #[.val (.int i0), .val (.int i1), .val (.int i2), .val (.int i3), .val (.ref a2), .val (.ref a5), .val (.ref a8), .val (.ref b11), .val (.int ((i3 &&& (2147483647 : Int32)) % (3 : Int32))), .val (.int (0 : Int32)), .unset, .unset, .unset, .unset] [(.ref eret)])) tg := fun tg kg => by
          refine XS.astore X32.here hx rfl (hb hby at_74) rfl rfl (l' := #[.val (.int i0), .val (.int i1), .val (.int i2), .val (.int i3), .val (.ref a2), .val (.ref a5), .val (.ref a8), .val (.ref b11), .val (.int ((i3 &&& (2147483647 : Int32)) % (3 : Int32))), .val (.int (0 : Int32)), .val (.ref eret), .unset, .unset, .unset]) rfl ?_
          show Steps p.tables e below (T32.setTop (mkF m 76 #[.val (.int i0), .val (.int i1), .val (.int i2), .val (.int i3), .val (.ref a2), .val (.ref a5), .val (.ref a8), .val (.ref b11), .val (.int ((i3 &&& (2147483647 : Int32)) % (3 : Int32))), .val (.int (0 : Int32)), .val (.ref eret), .unset, .unset, .unset] [])) tg
          refine XS.goto X32.here hx rfl (pc0 := 76) (pc' := 84) rfl (hb hby at_76) (by decide) (by decide) ?_
          show Steps p.tables e below (T32.setTop (mkF m 84 #[.val (.int i0), .val (.int i1), .val (.int i2), .val (.int i3), .val (.ref a2), .val (.ref a5), .val (.ref a8), .val (.ref b11), .val (.int ((i3 &&& (2147483647 : Int32)) % (3 : Int32))), .val (.int (0 : Int32)), .val (.ref eret), .unset, .unset, .unset] [])) tg
          refine XS.iload X32.here hx rfl (hb hby at_84) rfl ?_
          show Steps p.tables e below (T32.setTop (mkF m 86 #[.val (.int i0), .val (.int i1), .val (.int i2), .val (.int i3), .val (.ref a2), .val (.ref a5), .val (.ref a8), .val (.ref b11), .val (.int ((i3 &&& (2147483647 : Int32)) % (3 : Int32))), .val (.int (0 : Int32)), .val (.ref eret), .unset, .unset, .unset] [(.int (0 : Int32))])) tg
          refine XS.ifYes X32.here hx rfl (pc0 := 86) (pc' := 97) rfl (hb hby at_86) rfl ((if0 _ _).trans (teq (by decide : (0 : Int32) = (0 : Int32))).1) (by decide) (by decide) ?_
          show Steps p.tables e below (T32.setTop (mkF m 97 #[.val (.int i0), .val (.int i1), .val (.int i2), .val (.int i3), .val (.ref a2), .val (.ref a5), .val (.ref a8), .val (.ref b11), .val (.int ((i3 &&& (2147483647 : Int32)) % (3 : Int32))), .val (.int (0 : Int32)), .val (.ref eret), .unset, .unset, .unset] [])) tg
          exact kg
        refine gs c33 ?_
        obtain ⟨T34, X34, e34, st34⟩ := getS2 X32 hx hZ hown (host := "") (Or.inl (hw _ (List.mem_of_getElem? (i := 67) rfl))) Via.refl e32 (S_fal.ext O15.2) (g := (mkF m 97 #[.val (.int i0), .val (.int i1), .val (.int i2), .val (.int i3), .val (.ref a2), .val (.ref a5), .val (.ref a8), .val (.ref b11), .val (.int ((i3 &&& (2147483647 : Int32)) % (3 : Int32))), .val (.int (0 : Int32)), .val (.ref eret), .unset, .unset, .unset] [])) rfl (hb hby at_97)
        refine gs st34 ?_
        show OwnGo p e below s _ _ _ (T34.setTop (mkF m 100 #[.val (.int i0), .val (.int i1), .val (.int i2), .val (.int i3), .val (.ref a2), .val (.ref a5), .val (.ref a8), .val (.ref b11), .val (.int ((i3 &&& (2147483647 : Int32)) % (3 : Int32))), .val (.int (0 : Int32)), .val (.ref eret), .unset, .unset, .unset] [(.ref efal)]))
        have c35 : ∀ tg, Steps p.tables e below (T34.setTop (mkF m 137 #[.val (.int i0), .val (.int i1), .val (.int i2), .val (.int i3), .val (.ref a2), .val (.ref a5), .val (.ref a8), .val (.ref b11), .val (.int ((i3 &&& (2147483647 : Int32)) % (3 : Int32))), .val (.int (0 : Int32)), .val (.ref eret), .val (.ref efal), .val (.ref a5), .unset] [(.ref eret), (.ref efal), (.ref b11)])) tg → Steps p.tables e below (T34.setTop (mkF m 100 #[.val (.int i0), .val (.int i1), .val (.int i2), .val (.int i3), .val (.ref a2), .val (.ref a5), .val (.ref a8), .val (.ref b11), .val (.int ((i3 &&& (2147483647 : Int32)) % (3 : Int32))), .val (.int (0 : Int32)), .val (.ref eret), .unset, .unset, .unset] [(.ref efal)])) tg := fun tg kg => by
          refine XS.astore X34.here hx rfl (hb hby at_100) rfl rfl (l' := #[.val (.int i0), .val (.int i1), .val (.int i2), .val (.int i3), .val (.ref a2), .val (.ref a5), .val (.ref a8), .val (.ref b11), .val (.int ((i3 &&& (2147483647 : Int32)) % (3 : Int32))), .val (.int (0 : Int32)), .val (.ref eret), .val (.ref efal), .unset, .unset]) rfl ?_
          show Steps p.tables e below (T34.setTop (mkF m 102 #[.val (.int i0), .val (.int i1), .val (.int i2), .val (.int i3), .val (.ref a2), .val (.ref a5), .val (.ref a8), .val (.ref b11), .val (.int ((i3 &&& (2147483647 : Int32)) % (3 : Int32))), .val (.int (0 : Int32)), .val (.ref eret), .val (.ref efal), .unset, .unset] [])) tg
          refine XS.iload X34.here hx rfl (hb hby at_102) rfl ?_
          show Steps p.tables e below (T34.setTop (mkF m 104 #[.val (.int i0), .val (.int i1), .val (.int i2), .val (.int i3), .val (.ref a2), .val (.ref a5), .val (.ref a8), .val (.ref b11), .val (.int ((i3 &&& (2147483647 : Int32)) % (3 : Int32))), .val (.int (0 : Int32)), .val (.ref eret), .val (.ref efal), .unset, .unset] [(.int ((i3 &&& (2147483647 : Int32)) % (3 : Int32)))])) tg
          refine XS.iconst X34.here hx rfl (hb hby at_104) ?_
          show Steps p.tables e below (T34.setTop (mkF m 105 #[.val (.int i0), .val (.int i1), .val (.int i2), .val (.int i3), .val (.ref a2), .val (.ref a5), .val (.ref a8), .val (.ref b11), .val (.int ((i3 &&& (2147483647 : Int32)) % (3 : Int32))), .val (.int (0 : Int32)), .val (.ref eret), .val (.ref efal), .unset, .unset] [(.int (2 : Int32)), (.int ((i3 &&& (2147483647 : Int32)) % (3 : Int32)))])) tg
          refine XS.icmpYes X34.here hx rfl (pc0 := 105) (pc' := 115) rfl (hb hby at_105) rfl (feq (by rw [hc30]; decide)).2 (by decide) (by decide) ?_
          show Steps p.tables e below (T34.setTop (mkF m 115 #[.val (.int i0), .val (.int i1), .val (.int i2), .val (.int i3), .val (.ref a2), .val (.ref a5), .val (.ref a8), .val (.ref b11), .val (.int ((i3 &&& (2147483647 : Int32)) % (3 : Int32))), .val (.int (0 : Int32)), .val (.ref eret), .val (.ref efal), .unset, .unset] [])) tg
          refine XS.iload X34.here hx rfl (hb hby at_115) rfl ?_
          show Steps p.tables e below (T34.setTop (mkF m 117 #[.val (.int i0), .val (.int i1), .val (.int i2), .val (.int i3), .val (.ref a2), .val (.ref a5), .val (.ref a8), .val (.ref b11), .val (.int ((i3 &&& (2147483647 : Int32)) % (3 : Int32))), .val (.int (0 : Int32)), .val (.ref eret), .val (.ref efal), .unset, .unset] [(.int (0 : Int32))])) tg
          refine XS.ifYes X34.here hx rfl (pc0 := 117) (pc' := 127) rfl (hb hby at_117) rfl ((if0 _ _).trans (teq (by decide : (0 : Int32) = (0 : Int32))).1) (by decide) (by decide) ?_
          show Steps p.tables e below (T34.setTop (mkF m 127 #[.val (.int i0), .val (.int i1), .val (.int i2), .val (.int i3), .val (.ref a2), .val (.ref a5), .val (.ref a8), .val (.ref b11), .val (.int ((i3 &&& (2147483647 : Int32)) % (3 : Int32))), .val (.int (0 : Int32)), .val (.ref eret), .val (.ref efal), .unset, .unset] [])) tg
          refine XS.aload X34.here hx rfl (hb hby at_127) rfl rfl ?_
          show Steps p.tables e below (T34.setTop (mkF m 129 #[.val (.int i0), .val (.int i1), .val (.int i2), .val (.int i3), .val (.ref a2), .val (.ref a5), .val (.ref a8), .val (.ref b11), .val (.int ((i3 &&& (2147483647 : Int32)) % (3 : Int32))), .val (.int (0 : Int32)), .val (.ref eret), .val (.ref efal), .unset, .unset] [(.ref a5)])) tg
          refine XS.astore X34.here hx rfl (hb hby at_129) rfl rfl (l' := #[.val (.int i0), .val (.int i1), .val (.int i2), .val (.int i3), .val (.ref a2), .val (.ref a5), .val (.ref a8), .val (.ref b11), .val (.int ((i3 &&& (2147483647 : Int32)) % (3 : Int32))), .val (.int (0 : Int32)), .val (.ref eret), .val (.ref efal), .val (.ref a5), .unset]) rfl ?_
          show Steps p.tables e below (T34.setTop (mkF m 131 #[.val (.int i0), .val (.int i1), .val (.int i2), .val (.int i3), .val (.ref a2), .val (.ref a5), .val (.ref a8), .val (.ref b11), .val (.int ((i3 &&& (2147483647 : Int32)) % (3 : Int32))), .val (.int (0 : Int32)), .val (.ref eret), .val (.ref efal), .val (.ref a5), .unset] [])) tg
          refine XS.aload X34.here hx rfl (hb hby at_131) rfl rfl ?_
          show Steps p.tables e below (T34.setTop (mkF m 133 #[.val (.int i0), .val (.int i1), .val (.int i2), .val (.int i3), .val (.ref a2), .val (.ref a5), .val (.ref a8), .val (.ref b11), .val (.int ((i3 &&& (2147483647 : Int32)) % (3 : Int32))), .val (.int (0 : Int32)), .val (.ref eret), .val (.ref efal), .val (.ref a5), .unset] [(.ref b11)])) tg
          refine XS.aload X34.here hx rfl (hb hby at_133) rfl rfl ?_
          show Steps p.tables e below (T34.setTop (mkF m 135 #[.val (.int i0), .val (.int i1), .val (.int i2), .val (.int i3), .val (.ref a2), .val (.ref a5), .val (.ref a8), .val (.ref b11), .val (.int ((i3 &&& (2147483647 : Int32)) % (3 : Int32))), .val (.int (0 : Int32)), .val (.ref eret), .val (.ref efal), .val (.ref a5), .unset] [(.ref efal), (.ref b11)])) tg
          refine XS.aload X34.here hx rfl (hb hby at_135) rfl rfl ?_
          show Steps p.tables e below (T34.setTop (mkF m 137 #[.val (.int i0), .val (.int i1), .val (.int i2), .val (.int i3), .val (.ref a2), .val (.ref a5), .val (.ref a8), .val (.ref b11), .val (.int ((i3 &&& (2147483647 : Int32)) % (3 : Int32))), .val (.int (0 : Int32)), .val (.ref eret), .val (.ref efal), .val (.ref a5), .unset] [(.ref eret), (.ref efal), (.ref b11)])) tg
          exact kg
        refine gs c35 ?_
        have f37 := (A11.keep K14q)
        obtain ⟨cq36, kq36, q36a, q36b, q36c⟩ := isOf hZ e34 f37
        obtain ⟨_, _, ⟨T36, L36, k36, n36⟩, -, X36, ⟨Lc36, hQ36, l36, y36, z36⟩, st36⟩ := X34.virtualBack hx (y := (⟨"com/example/sealed_orders/sealedorders/rules/SeasonNames", "of", "(Lcom/example/sealed_orders/sealedorders/rules/Phase$Season;Lcom/example/sealed_orders/sealedorders/rules/Phase$Kind;)Ljava/lang/String;"⟩ : MethodName)) (z := (⟨"com/example/sealed_orders/sealedorders/rules/SeasonNames", "of", "(Lcom/example/sealed_orders/sealedorders/rules/Phase$Season;Lcom/example/sealed_orders/sealedorders/rules/Phase$Kind;)Ljava/lang/String;"⟩ : MethodName)) hown (mvT hZ (hw _ (List.mem_of_getElem? (i := 59) rfl))) (mvT hZ (hw _ (List.mem_of_getElem? (i := 60) rfl))) (notFace_of_selects (args := #[]) (mvT hZ (hw _ (List.mem_of_getElem? (i := 62) rfl)))) (mvT hZ (hw _ (List.mem_of_getElem? (i := 62) rfl))) (mvT hZ (hw _ (List.mem_of_getElem? (i := 61) rfl))) (by decide) (backC (W := 0) (rm_of l Z a0 hw [] b11 efal eret a2 a5 a8 eadj espr T14.heap n0 Z15 O15 F14_0 F14_1 F14_2 S_adj S_spr) hZ (hw _ (List.mem_of_getElem? (i := 63) rfl)) (hw _ (List.mem_of_getElem? (i := 36) rfl)) (by decide) (by decide)) q36a q36c (g := (mkF m 137 #[.val (.int i0), .val (.int i1), .val (.int i2), .val (.int i3), .val (.ref a2), .val (.ref a5), .val (.ref a8), .val (.ref b11), .val (.int ((i3 &&& (2147483647 : Int32)) % (3 : Int32))), .val (.int (0 : Int32)), .val (.ref eret), .val (.ref efal), .val (.ref a5), .unset] [(.ref eret), (.ref efal), (.ref b11)])) rfl (by rw [hml]; rfl) (Steps.refl _) (argsL := [(.ref efal), (.ref eret)]) (rest := []) (lenOf pd_70 rfl) rfl (by show 2 * 0 + _ ≤ _; exact Nat.le_of_eq rfl) (hb hby at_137) (fun _ _ => ⟨rfl, e34, (by decide : 10 + 0 ≤ _), (by decide : 27 + 0 ≤ _)⟩)
        dsimp only [Pt.U, Pt.locs, Pt.cells, Pt.slots] at X36 l36 y36 z36 st36 hQ36
        subst l36 y36 z36
        obtain ⟨r36, rfl, N36q, K36q, q36x, q36y, q36z⟩ := hQ36
        have N36 := Fr.app N14 N36q
        have Z38 : n0 ≤ T36.heap.size := Nat.le_trans Z15 K36q.1
        have O38 : Old Z n0 T36.heap := O15.keep K36q all0
        have K38 : Keep h0 T36.heap [] := K15.trans K36q all0
        obtain rfl : a5 = r36 := (q36z n_ra n_fs).symm
        refine gs (fun _ k => st36.trans k) ?_
        show OwnGo p e below s _ _ _ (T36.setTop (mkF m 140 #[.val (.int i0), .val (.int i1), .val (.int i2), .val (.int i3), .val (.ref a2), .val (.ref a5), .val (.ref a8), .val (.ref b11), .val (.int ((i3 &&& (2147483647 : Int32)) % (3 : Int32))), .val (.int (0 : Int32)), .val (.ref eret), .val (.ref efal), .val (.ref a5), .unset] [(.ref a5)]))
        have c39 : ∀ tg, Steps p.tables e below (T36.setTop (mkF m 154 #[.val (.int i0), .val (.int i1), .val (.int i2), .val (.int i3), .val (.ref a2), .val (.ref a5), .val (.ref a8), .val (.ref b11), .val (.int ((i3 &&& (2147483647 : Int32)) % (3 : Int32))), .val (.int (0 : Int32)), .val (.ref eret), .val (.ref efal), .val (.ref a5), .val (.ref a5)] [(.int (1 : Int32))])) tg → Steps p.tables e below (T36.setTop (mkF m 140 #[.val (.int i0), .val (.int i1), .val (.int i2), .val (.int i3), .val (.ref a2), .val (.ref a5), .val (.ref a8), .val (.ref b11), .val (.int ((i3 &&& (2147483647 : Int32)) % (3 : Int32))), .val (.int (0 : Int32)), .val (.ref eret), .val (.ref efal), .val (.ref a5), .unset] [(.ref a5)])) tg := fun tg kg => by
          refine XS.astore X36.here hx rfl (hb hby at_140) rfl rfl (l' := #[.val (.int i0), .val (.int i1), .val (.int i2), .val (.int i3), .val (.ref a2), .val (.ref a5), .val (.ref a8), .val (.ref b11), .val (.int ((i3 &&& (2147483647 : Int32)) % (3 : Int32))), .val (.int (0 : Int32)), .val (.ref eret), .val (.ref efal), .val (.ref a5), .val (.ref a5)]) rfl ?_
          show Steps p.tables e below (T36.setTop (mkF m 142 #[.val (.int i0), .val (.int i1), .val (.int i2), .val (.int i3), .val (.ref a2), .val (.ref a5), .val (.ref a8), .val (.ref b11), .val (.int ((i3 &&& (2147483647 : Int32)) % (3 : Int32))), .val (.int (0 : Int32)), .val (.ref eret), .val (.ref efal), .val (.ref a5), .val (.ref a5)] [])) tg
          refine XS.aload X36.here hx rfl (hb hby at_142) rfl rfl ?_
          show Steps p.tables e below (T36.setTop (mkF m 144 #[.val (.int i0), .val (.int i1), .val (.int i2), .val (.int i3), .val (.ref a2), .val (.ref a5), .val (.ref a8), .val (.ref b11), .val (.int ((i3 &&& (2147483647 : Int32)) % (3 : Int32))), .val (.int (0 : Int32)), .val (.ref eret), .val (.ref efal), .val (.ref a5), .val (.ref a5)] [(.ref a5)])) tg
          refine XS.aload X36.here hx rfl (hb hby at_144) rfl rfl ?_
          show Steps p.tables e below (T36.setTop (mkF m 146 #[.val (.int i0), .val (.int i1), .val (.int i2), .val (.int i3), .val (.ref a2), .val (.ref a5), .val (.ref a8), .val (.ref b11), .val (.int ((i3 &&& (2147483647 : Int32)) % (3 : Int32))), .val (.int (0 : Int32)), .val (.ref eret), .val (.ref efal), .val (.ref a5), .val (.ref a5)] [(.ref a5), (.ref a5)])) tg
          refine Jvm.RoadKit.acmp (g := (mkF m 146 #[.val (.int i0), .val (.int i1), .val (.int i2), .val (.int i3), .val (.ref a2), .val (.ref a5), .val (.ref a8), .val (.ref b11), .val (.int ((i3 &&& (2147483647 : Int32)) % (3 : Int32))), .val (.int (0 : Int32)), .val (.ref eret), .val (.ref efal), .val (.ref a5), .val (.ref a5)] [(.ref a5), (.ref a5)])) X36 hx rfl rfl rfl (pc0 := 146) (pc' := 149) (same := true) rfl (hb hby at_146) rfl (decide_eq_true rfl) (by decide) (by decide) ?_
          show Steps p.tables e below (T36.setTop (mkF m 149 #[.val (.int i0), .val (.int i1), .val (.int i2), .val (.int i3), .val (.ref a2), .val (.ref a5), .val (.ref a8), .val (.ref b11), .val (.int ((i3 &&& (2147483647 : Int32)) % (3 : Int32))), .val (.int (0 : Int32)), .val (.ref eret), .val (.ref efal), .val (.ref a5), .val (.ref a5)] [])) tg
          refine XS.iconst X36.here hx rfl (hb hby at_149) ?_
          show Steps p.tables e below (T36.setTop (mkF m 150 #[.val (.int i0), .val (.int i1), .val (.int i2), .val (.int i3), .val (.ref a2), .val (.ref a5), .val (.ref a8), .val (.ref b11), .val (.int ((i3 &&& (2147483647 : Int32)) % (3 : Int32))), .val (.int (0 : Int32)), .val (.ref eret), .val (.ref efal), .val (.ref a5), .val (.ref a5)] [(.int (1 : Int32))])) tg
          refine XS.goto X36.here hx rfl (pc0 := 150) (pc' := 154) rfl (hb hby at_150) (by decide) (by decide) ?_
          show Steps p.tables e below (T36.setTop (mkF m 154 #[.val (.int i0), .val (.int i1), .val (.int i2), .val (.int i3), .val (.ref a2), .val (.ref a5), .val (.ref a8), .val (.ref b11), .val (.int ((i3 &&& (2147483647 : Int32)) % (3 : Int32))), .val (.int (0 : Int32)), .val (.ref eret), .val (.ref efal), .val (.ref a5), .val (.ref a5)] [(.int (1 : Int32))])) tg
          exact kg
        refine gs c39 ?_
        refine gout (v := some (.int (1 : Int32))) X36 Bd.notSynchronized (fun h => by rw [Bd.returns] at h; cases h) (by decide) (by decide) ?_ (fun fs hr => retN X36 hx (t := .boolean) Bd.returns (by simp) (hb hby at_154) hr)
        exact ⟨rfl, N36⟩
      · have c40 : ∀ tg, Steps p.tables e below (T14.setTop (mkF m 79 #[.val (.int i0), .val (.int i1), .val (.int i2), .val (.int i3), .val (.ref a2), .val (.ref a5), .val (.ref a8), .val (.ref b11), .val (.int ((i3 &&& (2147483647 : Int32)) % (3 : Int32))), .val (.int (0 : Int32)), .unset, .unset, .unset, .unset] [])) tg → Steps p.tables e below (T14.setTop (mkF m 68 #[.val (.int i0), .val (.int i1), .val (.int i2), .val (.int i3), .val (.ref a2), .val (.ref a5), .val (.ref a8), .val (.ref b11), .val (.int ((i3 &&& (2147483647 : Int32)) % (3 : Int32))), .val (.int (0 : Int32)), .unset, .unset, .unset, .unset] [(.int (1 : Int32)), (.int ((i3 &&& (2147483647 : Int32)) % (3 : Int32)))])) tg := fun tg kg => by
          refine XS.icmpYes X14.here hx rfl (pc0 := 68) (pc' := 79) rfl (hb hby at_68) rfl (feq hc30).2 (by decide) (by decide) ?_
          show Steps p.tables e below (T14.setTop (mkF m 79 #[.val (.int i0), .val (.int i1), .val (.int i2), .val (.int i3), .val (.ref a2), .val (.ref a5), .val (.ref a8), .val (.ref b11), .val (.int ((i3 &&& (2147483647 : Int32)) % (3 : Int32))), .val (.int (0 : Int32)), .unset, .unset, .unset, .unset] [])) tg
          exact kg
        refine gs c40 ?_
        obtain ⟨T41, X41, e41, st41⟩ := getS2 X14 hx hZ hown (host := "") (Or.inl (hw _ (List.mem_of_getElem? (i := 69) rfl))) Via.refl rfl (S_adj.ext O15.2) (g := (mkF m 79 #[.val (.int i0), .val (.int i1), .val (.int i2), .val (.int i3), .val (.ref a2), .val (.ref a5), .val (.ref a8), .val (.ref b11), .val (.int ((i3 &&& (2147483647 : Int32)) % (3 : Int32))), .val (.int (0 : Int32)), .unset, .unset, .unset, .unset] [])) rfl (hb hby at_79)
        refine gs st41 ?_
        show OwnGo p e below s _ _ _ (T41.setTop (mkF m 82 #[.val (.int i0), .val (.int i1), .val (.int i2), .val (.int i3), .val (.ref a2), .val (.ref a5), .val (.ref a8), .val (.ref b11), .val (.int ((i3 &&& (2147483647 : Int32)) % (3 : Int32))), .val (.int (0 : Int32)), .unset, .unset, .unset, .unset] [(.ref eadj)]))
        have c42 : ∀ tg, Steps p.tables e below (T41.setTop (mkF m 97 #[.val (.int i0), .val (.int i1), .val (.int i2), .val (.int i3), .val (.ref a2), .val (.ref a5), .val (.ref a8), .val (.ref b11), .val (.int ((i3 &&& (2147483647 : Int32)) % (3 : Int32))), .val (.int (0 : Int32)), .val (.ref eadj), .unset, .unset, .unset] [])) tg → Steps p.tables e below (T41.setTop (mkF m 82 #[.val (.int i0), .val (.int i1), .val (.int i2), .val (.int i3), .val (.ref a2), .val (.ref a5), .val (.ref a8), .val (.ref b11), .val (.int ((i3 &&& (2147483647 : Int32)) % (3 : Int32))), .val (.int (0 : Int32)), .unset, .unset, .unset, .unset] [(.ref eadj)])) tg := fun tg kg => by
          refine XS.astore X41.here hx rfl (hb hby at_82) rfl rfl (l' := #[.val (.int i0), .val (.int i1), .val (.int i2), .val (.int i3), .val (.ref a2), .val (.ref a5), .val (.ref a8), .val (.ref b11), .val (.int ((i3 &&& (2147483647 : Int32)) % (3 : Int32))), .val (.int (0 : Int32)), .val (.ref eadj), .unset, .unset, .unset]) rfl ?_
          show Steps p.tables e below (T41.setTop (mkF m 84 #[.val (.int i0), .val (.int i1), .val (.int i2), .val (.int i3), .val (.ref a2), .val (.ref a5), .val (.ref a8), .val (.ref b11), .val (.int ((i3 &&& (2147483647 : Int32)) % (3 : Int32))), .val (.int (0 : Int32)), .val (.ref eadj), .unset, .unset, .unset] [])) tg
          refine XS.iload X41.here hx rfl (hb hby at_84) rfl ?_
          show Steps p.tables e below (T41.setTop (mkF m 86 #[.val (.int i0), .val (.int i1), .val (.int i2), .val (.int i3), .val (.ref a2), .val (.ref a5), .val (.ref a8), .val (.ref b11), .val (.int ((i3 &&& (2147483647 : Int32)) % (3 : Int32))), .val (.int (0 : Int32)), .val (.ref eadj), .unset, .unset, .unset] [(.int (0 : Int32))])) tg
          refine XS.ifYes X41.here hx rfl (pc0 := 86) (pc' := 97) rfl (hb hby at_86) rfl ((if0 _ _).trans (teq (by decide : (0 : Int32) = (0 : Int32))).1) (by decide) (by decide) ?_
          show Steps p.tables e below (T41.setTop (mkF m 97 #[.val (.int i0), .val (.int i1), .val (.int i2), .val (.int i3), .val (.ref a2), .val (.ref a5), .val (.ref a8), .val (.ref b11), .val (.int ((i3 &&& (2147483647 : Int32)) % (3 : Int32))), .val (.int (0 : Int32)), .val (.ref eadj), .unset, .unset, .unset] [])) tg
          exact kg
        refine gs c42 ?_
        obtain ⟨T43, X43, e43, st43⟩ := getS2 X41 hx hZ hown (host := "") (Or.inl (hw _ (List.mem_of_getElem? (i := 67) rfl))) Via.refl e41 (S_fal.ext O15.2) (g := (mkF m 97 #[.val (.int i0), .val (.int i1), .val (.int i2), .val (.int i3), .val (.ref a2), .val (.ref a5), .val (.ref a8), .val (.ref b11), .val (.int ((i3 &&& (2147483647 : Int32)) % (3 : Int32))), .val (.int (0 : Int32)), .val (.ref eadj), .unset, .unset, .unset] [])) rfl (hb hby at_97)
        refine gs st43 ?_
        show OwnGo p e below s _ _ _ (T43.setTop (mkF m 100 #[.val (.int i0), .val (.int i1), .val (.int i2), .val (.int i3), .val (.ref a2), .val (.ref a5), .val (.ref a8), .val (.ref b11), .val (.int ((i3 &&& (2147483647 : Int32)) % (3 : Int32))), .val (.int (0 : Int32)), .val (.ref eadj), .unset, .unset, .unset] [(.ref efal)]))
        have c44 : ∀ tg, Steps p.tables e below (T43.setTop (mkF m 137 #[.val (.int i0), .val (.int i1), .val (.int i2), .val (.int i3), .val (.ref a2), .val (.ref a5), .val (.ref a8), .val (.ref b11), .val (.int ((i3 &&& (2147483647 : Int32)) % (3 : Int32))), .val (.int (0 : Int32)), .val (.ref eadj), .val (.ref efal), .val (.ref a8), .unset] [(.ref eadj), (.ref efal), (.ref b11)])) tg → Steps p.tables e below (T43.setTop (mkF m 100 #[.val (.int i0), .val (.int i1), .val (.int i2), .val (.int i3), .val (.ref a2), .val (.ref a5), .val (.ref a8), .val (.ref b11), .val (.int ((i3 &&& (2147483647 : Int32)) % (3 : Int32))), .val (.int (0 : Int32)), .val (.ref eadj), .unset, .unset, .unset] [(.ref efal)])) tg := fun tg kg => by
          refine XS.astore X43.here hx rfl (hb hby at_100) rfl rfl (l' := #[.val (.int i0), .val (.int i1), .val (.int i2), .val (.int i3), .val (.ref a2), .val (.ref a5), .val (.ref a8), .val (.ref b11), .val (.int ((i3 &&& (2147483647 : Int32)) % (3 : Int32))), .val (.int (0 : Int32)), .val (.ref eadj), .val (.ref efal), .unset, .unset]) rfl ?_
          show Steps p.tables e below (T43.setTop (mkF m 102 #[.val (.int i0), .val (.int i1), .val (.int i2), .val (.int i3), .val (.ref a2), .val (.ref a5), .val (.ref a8), .val (.ref b11), .val (.int ((i3 &&& (2147483647 : Int32)) % (3 : Int32))), .val (.int (0 : Int32)), .val (.ref eadj), .val (.ref efal), .unset, .unset] [])) tg
          refine XS.iload X43.here hx rfl (hb hby at_102) rfl ?_
          show Steps p.tables e below (T43.setTop (mkF m 104 #[.val (.int i0), .val (.int i1), .val (.int i2), .val (.int i3), .val (.ref a2), .val (.ref a5), .val (.ref a8), .val (.ref b11), .val (.int ((i3 &&& (2147483647 : Int32)) % (3 : Int32))), .val (.int (0 : Int32)), .val (.ref eadj), .val (.ref efal), .unset, .unset] [(.int ((i3 &&& (2147483647 : Int32)) % (3 : Int32)))])) tg
          refine XS.iconst X43.here hx rfl (hb hby at_104) ?_
          show Steps p.tables e below (T43.setTop (mkF m 105 #[.val (.int i0), .val (.int i1), .val (.int i2), .val (.int i3), .val (.ref a2), .val (.ref a5), .val (.ref a8), .val (.ref b11), .val (.int ((i3 &&& (2147483647 : Int32)) % (3 : Int32))), .val (.int (0 : Int32)), .val (.ref eadj), .val (.ref efal), .unset, .unset] [(.int (2 : Int32)), (.int ((i3 &&& (2147483647 : Int32)) % (3 : Int32)))])) tg
          refine XS.icmpNo X43.here hx rfl (hb hby at_105) rfl (teq (own_k3 i3 hc19 hc30)).2 ?_
          show Steps p.tables e below (T43.setTop (mkF m 108 #[.val (.int i0), .val (.int i1), .val (.int i2), .val (.int i3), .val (.ref a2), .val (.ref a5), .val (.ref a8), .val (.ref b11), .val (.int ((i3 &&& (2147483647 : Int32)) % (3 : Int32))), .val (.int (0 : Int32)), .val (.ref eadj), .val (.ref efal), .unset, .unset] [])) tg
          refine XS.aload X43.here hx rfl (hb hby at_108) rfl rfl ?_
          show Steps p.tables e below (T43.setTop (mkF m 110 #[.val (.int i0), .val (.int i1), .val (.int i2), .val (.int i3), .val (.ref a2), .val (.ref a5), .val (.ref a8), .val (.ref b11), .val (.int ((i3 &&& (2147483647 : Int32)) % (3 : Int32))), .val (.int (0 : Int32)), .val (.ref eadj), .val (.ref efal), .unset, .unset] [(.ref a8)])) tg
          refine XS.astore X43.here hx rfl (hb hby at_110) rfl rfl (l' := #[.val (.int i0), .val (.int i1), .val (.int i2), .val (.int i3), .val (.ref a2), .val (.ref a5), .val (.ref a8), .val (.ref b11), .val (.int ((i3 &&& (2147483647 : Int32)) % (3 : Int32))), .val (.int (0 : Int32)), .val (.ref eadj), .val (.ref efal), .val (.ref a8), .unset]) rfl ?_
          show Steps p.tables e below (T43.setTop (mkF m 112 #[.val (.int i0), .val (.int i1), .val (.int i2), .val (.int i3), .val (.ref a2), .val (.ref a5), .val (.ref a8), .val (.ref b11), .val (.int ((i3 &&& (2147483647 : Int32)) % (3 : Int32))), .val (.int (0 : Int32)), .val (.ref eadj), .val (.ref efal), .val (.ref a8), .unset] [])) tg
          refine XS.goto X43.here hx rfl (pc0 := 112) (pc' := 131) rfl (hb hby at_112) (by decide) (by decide) ?_
          show Steps p.tables e below (T43.setTop (mkF m 131 #[.val (.int i0), .val (.int i1), .val (.int i2), .val (.int i3), .val (.ref a2), .val (.ref a5), .val (.ref a8), .val (.ref b11), .val (.int ((i3 &&& (2147483647 : Int32)) % (3 : Int32))), .val (.int (0 : Int32)), .val (.ref eadj), .val (.ref efal), .val (.ref a8), .unset] [])) tg
          refine XS.aload X43.here hx rfl (hb hby at_131) rfl rfl ?_
          show Steps p.tables e below (T43.setTop (mkF m 133 #[.val (.int i0), .val (.int i1), .val (.int i2), .val (.int i3), .val (.ref a2), .val (.ref a5), .val (.ref a8), .val (.ref b11), .val (.int ((i3 &&& (2147483647 : Int32)) % (3 : Int32))), .val (.int (0 : Int32)), .val (.ref eadj), .val (.ref efal), .val (.ref a8), .unset] [(.ref b11)])) tg
          refine XS.aload X43.here hx rfl (hb hby at_133) rfl rfl ?_
          show Steps p.tables e below (T43.setTop (mkF m 135 #[.val (.int i0), .val (.int i1), .val (.int i2), .val (.int i3), .val (.ref a2), .val (.ref a5), .val (.ref a8), .val (.ref b11), .val (.int ((i3 &&& (2147483647 : Int32)) % (3 : Int32))), .val (.int (0 : Int32)), .val (.ref eadj), .val (.ref efal), .val (.ref a8), .unset] [(.ref efal), (.ref b11)])) tg
          refine XS.aload X43.here hx rfl (hb hby at_135) rfl rfl ?_
          show Steps p.tables e below (T43.setTop (mkF m 137 #[.val (.int i0), .val (.int i1), .val (.int i2), .val (.int i3), .val (.ref a2), .val (.ref a5), .val (.ref a8), .val (.ref b11), .val (.int ((i3 &&& (2147483647 : Int32)) % (3 : Int32))), .val (.int (0 : Int32)), .val (.ref eadj), .val (.ref efal), .val (.ref a8), .unset] [(.ref eadj), (.ref efal), (.ref b11)])) tg
          exact kg
        refine gs c44 ?_
        have f46 := (A11.keep K14q)
        obtain ⟨cq45, kq45, q45a, q45b, q45c⟩ := isOf hZ e43 f46
        obtain ⟨_, _, ⟨T45, L45, k45, n45⟩, -, X45, ⟨Lc45, hQ45, l45, y45, z45⟩, st45⟩ := X43.virtualBack hx (y := (⟨"com/example/sealed_orders/sealedorders/rules/SeasonNames", "of", "(Lcom/example/sealed_orders/sealedorders/rules/Phase$Season;Lcom/example/sealed_orders/sealedorders/rules/Phase$Kind;)Ljava/lang/String;"⟩ : MethodName)) (z := (⟨"com/example/sealed_orders/sealedorders/rules/SeasonNames", "of", "(Lcom/example/sealed_orders/sealedorders/rules/Phase$Season;Lcom/example/sealed_orders/sealedorders/rules/Phase$Kind;)Ljava/lang/String;"⟩ : MethodName)) hown (mvT hZ (hw _ (List.mem_of_getElem? (i := 59) rfl))) (mvT hZ (hw _ (List.mem_of_getElem? (i := 60) rfl))) (notFace_of_selects (args := #[]) (mvT hZ (hw _ (List.mem_of_getElem? (i := 62) rfl)))) (mvT hZ (hw _ (List.mem_of_getElem? (i := 62) rfl))) (mvT hZ (hw _ (List.mem_of_getElem? (i := 61) rfl))) (by decide) (backC (W := 0) (rm_of l Z a0 hw [] b11 efal eadj a2 a5 a8 eadj espr T14.heap n0 Z15 O15 F14_0 F14_1 F14_2 S_adj S_spr) hZ (hw _ (List.mem_of_getElem? (i := 63) rfl)) (hw _ (List.mem_of_getElem? (i := 36) rfl)) (by decide) (by decide)) q45a q45c (g := (mkF m 137 #[.val (.int i0), .val (.int i1), .val (.int i2), .val (.int i3), .val (.ref a2), .val (.ref a5), .val (.ref a8), .val (.ref b11), .val (.int ((i3 &&& (2147483647 : Int32)) % (3 : Int32))), .val (.int (0 : Int32)), .val (.ref eadj), .val (.ref efal), .val (.ref a8), .unset] [(.ref eadj), (.ref efal), (.ref b11)])) rfl (by rw [hml]; rfl) (Steps.refl _) (argsL := [(.ref efal), (.ref eadj)]) (rest := []) (lenOf pd_70 rfl) rfl (by show 2 * 0 + _ ≤ _; exact Nat.le_of_eq rfl) (hb hby at_137) (fun _ _ => ⟨rfl, e43, (by decide : 10 + 0 ≤ _), (by decide : 27 + 0 ≤ _)⟩)
        dsimp only [Pt.U, Pt.locs, Pt.cells, Pt.slots] at X45 l45 y45 z45 st45 hQ45
        subst l45 y45 z45
        obtain ⟨r45, rfl, N45q, K45q, q45x, q45y, q45z⟩ := hQ45
        have N45 := Fr.app N14 N45q
        have Z47 : n0 ≤ T45.heap.size := Nat.le_trans Z15 K45q.1
        have O47 : Old Z n0 T45.heap := O15.keep K45q all0
        have K47 : Keep h0 T45.heap [] := K15.trans K45q all0
        obtain rfl : a8 = r45 := (q45x rfl).symm
        refine gs (fun _ k => st45.trans k) ?_
        show OwnGo p e below s _ _ _ (T45.setTop (mkF m 140 #[.val (.int i0), .val (.int i1), .val (.int i2), .val (.int i3), .val (.ref a2), .val (.ref a5), .val (.ref a8), .val (.ref b11), .val (.int ((i3 &&& (2147483647 : Int32)) % (3 : Int32))), .val (.int (0 : Int32)), .val (.ref eadj), .val (.ref efal), .val (.ref a8), .unset] [(.ref a8)]))
        have c48 : ∀ tg, Steps p.tables e below (T45.setTop (mkF m 154 #[.val (.int i0), .val (.int i1), .val (.int i2), .val (.int i3), .val (.ref a2), .val (.ref a5), .val (.ref a8), .val (.ref b11), .val (.int ((i3 &&& (2147483647 : Int32)) % (3 : Int32))), .val (.int (0 : Int32)), .val (.ref eadj), .val (.ref efal), .val (.ref a8), .val (.ref a8)] [(.int (1 : Int32))])) tg → Steps p.tables e below (T45.setTop (mkF m 140 #[.val (.int i0), .val (.int i1), .val (.int i2), .val (.int i3), .val (.ref a2), .val (.ref a5), .val (.ref a8), .val (.ref b11), .val (.int ((i3 &&& (2147483647 : Int32)) % (3 : Int32))), .val (.int (0 : Int32)), .val (.ref eadj), .val (.ref efal), .val (.ref a8), .unset] [(.ref a8)])) tg := fun tg kg => by
          refine XS.astore X45.here hx rfl (hb hby at_140) rfl rfl (l' := #[.val (.int i0), .val (.int i1), .val (.int i2), .val (.int i3), .val (.ref a2), .val (.ref a5), .val (.ref a8), .val (.ref b11), .val (.int ((i3 &&& (2147483647 : Int32)) % (3 : Int32))), .val (.int (0 : Int32)), .val (.ref eadj), .val (.ref efal), .val (.ref a8), .val (.ref a8)]) rfl ?_
          show Steps p.tables e below (T45.setTop (mkF m 142 #[.val (.int i0), .val (.int i1), .val (.int i2), .val (.int i3), .val (.ref a2), .val (.ref a5), .val (.ref a8), .val (.ref b11), .val (.int ((i3 &&& (2147483647 : Int32)) % (3 : Int32))), .val (.int (0 : Int32)), .val (.ref eadj), .val (.ref efal), .val (.ref a8), .val (.ref a8)] [])) tg
          refine XS.aload X45.here hx rfl (hb hby at_142) rfl rfl ?_
          show Steps p.tables e below (T45.setTop (mkF m 144 #[.val (.int i0), .val (.int i1), .val (.int i2), .val (.int i3), .val (.ref a2), .val (.ref a5), .val (.ref a8), .val (.ref b11), .val (.int ((i3 &&& (2147483647 : Int32)) % (3 : Int32))), .val (.int (0 : Int32)), .val (.ref eadj), .val (.ref efal), .val (.ref a8), .val (.ref a8)] [(.ref a8)])) tg
          refine XS.aload X45.here hx rfl (hb hby at_144) rfl rfl ?_
          show Steps p.tables e below (T45.setTop (mkF m 146 #[.val (.int i0), .val (.int i1), .val (.int i2), .val (.int i3), .val (.ref a2), .val (.ref a5), .val (.ref a8), .val (.ref b11), .val (.int ((i3 &&& (2147483647 : Int32)) % (3 : Int32))), .val (.int (0 : Int32)), .val (.ref eadj), .val (.ref efal), .val (.ref a8), .val (.ref a8)] [(.ref a8), (.ref a8)])) tg
          refine Jvm.RoadKit.acmp (g := (mkF m 146 #[.val (.int i0), .val (.int i1), .val (.int i2), .val (.int i3), .val (.ref a2), .val (.ref a5), .val (.ref a8), .val (.ref b11), .val (.int ((i3 &&& (2147483647 : Int32)) % (3 : Int32))), .val (.int (0 : Int32)), .val (.ref eadj), .val (.ref efal), .val (.ref a8), .val (.ref a8)] [(.ref a8), (.ref a8)])) X45 hx rfl rfl rfl (pc0 := 146) (pc' := 149) (same := true) rfl (hb hby at_146) rfl (decide_eq_true rfl) (by decide) (by decide) ?_
          show Steps p.tables e below (T45.setTop (mkF m 149 #[.val (.int i0), .val (.int i1), .val (.int i2), .val (.int i3), .val (.ref a2), .val (.ref a5), .val (.ref a8), .val (.ref b11), .val (.int ((i3 &&& (2147483647 : Int32)) % (3 : Int32))), .val (.int (0 : Int32)), .val (.ref eadj), .val (.ref efal), .val (.ref a8), .val (.ref a8)] [])) tg
          refine XS.iconst X45.here hx rfl (hb hby at_149) ?_
          show Steps p.tables e below (T45.setTop (mkF m 150 #[.val (.int i0), .val (.int i1), .val (.int i2), .val (.int i3), .val (.ref a2), .val (.ref a5), .val (.ref a8), .val (.ref b11), .val (.int ((i3 &&& (2147483647 : Int32)) % (3 : Int32))), .val (.int (0 : Int32)), .val (.ref eadj), .val (.ref efal), .val (.ref a8), .val (.ref a8)] [(.int (1 : Int32))])) tg
          refine XS.goto X45.here hx rfl (pc0 := 150) (pc' := 154) rfl (hb hby at_150) (by decide) (by decide) ?_
          show Steps p.tables e below (T45.setTop (mkF m 154 #[.val (.int i0), .val (.int i1), .val (.int i2), .val (.int i3), .val (.ref a2), .val (.ref a5), .val (.ref a8), .val (.ref b11), .val (.int ((i3 &&& (2147483647 : Int32)) % (3 : Int32))), .val (.int (0 : Int32)), .val (.ref eadj), .val (.ref efal), .val (.ref a8), .val (.ref a8)] [(.int (1 : Int32))])) tg
          exact kg
        refine gs c48 ?_
        refine gout (v := some (.int (1 : Int32))) X45 Bd.notSynchronized (fun h => by rw [Bd.returns] at h; cases h) (by decide) (by decide) ?_ (fun fs hr => retN X45 hx (t := .boolean) Bd.returns (by simp) (hb hby at_154) hr)
        exact ⟨rfl, N45⟩
  · have c49 : ∀ tg, Steps p.tables e below (T14.setTop (mkF m 54 #[.val (.int i0), .val (.int i1), .val (.int i2), .val (.int i3), .val (.ref a2), .val (.ref a5), .val (.ref a8), .val (.ref b11), .val (.int ((i3 &&& (2147483647 : Int32)) % (3 : Int32))), .val (.int (1 : Int32)), .unset, .unset, .unset, .unset] [(.int ((i3 &&& (2147483647 : Int32)) % (3 : Int32)))])) tg → Steps p.tables e below (T14.setTop (mkF m 42 #[.val (.int i0), .val (.int i1), .val (.int i2), .val (.int i3), .val (.ref a2), .val (.ref a5), .val (.ref a8), .val (.ref b11), .val (.int ((i3 &&& (2147483647 : Int32)) % (3 : Int32))), .unset, .unset, .unset, .unset, .unset] [(.int i3)])) tg := fun tg kg => by
      refine XS.ifNo X14.here hx rfl (hb hby at_42) rfl ((if0 _ _).trans (flt hc17).1) ?_
      show Steps p.tables e below (T14.setTop (mkF m 45 #[.val (.int i0), .val (.int i1), .val (.int i2), .val (.int i3), .val (.ref a2), .val (.ref a5), .val (.ref a8), .val (.ref b11), .val (.int ((i3 &&& (2147483647 : Int32)) % (3 : Int32))), .unset, .unset, .unset, .unset, .unset] [])) tg
      refine XS.iconst X14.here hx rfl (hb hby at_45) ?_
      show Steps p.tables e below (T14.setTop (mkF m 46 #[.val (.int i0), .val (.int i1), .val (.int i2), .val (.int i3), .val (.ref a2), .val (.ref a5), .val (.ref a8), .val (.ref b11), .val (.int ((i3 &&& (2147483647 : Int32)) % (3 : Int32))), .unset, .unset, .unset, .unset, .unset] [(.int (1 : Int32))])) tg
      refine XS.goto X14.here hx rfl (pc0 := 46) (pc' := 50) rfl (hb hby at_46) (by decide) (by decide) ?_
      show Steps p.tables e below (T14.setTop (mkF m 50 #[.val (.int i0), .val (.int i1), .val (.int i2), .val (.int i3), .val (.ref a2), .val (.ref a5), .val (.ref a8), .val (.ref b11), .val (.int ((i3 &&& (2147483647 : Int32)) % (3 : Int32))), .unset, .unset, .unset, .unset, .unset] [(.int (1 : Int32))])) tg
      refine XS.istore X14.here hx rfl (hb hby at_50) rfl (l' := #[.val (.int i0), .val (.int i1), .val (.int i2), .val (.int i3), .val (.ref a2), .val (.ref a5), .val (.ref a8), .val (.ref b11), .val (.int ((i3 &&& (2147483647 : Int32)) % (3 : Int32))), .val (.int (1 : Int32)), .unset, .unset, .unset, .unset]) rfl ?_
      show Steps p.tables e below (T14.setTop (mkF m 52 #[.val (.int i0), .val (.int i1), .val (.int i2), .val (.int i3), .val (.ref a2), .val (.ref a5), .val (.ref a8), .val (.ref b11), .val (.int ((i3 &&& (2147483647 : Int32)) % (3 : Int32))), .val (.int (1 : Int32)), .unset, .unset, .unset, .unset] [])) tg
      refine XS.iload X14.here hx rfl (hb hby at_52) rfl ?_
      show Steps p.tables e below (T14.setTop (mkF m 54 #[.val (.int i0), .val (.int i1), .val (.int i2), .val (.int i3), .val (.ref a2), .val (.ref a5), .val (.ref a8), .val (.ref b11), .val (.int ((i3 &&& (2147483647 : Int32)) % (3 : Int32))), .val (.int (1 : Int32)), .unset, .unset, .unset, .unset] [(.int ((i3 &&& (2147483647 : Int32)) % (3 : Int32)))])) tg
      exact kg
    refine gs c49 ?_
    by_cases hc50 : ((i3 &&& (2147483647 : Int32)) % (3 : Int32)) = (0 : Int32)
    · have c51 : ∀ tg, Steps p.tables e below (T14.setTop (mkF m 57 #[.val (.int i0), .val (.int i1), .val (.int i2), .val (.int i3), .val (.ref a2), .val (.ref a5), .val (.ref a8), .val (.ref b11), .val (.int ((i3 &&& (2147483647 : Int32)) % (3 : Int32))), .val (.int (1 : Int32)), .unset, .unset, .unset, .unset] [])) tg → Steps p.tables e below (T14.setTop (mkF m 54 #[.val (.int i0), .val (.int i1), .val (.int i2), .val (.int i3), .val (.ref a2), .val (.ref a5), .val (.ref a8), .val (.ref b11), .val (.int ((i3 &&& (2147483647 : Int32)) % (3 : Int32))), .val (.int (1 : Int32)), .unset, .unset, .unset, .unset] [(.int ((i3 &&& (2147483647 : Int32)) % (3 : Int32)))])) tg := fun tg kg => by
        refine XS.ifNo X14.here hx rfl (hb hby at_54) rfl ((if0 _ _).trans (teq hc50).2) ?_
        show Steps p.tables e below (T14.setTop (mkF m 57 #[.val (.int i0), .val (.int i1), .val (.int i2), .val (.int i3), .val (.ref a2), .val (.ref a5), .val (.ref a8), .val (.ref b11), .val (.int ((i3 &&& (2147483647 : Int32)) % (3 : Int32))), .val (.int (1 : Int32)), .unset, .unset, .unset, .unset] [])) tg
        exact kg
      refine gs c51 ?_
      obtain ⟨T52, X52, e52, st52⟩ := getS2 X14 hx hZ hown (host := "") (Or.inl (hw _ (List.mem_of_getElem? (i := 70) rfl))) Via.refl rfl (S_mov.ext O15.2) (g := (mkF m 57 #[.val (.int i0), .val (.int i1), .val (.int i2), .val (.int i3), .val (.ref a2), .val (.ref a5), .val (.ref a8), .val (.ref b11), .val (.int ((i3 &&& (2147483647 : Int32)) % (3 : Int32))), .val (.int (1 : Int32)), .unset, .unset, .unset, .unset] [])) rfl (hb hby at_57)
      refine gs st52 ?_
      show OwnGo p e below s _ _ _ (T52.setTop (mkF m 60 #[.val (.int i0), .val (.int i1), .val (.int i2), .val (.int i3), .val (.ref a2), .val (.ref a5), .val (.ref a8), .val (.ref b11), .val (.int ((i3 &&& (2147483647 : Int32)) % (3 : Int32))), .val (.int (1 : Int32)), .unset, .unset, .unset, .unset] [(.ref emov)]))
      have c53 : ∀ tg, Steps p.tables e below (T52.setTop (mkF m 89 #[.val (.int i0), .val (.int i1), .val (.int i2), .val (.int i3), .val (.ref a2), .val (.ref a5), .val (.ref a8), .val (.ref b11), .val (.int ((i3 &&& (2147483647 : Int32)) % (3 : Int32))), .val (.int (1 : Int32)), .val (.ref emov), .unset, .unset, .unset] [])) tg → Steps p.tables e below (T52.setTop (mkF m 60 #[.val (.int i0), .val (.int i1), .val (.int i2), .val (.int i3), .val (.ref a2), .val (.ref a5), .val (.ref a8), .val (.ref b11), .val (.int ((i3 &&& (2147483647 : Int32)) % (3 : Int32))), .val (.int (1 : Int32)), .unset, .unset, .unset, .unset] [(.ref emov)])) tg := fun tg kg => by
        refine XS.astore X52.here hx rfl (hb hby at_60) rfl rfl (l' := #[.val (.int i0), .val (.int i1), .val (.int i2), .val (.int i3), .val (.ref a2), .val (.ref a5), .val (.ref a8), .val (.ref b11), .val (.int ((i3 &&& (2147483647 : Int32)) % (3 : Int32))), .val (.int (1 : Int32)), .val (.ref emov), .unset, .unset, .unset]) rfl ?_
        show Steps p.tables e below (T52.setTop (mkF m 62 #[.val (.int i0), .val (.int i1), .val (.int i2), .val (.int i3), .val (.ref a2), .val (.ref a5), .val (.ref a8), .val (.ref b11), .val (.int ((i3 &&& (2147483647 : Int32)) % (3 : Int32))), .val (.int (1 : Int32)), .val (.ref emov), .unset, .unset, .unset] [])) tg
        refine XS.goto X52.here hx rfl (pc0 := 62) (pc' := 84) rfl (hb hby at_62) (by decide) (by decide) ?_
        show Steps p.tables e below (T52.setTop (mkF m 84 #[.val (.int i0), .val (.int i1), .val (.int i2), .val (.int i3), .val (.ref a2), .val (.ref a5), .val (.ref a8), .val (.ref b11), .val (.int ((i3 &&& (2147483647 : Int32)) % (3 : Int32))), .val (.int (1 : Int32)), .val (.ref emov), .unset, .unset, .unset] [])) tg
        refine XS.iload X52.here hx rfl (hb hby at_84) rfl ?_
        show Steps p.tables e below (T52.setTop (mkF m 86 #[.val (.int i0), .val (.int i1), .val (.int i2), .val (.int i3), .val (.ref a2), .val (.ref a5), .val (.ref a8), .val (.ref b11), .val (.int ((i3 &&& (2147483647 : Int32)) % (3 : Int32))), .val (.int (1 : Int32)), .val (.ref emov), .unset, .unset, .unset] [(.int (1 : Int32))])) tg
        refine XS.ifNo X52.here hx rfl (hb hby at_86) rfl ((if0 _ _).trans (feq (by decide : ¬ ((1 : Int32) = (0 : Int32)))).1) ?_
        show Steps p.tables e below (T52.setTop (mkF m 89 #[.val (.int i0), .val (.int i1), .val (.int i2), .val (.int i3), .val (.ref a2), .val (.ref a5), .val (.ref a8), .val (.ref b11), .val (.int ((i3 &&& (2147483647 : Int32)) % (3 : Int32))), .val (.int (1 : Int32)), .val (.ref emov), .unset, .unset, .unset] [])) tg
        exact kg
      refine gs c53 ?_
      obtain ⟨T54, X54, e54, st54⟩ := getS2 X52 hx hZ hown (host := "") (Or.inl (hw _ (List.mem_of_getElem? (i := 56) rfl))) Via.refl e52 (S_spr.ext O15.2) (g := (mkF m 89 #[.val (.int i0), .val (.int i1), .val (.int i2), .val (.int i3), .val (.ref a2), .val (.ref a5), .val (.ref a8), .val (.ref b11), .val (.int ((i3 &&& (2147483647 : Int32)) % (3 : Int32))), .val (.int (1 : Int32)), .val (.ref emov), .unset, .unset, .unset] [])) rfl (hb hby at_89)
      refine gs st54 ?_
      show OwnGo p e below s _ _ _ (T54.setTop (mkF m 92 #[.val (.int i0), .val (.int i1), .val (.int i2), .val (.int i3), .val (.ref a2), .val (.ref a5), .val (.ref a8), .val (.ref b11), .val (.int ((i3 &&& (2147483647 : Int32)) % (3 : Int32))), .val (.int (1 : Int32)), .val (.ref emov), .unset, .unset, .unset] [(.ref espr)]))
      have c55 : ∀ tg, Steps p.tables e below (T54.setTop (mkF m 137 #[.val (.int i0), .val (.int i1), .val (.int i2), .val (.int i3), .val (.ref a2), .val (.ref a5), .val (.ref a8), .val (.ref b11), .val (.int ((i3 &&& (2147483647 : Int32)) % (3 : Int32))), .val (.int (1 : Int32)), .val (.ref emov), .val (.ref espr), .val (.ref a2), .unset] [(.ref emov), (.ref espr), (.ref b11)])) tg → Steps p.tables e below (T54.setTop (mkF m 92 #[.val (.int i0), .val (.int i1), .val (.int i2), .val (.int i3), .val (.ref a2), .val (.ref a5), .val (.ref a8), .val (.ref b11), .val (.int ((i3 &&& (2147483647 : Int32)) % (3 : Int32))), .val (.int (1 : Int32)), .val (.ref emov), .unset, .unset, .unset] [(.ref espr)])) tg := fun tg kg => by
        refine XS.astore X54.here hx rfl (hb hby at_92) rfl rfl (l' := #[.val (.int i0), .val (.int i1), .val (.int i2), .val (.int i3), .val (.ref a2), .val (.ref a5), .val (.ref a8), .val (.ref b11), .val (.int ((i3 &&& (2147483647 : Int32)) % (3 : Int32))), .val (.int (1 : Int32)), .val (.ref emov), .val (.ref espr), .unset, .unset]) rfl ?_
        show Steps p.tables e below (T54.setTop (mkF m 94 #[.val (.int i0), .val (.int i1), .val (.int i2), .val (.int i3), .val (.ref a2), .val (.ref a5), .val (.ref a8), .val (.ref b11), .val (.int ((i3 &&& (2147483647 : Int32)) % (3 : Int32))), .val (.int (1 : Int32)), .val (.ref emov), .val (.ref espr), .unset, .unset] [])) tg
        refine XS.goto X54.here hx rfl (pc0 := 94) (pc' := 102) rfl (hb hby at_94) (by decide) (by decide) ?_
        show Steps p.tables e below (T54.setTop (mkF m 102 #[.val (.int i0), .val (.int i1), .val (.int i2), .val (.int i3), .val (.ref a2), .val (.ref a5), .val (.ref a8), .val (.ref b11), .val (.int ((i3 &&& (2147483647 : Int32)) % (3 : Int32))), .val (.int (1 : Int32)), .val (.ref emov), .val (.ref espr), .unset, .unset] [])) tg
        refine XS.iload X54.here hx rfl (hb hby at_102) rfl ?_
        show Steps p.tables e below (T54.setTop (mkF m 104 #[.val (.int i0), .val (.int i1), .val (.int i2), .val (.int i3), .val (.ref a2), .val (.ref a5), .val (.ref a8), .val (.ref b11), .val (.int ((i3 &&& (2147483647 : Int32)) % (3 : Int32))), .val (.int (1 : Int32)), .val (.ref emov), .val (.ref espr), .unset, .unset] [(.int ((i3 &&& (2147483647 : Int32)) % (3 : Int32)))])) tg
        refine XS.iconst X54.here hx rfl (hb hby at_104) ?_
        show Steps p.tables e below (T54.setTop (mkF m 105 #[.val (.int i0), .val (.int i1), .val (.int i2), .val (.int i3), .val (.ref a2), .val (.ref a5), .val (.ref a8), .val (.ref b11), .val (.int ((i3 &&& (2147483647 : Int32)) % (3 : Int32))), .val (.int (1 : Int32)), .val (.ref emov), .val (.ref espr), .unset, .unset] [(.int (2 : Int32)), (.int ((i3 &&& (2147483647 : Int32)) % (3 : Int32)))])) tg
        refine XS.icmpYes X54.here hx rfl (pc0 := 105) (pc' := 115) rfl (hb hby at_105) rfl (feq (by rw [hc50]; decide)).2 (by decide) (by decide) ?_
        show Steps p.tables e below (T54.setTop (mkF m 115 #[.val (.int i0), .val (.int i1), .val (.int i2), .val (.int i3), .val (.ref a2), .val (.ref a5), .val (.ref a8), .val (.ref b11), .val (.int ((i3 &&& (2147483647 : Int32)) % (3 : Int32))), .val (.int (1 : Int32)), .val (.ref emov), .val (.ref espr), .unset, .unset] [])) tg
        refine XS.iload X54.here hx rfl (hb hby at_115) rfl ?_
        show Steps p.tables e below (T54.setTop (mkF m 117 #[.val (.int i0), .val (.int i1), .val (.int i2), .val (.int i3), .val (.ref a2), .val (.ref a5), .val (.ref a8), .val (.ref b11), .val (.int ((i3 &&& (2147483647 : Int32)) % (3 : Int32))), .val (.int (1 : Int32)), .val (.ref emov), .val (.ref espr), .unset, .unset] [(.int (1 : Int32))])) tg
        refine XS.ifNo X54.here hx rfl (hb hby at_117) rfl ((if0 _ _).trans (feq (by decide : ¬ ((1 : Int32) = (0 : Int32)))).1) ?_
        show Steps p.tables e below (T54.setTop (mkF m 120 #[.val (.int i0), .val (.int i1), .val (.int i2), .val (.int i3), .val (.ref a2), .val (.ref a5), .val (.ref a8), .val (.ref b11), .val (.int ((i3 &&& (2147483647 : Int32)) % (3 : Int32))), .val (.int (1 : Int32)), .val (.ref emov), .val (.ref espr), .unset, .unset] [])) tg
        refine XS.aload X54.here hx rfl (hb hby at_120) rfl rfl ?_
        show Steps p.tables e below (T54.setTop (mkF m 122 #[.val (.int i0), .val (.int i1), .val (.int i2), .val (.int i3), .val (.ref a2), .val (.ref a5), .val (.ref a8), .val (.ref b11), .val (.int ((i3 &&& (2147483647 : Int32)) % (3 : Int32))), .val (.int (1 : Int32)), .val (.ref emov), .val (.ref espr), .unset, .unset] [(.ref a2)])) tg
        refine XS.astore X54.here hx rfl (hb hby at_122) rfl rfl (l' := #[.val (.int i0), .val (.int i1), .val (.int i2), .val (.int i3), .val (.ref a2), .val (.ref a5), .val (.ref a8), .val (.ref b11), .val (.int ((i3 &&& (2147483647 : Int32)) % (3 : Int32))), .val (.int (1 : Int32)), .val (.ref emov), .val (.ref espr), .val (.ref a2), .unset]) rfl ?_
        show Steps p.tables e below (T54.setTop (mkF m 124 #[.val (.int i0), .val (.int i1), .val (.int i2), .val (.int i3), .val (.ref a2), .val (.ref a5), .val (.ref a8), .val (.ref b11), .val (.int ((i3 &&& (2147483647 : Int32)) % (3 : Int32))), .val (.int (1 : Int32)), .val (.ref emov), .val (.ref espr), .val (.ref a2), .unset] [])) tg
        refine XS.goto X54.here hx rfl (pc0 := 124) (pc' := 131) rfl (hb hby at_124) (by decide) (by decide) ?_
        show Steps p.tables e below (T54.setTop (mkF m 131 #[.val (.int i0), .val (.int i1), .val (.int i2), .val (.int i3), .val (.ref a2), .val (.ref a5), .val (.ref a8), .val (.ref b11), .val (.int ((i3 &&& (2147483647 : Int32)) % (3 : Int32))), .val (.int (1 : Int32)), .val (.ref emov), .val (.ref espr), .val (.ref a2), .unset] [])) tg
        refine XS.aload X54.here hx rfl (hb hby at_131) rfl rfl ?_
        show Steps p.tables e below (T54.setTop (mkF m 133 #[.val (.int i0), .val (.int i1), .val (.int i2), .val (.int i3), .val (.ref a2), .val (.ref a5), .val (.ref a8), .val (.ref b11), .val (.int ((i3 &&& (2147483647 : Int32)) % (3 : Int32))), .val (.int (1 : Int32)), .val (.ref emov), .val (.ref espr), .val (.ref a2), .unset] [(.ref b11)])) tg
        refine XS.aload X54.here hx rfl (hb hby at_133) rfl rfl ?_
        show Steps p.tables e below (T54.setTop (mkF m 135 #[.val (.int i0), .val (.int i1), .val (.int i2), .val (.int i3), .val (.ref a2), .val (.ref a5), .val (.ref a8), .val (.ref b11), .val (.int ((i3 &&& (2147483647 : Int32)) % (3 : Int32))), .val (.int (1 : Int32)), .val (.ref emov), .val (.ref espr), .val (.ref a2), .unset] [(.ref espr), (.ref b11)])) tg
        refine XS.aload X54.here hx rfl (hb hby at_135) rfl rfl ?_
        show Steps p.tables e below (T54.setTop (mkF m 137 #[.val (.int i0), .val (.int i1), .val (.int i2), .val (.int i3), .val (.ref a2), .val (.ref a5), .val (.ref a8), .val (.ref b11), .val (.int ((i3 &&& (2147483647 : Int32)) % (3 : Int32))), .val (.int (1 : Int32)), .val (.ref emov), .val (.ref espr), .val (.ref a2), .unset] [(.ref emov), (.ref espr), (.ref b11)])) tg
        exact kg
      refine gs c55 ?_
      have f57 := (A11.keep K14q)
      obtain ⟨cq56, kq56, q56a, q56b, q56c⟩ := isOf hZ e54 f57
      obtain ⟨_, _, ⟨T56, L56, k56, n56⟩, -, X56, ⟨Lc56, hQ56, l56, y56, z56⟩, st56⟩ := X54.virtualBack hx (y := (⟨"com/example/sealed_orders/sealedorders/rules/SeasonNames", "of", "(Lcom/example/sealed_orders/sealedorders/rules/Phase$Season;Lcom/example/sealed_orders/sealedorders/rules/Phase$Kind;)Ljava/lang/String;"⟩ : MethodName)) (z := (⟨"com/example/sealed_orders/sealedorders/rules/SeasonNames", "of", "(Lcom/example/sealed_orders/sealedorders/rules/Phase$Season;Lcom/example/sealed_orders/sealedorders/rules/Phase$Kind;)Ljava/lang/String;"⟩ : MethodName)) hown (mvT hZ (hw _ (List.mem_of_getElem? (i := 59) rfl))) (mvT hZ (hw _ (List.mem_of_getElem? (i := 60) rfl))) (notFace_of_selects (args := #[]) (mvT hZ (hw _ (List.mem_of_getElem? (i := 62) rfl)))) (mvT hZ (hw _ (List.mem_of_getElem? (i := 62) rfl))) (mvT hZ (hw _ (List.mem_of_getElem? (i := 61) rfl))) (by decide) (backC (W := 0) (rm_of l Z a0 hw [] b11 espr emov a2 a5 a8 eadj espr T14.heap n0 Z15 O15 F14_0 F14_1 F14_2 S_adj S_spr) hZ (hw _ (List.mem_of_getElem? (i := 63) rfl)) (hw _ (List.mem_of_getElem? (i := 36) rfl)) (by decide) (by decide)) q56a q56c (g := (mkF m 137 #[.val (.int i0), .val (.int i1), .val (.int i2), .val (.int i3), .val (.ref a2), .val (.ref a5), .val (.ref a8), .val (.ref b11), .val (.int ((i3 &&& (2147483647 : Int32)) % (3 : Int32))), .val (.int (1 : Int32)), .val (.ref emov), .val (.ref espr), .val (.ref a2), .unset] [(.ref emov), (.ref espr), (.ref b11)])) rfl (by rw [hml]; rfl) (Steps.refl _) (argsL := [(.ref espr), (.ref emov)]) (rest := []) (lenOf pd_70 rfl) rfl (by show 2 * 0 + _ ≤ _; exact Nat.le_of_eq rfl) (hb hby at_137) (fun _ _ => ⟨rfl, e54, (by decide : 10 + 0 ≤ _), (by decide : 27 + 0 ≤ _)⟩)
      dsimp only [Pt.U, Pt.locs, Pt.cells, Pt.slots] at X56 l56 y56 z56 st56 hQ56
      subst l56 y56 z56
      obtain ⟨r56, rfl, N56q, K56q, q56x, q56y, q56z⟩ := hQ56
      have N56 := Fr.app N14 N56q
      have Z58 : n0 ≤ T56.heap.size := Nat.le_trans Z15 K56q.1
      have O58 : Old Z n0 T56.heap := O15.keep K56q all0
      have K58 : Keep h0 T56.heap [] := K15.trans K56q all0
      obtain rfl : a2 = r56 := (q56y n_ma rfl).symm
      refine gs (fun _ k => st56.trans k) ?_
      show OwnGo p e below s _ _ _ (T56.setTop (mkF m 140 #[.val (.int i0), .val (.int i1), .val (.int i2), .val (.int i3), .val (.ref a2), .val (.ref a5), .val (.ref a8), .val (.ref b11), .val (.int ((i3 &&& (2147483647 : Int32)) % (3 : Int32))), .val (.int (1 : Int32)), .val (.ref emov), .val (.ref espr), .val (.ref a2), .unset] [(.ref a2)]))
      have c59 : ∀ tg, Steps p.tables e below (T56.setTop (mkF m 154 #[.val (.int i0), .val (.int i1), .val (.int i2), .val (.int i3), .val (.ref a2), .val (.ref a5), .val (.ref a8), .val (.ref b11), .val (.int ((i3 &&& (2147483647 : Int32)) % (3 : Int32))), .val (.int (1 : Int32)), .val (.ref emov), .val (.ref espr), .val (.ref a2), .val (.ref a2)] [(.int (1 : Int32))])) tg → Steps p.tables e below (T56.setTop (mkF m 140 #[.val (.int i0), .val (.int i1), .val (.int i2), .val (.int i3), .val (.ref a2), .val (.ref a5), .val (.ref a8), .val (.ref b11), .val (.int ((i3 &&& (2147483647 : Int32)) % (3 : Int32))), .val (.int (1 : Int32)), .val (.ref emov), .val (.ref espr), .val (.ref a2), .unset] [(.ref a2)])) tg := fun tg kg => by
        refine XS.astore X56.here hx rfl (hb hby at_140) rfl rfl (l' := #[.val (.int i0), .val (.int i1), .val (.int i2), .val (.int i3), .val (.ref a2), .val (.ref a5), .val (.ref a8), .val (.ref b11), .val (.int ((i3 &&& (2147483647 : Int32)) % (3 : Int32))), .val (.int (1 : Int32)), .val (.ref emov), .val (.ref espr), .val (.ref a2), .val (.ref a2)]) rfl ?_
        show Steps p.tables e below (T56.setTop (mkF m 142 #[.val (.int i0), .val (.int i1), .val (.int i2), .val (.int i3), .val (.ref a2), .val (.ref a5), .val (.ref a8), .val (.ref b11), .val (.int ((i3 &&& (2147483647 : Int32)) % (3 : Int32))), .val (.int (1 : Int32)), .val (.ref emov), .val (.ref espr), .val (.ref a2), .val (.ref a2)] [])) tg
        refine XS.aload X56.here hx rfl (hb hby at_142) rfl rfl ?_
        show Steps p.tables e below (T56.setTop (mkF m 144 #[.val (.int i0), .val (.int i1), .val (.int i2), .val (.int i3), .val (.ref a2), .val (.ref a5), .val (.ref a8), .val (.ref b11), .val (.int ((i3 &&& (2147483647 : Int32)) % (3 : Int32))), .val (.int (1 : Int32)), .val (.ref emov), .val (.ref espr), .val (.ref a2), .val (.ref a2)] [(.ref a2)])) tg
        refine XS.aload X56.here hx rfl (hb hby at_144) rfl rfl ?_
        show Steps p.tables e below (T56.setTop (mkF m 146 #[.val (.int i0), .val (.int i1), .val (.int i2), .val (.int i3), .val (.ref a2), .val (.ref a5), .val (.ref a8), .val (.ref b11), .val (.int ((i3 &&& (2147483647 : Int32)) % (3 : Int32))), .val (.int (1 : Int32)), .val (.ref emov), .val (.ref espr), .val (.ref a2), .val (.ref a2)] [(.ref a2), (.ref a2)])) tg
        refine Jvm.RoadKit.acmp (g := (mkF m 146 #[.val (.int i0), .val (.int i1), .val (.int i2), .val (.int i3), .val (.ref a2), .val (.ref a5), .val (.ref a8), .val (.ref b11), .val (.int ((i3 &&& (2147483647 : Int32)) % (3 : Int32))), .val (.int (1 : Int32)), .val (.ref emov), .val (.ref espr), .val (.ref a2), .val (.ref a2)] [(.ref a2), (.ref a2)])) X56 hx rfl rfl rfl (pc0 := 146) (pc' := 149) (same := true) rfl (hb hby at_146) rfl (decide_eq_true rfl) (by decide) (by decide) ?_
        show Steps p.tables e below (T56.setTop (mkF m 149 #[.val (.int i0), .val (.int i1), .val (.int i2), .val (.int i3), .val (.ref a2), .val (.ref a5), .val (.ref a8), .val (.ref b11), .val (.int ((i3 &&& (2147483647 : Int32)) % (3 : Int32))), .val (.int (1 : Int32)), .val (.ref emov), .val (.ref espr), .val (.ref a2), .val (.ref a2)] [])) tg
        refine XS.iconst X56.here hx rfl (hb hby at_149) ?_
        show Steps p.tables e below (T56.setTop (mkF m 150 #[.val (.int i0), .val (.int i1), .val (.int i2), .val (.int i3), .val (.ref a2), .val (.ref a5), .val (.ref a8), .val (.ref b11), .val (.int ((i3 &&& (2147483647 : Int32)) % (3 : Int32))), .val (.int (1 : Int32)), .val (.ref emov), .val (.ref espr), .val (.ref a2), .val (.ref a2)] [(.int (1 : Int32))])) tg
        refine XS.goto X56.here hx rfl (pc0 := 150) (pc' := 154) rfl (hb hby at_150) (by decide) (by decide) ?_
        show Steps p.tables e below (T56.setTop (mkF m 154 #[.val (.int i0), .val (.int i1), .val (.int i2), .val (.int i3), .val (.ref a2), .val (.ref a5), .val (.ref a8), .val (.ref b11), .val (.int ((i3 &&& (2147483647 : Int32)) % (3 : Int32))), .val (.int (1 : Int32)), .val (.ref emov), .val (.ref espr), .val (.ref a2), .val (.ref a2)] [(.int (1 : Int32))])) tg
        exact kg
      refine gs c59 ?_
      refine gout (v := some (.int (1 : Int32))) X56 Bd.notSynchronized (fun h => by rw [Bd.returns] at h; cases h) (by decide) (by decide) ?_ (fun fs hr => retN X56 hx (t := .boolean) Bd.returns (by simp) (hb hby at_154) hr)
      exact ⟨rfl, N56⟩
    · have c60 : ∀ tg, Steps p.tables e below (T14.setTop (mkF m 68 #[.val (.int i0), .val (.int i1), .val (.int i2), .val (.int i3), .val (.ref a2), .val (.ref a5), .val (.ref a8), .val (.ref b11), .val (.int ((i3 &&& (2147483647 : Int32)) % (3 : Int32))), .val (.int (1 : Int32)), .unset, .unset, .unset, .unset] [(.int (1 : Int32)), (.int ((i3 &&& (2147483647 : Int32)) % (3 : Int32)))])) tg → Steps p.tables e below (T14.setTop (mkF m 54 #[.val (.int i0), .val (.int i1), .val (.int i2), .val (.int i3), .val (.ref a2), .val (.ref a5), .val (.ref a8), .val (.ref b11), .val (.int ((i3 &&& (2147483647 : Int32)) % (3 : Int32))), .val (.int (1 : Int32)), .unset, .unset, .unset, .unset] [(.int ((i3 &&& (2147483647 : Int32)) % (3 : Int32)))])) tg := fun tg kg => by
        refine XS.ifYes X14.here hx rfl (pc0 := 54) (pc' := 65) rfl (hb hby at_54) rfl ((if0 _ _).trans (feq hc50).2) (by decide) (by decide) ?_
        show Steps p.tables e below (T14.setTop (mkF m 65 #[.val (.int i0), .val (.int i1), .val (.int i2), .val (.int i3), .val (.ref a2), .val (.ref a5), .val (.ref a8), .val (.ref b11), .val (.int ((i3 &&& (2147483647 : Int32)) % (3 : Int32))), .val (.int (1 : Int32)), .unset, .unset, .unset, .unset] [])) tg
        refine XS.iload X14.here hx rfl (hb hby at_65) rfl ?_
        show Steps p.tables e below (T14.setTop (mkF m 67 #[.val (.int i0), .val (.int i1), .val (.int i2), .val (.int i3), .val (.ref a2), .val (.ref a5), .val (.ref a8), .val (.ref b11), .val (.int ((i3 &&& (2147483647 : Int32)) % (3 : Int32))), .val (.int (1 : Int32)), .unset, .unset, .unset, .unset] [(.int ((i3 &&& (2147483647 : Int32)) % (3 : Int32)))])) tg
        refine XS.iconst X14.here hx rfl (hb hby at_67) ?_
        show Steps p.tables e below (T14.setTop (mkF m 68 #[.val (.int i0), .val (.int i1), .val (.int i2), .val (.int i3), .val (.ref a2), .val (.ref a5), .val (.ref a8), .val (.ref b11), .val (.int ((i3 &&& (2147483647 : Int32)) % (3 : Int32))), .val (.int (1 : Int32)), .unset, .unset, .unset, .unset] [(.int (1 : Int32)), (.int ((i3 &&& (2147483647 : Int32)) % (3 : Int32)))])) tg
        exact kg
      refine gs c60 ?_
      by_cases hc61 : ((i3 &&& (2147483647 : Int32)) % (3 : Int32)) = (1 : Int32)
      · have c62 : ∀ tg, Steps p.tables e below (T14.setTop (mkF m 71 #[.val (.int i0), .val (.int i1), .val (.int i2), .val (.int i3), .val (.ref a2), .val (.ref a5), .val (.ref a8), .val (.ref b11), .val (.int ((i3 &&& (2147483647 : Int32)) % (3 : Int32))), .val (.int (1 : Int32)), .unset, .unset, .unset, .unset] [])) tg → Steps p.tables e below (T14.setTop (mkF m 68 #[.val (.int i0), .val (.int i1), .val (.int i2), .val (.int i3), .val (.ref a2), .val (.ref a5), .val (.ref a8), .val (.ref b11), .val (.int ((i3 &&& (2147483647 : Int32)) % (3 : Int32))), .val (.int (1 : Int32)), .unset, .unset, .unset, .unset] [(.int (1 : Int32)), (.int ((i3 &&& (2147483647 : Int32)) % (3 : Int32)))])) tg := fun tg kg => by
          refine XS.icmpNo X14.here hx rfl (hb hby at_68) rfl (teq hc61).2 ?_
          show Steps p.tables e below (T14.setTop (mkF m 71 #[.val (.int i0), .val (.int i1), .val (.int i2), .val (.int i3), .val (.ref a2), .val (.ref a5), .val (.ref a8), .val (.ref b11), .val (.int ((i3 &&& (2147483647 : Int32)) % (3 : Int32))), .val (.int (1 : Int32)), .unset, .unset, .unset, .unset] [])) tg
          exact kg
        refine gs c62 ?_
        obtain ⟨T63, X63, e63, st63⟩ := getS2 X14 hx hZ hown (host := "") (Or.inl (hw _ (List.mem_of_getElem? (i := 53) rfl))) Via.refl rfl (S_ret.ext O15.2) (g := (mkF m 71 #[.val (.int i0), .val (.int i1), .val (.int i2), .val (.int i3), .val (.ref a2), .val (.ref a5), .val (.ref a8), .val (.ref b11), .val (.int ((i3 &&& (2147483647 : Int32)) % (3 : Int32))), .val (.int (1 : Int32)), .unset, .unset, .unset, .unset] [])) rfl (hb hby at_71)
        refine gs st63 ?_
        show OwnGo p e below s _ _ _ (T63.setTop (mkF m 74 #[.val (.int i0), .val (.int i1), .val (.int i2), .val (.int i3), .val (.ref a2), .val (.ref a5), .val (.ref a8), .val (.ref b11), .val (.int ((i3 &&& (2147483647 : Int32)) % (3 : Int32))), .val (.int (1 : Int32)), .unset, .unset, .unset, .unset] [(.ref eret)]))
        have c64 : ∀ tg, Steps p.tables e below (T63.setTop (mkF m 89 #[.val (.int i0), .val (.int i1), .val (.int i2), .val (.int i3), .val (.ref a2), .val (.ref a5), .val (.ref a8), .val (.ref b11), .val (.int ((i3 &&& (2147483647 : Int32)) % (3 : Int32))), .val (.int (1 : Int32)), .val (.ref eret), .unset, .unset, .unset] [])) tg → Steps p.tables e below (T63.setTop (mkF m 74 #[.val (.int i0), .val (.int i1), .val (.int i2), .val (.int i3), .val (.ref a2), .val (.ref a5), .val (.ref a8), .val (.ref b11), .val (.int ((i3 &&& (2147483647 : Int32)) % (3 : Int32))), .val (.int (1 : Int32)), .unset, .unset, .unset, .unset] [(.ref eret)])) tg := fun tg kg => by
          refine XS.astore X63.here hx rfl (hb hby at_74) rfl rfl (l' := #[.val (.int i0), .val (.int i1), .val (.int i2), .val (.int i3), .val (.ref a2), .val (.ref a5), .val (.ref a8), .val (.ref b11), .val (.int ((i3 &&& (2147483647 : Int32)) % (3 : Int32))), .val (.int (1 : Int32)), .val (.ref eret), .unset, .unset, .unset]) rfl ?_
          show Steps p.tables e below (T63.setTop (mkF m 76 #[.val (.int i0), .val (.int i1), .val (.int i2), .val (.int i3), .val (.ref a2), .val (.ref a5), .val (.ref a8), .val (.ref b11), .val (.int ((i3 &&& (2147483647 : Int32)) % (3 : Int32))), .val (.int (1 : Int32)), .val (.ref eret), .unset, .unset, .unset] [])) tg
          refine XS.goto X63.here hx rfl (pc0 := 76) (pc' := 84) rfl (hb hby at_76) (by decide) (by decide) ?_
          show Steps p.tables e below (T63.setTop (mkF m 84 #[.val (.int i0), .val (.int i1), .val (.int i2), .val (.int i3), .val (.ref a2), .val (.ref a5), .val (.ref a8), .val (.ref b11), .val (.int ((i3 &&& (2147483647 : Int32)) % (3 : Int32))), .val (.int (1 : Int32)), .val (.ref eret), .unset, .unset, .unset] [])) tg
          refine XS.iload X63.here hx rfl (hb hby at_84) rfl ?_
          show Steps p.tables e below (T63.setTop (mkF m 86 #[.val (.int i0), .val (.int i1), .val (.int i2), .val (.int i3), .val (.ref a2), .val (.ref a5), .val (.ref a8), .val (.ref b11), .val (.int ((i3 &&& (2147483647 : Int32)) % (3 : Int32))), .val (.int (1 : Int32)), .val (.ref eret), .unset, .unset, .unset] [(.int (1 : Int32))])) tg
          refine XS.ifNo X63.here hx rfl (hb hby at_86) rfl ((if0 _ _).trans (feq (by decide : ¬ ((1 : Int32) = (0 : Int32)))).1) ?_
          show Steps p.tables e below (T63.setTop (mkF m 89 #[.val (.int i0), .val (.int i1), .val (.int i2), .val (.int i3), .val (.ref a2), .val (.ref a5), .val (.ref a8), .val (.ref b11), .val (.int ((i3 &&& (2147483647 : Int32)) % (3 : Int32))), .val (.int (1 : Int32)), .val (.ref eret), .unset, .unset, .unset] [])) tg
          exact kg
        refine gs c64 ?_
        obtain ⟨T65, X65, e65, st65⟩ := getS2 X63 hx hZ hown (host := "") (Or.inl (hw _ (List.mem_of_getElem? (i := 56) rfl))) Via.refl e63 (S_spr.ext O15.2) (g := (mkF m 89 #[.val (.int i0), .val (.int i1), .val (.int i2), .val (.int i3), .val (.ref a2), .val (.ref a5), .val (.ref a8), .val (.ref b11), .val (.int ((i3 &&& (2147483647 : Int32)) % (3 : Int32))), .val (.int (1 : Int32)), .val (.ref eret), .unset, .unset, .unset] [])) rfl (hb hby at_89)
        refine gs st65 ?_
        show OwnGo p e below s _ _ _ (T65.setTop (mkF m 92 #[.val (.int i0), .val (.int i1), .val (.int i2), .val (.int i3), .val (.ref a2), .val (.ref a5), .val (.ref a8), .val (.ref b11), .val (.int ((i3 &&& (2147483647 : Int32)) % (3 : Int32))), .val (.int (1 : Int32)), .val (.ref eret), .unset, .unset, .unset] [(.ref espr)]))
        have c66 : ∀ tg, Steps p.tables e below (T65.setTop (mkF m 137 #[.val (.int i0), .val (.int i1), .val (.int i2), .val (.int i3), .val (.ref a2), .val (.ref a5), .val (.ref a8), .val (.ref b11), .val (.int ((i3 &&& (2147483647 : Int32)) % (3 : Int32))), .val (.int (1 : Int32)), .val (.ref eret), .val (.ref espr), .val (.ref a2), .unset] [(.ref eret), (.ref espr), (.ref b11)])) tg → Steps p.tables e below (T65.setTop (mkF m 92 #[.val (.int i0), .val (.int i1), .val (.int i2), .val (.int i3), .val (.ref a2), .val (.ref a5), .val (.ref a8), .val (.ref b11), .val (.int ((i3 &&& (2147483647 : Int32)) % (3 : Int32))), .val (.int (1 : Int32)), .val (.ref eret), .unset, .unset, .unset] [(.ref espr)])) tg := fun tg kg => by
          refine XS.astore X65.here hx rfl (hb hby at_92) rfl rfl (l' := #[.val (.int i0), .val (.int i1), .val (.int i2), .val (.int i3), .val (.ref a2), .val (.ref a5), .val (.ref a8), .val (.ref b11), .val (.int ((i3 &&& (2147483647 : Int32)) % (3 : Int32))), .val (.int (1 : Int32)), .val (.ref eret), .val (.ref espr), .unset, .unset]) rfl ?_
          show Steps p.tables e below (T65.setTop (mkF m 94 #[.val (.int i0), .val (.int i1), .val (.int i2), .val (.int i3), .val (.ref a2), .val (.ref a5), .val (.ref a8), .val (.ref b11), .val (.int ((i3 &&& (2147483647 : Int32)) % (3 : Int32))), .val (.int (1 : Int32)), .val (.ref eret), .val (.ref espr), .unset, .unset] [])) tg
          refine XS.goto X65.here hx rfl (pc0 := 94) (pc' := 102) rfl (hb hby at_94) (by decide) (by decide) ?_
          show Steps p.tables e below (T65.setTop (mkF m 102 #[.val (.int i0), .val (.int i1), .val (.int i2), .val (.int i3), .val (.ref a2), .val (.ref a5), .val (.ref a8), .val (.ref b11), .val (.int ((i3 &&& (2147483647 : Int32)) % (3 : Int32))), .val (.int (1 : Int32)), .val (.ref eret), .val (.ref espr), .unset, .unset] [])) tg
          refine XS.iload X65.here hx rfl (hb hby at_102) rfl ?_
          show Steps p.tables e below (T65.setTop (mkF m 104 #[.val (.int i0), .val (.int i1), .val (.int i2), .val (.int i3), .val (.ref a2), .val (.ref a5), .val (.ref a8), .val (.ref b11), .val (.int ((i3 &&& (2147483647 : Int32)) % (3 : Int32))), .val (.int (1 : Int32)), .val (.ref eret), .val (.ref espr), .unset, .unset] [(.int ((i3 &&& (2147483647 : Int32)) % (3 : Int32)))])) tg
          refine XS.iconst X65.here hx rfl (hb hby at_104) ?_
          show Steps p.tables e below (T65.setTop (mkF m 105 #[.val (.int i0), .val (.int i1), .val (.int i2), .val (.int i3), .val (.ref a2), .val (.ref a5), .val (.ref a8), .val (.ref b11), .val (.int ((i3 &&& (2147483647 : Int32)) % (3 : Int32))), .val (.int (1 : Int32)), .val (.ref eret), .val (.ref espr), .unset, .unset] [(.int (2 : Int32)), (.int ((i3 &&& (2147483647 : Int32)) % (3 : Int32)))])) tg
          refine XS.icmpYes X65.here hx rfl (pc0 := 105) (pc' := 115) rfl (hb hby at_105) rfl (feq (by rw [hc61]; decide)).2 (by decide) (by decide) ?_
          show Steps p.tables e below (T65.setTop (mkF m 115 #[.val (.int i0), .val (.int i1), .val (.int i2), .val (.int i3), .val (.ref a2), .val (.ref a5), .val (.ref a8), .val (.ref b11), .val (.int ((i3 &&& (2147483647 : Int32)) % (3 : Int32))), .val (.int (1 : Int32)), .val (.ref eret), .val (.ref espr), .unset, .unset] [])) tg
          refine XS.iload X65.here hx rfl (hb hby at_115) rfl ?_
          show Steps p.tables e below (T65.setTop (mkF m 117 #[.val (.int i0), .val (.int i1), .val (.int i2), .val (.int i3), .val (.ref a2), .val (.ref a5), .val (.ref a8), .val (.ref b11), .val (.int ((i3 &&& (2147483647 : Int32)) % (3 : Int32))), .val (.int (1 : Int32)), .val (.ref eret), .val (.ref espr), .unset, .unset] [(.int (1 : Int32))])) tg
          refine XS.ifNo X65.here hx rfl (hb hby at_117) rfl ((if0 _ _).trans (feq (by decide : ¬ ((1 : Int32) = (0 : Int32)))).1) ?_
          show Steps p.tables e below (T65.setTop (mkF m 120 #[.val (.int i0), .val (.int i1), .val (.int i2), .val (.int i3), .val (.ref a2), .val (.ref a5), .val (.ref a8), .val (.ref b11), .val (.int ((i3 &&& (2147483647 : Int32)) % (3 : Int32))), .val (.int (1 : Int32)), .val (.ref eret), .val (.ref espr), .unset, .unset] [])) tg
          refine XS.aload X65.here hx rfl (hb hby at_120) rfl rfl ?_
          show Steps p.tables e below (T65.setTop (mkF m 122 #[.val (.int i0), .val (.int i1), .val (.int i2), .val (.int i3), .val (.ref a2), .val (.ref a5), .val (.ref a8), .val (.ref b11), .val (.int ((i3 &&& (2147483647 : Int32)) % (3 : Int32))), .val (.int (1 : Int32)), .val (.ref eret), .val (.ref espr), .unset, .unset] [(.ref a2)])) tg
          refine XS.astore X65.here hx rfl (hb hby at_122) rfl rfl (l' := #[.val (.int i0), .val (.int i1), .val (.int i2), .val (.int i3), .val (.ref a2), .val (.ref a5), .val (.ref a8), .val (.ref b11), .val (.int ((i3 &&& (2147483647 : Int32)) % (3 : Int32))), .val (.int (1 : Int32)), .val (.ref eret), .val (.ref espr), .val (.ref a2), .unset]) rfl ?_
          show Steps p.tables e below (T65.setTop (mkF m 124 #[.val (.int i0), .val (.int i1), .val (.int i2), .val (.int i3), .val (.ref a2), .val (.ref a5), .val (.ref a8), .val (.ref b11), .val (.int ((i3 &&& (2147483647 : Int32)) % (3 : Int32))), .val (.int (1 : Int32)), .val (.ref eret), .val (.ref espr), .val (.ref a2), .unset] [])) tg
          refine XS.goto X65.here hx rfl (pc0 := 124) (pc' := 131) rfl (hb hby at_124) (by decide) (by decide) ?_
          show Steps p.tables e below (T65.setTop (mkF m 131 #[.val (.int i0), .val (.int i1), .val (.int i2), .val (.int i3), .val (.ref a2), .val (.ref a5), .val (.ref a8), .val (.ref b11), .val (.int ((i3 &&& (2147483647 : Int32)) % (3 : Int32))), .val (.int (1 : Int32)), .val (.ref eret), .val (.ref espr), .val (.ref a2), .unset] [])) tg
          refine XS.aload X65.here hx rfl (hb hby at_131) rfl rfl ?_
          show Steps p.tables e below (T65.setTop (mkF m 133 #[.val (.int i0), .val (.int i1), .val (.int i2), .val (.int i3), .val (.ref a2), .val (.ref a5), .val (.ref a8), .val (.ref b11), .val (.int ((i3 &&& (2147483647 : Int32)) % (3 : Int32))), .val (.int (1 : Int32)), .val (.ref eret), .val (.ref espr), .val (.ref a2), .unset] [(.ref b11)])) tg
          refine XS.aload X65.here hx rfl (hb hby at_133) rfl rfl ?_
          show Steps p.tables e below (T65.setTop (mkF m 135 #[.val (.int i0), .val (.int i1), .val (.int i2), .val (.int i3), .val (.ref a2), .val (.ref a5), .val (.ref a8), .val (.ref b11), .val (.int ((i3 &&& (2147483647 : Int32)) % (3 : Int32))), .val (.int (1 : Int32)), .val (.ref eret), .val (.ref espr), .val (.ref a2), .unset] [(.ref espr), (.ref b11)])) tg
          refine XS.aload X65.here hx rfl (hb hby at_135) rfl rfl ?_
          show Steps p.tables e below (T65.setTop (mkF m 137 #[.val (.int i0), .val (.int i1), .val (.int i2), .val (.int i3), .val (.ref a2), .val (.ref a5), .val (.ref a8), .val (.ref b11), .val (.int ((i3 &&& (2147483647 : Int32)) % (3 : Int32))), .val (.int (1 : Int32)), .val (.ref eret), .val (.ref espr), .val (.ref a2), .unset] [(.ref eret), (.ref espr), (.ref b11)])) tg
          exact kg
        refine gs c66 ?_
        have f68 := (A11.keep K14q)
        obtain ⟨cq67, kq67, q67a, q67b, q67c⟩ := isOf hZ e65 f68
        obtain ⟨_, _, ⟨T67, L67, k67, n67⟩, -, X67, ⟨Lc67, hQ67, l67, y67, z67⟩, st67⟩ := X65.virtualBack hx (y := (⟨"com/example/sealed_orders/sealedorders/rules/SeasonNames", "of", "(Lcom/example/sealed_orders/sealedorders/rules/Phase$Season;Lcom/example/sealed_orders/sealedorders/rules/Phase$Kind;)Ljava/lang/String;"⟩ : MethodName)) (z := (⟨"com/example/sealed_orders/sealedorders/rules/SeasonNames", "of", "(Lcom/example/sealed_orders/sealedorders/rules/Phase$Season;Lcom/example/sealed_orders/sealedorders/rules/Phase$Kind;)Ljava/lang/String;"⟩ : MethodName)) hown (mvT hZ (hw _ (List.mem_of_getElem? (i := 59) rfl))) (mvT hZ (hw _ (List.mem_of_getElem? (i := 60) rfl))) (notFace_of_selects (args := #[]) (mvT hZ (hw _ (List.mem_of_getElem? (i := 62) rfl)))) (mvT hZ (hw _ (List.mem_of_getElem? (i := 62) rfl))) (mvT hZ (hw _ (List.mem_of_getElem? (i := 61) rfl))) (by decide) (backC (W := 0) (rm_of l Z a0 hw [] b11 espr eret a2 a5 a8 eadj espr T14.heap n0 Z15 O15 F14_0 F14_1 F14_2 S_adj S_spr) hZ (hw _ (List.mem_of_getElem? (i := 63) rfl)) (hw _ (List.mem_of_getElem? (i := 36) rfl)) (by decide) (by decide)) q67a q67c (g := (mkF m 137 #[.val (.int i0), .val (.int i1), .val (.int i2), .val (.int i3), .val (.ref a2), .val (.ref a5), .val (.ref a8), .val (.ref b11), .val (.int ((i3 &&& (2147483647 : Int32)) % (3 : Int32))), .val (.int (1 : Int32)), .val (.ref eret), .val (.ref espr), .val (.ref a2), .unset] [(.ref eret), (.ref espr), (.ref b11)])) rfl (by rw [hml]; rfl) (Steps.refl _) (argsL := [(.ref espr), (.ref eret)]) (rest := []) (lenOf pd_70 rfl) rfl (by show 2 * 0 + _ ≤ _; exact Nat.le_of_eq rfl) (hb hby at_137) (fun _ _ => ⟨rfl, e65, (by decide : 10 + 0 ≤ _), (by decide : 27 + 0 ≤ _)⟩)
        dsimp only [Pt.U, Pt.locs, Pt.cells, Pt.slots] at X67 l67 y67 z67 st67 hQ67
        subst l67 y67 z67
        obtain ⟨r67, rfl, N67q, K67q, q67x, q67y, q67z⟩ := hQ67
        have N67 := Fr.app N14 N67q
        have Z69 : n0 ≤ T67.heap.size := Nat.le_trans Z15 K67q.1
        have O69 : Old Z n0 T67.heap := O15.keep K67q all0
        have K69 : Keep h0 T67.heap [] := K15.trans K67q all0
        obtain rfl : a2 = r67 := (q67y n_ra rfl).symm
        refine gs (fun _ k => st67.trans k) ?_
        show OwnGo p e below s _ _ _ (T67.setTop (mkF m 140 #[.val (.int i0), .val (.int i1), .val (.int i2), .val (.int i3), .val (.ref a2), .val (.ref a5), .val (.ref a8), .val (.ref b11), .val (.int ((i3 &&& (2147483647 : Int32)) % (3 : Int32))), .val (.int (1 : Int32)), .val (.ref eret), .val (.ref espr), .val (.ref a2), .unset] [(.ref a2)]))
        have c70 : ∀ tg, Steps p.tables e below (T67.setTop (mkF m 154 #[.val (.int i0), .val (.int i1), .val (.int i2), .val (.int i3), .val (.ref a2), .val (.ref a5), .val (.ref a8), .val (.ref b11), .val (.int ((i3 &&& (2147483647 : Int32)) % (3 : Int32))), .val (.int (1 : Int32)), .val (.ref eret), .val (.ref espr), .val (.ref a2), .val (.ref a2)] [(.int (1 : Int32))])) tg → Steps p.tables e below (T67.setTop (mkF m 140 #[.val (.int i0), .val (.int i1), .val (.int i2), .val (.int i3), .val (.ref a2), .val (.ref a5), .val (.ref a8), .val (.ref b11), .val (.int ((i3 &&& (2147483647 : Int32)) % (3 : Int32))), .val (.int (1 : Int32)), .val (.ref eret), .val (.ref espr), .val (.ref a2), .unset] [(.ref a2)])) tg := fun tg kg => by
          refine XS.astore X67.here hx rfl (hb hby at_140) rfl rfl (l' := #[.val (.int i0), .val (.int i1), .val (.int i2), .val (.int i3), .val (.ref a2), .val (.ref a5), .val (.ref a8), .val (.ref b11), .val (.int ((i3 &&& (2147483647 : Int32)) % (3 : Int32))), .val (.int (1 : Int32)), .val (.ref eret), .val (.ref espr), .val (.ref a2), .val (.ref a2)]) rfl ?_
          show Steps p.tables e below (T67.setTop (mkF m 142 #[.val (.int i0), .val (.int i1), .val (.int i2), .val (.int i3), .val (.ref a2), .val (.ref a5), .val (.ref a8), .val (.ref b11), .val (.int ((i3 &&& (2147483647 : Int32)) % (3 : Int32))), .val (.int (1 : Int32)), .val (.ref eret), .val (.ref espr), .val (.ref a2), .val (.ref a2)] [])) tg
          refine XS.aload X67.here hx rfl (hb hby at_142) rfl rfl ?_
          show Steps p.tables e below (T67.setTop (mkF m 144 #[.val (.int i0), .val (.int i1), .val (.int i2), .val (.int i3), .val (.ref a2), .val (.ref a5), .val (.ref a8), .val (.ref b11), .val (.int ((i3 &&& (2147483647 : Int32)) % (3 : Int32))), .val (.int (1 : Int32)), .val (.ref eret), .val (.ref espr), .val (.ref a2), .val (.ref a2)] [(.ref a2)])) tg
          refine XS.aload X67.here hx rfl (hb hby at_144) rfl rfl ?_
          show Steps p.tables e below (T67.setTop (mkF m 146 #[.val (.int i0), .val (.int i1), .val (.int i2), .val (.int i3), .val (.ref a2), .val (.ref a5), .val (.ref a8), .val (.ref b11), .val (.int ((i3 &&& (2147483647 : Int32)) % (3 : Int32))), .val (.int (1 : Int32)), .val (.ref eret), .val (.ref espr), .val (.ref a2), .val (.ref a2)] [(.ref a2), (.ref a2)])) tg
          refine Jvm.RoadKit.acmp (g := (mkF m 146 #[.val (.int i0), .val (.int i1), .val (.int i2), .val (.int i3), .val (.ref a2), .val (.ref a5), .val (.ref a8), .val (.ref b11), .val (.int ((i3 &&& (2147483647 : Int32)) % (3 : Int32))), .val (.int (1 : Int32)), .val (.ref eret), .val (.ref espr), .val (.ref a2), .val (.ref a2)] [(.ref a2), (.ref a2)])) X67 hx rfl rfl rfl (pc0 := 146) (pc' := 149) (same := true) rfl (hb hby at_146) rfl (decide_eq_true rfl) (by decide) (by decide) ?_
          show Steps p.tables e below (T67.setTop (mkF m 149 #[.val (.int i0), .val (.int i1), .val (.int i2), .val (.int i3), .val (.ref a2), .val (.ref a5), .val (.ref a8), .val (.ref b11), .val (.int ((i3 &&& (2147483647 : Int32)) % (3 : Int32))), .val (.int (1 : Int32)), .val (.ref eret), .val (.ref espr), .val (.ref a2), .val (.ref a2)] [])) tg
          refine XS.iconst X67.here hx rfl (hb hby at_149) ?_
          show Steps p.tables e below (T67.setTop (mkF m 150 #[.val (.int i0), .val (.int i1), .val (.int i2), .val (.int i3), .val (.ref a2), .val (.ref a5), .val (.ref a8), .val (.ref b11), .val (.int ((i3 &&& (2147483647 : Int32)) % (3 : Int32))), .val (.int (1 : Int32)), .val (.ref eret), .val (.ref espr), .val (.ref a2), .val (.ref a2)] [(.int (1 : Int32))])) tg
          refine XS.goto X67.here hx rfl (pc0 := 150) (pc' := 154) rfl (hb hby at_150) (by decide) (by decide) ?_
          show Steps p.tables e below (T67.setTop (mkF m 154 #[.val (.int i0), .val (.int i1), .val (.int i2), .val (.int i3), .val (.ref a2), .val (.ref a5), .val (.ref a8), .val (.ref b11), .val (.int ((i3 &&& (2147483647 : Int32)) % (3 : Int32))), .val (.int (1 : Int32)), .val (.ref eret), .val (.ref espr), .val (.ref a2), .val (.ref a2)] [(.int (1 : Int32))])) tg
          exact kg
        refine gs c70 ?_
        refine gout (v := some (.int (1 : Int32))) X67 Bd.notSynchronized (fun h => by rw [Bd.returns] at h; cases h) (by decide) (by decide) ?_ (fun fs hr => retN X67 hx (t := .boolean) Bd.returns (by simp) (hb hby at_154) hr)
        exact ⟨rfl, N67⟩
      · have c71 : ∀ tg, Steps p.tables e below (T14.setTop (mkF m 79 #[.val (.int i0), .val (.int i1), .val (.int i2), .val (.int i3), .val (.ref a2), .val (.ref a5), .val (.ref a8), .val (.ref b11), .val (.int ((i3 &&& (2147483647 : Int32)) % (3 : Int32))), .val (.int (1 : Int32)), .unset, .unset, .unset, .unset] [])) tg → Steps p.tables e below (T14.setTop (mkF m 68 #[.val (.int i0), .val (.int i1), .val (.int i2), .val (.int i3), .val (.ref a2), .val (.ref a5), .val (.ref a8), .val (.ref b11), .val (.int ((i3 &&& (2147483647 : Int32)) % (3 : Int32))), .val (.int (1 : Int32)), .unset, .unset, .unset, .unset] [(.int (1 : Int32)), (.int ((i3 &&& (2147483647 : Int32)) % (3 : Int32)))])) tg := fun tg kg => by
          refine XS.icmpYes X14.here hx rfl (pc0 := 68) (pc' := 79) rfl (hb hby at_68) rfl (feq hc61).2 (by decide) (by decide) ?_
          show Steps p.tables e below (T14.setTop (mkF m 79 #[.val (.int i0), .val (.int i1), .val (.int i2), .val (.int i3), .val (.ref a2), .val (.ref a5), .val (.ref a8), .val (.ref b11), .val (.int ((i3 &&& (2147483647 : Int32)) % (3 : Int32))), .val (.int (1 : Int32)), .unset, .unset, .unset, .unset] [])) tg
          exact kg
        refine gs c71 ?_
        obtain ⟨T72, X72, e72, st72⟩ := getS2 X14 hx hZ hown (host := "") (Or.inl (hw _ (List.mem_of_getElem? (i := 69) rfl))) Via.refl rfl (S_adj.ext O15.2) (g := (mkF m 79 #[.val (.int i0), .val (.int i1), .val (.int i2), .val (.int i3), .val (.ref a2), .val (.ref a5), .val (.ref a8), .val (.ref b11), .val (.int ((i3 &&& (2147483647 : Int32)) % (3 : Int32))), .val (.int (1 : Int32)), .unset, .unset, .unset, .unset] [])) rfl (hb hby at_79)
        refine gs st72 ?_
        show OwnGo p e below s _ _ _ (T72.setTop (mkF m 82 #[.val (.int i0), .val (.int i1), .val (.int i2), .val (.int i3), .val (.ref a2), .val (.ref a5), .val (.ref a8), .val (.ref b11), .val (.int ((i3 &&& (2147483647 : Int32)) % (3 : Int32))), .val (.int (1 : Int32)), .unset, .unset, .unset, .unset] [(.ref eadj)]))
        have c73 : ∀ tg, Steps p.tables e below (T72.setTop (mkF m 89 #[.val (.int i0), .val (.int i1), .val (.int i2), .val (.int i3), .val (.ref a2), .val (.ref a5), .val (.ref a8), .val (.ref b11), .val (.int ((i3 &&& (2147483647 : Int32)) % (3 : Int32))), .val (.int (1 : Int32)), .val (.ref eadj), .unset, .unset, .unset] [])) tg → Steps p.tables e below (T72.setTop (mkF m 82 #[.val (.int i0), .val (.int i1), .val (.int i2), .val (.int i3), .val (.ref a2), .val (.ref a5), .val (.ref a8), .val (.ref b11), .val (.int ((i3 &&& (2147483647 : Int32)) % (3 : Int32))), .val (.int (1 : Int32)), .unset, .unset, .unset, .unset] [(.ref eadj)])) tg := fun tg kg => by
          refine XS.astore X72.here hx rfl (hb hby at_82) rfl rfl (l' := #[.val (.int i0), .val (.int i1), .val (.int i2), .val (.int i3), .val (.ref a2), .val (.ref a5), .val (.ref a8), .val (.ref b11), .val (.int ((i3 &&& (2147483647 : Int32)) % (3 : Int32))), .val (.int (1 : Int32)), .val (.ref eadj), .unset, .unset, .unset]) rfl ?_
          show Steps p.tables e below (T72.setTop (mkF m 84 #[.val (.int i0), .val (.int i1), .val (.int i2), .val (.int i3), .val (.ref a2), .val (.ref a5), .val (.ref a8), .val (.ref b11), .val (.int ((i3 &&& (2147483647 : Int32)) % (3 : Int32))), .val (.int (1 : Int32)), .val (.ref eadj), .unset, .unset, .unset] [])) tg
          refine XS.iload X72.here hx rfl (hb hby at_84) rfl ?_
          show Steps p.tables e below (T72.setTop (mkF m 86 #[.val (.int i0), .val (.int i1), .val (.int i2), .val (.int i3), .val (.ref a2), .val (.ref a5), .val (.ref a8), .val (.ref b11), .val (.int ((i3 &&& (2147483647 : Int32)) % (3 : Int32))), .val (.int (1 : Int32)), .val (.ref eadj), .unset, .unset, .unset] [(.int (1 : Int32))])) tg
          refine XS.ifNo X72.here hx rfl (hb hby at_86) rfl ((if0 _ _).trans (feq (by decide : ¬ ((1 : Int32) = (0 : Int32)))).1) ?_
          show Steps p.tables e below (T72.setTop (mkF m 89 #[.val (.int i0), .val (.int i1), .val (.int i2), .val (.int i3), .val (.ref a2), .val (.ref a5), .val (.ref a8), .val (.ref b11), .val (.int ((i3 &&& (2147483647 : Int32)) % (3 : Int32))), .val (.int (1 : Int32)), .val (.ref eadj), .unset, .unset, .unset] [])) tg
          exact kg
        refine gs c73 ?_
        obtain ⟨T74, X74, e74, st74⟩ := getS2 X72 hx hZ hown (host := "") (Or.inl (hw _ (List.mem_of_getElem? (i := 56) rfl))) Via.refl e72 (S_spr.ext O15.2) (g := (mkF m 89 #[.val (.int i0), .val (.int i1), .val (.int i2), .val (.int i3), .val (.ref a2), .val (.ref a5), .val (.ref a8), .val (.ref b11), .val (.int ((i3 &&& (2147483647 : Int32)) % (3 : Int32))), .val (.int (1 : Int32)), .val (.ref eadj), .unset, .unset, .unset] [])) rfl (hb hby at_89)
        refine gs st74 ?_
        show OwnGo p e below s _ _ _ (T74.setTop (mkF m 92 #[.val (.int i0), .val (.int i1), .val (.int i2), .val (.int i3), .val (.ref a2), .val (.ref a5), .val (.ref a8), .val (.ref b11), .val (.int ((i3 &&& (2147483647 : Int32)) % (3 : Int32))), .val (.int (1 : Int32)), .val (.ref eadj), .unset, .unset, .unset] [(.ref espr)]))
        have c75 : ∀ tg, Steps p.tables e below (T74.setTop (mkF m 137 #[.val (.int i0), .val (.int i1), .val (.int i2), .val (.int i3), .val (.ref a2), .val (.ref a5), .val (.ref a8), .val (.ref b11), .val (.int ((i3 &&& (2147483647 : Int32)) % (3 : Int32))), .val (.int (1 : Int32)), .val (.ref eadj), .val (.ref espr), .val (.ref a8), .unset] [(.ref eadj), (.ref espr), (.ref b11)])) tg → Steps p.tables e below (T74.setTop (mkF m 92 #[.val (.int i0), .val (.int i1), .val (.int i2), .val (.int i3), .val (.ref a2), .val (.ref a5), .val (.ref a8), .val (.ref b11), .val (.int ((i3 &&& (2147483647 : Int32)) % (3 : Int32))), .val (.int (1 : Int32)), .val (.ref eadj), .unset, .unset, .unset] [(.ref espr)])) tg := fun tg kg => by
          refine XS.astore X74.here hx rfl (hb hby at_92) rfl rfl (l' := #[.val (.int i0), .val (.int i1), .val (.int i2), .val (.int i3), .val (.ref a2), .val (.ref a5), .val (.ref a8), .val (.ref b11), .val (.int ((i3 &&& (2147483647 : Int32)) % (3 : Int32))), .val (.int (1 : Int32)), .val (.ref eadj), .val (.ref espr), .unset, .unset]) rfl ?_
          show Steps p.tables e below (T74.setTop (mkF m 94 #[.val (.int i0), .val (.int i1), .val (.int i2), .val (.int i3), .val (.ref a2), .val (.ref a5), .val (.ref a8), .val (.ref b11), .val (.int ((i3 &&& (2147483647 : Int32)) % (3 : Int32))), .val (.int (1 : Int32)), .val (.ref eadj), .val (.ref espr), .unset, .unset] [])) tg
          refine XS.goto X74.here hx rfl (pc0 := 94) (pc' := 102) rfl (hb hby at_94) (by decide) (by decide) ?_
          show Steps p.tables e below (T74.setTop (mkF m 102 #[.val (.int i0), .val (.int i1), .val (.int i2), .val (.int i3), .val (.ref a2), .val (.ref a5), .val (.ref a8), .val (.ref b11), .val (.int ((i3 &&& (2147483647 : Int32)) % (3 : Int32))), .val (.int (1 : Int32)), .val (.ref eadj), .val (.ref espr), .unset, .unset] [])) tg
          refine XS.iload X74.here hx rfl (hb hby at_102) rfl ?_
          show Steps p.tables e below (T74.setTop (mkF m 104 #[.val (.int i0), .val (.int i1), .val (.int i2), .val (.int i3), .val (.ref a2), .val (.ref a5), .val (.ref a8), .val (.ref b11), .val (.int ((i3 &&& (2147483647 : Int32)) % (3 : Int32))), .val (.int (1 : Int32)), .val (.ref eadj), .val (.ref espr), .unset, .unset] [(.int ((i3 &&& (2147483647 : Int32)) % (3 : Int32)))])) tg
          refine XS.iconst X74.here hx rfl (hb hby at_104) ?_
          show Steps p.tables e below (T74.setTop (mkF m 105 #[.val (.int i0), .val (.int i1), .val (.int i2), .val (.int i3), .val (.ref a2), .val (.ref a5), .val (.ref a8), .val (.ref b11), .val (.int ((i3 &&& (2147483647 : Int32)) % (3 : Int32))), .val (.int (1 : Int32)), .val (.ref eadj), .val (.ref espr), .unset, .unset] [(.int (2 : Int32)), (.int ((i3 &&& (2147483647 : Int32)) % (3 : Int32)))])) tg
          refine XS.icmpNo X74.here hx rfl (hb hby at_105) rfl (teq (own_k3 i3 hc50 hc61)).2 ?_
          show Steps p.tables e below (T74.setTop (mkF m 108 #[.val (.int i0), .val (.int i1), .val (.int i2), .val (.int i3), .val (.ref a2), .val (.ref a5), .val (.ref a8), .val (.ref b11), .val (.int ((i3 &&& (2147483647 : Int32)) % (3 : Int32))), .val (.int (1 : Int32)), .val (.ref eadj), .val (.ref espr), .unset, .unset] [])) tg
          refine XS.aload X74.here hx rfl (hb hby at_108) rfl rfl ?_
          show Steps p.tables e below (T74.setTop (mkF m 110 #[.val (.int i0), .val (.int i1), .val (.int i2), .val (.int i3), .val (.ref a2), .val (.ref a5), .val (.ref a8), .val (.ref b11), .val (.int ((i3 &&& (2147483647 : Int32)) % (3 : Int32))), .val (.int (1 : Int32)), .val (.ref eadj), .val (.ref espr), .unset, .unset] [(.ref a8)])) tg
          refine XS.astore X74.here hx rfl (hb hby at_110) rfl rfl (l' := #[.val (.int i0), .val (.int i1), .val (.int i2), .val (.int i3), .val (.ref a2), .val (.ref a5), .val (.ref a8), .val (.ref b11), .val (.int ((i3 &&& (2147483647 : Int32)) % (3 : Int32))), .val (.int (1 : Int32)), .val (.ref eadj), .val (.ref espr), .val (.ref a8), .unset]) rfl ?_
          show Steps p.tables e below (T74.setTop (mkF m 112 #[.val (.int i0), .val (.int i1), .val (.int i2), .val (.int i3), .val (.ref a2), .val (.ref a5), .val (.ref a8), .val (.ref b11), .val (.int ((i3 &&& (2147483647 : Int32)) % (3 : Int32))), .val (.int (1 : Int32)), .val (.ref eadj), .val (.ref espr), .val (.ref a8), .unset] [])) tg
          refine XS.goto X74.here hx rfl (pc0 := 112) (pc' := 131) rfl (hb hby at_112) (by decide) (by decide) ?_
          show Steps p.tables e below (T74.setTop (mkF m 131 #[.val (.int i0), .val (.int i1), .val (.int i2), .val (.int i3), .val (.ref a2), .val (.ref a5), .val (.ref a8), .val (.ref b11), .val (.int ((i3 &&& (2147483647 : Int32)) % (3 : Int32))), .val (.int (1 : Int32)), .val (.ref eadj), .val (.ref espr), .val (.ref a8), .unset] [])) tg
          refine XS.aload X74.here hx rfl (hb hby at_131) rfl rfl ?_
          show Steps p.tables e below (T74.setTop (mkF m 133 #[.val (.int i0), .val (.int i1), .val (.int i2), .val (.int i3), .val (.ref a2), .val (.ref a5), .val (.ref a8), .val (.ref b11), .val (.int ((i3 &&& (2147483647 : Int32)) % (3 : Int32))), .val (.int (1 : Int32)), .val (.ref eadj), .val (.ref espr), .val (.ref a8), .unset] [(.ref b11)])) tg
          refine XS.aload X74.here hx rfl (hb hby at_133) rfl rfl ?_
          show Steps p.tables e below (T74.setTop (mkF m 135 #[.val (.int i0), .val (.int i1), .val (.int i2), .val (.int i3), .val (.ref a2), .val (.ref a5), .val (.ref a8), .val (.ref b11), .val (.int ((i3 &&& (2147483647 : Int32)) % (3 : Int32))), .val (.int (1 : Int32)), .val (.ref eadj), .val (.ref espr), .val (.ref a8), .unset] [(.ref espr), (.ref b11)])) tg
          refine XS.aload X74.here hx rfl (hb hby at_135) rfl rfl ?_
          show Steps p.tables e below (T74.setTop (mkF m 137 #[.val (.int i0), .val (.int i1), .val (.int i2), .val (.int i3), .val (.ref a2), .val (.ref a5), .val (.ref a8), .val (.ref b11), .val (.int ((i3 &&& (2147483647 : Int32)) % (3 : Int32))), .val (.int (1 : Int32)), .val (.ref eadj), .val (.ref espr), .val (.ref a8), .unset] [(.ref eadj), (.ref espr), (.ref b11)])) tg
          exact kg
        refine gs c75 ?_
        have f77 := (A11.keep K14q)
        obtain ⟨cq76, kq76, q76a, q76b, q76c⟩ := isOf hZ e74 f77
        obtain ⟨_, _, ⟨T76, L76, k76, n76⟩, -, X76, ⟨Lc76, hQ76, l76, y76, z76⟩, st76⟩ := X74.virtualBack hx (y := (⟨"com/example/sealed_orders/sealedorders/rules/SeasonNames", "of", "(Lcom/example/sealed_orders/sealedorders/rules/Phase$Season;Lcom/example/sealed_orders/sealedorders/rules/Phase$Kind;)Ljava/lang/String;"⟩ : MethodName)) (z := (⟨"com/example/sealed_orders/sealedorders/rules/SeasonNames", "of", "(Lcom/example/sealed_orders/sealedorders/rules/Phase$Season;Lcom/example/sealed_orders/sealedorders/rules/Phase$Kind;)Ljava/lang/String;"⟩ : MethodName)) hown (mvT hZ (hw _ (List.mem_of_getElem? (i := 59) rfl))) (mvT hZ (hw _ (List.mem_of_getElem? (i := 60) rfl))) (notFace_of_selects (args := #[]) (mvT hZ (hw _ (List.mem_of_getElem? (i := 62) rfl)))) (mvT hZ (hw _ (List.mem_of_getElem? (i := 62) rfl))) (mvT hZ (hw _ (List.mem_of_getElem? (i := 61) rfl))) (by decide) (backC (W := 0) (rm_of l Z a0 hw [] b11 espr eadj a2 a5 a8 eadj espr T14.heap n0 Z15 O15 F14_0 F14_1 F14_2 S_adj S_spr) hZ (hw _ (List.mem_of_getElem? (i := 63) rfl)) (hw _ (List.mem_of_getElem? (i := 36) rfl)) (by decide) (by decide)) q76a q76c (g := (mkF m 137 #[.val (.int i0), .val (.int i1), .val (.int i2), .val (.int i3), .val (.ref a2), .val (.ref a5), .val (.ref a8), .val (.ref b11), .val (.int ((i3 &&& (2147483647 : Int32)) % (3 : Int32))), .val (.int (1 : Int32)), .val (.ref eadj), .val (.ref espr), .val (.ref a8), .unset] [(.ref eadj), (.ref espr), (.ref b11)])) rfl (by rw [hml]; rfl) (Steps.refl _) (argsL := [(.ref espr), (.ref eadj)]) (rest := []) (lenOf pd_70 rfl) rfl (by show 2 * 0 + _ ≤ _; exact Nat.le_of_eq rfl) (hb hby at_137) (fun _ _ => ⟨rfl, e74, (by decide : 10 + 0 ≤ _), (by decide : 27 + 0 ≤ _)⟩)
        dsimp only [Pt.U, Pt.locs, Pt.cells, Pt.slots] at X76 l76 y76 z76 st76 hQ76
        subst l76 y76 z76
        obtain ⟨r76, rfl, N76q, K76q, q76x, q76y, q76z⟩ := hQ76
        have N76 := Fr.app N14 N76q
        have Z78 : n0 ≤ T76.heap.size := Nat.le_trans Z15 K76q.1
        have O78 : Old Z n0 T76.heap := O15.keep K76q all0
        have K78 : Keep h0 T76.heap [] := K15.trans K76q all0
        obtain rfl : a8 = r76 := (q76x rfl).symm
        refine gs (fun _ k => st76.trans k) ?_
        show OwnGo p e below s _ _ _ (T76.setTop (mkF m 140 #[.val (.int i0), .val (.int i1), .val (.int i2), .val (.int i3), .val (.ref a2), .val (.ref a5), .val (.ref a8), .val (.ref b11), .val (.int ((i3 &&& (2147483647 : Int32)) % (3 : Int32))), .val (.int (1 : Int32)), .val (.ref eadj), .val (.ref espr), .val (.ref a8), .unset] [(.ref a8)]))
        have c79 : ∀ tg, Steps p.tables e below (T76.setTop (mkF m 154 #[.val (.int i0), .val (.int i1), .val (.int i2), .val (.int i3), .val (.ref a2), .val (.ref a5), .val (.ref a8), .val (.ref b11), .val (.int ((i3 &&& (2147483647 : Int32)) % (3 : Int32))), .val (.int (1 : Int32)), .val (.ref eadj), .val (.ref espr), .val (.ref a8), .val (.ref a8)] [(.int (1 : Int32))])) tg → Steps p.tables e below (T76.setTop (mkF m 140 #[.val (.int i0), .val (.int i1), .val (.int i2), .val (.int i3), .val (.ref a2), .val (.ref a5), .val (.ref a8), .val (.ref b11), .val (.int ((i3 &&& (2147483647 : Int32)) % (3 : Int32))), .val (.int (1 : Int32)), .val (.ref eadj), .val (.ref espr), .val (.ref a8), .unset] [(.ref a8)])) tg := fun tg kg => by
          refine XS.astore X76.here hx rfl (hb hby at_140) rfl rfl (l' := #[.val (.int i0), .val (.int i1), .val (.int i2), .val (.int i3), .val (.ref a2), .val (.ref a5), .val (.ref a8), .val (.ref b11), .val (.int ((i3 &&& (2147483647 : Int32)) % (3 : Int32))), .val (.int (1 : Int32)), .val (.ref eadj), .val (.ref espr), .val (.ref a8), .val (.ref a8)]) rfl ?_
          show Steps p.tables e below (T76.setTop (mkF m 142 #[.val (.int i0), .val (.int i1), .val (.int i2), .val (.int i3), .val (.ref a2), .val (.ref a5), .val (.ref a8), .val (.ref b11), .val (.int ((i3 &&& (2147483647 : Int32)) % (3 : Int32))), .val (.int (1 : Int32)), .val (.ref eadj), .val (.ref espr), .val (.ref a8), .val (.ref a8)] [])) tg
          refine XS.aload X76.here hx rfl (hb hby at_142) rfl rfl ?_
          show Steps p.tables e below (T76.setTop (mkF m 144 #[.val (.int i0), .val (.int i1), .val (.int i2), .val (.int i3), .val (.ref a2), .val (.ref a5), .val (.ref a8), .val (.ref b11), .val (.int ((i3 &&& (2147483647 : Int32)) % (3 : Int32))), .val (.int (1 : Int32)), .val (.ref eadj), .val (.ref espr), .val (.ref a8), .val (.ref a8)] [(.ref a8)])) tg
          refine XS.aload X76.here hx rfl (hb hby at_144) rfl rfl ?_
          show Steps p.tables e below (T76.setTop (mkF m 146 #[.val (.int i0), .val (.int i1), .val (.int i2), .val (.int i3), .val (.ref a2), .val (.ref a5), .val (.ref a8), .val (.ref b11), .val (.int ((i3 &&& (2147483647 : Int32)) % (3 : Int32))), .val (.int (1 : Int32)), .val (.ref eadj), .val (.ref espr), .val (.ref a8), .val (.ref a8)] [(.ref a8), (.ref a8)])) tg
          refine Jvm.RoadKit.acmp (g := (mkF m 146 #[.val (.int i0), .val (.int i1), .val (.int i2), .val (.int i3), .val (.ref a2), .val (.ref a5), .val (.ref a8), .val (.ref b11), .val (.int ((i3 &&& (2147483647 : Int32)) % (3 : Int32))), .val (.int (1 : Int32)), .val (.ref eadj), .val (.ref espr), .val (.ref a8), .val (.ref a8)] [(.ref a8), (.ref a8)])) X76 hx rfl rfl rfl (pc0 := 146) (pc' := 149) (same := true) rfl (hb hby at_146) rfl (decide_eq_true rfl) (by decide) (by decide) ?_
          show Steps p.tables e below (T76.setTop (mkF m 149 #[.val (.int i0), .val (.int i1), .val (.int i2), .val (.int i3), .val (.ref a2), .val (.ref a5), .val (.ref a8), .val (.ref b11), .val (.int ((i3 &&& (2147483647 : Int32)) % (3 : Int32))), .val (.int (1 : Int32)), .val (.ref eadj), .val (.ref espr), .val (.ref a8), .val (.ref a8)] [])) tg
          refine XS.iconst X76.here hx rfl (hb hby at_149) ?_
          show Steps p.tables e below (T76.setTop (mkF m 150 #[.val (.int i0), .val (.int i1), .val (.int i2), .val (.int i3), .val (.ref a2), .val (.ref a5), .val (.ref a8), .val (.ref b11), .val (.int ((i3 &&& (2147483647 : Int32)) % (3 : Int32))), .val (.int (1 : Int32)), .val (.ref eadj), .val (.ref espr), .val (.ref a8), .val (.ref a8)] [(.int (1 : Int32))])) tg
          refine XS.goto X76.here hx rfl (pc0 := 150) (pc' := 154) rfl (hb hby at_150) (by decide) (by decide) ?_
          show Steps p.tables e below (T76.setTop (mkF m 154 #[.val (.int i0), .val (.int i1), .val (.int i2), .val (.int i3), .val (.ref a2), .val (.ref a5), .val (.ref a8), .val (.ref b11), .val (.int ((i3 &&& (2147483647 : Int32)) % (3 : Int32))), .val (.int (1 : Int32)), .val (.ref eadj), .val (.ref espr), .val (.ref a8), .val (.ref a8)] [(.int (1 : Int32))])) tg
          exact kg
        refine gs c79 ?_
        refine gout (v := some (.int (1 : Int32))) X76 Bd.notSynchronized (fun h => by rw [Bd.returns] at h; cases h) (by decide) (by decide) ?_ (fun fs hr => retN X76 hx (t := .boolean) Bd.returns (by simp) (hb hby at_154) hr)
        exact ⟨rfl, N76⟩
set_option maxRecDepth 65536 in
set_option maxHeartbeats 40000000 in
theorem comes_1 {Post : Tables → Env → Array Value → State → Outcome → State → Prop} (hpost : ∀ tb e args s v u, (limb_1_1.after args s (.returned v) u = true ∧ limb_1_2.after args s (.returned v) u = true ∧ True) → FrameEnd s (.returned v) u (Jvm.fieldLocs frame_1_writes args s ++ Jvm.arrayLocs frame_1_arrays args s ++ Jvm.staticLocs frame_1_statics s) 32 128 → Post tb e args s (.returned v) u) :
    ArmFor flags0 classFile x code maxLocals ret World_1 tables_1 room_1 Calls_1 rest_1 Pre_1 Post := by
  intro l hfl _ _ p e ha hc hk s m args below hf hA hF happ hP
  obtain ⟨hcalls, hrest, hpre⟩ := hP
  obtain ⟨-, -, -, hnamed, -, -, -, hat⟩ := (Spec.applies_iff hf).mp happ
  obtain ⟨hg, hn⟩ := and_e (Cond.before_iff.mp (show (Jvm.Cond.and given_1 narrow_1).before args s = true from hpre))
  obtain ⟨hcnt, ga0⟩ := and_e hg
  obtain ⟨gi0, ga1⟩ := and_e ga0
  obtain ⟨gi1, ga2⟩ := and_e ga1
  obtain ⟨gi2, ga3⟩ := and_e ga2
  have gi3 := ga3
  obtain ⟨w0, w1, w2, w3, rfl⟩ : ∃ w0 w1 w2 w3 : Value, args = #[w0, w1, w2, w3] := by
    have hs : args.size = 4 := by simpa [Cond.value, given_1] using hcnt
    obtain ⟨L⟩ := args
    match L, hs with
    | [w0, w1, w2, w3], _ => exact ⟨w0, w1, w2, w3, rfl⟩
  have hw := fun d (hd : d ∈ tables_1) => atoms_spec (ws := Jvm.Cond.code x code maxLocals ret :: tables_1) hat d (List.mem_cons_of_mem _ hd)
  obtain ⟨hsets, hown0⟩ := atoms_of _ (rest_1_c_eq ▸ (show rest_1_c.before _ s = true from hrest))
  have hfit : Fit s := fun {y c} hc i hi => by
    obtain ⟨ha, rfl⟩ := Array.getElem?_eq_some_iff.mp hc
    have q := List.all_eq_true.mp ((Array.all_eq_true_iff_forall_mem.mp hF) _ (Array.getElem_mem ha)) i (List.mem_range.mpr hi)
    simpa [Array.getElem?_eq_getElem hi] using q
  obtain ⟨i0, ei0⟩ := is_v gi0
  obtain rfl : w0 = (.int i0) := Option.some.inj ei0
  obtain ⟨i1, ei1⟩ := is_v gi1
  obtain rfl : w1 = (.int i1) := Option.some.inj ei1
  obtain ⟨i2, ei2⟩ := is_v gi2
  obtain rfl : w2 = (.int i2) := Option.some.inj ei2
  obtain ⟨i3, ei3⟩ := is_v gi3
  obtain rfl : w3 = (.int i3) := Option.some.inj ei3
  have n5 := not_v (Cond.before_iff.mp (hsets _ (List.mem_of_getElem? (i := 2) rfl)))
  obtain ⟨cz, ecz⟩ := is_v (Cond.before_iff.mp (hsets _ (List.mem_of_getElem? (i := 1) rfl)))
  have Scz : Sta s s.heap "java/lang/String" "COMPACT_STRINGS" "Z" (.int cz) := Sta.start ecz (Or.inl (hsets _ (List.mem_of_getElem? (i := 0) rfl)))
  have hcz : ¬ (cz = (0 : Int32)) := gotF (Cond.eq_ints ecz (Term.int_eval (0))) n5
  obtain ⟨m0, hn0⟩ := and_e hn
  obtain ⟨m1, hn1⟩ := and_e hn0
  obtain ⟨m2, hn2⟩ := and_e hn1
  obtain ⟨m3, hn3⟩ := and_e hn2
  obtain ⟨m4, hn4⟩ := and_e hn3
  obtain ⟨m5, hn5⟩ := and_e hn4
  obtain ⟨m6, hn6⟩ := and_e hn5
  obtain ⟨m7, hn7⟩ := and_e hn6
  obtain ⟨m8, hn8⟩ := and_e hn7
  have m9 := hn8
  obtain ⟨eret, ev_ret⟩ := exa_v m0
  have S_ret : Sta s s.heap "com/example/sealed_orders/sealedorders/rules/Phase$Kind" "RETREAT" "Lcom/example/sealed_orders/sealedorders/rules/Phase$Kind;" (.ref eret) := Sta.start ev_ret (Or.inr ⟨(hw _ (List.mem_of_getElem? (i := 54) rfl)), (hw _ (List.mem_of_getElem? (i := 55) rfl))⟩)
  obtain ⟨espr, ev_spr⟩ := exa_v m1
  have S_spr : Sta s s.heap "com/example/sealed_orders/sealedorders/rules/Phase$Season" "SPRING" "Lcom/example/sealed_orders/sealedorders/rules/Phase$Season;" (.ref espr) := Sta.start ev_spr (Or.inr ⟨(hw _ (List.mem_of_getElem? (i := 57) rfl)), (hw _ (List.mem_of_getElem? (i := 58) rfl))⟩)
  obtain ⟨eadj, ev_adj⟩ := exa_v m2
  have S_adj : Sta s s.heap "com/example/sealed_orders/sealedorders/rules/Phase$Kind" "ADJUSTMENT" "Lcom/example/sealed_orders/sealedorders/rules/Phase$Kind;" (.ref eadj) := Sta.start ev_adj (Or.inr ⟨(hw _ (List.mem_of_getElem? (i := 54) rfl)), (hw _ (List.mem_of_getElem? (i := 65) rfl))⟩)
  obtain ⟨efal, ev_fal⟩ := exa_v m5
  have S_fal : Sta s s.heap "com/example/sealed_orders/sealedorders/rules/Phase$Season" "FALL" "Lcom/example/sealed_orders/sealedorders/rules/Phase$Season;" (.ref efal) := Sta.start ev_fal (Or.inr ⟨(hw _ (List.mem_of_getElem? (i := 57) rfl)), (hw _ (List.mem_of_getElem? (i := 68) rfl))⟩)
  obtain ⟨emov, ev_mov⟩ := exa_v m8
  have S_mov : Sta s s.heap "com/example/sealed_orders/sealedorders/rules/Phase$Kind" "MOVEMENT" "Lcom/example/sealed_orders/sealedorders/rules/Phase$Kind;" (.ref emov) := Sta.start ev_mov (Or.inr ⟨(hw _ (List.mem_of_getElem? (i := 54) rfl)), (hw _ (List.mem_of_getElem? (i := 71) rfl))⟩)
  have F_ret : Fld s s.heap eret "java/lang/Enum" "ordinal" "I" (.int (1 : Int32)) := Fld.start ((fld_at ev_ret).symm.trans (eqv_i (Term.int_eval (1)) m3))
  have F_adj : Fld s s.heap eadj "java/lang/Enum" "ordinal" "I" (.int (2 : Int32)) := Fld.start ((fld_at ev_adj).symm.trans (eqv_i (Term.int_eval (2)) m4))
  have F_fal : Fld s s.heap efal "java/lang/Enum" "ordinal" "I" (.int (1 : Int32)) := Fld.start ((fld_at ev_fal).symm.trans (eqv_i (Term.int_eval (1)) m6))
  have F_spr : Fld s s.heap espr "java/lang/Enum" "ordinal" "I" (.int (0 : Int32)) := Fld.start ((fld_at ev_spr).symm.trans (eqv_i (Term.int_eval (0)) m7))
  have F_mov : Fld s s.heap emov "java/lang/Enum" "ordinal" "I" (.int (0 : Int32)) := Fld.start ((fld_at ev_mov).symm.trans (eqv_i (Term.int_eval (0)) m9))
  have n_ma : ¬ emov = eadj := Fld.ne F_mov F_adj (by decide)
  have n_ra : ¬ eret = eadj := Fld.ne F_ret F_adj (by decide)
  have n_fs : ¬ efal = espr := Fld.ne F_fal F_spr (by decide)
  obtain ⟨n, o, h1, h2, h3, _, L, rfl, ⟨rfl, N⟩, hq⟩ := rm_law l s _ hw tables_1 i0 i1 i2 i3 cz emov eret eadj espr efal s.heap s.heap.size (Nat.le_refl _) (Old.start s) Scz hcz S_mov S_ret S_adj S_spr S_fal n_ma n_ra n_fs p e ha hc hk s m _ below hf ((Spec.applies_iff_loose hf).mp happ).1 ⟨rfl, State.Warmed39.refl s, rfl⟩ trivial
  refine ⟨n, _, h1, h2, h3, hpost _ _ _ _ _ _ ⟨Cond.after_iff.mpr rfl, Cond.after_iff.mpr (eq_i res_at (Term.int_eval (1)) rfl), trivial⟩ ⟨hq.1, hq.2.1, (hq.2.2.sift fun y hy => Or.inr (N y hy)).mono (by decide) (by decide)⟩⟩
theorem main_1_1 : Claimed_1_1 := comes_1 fun _ _ _ _ _ _ h hF => ⟨h.1, hF⟩
theorem main_1_2 : Claimed_1_2 := comes_1 fun _ _ _ _ _ _ h hF => ⟨h.2.1, hF⟩
end Jvm.Pilot.@@N@@
namespace Jvm.Pilot.@@N@@
open Jvm Jvm.ClassFile Sem Op Lib Jvm.Free Jvm.Stand Jvm.Pilot.@@N@@.Jvm.D
/-! MADE BY PROGRAM (witnessworld.py) out of the Statement's table words and the real class files: 24 classes; the members and pool entries that the words name. The judged class is class 1, her method 1. -/
namespace start1
open Jvm.ClassFile
def u (s : String) : CpInfo := .utf8 (stringToUtf16 s)
/-- a pool by its gaps: so many unusable entries, then the entry; so many at the end -/
def gap : Nat → List CpInfo → List CpInfo
  | 0, r => r
  | n + 1, r => .unusable :: gap n r
def poolList (es : List (Nat × CpInfo)) (last : Nat) : List CpInfo := es.foldr (fun e r => gap e.1 (e.2 :: r)) (gap last [])
def pool (es : List (Nat × CpInfo)) (last : Nat) : Array CpInfo := ⟨poolList es last⟩
def fileOf (pool : Array CpInfo) (this : Nat) (attrs : Array Attribute := #[]) (ms : Array MethodInfo := #[]) (fl : Nat := 33) (sup : Nat := 0) (ifs : Array Nat := #[]) (fds : Array FieldInfo := #[]) : ClassFile where
  minorVersion := 0
  majorVersion := 65
  constantPool := pool
  accessFlags := fl
  thisClass := this
  superClass := sup
  interfaces := ifs
  fields := fds
  methods := ms
  attributes := attrs
def plain (name : String) (sup : Option ClassId) : Class where
  name := name
  kind := .ordinary
  loader := none
  accessFlags := 33
  super := sup
  interfaces := #[]
  cf := none
  fields := #[]
  methods := #[]
  instanceTypes := #[]
  staticTypes := #[]
  resolved := #[]
  callSites := []
  init := .initialized
  statics := none
  mirror := none

def pool0 : Array CpInfo := pool [(5, u "<init>"), (0, u "()V"), (1, .class_ 10), (1, u "java/lang/Object")] 113

def k0c0 : Code := { maxStack := 0, maxLocals := 1, code := object_method_1_code, exceptionTable := #[], attributes := #[] }
def k0m0 : Method := { name := "<init>", desc := "()V", sig := { parameters := [], returnType := none }, accessFlags := 1, code := some k0c0 }
/-- java/lang/Object -/
def k0 : Class := { plain "java/lang/Object" none with
  accessFlags := 33
  interfaces := #[]
  cf := some (fileOf pool0 8 #[] #[{ accessFlags := 1, nameIndex := 5, descriptorIndex := 6, attributes := #[] }] 33 0 #[] #[])
  fields := #[]
  methods := #[k0m0]
  instanceTypes := #[]
  staticTypes := #[]
  resolved := Array.replicate 124 none
  statics := none }

def pool1 : Array CpInfo := pool [(2, .class_ 4), (1, u "java/lang/Object"), (0, u "<init>"), (0, u "()V"), (0, .methodref 8 9), (0, .class_ 10), (0, .nameAndType 11 12), (0, u "com/example/sealed_orders/sealedorders/rules/SeasonNamesOfPinLaw"), (0, u "str"), (0, u "(I)Ljava/lang/String;"), (0, .class_ 14), (0, u "com/example/sealed_orders/sealedorders/rules/SeasonNames"), (0, .methodref 13 16), (0, .nameAndType 5 17), (0, u "(Ljava/lang/String;Ljava/lang/String;Ljava/lang/String;)V"), (0, .integer 2147483647), (0, .fieldref 20 21), (0, .class_ 22), (0, .nameAndType 23 24), (0, u "com/example/sealed_orders/sealedorders/rules/Phase$Kind"), (0, u "MOVEMENT"), (0, u "Lcom/example/sealed_orders/sealedorders/rules/Phase$Kind;"), (0, .fieldref 20 26), (0, .nameAndType 27 24), (0, u "RETREAT"), (0, .fieldref 20 29), (0, .nameAndType 30 24), (0, u "ADJUSTMENT"), (0, .fieldref 32 33), (0, .class_ 34), (0, .nameAndType 35 36), (0, u "com/example/sealed_orders/sealedorders/rules/Phase$Season"), (0, u "SPRING"), (0, u "Lcom/example/sealed_orders/sealedorders/rules/Phase$Season;"), (0, .fieldref 32 38), (0, .nameAndType 39 36), (0, u "FALL"), (0, .methodref 13 41), (0, .nameAndType 42 43), (0, u "of"), (0, u "(Lcom/example/sealed_orders/sealedorders/rules/Phase$Season;Lcom/example/sealed_orders/sealedorders/rules/Phase$Kind;)Ljava/lang/String;"), (0, .class_ 45), (0, u "java/lang/String"), (0, .methodref 44 47), (0, .nameAndType 5 48), (0, u "([C)V"), (2, u "law"), (0, u "(IIII)Z")] 8

def k1m0 : Method := { name := "<init>", desc := "()V", sig := { parameters := [], returnType := none }, accessFlags := 1, code := none }
def k1c1 : Code := { maxStack := 5, maxLocals := 14, code := code, exceptionTable := #[], attributes := #[] }
def k1m1 : Method := { name := "law", desc := "(IIII)Z", sig := { parameters := [.int, .int, .int, .int], returnType := some .boolean }, accessFlags := 9, code := some k1c1 }
def k1c2 : Code := { maxStack := 4, maxLocals := 2, code := method_3_code, exceptionTable := #[], attributes := #[] }
def k1m2 : Method := { name := "str", desc := "(I)Ljava/lang/String;", sig := { parameters := [.int], returnType := some (.object "java/lang/String") }, accessFlags := 10, code := some k1c2 }
/-- com/example/sealed_orders/sealedorders/rules/SeasonNamesOfPinLaw -/
def k1 : Class := { plain "com/example/sealed_orders/sealedorders/rules/SeasonNamesOfPinLaw" (some 0) with
  accessFlags := 49
  interfaces := #[]
  cf := some (fileOf pool1 8 #[] #[{ accessFlags := 1, nameIndex := 5, descriptorIndex := 6, attributes := #[] }, { accessFlags := 9, nameIndex := 51, descriptorIndex := 52, attributes := #[] }, { accessFlags := 10, nameIndex := 11, descriptorIndex := 12, attributes := #[] }] 49 2 #[] #[])
  fields := #[]
  methods := #[k1m0, k1m1, k1m2]
  instanceTypes := #[]
  staticTypes := #[]
  resolved := Array.replicate 61 none
  statics := none }

def pool2 : Array CpInfo := pool [(1, .class_ 2), (0, u "java/io/Serializable"), (0, .class_ 4), (0, u "java/lang/Object")] 2

/-- java/io/Serializable -/
def k2 : Class := { plain "java/io/Serializable" (some 0) with
  accessFlags := 1537
  interfaces := #[]
  cf := some (fileOf pool2 1 #[] #[] 1537 3 #[] #[])
  fields := #[]
  methods := #[]
  instanceTypes := #[]
  staticTypes := #[]
  resolved := Array.replicate 7 none
  statics := none }

def pool3 : Array CpInfo := pool [(1, .class_ 2), (0, u "java/lang/Comparable"), (0, .class_ 4), (0, u "java/lang/Object")] 7

/-- java/lang/Comparable -/
def k3 : Class := { plain "java/lang/Comparable" (some 0) with
  accessFlags := 1537
  interfaces := #[]
  cf := some (fileOf pool3 1 #[] #[] 1537 3 #[] #[])
  fields := #[]
  methods := #[]
  instanceTypes := #[]
  staticTypes := #[]
  resolved := Array.replicate 12 none
  statics := none }

def pool4 : Array CpInfo := pool [(2, .class_ 4), (1, u "java/lang/CharSequence"), (42, .class_ 48), (0, u "java/lang/CharSequence$1CodePointIterator"), (10, .class_ 60), (0, u "java/lang/CharSequence$1CharIterator"), (5, .class_ 67), (0, u "java/lang/Object")] 63

/-- java/lang/CharSequence -/
def k4 : Class := { plain "java/lang/CharSequence" (some 0) with
  accessFlags := 1537
  interfaces := #[]
  cf := some (fileOf pool4 2 #[.nestMembers #[47, 59]] #[] 1537 66 #[] #[])
  fields := #[]
  methods := #[]
  instanceTypes := #[]
  staticTypes := #[]
  resolved := Array.replicate 131 none
  statics := none }

def pool5 : Array CpInfo := pool [(1, .class_ 2), (0, u "java/lang/constant/Constable"), (0, .class_ 4), (0, u "java/lang/Object")] 6

/-- java/lang/constant/Constable -/
def k5 : Class := { plain "java/lang/constant/Constable" (some 0) with
  accessFlags := 1537
  interfaces := #[]
  cf := some (fileOf pool5 1 #[] #[] 1537 3 #[] #[])
  fields := #[]
  methods := #[]
  instanceTypes := #[]
  staticTypes := #[]
  resolved := Array.replicate 11 none
  statics := none }

def pool6 : Array CpInfo := pool [(1, .class_ 2), (0, u "java/lang/constant/ConstantDesc"), (0, .class_ 4), (0, u "java/lang/Object")] 32

/-- java/lang/constant/ConstantDesc -/
def k6 : Class := { plain "java/lang/constant/ConstantDesc" (some 0) with
  accessFlags := 1537
  interfaces := #[]
  cf := some (fileOf pool6 1 #[] #[] 1537 3 #[] #[])
  fields := #[]
  methods := #[]
  instanceTypes := #[]
  staticTypes := #[]
  resolved := Array.replicate 37 none
  statics := none }

def pool7 : Array CpInfo := pool [(1, .methodref 2 3), (0, .class_ 4), (0, .nameAndType 5 6), (0, u "java/lang/Object"), (0, u "<init>"), (0, u "()V"), (2, .fieldref 10 11), (0, .class_ 12), (0, .nameAndType 13 14), (0, u "java/lang/String"), (0, u "value"), (0, u "[B"), (0, .fieldref 10 16), (0, .nameAndType 17 18), (0, u "coder"), (0, u "B"), (2, u "hash"), (0, u "I"), (2, u "hashIsZero"), (0, u "Z"), (0, .methodref 10 28), (0, .nameAndType 5 29), (0, u "([CIILjava/lang/Void;)V"), (8, .fieldref 10 39), (0, .nameAndType 40 26), (0, u "COMPACT_STRINGS"), (1, .class_ 44), (1, u "java/lang/StringUTF16"), (0, u "compress"), (1, .methodref 42 48), (0, .nameAndType 49 50), (0, u "coderFromArrayLen"), (0, u "([BI)B"), (126, .methodref 42 178), (0, .nameAndType 45 179), (0, u "([CII)[B"), (395, .class_ 576), (0, u "java/lang/CharSequence"), (22, u "CASE_INSENSITIVE_ORDER"), (0, u "Ljava/util/Comparator;"), (409, u "([C)V"), (90, u "serialPersistentFields"), (0, u "[Ljava/io/ObjectStreamField;"), (0, .class_ 1104), (0, u "java/lang/String$CaseInsensitiveComparator"), (1, .class_ 1107), (0, u "java/io/Serializable"), (0, .class_ 1109), (0, u "java/lang/Comparable"), (0, .class_ 1111), (0, u "java/lang/constant/Constable"), (0, .class_ 1113), (0, u "java/lang/constant/ConstantDesc"), (2, u "serialVersionUID"), (0, u "J"), (3, u "REPL"), (0, u "C"), (2, u "LATIN1"), (1, u "UTF16")] 323

def k7m0 : Method := { name := "<init>", desc := "()V", sig := { parameters := [], returnType := none }, accessFlags := 1, code := none }
def k7c1 : Code := { maxStack := 5, maxLocals := 2, code := jdk_42_method_3_code, exceptionTable := #[], attributes := #[] }
def k7m1 : Method := { name := "<init>", desc := "([C)V", sig := { parameters := [(.array .char)], returnType := none }, accessFlags := 1, code := some k7c1 }
def k7c2 : Code := { maxStack := 4, maxLocals := 6, code := jdk_42_method_149_code, exceptionTable := #[], attributes := #[] }
def k7m2 : Method := { name := "<init>", desc := "([CIILjava/lang/Void;)V", sig := { parameters := [(.array .char), .int, .int, (.object "java/lang/Void")], returnType := none }, accessFlags := 2, code := some k7c2 }
/-- java/lang/String -/
def k7 : Class := { plain "java/lang/String" (some 0) with
  accessFlags := 49
  interfaces := #[2, 3, 4, 5, 6]
  cf := some (fileOf pool7 10 #[.nestMembers #[1103]] #[{ accessFlags := 1, nameIndex := 5, descriptorIndex := 6, attributes := #[] }, { accessFlags := 1, nameIndex := 5, descriptorIndex := 1010, attributes := #[] }, { accessFlags := 2, nameIndex := 5, descriptorIndex := 29, attributes := #[] }] 49 2 #[1106, 1108, 575, 1110, 1112] #[{ accessFlags := 18, nameIndex := 13, descriptorIndex := 14, attributes := #[] }, { accessFlags := 18, nameIndex := 17, descriptorIndex := 18, attributes := #[] }, { accessFlags := 2, nameIndex := 21, descriptorIndex := 22, attributes := #[] }, { accessFlags := 2, nameIndex := 25, descriptorIndex := 26, attributes := #[] }, { accessFlags := 26, nameIndex := 1116, descriptorIndex := 1117, attributes := #[] }, { accessFlags := 24, nameIndex := 40, descriptorIndex := 26, attributes := #[] }, { accessFlags := 26, nameIndex := 1101, descriptorIndex := 1102, attributes := #[] }, { accessFlags := 26, nameIndex := 1121, descriptorIndex := 1122, attributes := #[] }, { accessFlags := 25, nameIndex := 599, descriptorIndex := 600, attributes := #[] }, { accessFlags := 24, nameIndex := 1125, descriptorIndex := 18, attributes := #[] }, { accessFlags := 24, nameIndex := 1127, descriptorIndex := 18, attributes := #[] }])
  fields := #[{ name := "value", type := (.array .byte), accessFlags := 18, slot := 0, constantValue := 0 }, { name := "coder", type := .byte, accessFlags := 18, slot := 1, constantValue := 0 }, { name := "hash", type := .int, accessFlags := 2, slot := 2, constantValue := 0 }, { name := "hashIsZero", type := .boolean, accessFlags := 2, slot := 3, constantValue := 0 }, { name := "serialVersionUID", type := .long, accessFlags := 26, slot := 0, constantValue := 0 }, { name := "COMPACT_STRINGS", type := .boolean, accessFlags := 24, slot := 1, constantValue := 0 }, { name := "serialPersistentFields", type := (.array (.object "java/io/ObjectStreamField")), accessFlags := 26, slot := 2, constantValue := 0 }, { name := "REPL", type := .char, accessFlags := 26, slot := 3, constantValue := 0 }, { name := "CASE_INSENSITIVE_ORDER", type := (.object "java/util/Comparator"), accessFlags := 25, slot := 4, constantValue := 0 }, { name := "LATIN1", type := .byte, accessFlags := 24, slot := 5, constantValue := 0 }, { name := "UTF16", type := .byte, accessFlags := 24, slot := 6, constantValue := 0 }]
  methods := #[k7m0, k7m1, k7m2]
  instanceTypes := #[(.array .byte), .byte, .int, .boolean]
  staticTypes := #[.long, .boolean, (.array (.object "java/io/ObjectStreamField")), .char, (.object "java/util/Comparator"), .byte, .byte]
  resolved := Array.replicate 1451 none
  statics := some 0 }

def pool8 : Array CpInfo := pool [(6, .class_ 8), (1, u "java/lang/Object"), (0, u "<init>"), (0, u "()V"), (1, .class_ 14), (1, u "java/lang/StringUTF16"), (31, u "$assertionsDisabled"), (0, u "Z"), (13, u "HI_BYTE_SHIFT"), (0, u "I"), (2, u "LO_BYTE_SHIFT"), (49, .methodref 12 116), (0, .nameAndType 117 118), (0, u "compress"), (0, u "([CI[BII)I"), (3, u "([CII)[B"), (138, u "coderFromArrayLen"), (0, u "([BI)B"), (106, .class_ 371), (1, u "java/lang/StringUTF16$LinesSpliterator"), (58, u "MAX_LENGTH"), (196, .class_ 628), (0, u "java/lang/StringUTF16$CodePointsSpliterator"), (0, .class_ 630), (0, u "java/lang/StringUTF16$CharsSpliterator")] 4

def k8m0 : Method := { name := "<init>", desc := "()V", sig := { parameters := [], returnType := none }, accessFlags := 0, code := none }
def k8c1 : Code := { maxStack := 2, maxLocals := 2, code := jdk_52_method_15_code, exceptionTable := #[], attributes := #[] }
def k8m1 : Method := { name := "coderFromArrayLen", desc := "([BI)B", sig := { parameters := [(.array .byte), .int], returnType := some .byte }, accessFlags := 8, code := some k8c1 }
def k8c2 : Code := { maxStack := 5, maxLocals := 6, code := jdk_52_method_16_code, exceptionTable := #[], attributes := #[] }
def k8m2 : Method := { name := "compress", desc := "([CII)[B", sig := { parameters := [(.array .char), .int, .int], returnType := some (.array .byte) }, accessFlags := 9, code := some k8c2 }
def k8c3 : Code := { maxStack := 3, maxLocals := 7, code := jdk_52_method_21_code, exceptionTable := #[], attributes := #[] }
def k8m3 : Method := { name := "compress", desc := "([CI[BII)I", sig := { parameters := [(.array .char), .int, (.array .byte), .int, .int], returnType := some .int }, accessFlags := 9, code := some k8c3 }
/-- java/lang/StringUTF16 -/
def k8 : Class := { plain "java/lang/StringUTF16" (some 0) with
  accessFlags := 48
  interfaces := #[]
  cf := some (fileOf pool8 12 #[.nestMembers #[627, 629, 369]] #[{ accessFlags := 0, nameIndex := 9, descriptorIndex := 10, attributes := #[] }, { accessFlags := 8, nameIndex := 261, descriptorIndex := 262, attributes := #[] }, { accessFlags := 9, nameIndex := 117, descriptorIndex := 122, attributes := #[] }, { accessFlags := 9, nameIndex := 117, descriptorIndex := 118, attributes := #[] }] 48 6 #[] #[{ accessFlags := 26, nameIndex := 61, descriptorIndex := 62, attributes := #[] }, { accessFlags := 26, nameIndex := 65, descriptorIndex := 62, attributes := #[] }, { accessFlags := 24, nameIndex := 430, descriptorIndex := 62, attributes := #[] }, { accessFlags := 4120, nameIndex := 46, descriptorIndex := 47, attributes := #[] }])
  fields := #[{ name := "HI_BYTE_SHIFT", type := .int, accessFlags := 26, slot := 0, constantValue := 0 }, { name := "LO_BYTE_SHIFT", type := .int, accessFlags := 26, slot := 1, constantValue := 0 }, { name := "MAX_LENGTH", type := .int, accessFlags := 24, slot := 2, constantValue := 0 }, { name := "$assertionsDisabled", type := .boolean, accessFlags := 4120, slot := 3, constantValue := 0 }]
  methods := #[k8m0, k8m1, k8m2, k8m3]
  instanceTypes := #[]
  staticTypes := #[.int, .int, .int, .boolean]
  resolved := Array.replicate 635 none
  statics := none }

def pool9 : Array CpInfo := pool [(1, .methodref 2 3), (0, .class_ 4), (0, .nameAndType 5 6), (0, u "java/lang/Object"), (0, u "<init>"), (0, u "()V"), (0, .class_ 8), (0, u "java/lang/Record")] 13

def k9c0 : Code := { maxStack := 1, maxLocals := 1, code := jdk_30_method_1_code, exceptionTable := #[], attributes := #[] }
def k9m0 : Method := { name := "<init>", desc := "()V", sig := { parameters := [], returnType := none }, accessFlags := 4, code := some k9c0 }
/-- java/lang/Record -/
def k9 : Class := { plain "java/lang/Record" (some 0) with
  accessFlags := 1057
  interfaces := #[]
  cf := some (fileOf pool9 7 #[] #[{ accessFlags := 4, nameIndex := 5, descriptorIndex := 6, attributes := #[] }] 1057 2 #[] #[])
  fields := #[]
  methods := #[k9m0]
  instanceTypes := #[]
  staticTypes := #[]
  resolved := Array.replicate 22 none
  statics := none }

def pool10 : Array CpInfo := pool [(1, .methodref 2 3), (0, .class_ 4), (0, .nameAndType 5 6), (0, u "java/lang/Record"), (0, u "<init>"), (0, u "()V"), (0, .fieldref 8 9), (0, .class_ 10), (0, .nameAndType 11 12), (0, u "com/example/sealed_orders/sealedorders/rules/SeasonNames"), (0, u "first"), (0, u "Ljava/lang/String;"), (0, .fieldref 8 14), (0, .nameAndType 15 12), (0, u "second"), (0, .fieldref 8 17), (0, .nameAndType 18 12), (0, u "adjustment"), (0, .fieldref 20 21), (0, .class_ 22), (0, .nameAndType 23 24), (0, u "com/example/sealed_orders/sealedorders/rules/Phase$Kind"), (0, u "ADJUSTMENT"), (0, u "Lcom/example/sealed_orders/sealedorders/rules/Phase$Kind;"), (0, .fieldref 26 27), (0, .class_ 28), (0, .nameAndType 29 30), (0, u "com/example/sealed_orders/sealedorders/rules/Phase$Season"), (0, u "SPRING"), (0, u "Lcom/example/sealed_orders/sealedorders/rules/Phase$Season;"), (12, u "(Ljava/lang/String;Ljava/lang/String;Ljava/lang/String;)V"), (3, u "of"), (0, u "(Lcom/example/sealed_orders/sealedorders/rules/Phase$Season;Lcom/example/sealed_orders/sealedorders/rules/Phase$Kind;)Ljava/lang/String;")] 32

def k10c0 : Code := { maxStack := 2, maxLocals := 4, code := prog_61_method_1_code, exceptionTable := #[], attributes := #[] }
def k10m0 : Method := { name := "<init>", desc := "(Ljava/lang/String;Ljava/lang/String;Ljava/lang/String;)V", sig := { parameters := [(.object "java/lang/String"), (.object "java/lang/String"), (.object "java/lang/String")], returnType := none }, accessFlags := 1, code := some k10c0 }
def k10c1 : Code := { maxStack := 2, maxLocals := 4, code := prog_61_method_2_code, exceptionTable := #[], attributes := #[] }
def k10m1 : Method := { name := "of", desc := "(Lcom/example/sealed_orders/sealedorders/rules/Phase$Season;Lcom/example/sealed_orders/sealedorders/rules/Phase$Kind;)Ljava/lang/String;", sig := { parameters := [(.object "com/example/sealed_orders/sealedorders/rules/Phase$Season"), (.object "com/example/sealed_orders/sealedorders/rules/Phase$Kind")], returnType := some (.object "java/lang/String") }, accessFlags := 0, code := some k10c1 }
/-- com/example/sealed_orders/sealedorders/rules/SeasonNames -/
def k10 : Class := { plain "com/example/sealed_orders/sealedorders/rules/SeasonNames" (some 9) with
  accessFlags := 49
  interfaces := #[]
  cf := some (fileOf pool10 8 #[] #[{ accessFlags := 1, nameIndex := 5, descriptorIndex := 43, attributes := #[] }, { accessFlags := 0, nameIndex := 47, descriptorIndex := 48, attributes := #[] }] 49 2 #[] #[{ accessFlags := 18, nameIndex := 11, descriptorIndex := 12, attributes := #[] }, { accessFlags := 18, nameIndex := 15, descriptorIndex := 12, attributes := #[] }, { accessFlags := 18, nameIndex := 18, descriptorIndex := 12, attributes := #[] }])
  fields := #[{ name := "first", type := (.object "java/lang/String"), accessFlags := 18, slot := 0, constantValue := 0 }, { name := "second", type := (.object "java/lang/String"), accessFlags := 18, slot := 1, constantValue := 0 }, { name := "adjustment", type := (.object "java/lang/String"), accessFlags := 18, slot := 2, constantValue := 0 }]
  methods := #[k10m0, k10m1]
  instanceTypes := #[(.object "java/lang/String"), (.object "java/lang/String"), (.object "java/lang/String")]
  staticTypes := #[]
  resolved := Array.replicate 81 none
  statics := none }

def pool11 : Array CpInfo := pool [(2, .class_ 4), (1, u "java/lang/Enum"), (0, u "name"), (0, u "Ljava/lang/String;"), (2, u "ordinal"), (0, u "I"), (1, .class_ 14), (1, u "java/lang/Object"), (4, u "hash"), (86, .class_ 108), (1, u "java/lang/Enum$EnumDesc"), (2, .class_ 112), (0, u "java/lang/constant/Constable"), (0, .class_ 114), (0, u "java/lang/Comparable"), (0, .class_ 116), (0, u "java/io/Serializable")] 87

/-- java/lang/Enum -/
def k11 : Class := { plain "java/lang/Enum" (some 0) with
  accessFlags := 1057
  interfaces := #[5, 3, 2]
  cf := some (fileOf pool11 2 #[.nestMembers #[106]] #[] 1057 12 #[111, 113, 115] #[{ accessFlags := 18, nameIndex := 5, descriptorIndex := 6, attributes := #[] }, { accessFlags := 18, nameIndex := 9, descriptorIndex := 10, attributes := #[] }, { accessFlags := 2, nameIndex := 19, descriptorIndex := 10, attributes := #[] }])
  fields := #[{ name := "name", type := (.object "java/lang/String"), accessFlags := 18, slot := 0, constantValue := 0 }, { name := "ordinal", type := .int, accessFlags := 18, slot := 1, constantValue := 0 }, { name := "hash", type := .int, accessFlags := 2, slot := 2, constantValue := 0 }]
  methods := #[]
  instanceTypes := #[(.object "java/lang/String"), .int, .int]
  staticTypes := #[]
  resolved := Array.replicate 204 none
  statics := none }

def pool12 : Array CpInfo := pool [(1, .class_ 2), (0, u "com/example/sealed_orders/sealedorders/rules/Phase$Kind"), (2, u "MOVEMENT"), (0, u "Lcom/example/sealed_orders/sealedorders/rules/Phase$Kind;"), (2, u "RETREAT"), (2, u "ADJUSTMENT"), (2, u "$VALUES"), (0, u "[Lcom/example/sealed_orders/sealedorders/rules/Phase$Kind;"), (6, .class_ 25), (1, u "java/lang/Enum"), (26, .class_ 53), (0, u "com/example/sealed_orders/sealedorders/rules/Phase")] 2

/-- com/example/sealed_orders/sealedorders/rules/Phase$Kind -/
def k12 : Class := { plain "com/example/sealed_orders/sealedorders/rules/Phase$Kind" (some 11) with
  accessFlags := 16433
  interfaces := #[]
  cf := some (fileOf pool12 1 #[.nestHost 52] #[] 16433 23 #[] #[{ accessFlags := 16409, nameIndex := 5, descriptorIndex := 6, attributes := #[] }, { accessFlags := 16409, nameIndex := 9, descriptorIndex := 6, attributes := #[] }, { accessFlags := 16409, nameIndex := 12, descriptorIndex := 6, attributes := #[] }, { accessFlags := 4122, nameIndex := 15, descriptorIndex := 16, attributes := #[] }])
  fields := #[{ name := "MOVEMENT", type := (.object "com/example/sealed_orders/sealedorders/rules/Phase$Kind"), accessFlags := 16409, slot := 0, constantValue := 0 }, { name := "RETREAT", type := (.object "com/example/sealed_orders/sealedorders/rules/Phase$Kind"), accessFlags := 16409, slot := 1, constantValue := 0 }, { name := "ADJUSTMENT", type := (.object "com/example/sealed_orders/sealedorders/rules/Phase$Kind"), accessFlags := 16409, slot := 2, constantValue := 0 }, { name := "$VALUES", type := (.array (.object "com/example/sealed_orders/sealedorders/rules/Phase$Kind")), accessFlags := 4122, slot := 3, constantValue := 0 }]
  methods := #[]
  instanceTypes := #[(.object "java/lang/String"), .int, .int]
  staticTypes := #[(.object "com/example/sealed_orders/sealedorders/rules/Phase$Kind"), (.object "com/example/sealed_orders/sealedorders/rules/Phase$Kind"), (.object "com/example/sealed_orders/sealedorders/rules/Phase$Kind"), (.array (.object "com/example/sealed_orders/sealedorders/rules/Phase$Kind"))]
  resolved := Array.replicate 56 none
  statics := some 1 }

def pool13 : Array CpInfo := pool [(1, .class_ 2), (0, u "com/example/sealed_orders/sealedorders/rules/Phase$Season"), (2, u "SPRING"), (0, u "Lcom/example/sealed_orders/sealedorders/rules/Phase$Season;"), (2, u "FALL"), (2, u "$VALUES"), (0, u "[Lcom/example/sealed_orders/sealedorders/rules/Phase$Season;"), (6, .class_ 22), (1, u "java/lang/Enum"), (25, .class_ 49), (0, u "com/example/sealed_orders/sealedorders/rules/Phase")] 2

/-- com/example/sealed_orders/sealedorders/rules/Phase$Season -/
def k13 : Class := { plain "com/example/sealed_orders/sealedorders/rules/Phase$Season" (some 11) with
  accessFlags := 16433
  interfaces := #[]
  cf := some (fileOf pool13 1 #[.nestHost 48] #[] 16433 20 #[] #[{ accessFlags := 16409, nameIndex := 5, descriptorIndex := 6, attributes := #[] }, { accessFlags := 16409, nameIndex := 9, descriptorIndex := 6, attributes := #[] }, { accessFlags := 4122, nameIndex := 12, descriptorIndex := 13, attributes := #[] }])
  fields := #[{ name := "SPRING", type := (.object "com/example/sealed_orders/sealedorders/rules/Phase$Season"), accessFlags := 16409, slot := 0, constantValue := 0 }, { name := "FALL", type := (.object "com/example/sealed_orders/sealedorders/rules/Phase$Season"), accessFlags := 16409, slot := 1, constantValue := 0 }, { name := "$VALUES", type := (.array (.object "com/example/sealed_orders/sealedorders/rules/Phase$Season")), accessFlags := 4122, slot := 2, constantValue := 0 }]
  methods := #[]
  instanceTypes := #[(.object "java/lang/String"), .int, .int]
  staticTypes := #[(.object "com/example/sealed_orders/sealedorders/rules/Phase$Season"), (.object "com/example/sealed_orders/sealedorders/rules/Phase$Season"), (.array (.object "com/example/sealed_orders/sealedorders/rules/Phase$Season"))]
  resolved := Array.replicate 52 none
  statics := some 2 }

def pool14 : Array CpInfo := pool [(4, .class_ 6), (1, u "java/lang/Object"), (0, u "<init>"), (0, u "()V"), (5, .class_ 16), (1, u "java/lang/StringLatin1"), (104, u "$assertionsDisabled"), (0, u "Z"), (98, .class_ 223), (1, u "java/lang/StringLatin1$LinesSpliterator"), (166, .class_ 391), (0, u "java/lang/StringLatin1$CharsSpliterator")] 3

def k14m0 : Method := { name := "<init>", desc := "()V", sig := { parameters := [], returnType := none }, accessFlags := 0, code := none }
/-- java/lang/StringLatin1 -/
def k14 : Class := { plain "java/lang/StringLatin1" (some 0) with
  accessFlags := 48
  interfaces := #[]
  cf := some (fileOf pool14 14 #[.nestMembers #[390, 221]] #[{ accessFlags := 0, nameIndex := 7, descriptorIndex := 8, attributes := #[] }] 48 4 #[] #[{ accessFlags := 4120, nameIndex := 121, descriptorIndex := 122, attributes := #[] }])
  fields := #[{ name := "$assertionsDisabled", type := .boolean, accessFlags := 4120, slot := 0, constantValue := 0 }]
  methods := #[k14m0]
  instanceTypes := #[]
  staticTypes := #[.boolean]
  resolved := Array.replicate 395 none
  statics := none }

def pool15 : Array CpInfo := pool [(2, .class_ 4), (1, u "java/lang/Object"), (0, u "<init>"), (0, u "()V"), (17, .class_ 26), (1, u "jdk/internal/util/Preconditions"), (28, .class_ 56), (0, u "jdk/internal/util/Preconditions$4"), (57, .class_ 115), (0, u "jdk/internal/util/Preconditions$1"), (7, u "SIOOBE_FORMATTER"), (0, u "Ljava/util/function/BiFunction;"), (0, .class_ 126), (0, u "jdk/internal/util/Preconditions$2"), (3, u "AIOOBE_FORMATTER"), (0, .class_ 132), (0, u "jdk/internal/util/Preconditions$3"), (3, u "IOOBE_FORMATTER")] 57

def k15m0 : Method := { name := "<init>", desc := "()V", sig := { parameters := [], returnType := none }, accessFlags := 1, code := none }
/-- jdk/internal/util/Preconditions -/
def k15 : Class := { plain "jdk/internal/util/Preconditions" (some 0) with
  accessFlags := 33
  interfaces := #[]
  cf := some (fileOf pool15 24 #[.nestMembers #[55, 131, 125, 114]] #[{ accessFlags := 1, nameIndex := 5, descriptorIndex := 6, attributes := #[] }] 33 2 #[] #[{ accessFlags := 25, nameIndex := 123, descriptorIndex := 124, attributes := #[] }, { accessFlags := 25, nameIndex := 130, descriptorIndex := 124, attributes := #[] }, { accessFlags := 25, nameIndex := 136, descriptorIndex := 124, attributes := #[] }])
  fields := #[{ name := "SIOOBE_FORMATTER", type := (.object "java/util/function/BiFunction"), accessFlags := 25, slot := 0, constantValue := 0 }, { name := "AIOOBE_FORMATTER", type := (.object "java/util/function/BiFunction"), accessFlags := 25, slot := 1, constantValue := 0 }, { name := "IOOBE_FORMATTER", type := (.object "java/util/function/BiFunction"), accessFlags := 25, slot := 2, constantValue := 0 }]
  methods := #[k15m0]
  instanceTypes := #[]
  staticTypes := #[(.object "java/util/function/BiFunction"), (.object "java/util/function/BiFunction"), (.object "java/util/function/BiFunction")]
  resolved := Array.replicate 194 none
  statics := some 3 }

def pool16 : Array CpInfo := pool [(9, u "<init>"), (6, .class_ 18), (1, u "java/lang/Object"), (0, u "()V"), (1, .class_ 23), (1, u "jdk/internal/util/ArraysSupport"), (0, u "LOG2_ARRAY_LONG_INDEX_SCALE"), (0, u "I"), (2, u "U"), (0, u "Ljdk/internal/misc/Unsafe;"), (8, u "BIG_ENDIAN"), (0, u "Z"), (8, u "LOG2_BYTE_BIT_SIZE"), (4, u "LOG2_ARRAY_INT_INDEX_SCALE"), (54, u "JLA"), (0, u "Ljdk/internal/access/JavaLangAccess;"), (11, u "LOG2_ARRAY_BOOLEAN_INDEX_SCALE"), (9, u "LOG2_ARRAY_BYTE_INDEX_SCALE"), (5, u "LOG2_ARRAY_CHAR_INDEX_SCALE"), (5, u "LOG2_ARRAY_SHORT_INDEX_SCALE"), (18, u "LOG2_ARRAY_FLOAT_INDEX_SCALE"), (24, u "LOG2_ARRAY_DOUBLE_INDEX_SCALE"), (89, u "T_BOOLEAN"), (2, u "T_CHAR"), (1, u "T_FLOAT"), (1, u "T_DOUBLE"), (1, u "T_BYTE"), (1, u "T_SHORT"), (1, u "T_INT"), (1, u "T_LONG"), (1, u "SOFT_MAX_ARRAY_LENGTH")] 83

def k16m0 : Method := { name := "<init>", desc := "()V", sig := { parameters := [], returnType := none }, accessFlags := 2, code := none }
/-- jdk/internal/util/ArraysSupport -/
def k16 : Class := { plain "jdk/internal/util/ArraysSupport" (some 0) with
  accessFlags := 33
  interfaces := #[]
  cf := some (fileOf pool16 21 #[] #[{ accessFlags := 2, nameIndex := 9, descriptorIndex := 19, attributes := #[] }] 33 16 #[] #[{ accessFlags := 24, nameIndex := 28, descriptorIndex := 29, attributes := #[] }, { accessFlags := 26, nameIndex := 38, descriptorIndex := 39, attributes := #[] }, { accessFlags := 25, nameIndex := 121, descriptorIndex := 25, attributes := #[] }, { accessFlags := 25, nameIndex := 131, descriptorIndex := 25, attributes := #[] }, { accessFlags := 25, nameIndex := 137, descriptorIndex := 25, attributes := #[] }, { accessFlags := 25, nameIndex := 143, descriptorIndex := 25, attributes := #[] }, { accessFlags := 25, nameIndex := 53, descriptorIndex := 25, attributes := #[] }, { accessFlags := 25, nameIndex := 24, descriptorIndex := 25, attributes := #[] }, { accessFlags := 25, nameIndex := 162, descriptorIndex := 25, attributes := #[] }, { accessFlags := 25, nameIndex := 187, descriptorIndex := 25, attributes := #[] }, { accessFlags := 26, nameIndex := 48, descriptorIndex := 25, attributes := #[] }, { accessFlags := 25, nameIndex := 277, descriptorIndex := 25, attributes := #[] }, { accessFlags := 25, nameIndex := 280, descriptorIndex := 25, attributes := #[] }, { accessFlags := 25, nameIndex := 282, descriptorIndex := 25, attributes := #[] }, { accessFlags := 25, nameIndex := 284, descriptorIndex := 25, attributes := #[] }, { accessFlags := 25, nameIndex := 286, descriptorIndex := 25, attributes := #[] }, { accessFlags := 25, nameIndex := 288, descriptorIndex := 25, attributes := #[] }, { accessFlags := 25, nameIndex := 290, descriptorIndex := 25, attributes := #[] }, { accessFlags := 25, nameIndex := 292, descriptorIndex := 25, attributes := #[] }, { accessFlags := 26, nameIndex := 108, descriptorIndex := 109, attributes := #[] }, { accessFlags := 25, nameIndex := 294, descriptorIndex := 25, attributes := #[] }])
  fields := #[{ name := "U", type := (.object "jdk/internal/misc/Unsafe"), accessFlags := 24, slot := 0, constantValue := 0 }, { name := "BIG_ENDIAN", type := .boolean, accessFlags := 26, slot := 1, constantValue := 0 }, { name := "LOG2_ARRAY_BOOLEAN_INDEX_SCALE", type := .int, accessFlags := 25, slot := 2, constantValue := 0 }, { name := "LOG2_ARRAY_BYTE_INDEX_SCALE", type := .int, accessFlags := 25, slot := 3, constantValue := 0 }, { name := "LOG2_ARRAY_CHAR_INDEX_SCALE", type := .int, accessFlags := 25, slot := 4, constantValue := 0 }, { name := "LOG2_ARRAY_SHORT_INDEX_SCALE", type := .int, accessFlags := 25, slot := 5, constantValue := 0 }, { name := "LOG2_ARRAY_INT_INDEX_SCALE", type := .int, accessFlags := 25, slot := 6, constantValue := 0 }, { name := "LOG2_ARRAY_LONG_INDEX_SCALE", type := .int, accessFlags := 25, slot := 7, constantValue := 0 }, { name := "LOG2_ARRAY_FLOAT_INDEX_SCALE", type := .int, accessFlags := 25, slot := 8, constantValue := 0 }, { name := "LOG2_ARRAY_DOUBLE_INDEX_SCALE", type := .int, accessFlags := 25, slot := 9, constantValue := 0 }, { name := "LOG2_BYTE_BIT_SIZE", type := .int, accessFlags := 26, slot := 10, constantValue := 0 }, { name := "T_BOOLEAN", type := .int, accessFlags := 25, slot := 11, constantValue := 0 }, { name := "T_CHAR", type := .int, accessFlags := 25, slot := 12, constantValue := 0 }, { name := "T_FLOAT", type := .int, accessFlags := 25, slot := 13, constantValue := 0 }, { name := "T_DOUBLE", type := .int, accessFlags := 25, slot := 14, constantValue := 0 }, { name := "T_BYTE", type := .int, accessFlags := 25, slot := 15, constantValue := 0 }, { name := "T_SHORT", type := .int, accessFlags := 25, slot := 16, constantValue := 0 }, { name := "T_INT", type := .int, accessFlags := 25, slot := 17, constantValue := 0 }, { name := "T_LONG", type := .int, accessFlags := 25, slot := 18, constantValue := 0 }, { name := "JLA", type := (.object "jdk/internal/access/JavaLangAccess"), accessFlags := 26, slot := 19, constantValue := 0 }, { name := "SOFT_MAX_ARRAY_LENGTH", type := .int, accessFlags := 25, slot := 20, constantValue := 0 }]
  methods := #[k16m0]
  instanceTypes := #[]
  staticTypes := #[(.object "jdk/internal/misc/Unsafe"), .boolean, .int, .int, .int, .int, .int, .int, .int, .int, .int, .int, .int, .int, .int, .int, .int, .int, .int, (.object "jdk/internal/access/JavaLangAccess"), .int]
  resolved := Array.replicate 378 none
  statics := none }

def pool17 : Array CpInfo := pool [(1, u "java/lang/Cloneable"), (0, .class_ 1), (0, u "java/lang/Object"), (0, .class_ 3)] 3

/-- java/lang/Cloneable -/
def k17 : Class := { plain "java/lang/Cloneable" (some 0) with
  accessFlags := 1537
  interfaces := #[]
  cf := some (fileOf pool17 2 #[] #[] 1537 4 #[] #[])
  fields := #[]
  methods := #[]
  instanceTypes := #[]
  staticTypes := #[]
  resolved := Array.replicate 8 none
  statics := none }

/-- the primitive byte -/
def k18 : Class := { plain "byte" none with kind := .primitive 'B', accessFlags := 0x411 }
/-- [B -/
def k19 : Class := { plain "[B" (some 0) with kind := .array 18 .byte, interfaces := #[17, 2], accessFlags := 1041 }

/-- the primitive char -/
def k20 : Class := { plain "char" none with kind := .primitive 'C', accessFlags := 0x411 }
/-- [C -/
def k21 : Class := { plain "[C" (some 0) with kind := .array 20 .char, interfaces := #[17, 2], accessFlags := 1041 }

/-- the primitive int -/
def k22 : Class := { plain "int" none with kind := .primitive 'I', accessFlags := 0x411 }
/-- [I -/
def k23 : Class := { plain "[I" (some 0) with kind := .array 22 .int, interfaces := #[17, 2], accessFlags := 1041 }

def heap : Heap := #[{ cls := 7, slots := #[.long 0, .int 1, .null, .int 0, .null, .int 0, .int 0], vm := .statics 7 },
  { cls := 12, slots := #[.ref 4, .ref 5, .ref 6, .null], vm := .statics 12 },
  { cls := 13, slots := #[.ref 7, .ref 8, .null], vm := .statics 13 },
  { cls := 15, slots := #[.null, .null, .null], vm := .statics 15 },
  { cls := 12, slots := #[.null, .int 0, .int 0], vm := .none },
  { cls := 12, slots := #[.null, .int 1, .int 0], vm := .none },
  { cls := 12, slots := #[.null, .int 2, .int 0], vm := .none },
  { cls := 13, slots := #[.null, .int 0, .int 0], vm := .none },
  { cls := 13, slots := #[.null, .int 1, .int 0], vm := .none }]
def classes : Array Class := #[k0, k1, k2, k3, k4, k5, k6, k7, k8, k9, k10, k11, k12, k13, k14, k15, k16, k17, k18, k19, k20, k21, k22, k23]
def interned : List (Array UInt16 × Addr) := []
def slotsUsed : Nat := 32
def theMethod : MethodId := ⟨1, 1⟩
def args0 : Array Value := #[.int 1, .int 2, .int 3, .int 4]
def aboutOver (below : List Frame) : State where
  vm := { classes := classes, interned := interned.toArray }
  heap := heap
  slotsUsed := slotsUsed
  threads := #[{ frames := .invoking theMethod args0 :: below }]
def below0 : List Frame := [.native { method := ⟨0, 0⟩, args := #[] }]
def about1 : State := aboutOver below0
def p0 : Program := .bare "" "" ""
def e0 : Env := launch0.env 0 0 0
theorem w_frames : about1.frames = Frame.invoking theMethod args0 :: below0 := rfl
set_option maxRecDepth 65536 in
theorem w_args : argsFit about1.vm theMethod args0 = true := by decide +kernel
set_option maxRecDepth 65536 in
theorem w_heap : heapFits about1 = true := by decide +kernel
set_option maxRecDepth 65536 in
theorem w_runnable : about1.curStatus? = some .runnable := by decide +kernel
set_option maxRecDepth 65536 in
theorem w_alone : about1.alone = true := by decide +kernel
set_option maxRecDepth 65536 in
theorem w_named : about1.methodNamed? x = some theMethod := by decide +kernel
set_option maxRecDepth 65536 in
theorem w_hears : about1.hears theMethod below0 = true := by decide +kernel
set_option maxRecDepth 65536 in
theorem w_ripe : about1.ripe theMethod args0 below0 = true := by decide +kernel
theorem w_running : about1.status = .running := rfl
set_option maxRecDepth 65536 in
theorem w_room : about1.hasRoom e0.platform room_1 = true :=
  launch0.hasRoom_least _ room_1 (by decide +kernel) (by decide +kernel) (by decide +kernel) (by decide +kernel) (by decide +kernel) (by decide +kernel)
theorem allAtoms_all (ts : List Jvm.Cond) (a : Array Jvm.Value) (st : Jvm.State) : (allAtoms ts).before a st = ts.all (fun c => c.before a st) := by
  induction ts with
  | nil => rfl
  | cons c t ih =>
    show (Jvm.Cond.and c (allAtoms t)).before a st = _
    rw [Jvm.Cond.before_and, ih, List.all_cons]
def words1 : List Jvm.Cond := Jvm.Cond.code x code maxLocals ret :: tables_1
/-- a 'code' word, met by the world's own term for the bytes: nothing is compared byte by byte -/
theorem code_word {y : MethodName} {bytes : ByteArray} {mx : Nat} {rt : Option FieldType} {a : Array Value} {s : State} {m : MethodId} {meth : Method} {c : Code} (h1 : s.methodNamed? y = some m) (h2 : s.vm.method? m = some meth) (h3 : meth.code = some c) (h4 : c.code = bytes)
    (h5 : (c.maxLocals == mx && c.exceptionTable.isEmpty && decide (c.maxStack ≤ mostOperands) && decide (meth.sig.returnType = rt) && !meth.locks && decide (parseMethodDescriptor y.desc = some meth.sig)) = true) : (Jvm.Cond.code y bytes mx rt).before a s = true := by
  simp only [Bool.and_eq_true, beq_iff_eq, Bool.not_eq_true', decide_eq_true_eq] at h5
  obtain ⟨⟨⟨⟨⟨g1, g2⟩, g3⟩, g4⟩, g5⟩, g6⟩ := h5
  simp [Cond.before, Cond.holds, Cond.value, h1, h2, h3, h4, g1, g2, g3, g4, g5, g6]
def isCode : Jvm.Cond → Bool
  | .code _ _ _ _ => true
  | _ => false
theorem all_split {L : List Jvm.Cond} {P : Jvm.Cond → Bool} (h1 : L.all (fun c => isCode c || P c) = true) (h2 : ∀ c ∈ L.filter isCode, P c = true) : L.all P = true := by
  refine List.all_eq_true.mpr fun c hc => ?_
  have h := List.all_eq_true.mp h1 c hc
  rcases Bool.eq_false_or_eq_true (isCode c) with hi | hi
  · exact h2 c (List.mem_filter.mpr ⟨hc, hi⟩)
  · simpa [hi] using h
set_option maxRecDepth 65536 in
theorem w_c0 : (Jvm.Cond.code x code maxLocals ret).before args0 about1 = true := code_word (m := ⟨1, 1⟩) (meth := k1m1) (c := k1c1) (by decide +kernel) rfl rfl rfl (by decide +kernel)
set_option maxRecDepth 65536 in
theorem w_c1 : (Jvm.Cond.code ({ cls := "com/example/sealed_orders/sealedorders/rules/SeasonNamesOfPinLaw", name := "str", desc := "(I)Ljava/lang/String;" } : Jvm.MethodName) method_3_code (2 : Nat) (Option.some (Jvm.ClassFile.FieldType.object "java/lang/String"))).before args0 about1 = true := code_word (m := ⟨1, 2⟩) (meth := k1m2) (c := k1c2) (by decide +kernel) rfl rfl rfl (by decide +kernel)
set_option maxRecDepth 65536 in
theorem w_c2 : (Jvm.Cond.code ({ cls := "java/lang/String", name := "<init>", desc := "([C)V" } : Jvm.MethodName) jdk_42_method_3_code (2 : Nat) (Option.none : Option Jvm.ClassFile.FieldType)).before args0 about1 = true := code_word (m := ⟨7, 1⟩) (meth := k7m1) (c := k7c1) (by decide +kernel) rfl rfl rfl (by decide +kernel)
set_option maxRecDepth 65536 in
theorem w_c3 : (Jvm.Cond.code ({ cls := "java/lang/String", name := "<init>", desc := "([CIILjava/lang/Void;)V" } : Jvm.MethodName) jdk_42_method_149_code (6 : Nat) (Option.none : Option Jvm.ClassFile.FieldType)).before args0 about1 = true := code_word (m := ⟨7, 2⟩) (meth := k7m2) (c := k7c2) (by decide +kernel) rfl rfl rfl (by decide +kernel)
set_option maxRecDepth 65536 in
theorem w_c4 : (Jvm.Cond.code ({ cls := "java/lang/Object", name := "<init>", desc := "()V" } : Jvm.MethodName) object_method_1_code (1 : Nat) (Option.none : Option Jvm.ClassFile.FieldType)).before args0 about1 = true := code_word (m := ⟨0, 0⟩) (meth := k0m0) (c := k0c0) (by decide +kernel) rfl rfl rfl (by decide +kernel)
set_option maxRecDepth 65536 in
theorem w_c5 : (Jvm.Cond.code ({ cls := "java/lang/StringUTF16", name := "compress", desc := "([CII)[B" } : Jvm.MethodName) jdk_52_method_16_code (6 : Nat) (Option.some (Jvm.ClassFile.FieldType.array Jvm.ClassFile.FieldType.byte))).before args0 about1 = true := code_word (m := ⟨8, 2⟩) (meth := k8m2) (c := k8c2) (by decide +kernel) rfl rfl rfl (by decide +kernel)
set_option maxRecDepth 65536 in
theorem w_c6 : (Jvm.Cond.code ({ cls := "java/lang/StringUTF16", name := "compress", desc := "([CI[BII)I" } : Jvm.MethodName) jdk_52_method_21_code (7 : Nat) (Option.some Jvm.ClassFile.FieldType.int)).before args0 about1 = true := code_word (m := ⟨8, 3⟩) (meth := k8m3) (c := k8c3) (by decide +kernel) rfl rfl rfl (by decide +kernel)
set_option maxRecDepth 65536 in
theorem w_c7 : (Jvm.Cond.code ({ cls := "java/lang/StringUTF16", name := "coderFromArrayLen", desc := "([BI)B" } : Jvm.MethodName) jdk_52_method_15_code (2 : Nat) (Option.some Jvm.ClassFile.FieldType.byte)).before args0 about1 = true := code_word (m := ⟨8, 1⟩) (meth := k8m1) (c := k8c1) (by decide +kernel) rfl rfl rfl (by decide +kernel)
set_option maxRecDepth 65536 in
theorem w_c8 : (Jvm.Cond.code ({ cls := "com/example/sealed_orders/sealedorders/rules/SeasonNames", name := "<init>", desc := "(Ljava/lang/String;Ljava/lang/String;Ljava/lang/String;)V" } : Jvm.MethodName) prog_61_method_1_code (4 : Nat) (Option.none : Option Jvm.ClassFile.FieldType)).before args0 about1 = true := code_word (m := ⟨10, 0⟩) (meth := k10m0) (c := k10c0) (by decide +kernel) rfl rfl rfl (by decide +kernel)
set_option maxRecDepth 65536 in
theorem w_c9 : (Jvm.Cond.code ({ cls := "java/lang/Record", name := "<init>", desc := "()V" } : Jvm.MethodName) jdk_30_method_1_code (1 : Nat) (Option.none : Option Jvm.ClassFile.FieldType)).before args0 about1 = true := code_word (m := ⟨9, 0⟩) (meth := k9m0) (c := k9c0) (by decide +kernel) rfl rfl rfl (by decide +kernel)
set_option maxRecDepth 65536 in
theorem w_c10 : (Jvm.Cond.code ({ cls := "com/example/sealed_orders/sealedorders/rules/SeasonNames", name := "of", desc := "(Lcom/example/sealed_orders/sealedorders/rules/Phase$Season;Lcom/example/sealed_orders/sealedorders/rules/Phase$Kind;)Ljava/lang/String;" } : Jvm.MethodName) prog_61_method_2_code (4 : Nat) (Option.some (Jvm.ClassFile.FieldType.object "java/lang/String"))).before args0 about1 = true := code_word (m := ⟨10, 1⟩) (meth := k10m1) (c := k10c1) (by decide +kernel) rfl rfl rfl (by decide +kernel)
def codes1 : List Jvm.Cond := [Jvm.Cond.code x code maxLocals ret, Jvm.Cond.code ({ cls := "com/example/sealed_orders/sealedorders/rules/SeasonNamesOfPinLaw", name := "str", desc := "(I)Ljava/lang/String;" } : Jvm.MethodName) method_3_code (2 : Nat) (Option.some (Jvm.ClassFile.FieldType.object "java/lang/String")), Jvm.Cond.code ({ cls := "java/lang/String", name := "<init>", desc := "([C)V" } : Jvm.MethodName) jdk_42_method_3_code (2 : Nat) (Option.none : Option Jvm.ClassFile.FieldType), Jvm.Cond.code ({ cls := "java/lang/String", name := "<init>", desc := "([CIILjava/lang/Void;)V" } : Jvm.MethodName) jdk_42_method_149_code (6 : Nat) (Option.none : Option Jvm.ClassFile.FieldType), Jvm.Cond.code ({ cls := "java/lang/Object", name := "<init>", desc := "()V" } : Jvm.MethodName) object_method_1_code (1 : Nat) (Option.none : Option Jvm.ClassFile.FieldType), Jvm.Cond.code ({ cls := "java/lang/StringUTF16", name := "compress", desc := "([CII)[B" } : Jvm.MethodName) jdk_52_method_16_code (6 : Nat) (Option.some (Jvm.ClassFile.FieldType.array Jvm.ClassFile.FieldType.byte)), Jvm.Cond.code ({ cls := "java/lang/StringUTF16", name := "compress", desc := "([CI[BII)I" } : Jvm.MethodName) jdk_52_method_21_code (7 : Nat) (Option.some Jvm.ClassFile.FieldType.int), Jvm.Cond.code ({ cls := "java/lang/StringUTF16", name := "coderFromArrayLen", desc := "([BI)B" } : Jvm.MethodName) jdk_52_method_15_code (2 : Nat) (Option.some Jvm.ClassFile.FieldType.byte), Jvm.Cond.code ({ cls := "com/example/sealed_orders/sealedorders/rules/SeasonNames", name := "<init>", desc := "(Ljava/lang/String;Ljava/lang/String;Ljava/lang/String;)V" } : Jvm.MethodName) prog_61_method_1_code (4 : Nat) (Option.none : Option Jvm.ClassFile.FieldType), Jvm.Cond.code ({ cls := "java/lang/Record", name := "<init>", desc := "()V" } : Jvm.MethodName) jdk_30_method_1_code (1 : Nat) (Option.none : Option Jvm.ClassFile.FieldType), Jvm.Cond.code ({ cls := "com/example/sealed_orders/sealedorders/rules/SeasonNames", name := "of", desc := "(Lcom/example/sealed_orders/sealedorders/rules/Phase$Season;Lcom/example/sealed_orders/sealedorders/rules/Phase$Kind;)Ljava/lang/String;" } : Jvm.MethodName) prog_61_method_2_code (4 : Nat) (Option.some (Jvm.ClassFile.FieldType.object "java/lang/String"))]
set_option maxRecDepth 65536 in
theorem codes_eq : words1.filter isCode = codes1 := rfl
theorem w_codes : ∀ c ∈ words1.filter isCode, c.before args0 about1 = true := by
  rw [codes_eq]
  intro c hc
  simp only [codes1, List.mem_cons, List.not_mem_nil, or_false] at hc
  rcases hc with rfl | rfl | rfl | rfl | rfl | rfl | rfl | rfl | rfl | rfl | rfl
  · exact w_c0
  · exact w_c1
  · exact w_c2
  · exact w_c3
  · exact w_c4
  · exact w_c5
  · exact w_c6
  · exact w_c7
  · exact w_c8
  · exact w_c9
  · exact w_c10
set_option maxRecDepth 65536 in
theorem w_t1 : (words1.take 24).all (fun c => isCode c || c.before args0 about1) = true := by decide +kernel
set_option maxRecDepth 65536 in
theorem w_t2 : ((words1.drop 24).take 24).all (fun c => isCode c || c.before args0 about1) = true := by decide +kernel
set_option maxRecDepth 65536 in
theorem w_t3 : (((words1.drop 24).drop 24).take 24).all (fun c => isCode c || c.before args0 about1) = true := by decide +kernel
set_option maxRecDepth 65536 in
theorem w_t4 : (((words1.drop 24).drop 24).drop 24).all (fun c => isCode c || c.before args0 about1) = true := by decide +kernel
theorem w_tables : (allAtoms (Jvm.Cond.code x code maxLocals ret :: tables_1)).before args0 about1 = true := by
  rw [allAtoms_all]
  show words1.all (fun c => c.before args0 about1) = true
  refine all_split ?_ w_codes
  rw [← List.take_append_drop 24 words1, List.all_append, w_t1, ← List.take_append_drop 24 (words1.drop 24), List.all_append, w_t2, ← List.take_append_drop 24 ((words1.drop 24).drop 24), List.all_append, w_t3, w_t4]
  rfl
set_option maxRecDepth 65536 in
theorem w_rest : rest_1_c.before args0 about1 = true := by decide +kernel
set_option maxRecDepth 65536 in
theorem w_case : (Jvm.Cond.and given_1 narrow_1).before args0 about1 = true := by decide +kernel
theorem w_applies : (headSpec (Jvm.Cond.code x code maxLocals ret :: tables_1) room_1).applies x e0.platform about1 = true :=
  (Spec.applies_iff w_frames).mpr ⟨w_running, w_runnable, w_alone, w_named, w_hears, w_ripe, w_room, w_tables⟩
theorem atStart : AtStart classFile x code maxLocals ret World_1 tables_1 room_1 Calls_1 rest_1 Pre_1 launch0 p0 e0 about1 theMethod args0 below0 :=
  ⟨lists_1, trivial, launch0.admits_env _ _ _, launch0.least_env, fairChoices_fair.cas, fairChoices_fair.clock, w_frames, w_args, w_heap, w_applies, trivial, w_rest, w_case⟩
end start1
theorem witness_1 : WitnessClaimed_1 := ⟨start1.p0, start1.e0, start1.about1, start1.theMethod, start1.args0, start1.below0, start1.atStart⟩
end Jvm.Pilot.@@N@@
