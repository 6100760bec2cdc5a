import JvmDerived
import JvmDerived.Pilot.@@N@@Statement
import JvmDerived.Pilot.@@N@@Code
set_option linter.unusedVariables false
set_option linter.unusedSimpArgs false
namespace Jvm.RoadKit
open Sem ClassFile Op Lib Jvm.Stand Jvm.Free Jvm.LawKit
section New
variable {p : Program} {l : Launch} {e : Env} {R : Room} {s : State} {m : MethodId} {args : Array Value} {below : List Frame} {meth : Method} {c : Code} {T : State} {locs : List Loc} {cells slots : Nat}
theorem retI (X : Stand p l e R s m args below meth c T locs cells slots) (hx : p.tables.exec = Jvm.exec) {pc : Nat} {Ls : Array Slot} {z : Int32} {rest : List Value} (hret : meth.sig.returnType = some .int) (hd : decode c.code pc = .ok (.ireturn, 1)) {fs : List Frame}
    (hl : ∀ (f : JFrame) (acts : List Action), f.method = m → f.locked = none → f.entered = [] → (doReturn e (T.setTop f) acts (some (.int z))).1 = T.setFrames fs) : Steps p.tables e below (T.setTop (mkF m pc Ls (.int z :: rest))) (T.setFrames fs) := by
  have hm' : T.vm.method? m = some meth := X.method'
  have hn : narrow .int (.int z) = .int z := rfl
  show Steps p.tables e below (T.setTop { method := m, pc := pc, locals := Ls, stack := _ :: rest, locked := none }) _
  jvm_step X.here [X.here.top, hx, hd, hm', hret, hn]
  first | (intro acts; rw [hl _ acts rfl rfl rfl]) | rw [hl _ _ rfl rfl rfl]
  exact Steps.refl _
end New
end Jvm.RoadKit
namespace Jvm.Pilot.@@N@@
open Jvm Jvm.ClassFile Sem Op Lib Jvm.Free Jvm.Stand Jvm.LawKit Jvm.RoadKit Bundle Jvm.Pilot.@@N@@.Jvm.D
/-! what every block of a body's walk is given -/
def Ctx (p : Program) (Z s : State) (a0 : Array Value) (m : MethodId) (meth : Method) (c : Code) (own nm : String) (bytes : ByteArray) (maxl : Nat) (rt : Option FieldType) : Prop :=
  p.tables.exec = Jvm.exec ∧ Z.Warmed39 s.vm ∧ (∀ d ∈ tables_1, d.before a0 Z = true) ∧ c.code = bytes ∧ c.maxLocals = maxl ∧ meth.sig.returnType = rt ∧ s.vm.findClass own = some m.cls ∧ meth.name = nm ∧ meth.locks = false
/-- from the state A the body's run ends, returns, and leaves what Q says -/
def EndsIn (p : Program) (e : Env) (below : List Frame) (s : State) (cells slots : Nat) (Q : Option Value → Heap → List Loc → Prop) (A : State) : Prop :=
  ∃ s₂ o, Steps p.tables e below A s₂ ∧ s₂.status = .running ∧ Ended s₂ below o ∧ ∃ v L, o = .returned v ∧ Q v s₂.heap L ∧ FrameEnd s o s₂ L cells slots
section Ends
variable {p : Program} {l : Launch} {e : Env} {R : Room} {s : State} {m : MethodId} {args : Array Value} {below : List Frame} {meth : Method} {c : Code} {T : State} {locs : List Loc} {cells slots : Nat} {C S : Nat} {Q : Option Value → Heap → List Loc → Prop}
theorem EndsIn.by {A B : State} (h : ∀ t, Steps p.tables e below B t → Steps p.tables e below A t) (k : EndsIn p e below s C S Q B) : EndsIn p e below s C S Q A := by
  obtain ⟨s₂, o, h1, r⟩ := k
  exact ⟨s₂, o, h _ h1, r⟩
theorem own_retI (X : Stand p l e R s m args below meth c T locs cells slots) (hx : p.tables.exec = Jvm.exec) (hlk : meth.locks = false) {pc : Nat} {Ls : Array Slot} {z : Int32} {rest : List Value} (hret : meth.sig.returnType = some .int) (hd : decode c.code pc = .ok (.ireturn, 1)) (hc : cells ≤ C) (hs : slots ≤ S)
    (hq : Q (some (.int z)) T.heap locs) : EndsIn p e below s C S Q (T.setTop (mkF m pc Ls (.int z :: rest))) := by
  obtain ⟨fs, hr, hrun, hended, hW, hsame⟩ := X.leave (v := some (.int z)) (fun h => by rw [hret] at h; cases h) hlk
  exact ⟨_, _, retI X hx hret hd hr, hrun, hended, _, _, rfl, hq, ⟨_, rfl⟩, hW, hsame.mono hc hs⟩
theorem own_retN (X : Stand p l e R s m args below meth c T locs cells slots) (hx : p.tables.exec = Jvm.exec) (hlk : meth.locks = false) {pc : Nat} {Ls : Array Slot} {z : Int32} {rest : List Value} {t : FieldType} (hret : meth.sig.returnType = some t) (ht : t = .boolean ∨ t = .byte ∨ t = .char ∨ t = .short) (hd : decode c.code pc = .ok (.ireturn, 1)) (hc : cells ≤ C) (hs : slots ≤ S)
    (hq : Q (some (.int (nar t z))) T.heap locs) : EndsIn p e below s C S Q (T.setTop (mkF m pc Ls (.int z :: rest))) := by
  obtain ⟨fs, hr, hrun, hended, hW, hsame⟩ := X.leave (v := some (.int (nar t z))) (fun h => by rw [hret] at h; cases h) hlk
  exact ⟨_, _, retN X hx hret ht hd hr, hrun, hended, _, _, rfl, hq, ⟨_, rfl⟩, hW, hsame.mono hc hs⟩
theorem own_retJ (X : Stand p l e R s m args below meth c T locs cells slots) (hx : p.tables.exec = Jvm.exec) (hlk : meth.locks = false) {pc : Nat} {Ls : Array Slot} {z : Int64} (hret : meth.sig.returnType = some .long) (hd : decode c.code pc = .ok (.lreturn, 1)) (hc : cells ≤ C) (hs : slots ≤ S)
    (hq : Q (some (.long z)) T.heap locs) : EndsIn p e below s C S Q (T.setTop (mkF m pc Ls [.long z])) := by
  obtain ⟨fs, hr, hrun, hended, hW, hsame⟩ := X.leave (v := some (.long z)) (fun h => by rw [hret] at h; cases h) hlk
  exact ⟨_, _, X.lreturnOut hx hret hd hr, hrun, hended, _, _, rfl, hq, ⟨_, rfl⟩, hW, hsame.mono hc hs⟩
theorem own_retR (X : Stand p l e R s m args below meth c T locs cells slots) (hx : p.tables.exec = Jvm.exec) (hlk : meth.locks = false) {pc : Nat} {Ls : Array Slot} {z : Addr} {t : FieldType} (hret : meth.sig.returnType = some t) (ht : t.isReference = true) (hd : decode c.code pc = .ok (.areturn, 1)) (hc : cells ≤ C) (hs : slots ≤ S)
    (hq : Q (some (.ref z)) T.heap locs) : EndsIn p e below s C S Q (T.setTop (mkF m pc Ls [.ref z])) := by
  obtain ⟨fs, hr, hrun, hended, hW, hsame⟩ := X.leave (v := some (.ref z)) (fun h => by rw [hret] at h; cases h) hlk
  exact ⟨_, _, X.areturnOut hx rfl hret ht hd hr, hrun, hended, _, _, rfl, hq, ⟨_, rfl⟩, hW, hsame.mono hc hs⟩
theorem own_ret0 (X : Stand p l e R s m args below meth c T locs cells slots) (hx : p.tables.exec = Jvm.exec) (hlk : meth.locks = false) {pc : Nat} {Ls : Array Slot} (hret : meth.sig.returnType = none) (hd : decode c.code pc = .ok (.return_, 1)) (hc : cells ≤ C) (hs : slots ≤ S)
    (hq : Q none T.heap locs) : EndsIn p e below s C S Q (T.setTop (mkF m pc Ls [])) := by
  obtain ⟨fs, hr, hrun, hended, hW, hsame⟩ := X.leave (v := none) (fun _ => rfl) hlk
  exact ⟨_, _, X.returnOut hx hret hd hr, hrun, hended, _, _, rfl, hq, ⟨_, rfl⟩, hW, hsame.mono hc hs⟩
end Ends
section Arrays
variable {Z : State} {h h' : Heap} {a : Addr} {k : ClassId} {ty : FieldType} {n j : Int32} {vs : List Value} {d : Value}
/-- what an array of ints holds at the place j -/
def own_at (xs : List Int32) (j : Int32) : Int32 := xs.getD j.toNatClampNeg 0
def own_atJ (xs : List Int64) (j : Int32) : Int64 := xs.getD j.toNatClampNeg 0
theorem own_mapD (xs : List Int32) (i : Nat) : (xs.map Value.int).getD i (.int 0) = .int (xs.getD i 0) := by
  rw [List.getD_eq_getElem?_getD, List.getD_eq_getElem?_getD, List.getElem?_map]; cases xs[i]? <;> rfl
theorem own_mapDJ (xs : List Int64) (i : Nat) : (xs.map Value.long).getD i (.long 0) = .long (xs.getD i 0) := by
  rw [List.getD_eq_getElem?_getD, List.getD_eq_getElem?_getD, List.getElem?_map]; cases xs[i]? <;> rfl
theorem own_open (V : Arv Z h a k ty n vs d) (hj : ¬ (j < 0) ∧ j < n) : ∃ cl, Arr Z h a cl ty ∧ ¬ (j < 0 ∨ cl.slots.size ≤ j.toNatClampNeg) ∧ True := by
  obtain ⟨cl, Ar, -, S, -, -, -⟩ := V
  exact ⟨cl, Ar, inb_of S hj, trivial⟩
theorem own_readI {xs : List Int32} (V : Arv Z h a k ty n (xs.map Value.int) (.int 0)) (hj : ¬ (j < 0) ∧ j < n) (i : Nat) (hi : j.toNatClampNeg = i) : ∃ cl, Arr Z h a cl ty ∧ ¬ (j < 0 ∨ cl.slots.size ≤ j.toNatClampNeg) ∧ cl.slots[j.toNatClampNeg]? = some (.int (xs.getD i 0)) := by
  obtain ⟨cl, Ar, -, S, -, H, -⟩ := V
  have q := inb_of S hj
  refine ⟨cl, Ar, q, ?_⟩
  rw [H _ (Nat.lt_of_not_le fun y => q (Or.inr y)), own_mapD, hi]
theorem own_readJ {xs : List Int64} (V : Arv Z h a k ty n (xs.map Value.long) (.long 0)) (hj : ¬ (j < 0) ∧ j < n) (i : Nat) (hi : j.toNatClampNeg = i) : ∃ cl, Arr Z h a cl ty ∧ ¬ (j < 0 ∨ cl.slots.size ≤ j.toNatClampNeg) ∧ cl.slots[j.toNatClampNeg]? = some (.long (xs.getD i 0)) := by
  obtain ⟨cl, Ar, -, S, -, H, -⟩ := V
  have q := inb_of S hj
  refine ⟨cl, Ar, q, ?_⟩
  rw [H _ (Nat.lt_of_not_le fun y => q (Or.inr y)), own_mapDJ, hi]
theorem own_setI {xs : List Int32} {v : Int32} (V : Arv Z h a k ty n (xs.map Value.int) (.int 0)) (ln : xs.length = n.toNatClampNeg) (hj : ¬ (j < 0) ∧ j < n) (W : Wr h h' a j.toNatClampNeg (.int v)) (hf : fits ty (.int v) = true) (i : Nat) (hi : j.toNatClampNeg = i) :
    Arv Z h' a k ty n ((xs.set i v).map Value.int) (.int 0) ∧ (xs.set i v).length = n.toNatClampNeg := by
  subst hi
  obtain ⟨cl, Ar, q1, S, q3, H, G⟩ := V
  have q := inb_of S hj
  have W2 := Arv.set Ar q1 S q3 H G hf W j.toNatClampNeg rfl (by rw [List.length_map, ln, ← S]; exact Nat.lt_of_not_le fun y => q (Or.inr y))
  rw [List.map_set]
  exact ⟨W2, by rw [List.length_set]; exact ln⟩
theorem own_setJ {xs : List Int64} {v : Int64} (V : Arv Z h a k ty n (xs.map Value.long) (.long 0)) (ln : xs.length = n.toNatClampNeg) (hj : ¬ (j < 0) ∧ j < n) (W : Wr h h' a j.toNatClampNeg (.long v)) (hf : fits ty (.long v) = true) (i : Nat) (hi : j.toNatClampNeg = i) :
    Arv Z h' a k ty n ((xs.set i v).map Value.long) (.long 0) ∧ (xs.set i v).length = n.toNatClampNeg := by
  subst hi
  obtain ⟨cl, Ar, q1, S, q3, H, G⟩ := V
  have q := inb_of S hj
  have W2 := Arv.set Ar q1 S q3 H G hf W j.toNatClampNeg rfl (by rw [List.length_map, ln, ← S]; exact Nat.lt_of_not_le fun y => q (Or.inr y))
  rw [List.map_set]
  exact ⟨W2, by rw [List.length_set]; exact ln⟩
theorem own_newI (A : Arr Z h a (newA k ty n) ty) (hd : defaultValue ty = .int 0) (q : ¬ n < 0) {xs : List Int32} (hxs : xs = List.replicate n.toNatClampNeg 0) : Arv Z h a k ty n (xs.map Value.int) (.int 0) ∧ xs.length = n.toNatClampNeg := by
  subst hxs
  have V := Arv.new A q
  rw [hd] at V
  have V2 := V.pad (pad_rep [] (.int 0) n.toNatClampNeg)
  rw [List.map_replicate]
  exact ⟨V2, by rw [List.length_replicate]⟩
theorem own_newJ (A : Arr Z h a (newA k ty n) ty) (hd : defaultValue ty = .long 0) (q : ¬ n < 0) {xs : List Int64} (hxs : xs = List.replicate n.toNatClampNeg 0) : Arv Z h a k ty n (xs.map Value.long) (.long 0) ∧ xs.length = n.toNatClampNeg := by
  subst hxs
  have V := Arv.new A q
  rw [hd] at V
  have V2 := V.pad (pad_rep [] (.long 0) n.toNatClampNeg)
  rw [List.map_replicate]
  exact ⟨V2, by rw [List.length_replicate]⟩
end Arrays

def own_EL : List (String × Nat) := [("java/lang/String", 7)]
/-- from the state A the body's run ends, returns, and leaves what Q says; the tables may have interned -/
def EndsInW (p : Program) (e : Env) (below : List Frame) (s : State) (cells slots : Nat) (Q : Option Value → Heap → List Loc → Prop) (A : State) : Prop :=
  ∃ s₂ o, Steps p.tables e below A s₂ ∧ s₂.status = .running ∧ Ended s₂ below o ∧ ∃ v L, o = .returned v ∧ Q v s₂.heap L ∧ ReturnedEndW s o s₂ L cells slots
section Wide
variable {p : Program} {l : Launch} {e : Env} {R : Room} {s : State} {vm0 : Vm} {k0 : Nat} {m : MethodId} {args : Array Value} {below : List Frame} {meth : Method} {c : Code} {T : State} {locs : List Loc} {cells slots : Nat} {C S : Nat} {Q : Option Value → Heap → List Loc → Prop}
theorem EndsInW.by {A B : State} (h : ∀ t, Steps p.tables e below B t → Steps p.tables e below A t) (k : EndsInW p e below s C S Q B) : EndsInW p e below s C S Q A := by
  obtain ⟨s₂, o, h1, r⟩ := k
  exact ⟨s₂, o, h _ h1, r⟩
theorem own_wmono {o : Outcome} {t : State} {L : List Loc} {k n k' n' : Nat} (h : ReturnedEndW s o t L k n) (hk : k ≤ k') (hn : n ≤ n') : ReturnedEndW s o t L k' n' := ⟨h.1, h.2.1, h.2.2.1, h.2.2.2.mono hk hn⟩
theorem own_wretN (X : Stand p l e R (s.setVm vm0) m args below meth c T locs cells slots) (hx : p.tables.exec = Jvm.exec) (hlk : meth.locks = false) (hS : s.Since vm0 k0) (hk : k0 ≤ T.heap.size) {pc : Nat} {Ls : Array Slot} {z : Int32} {rest : List Value} {t : FieldType} (hret : meth.sig.returnType = some t) (ht : t = .boolean ∨ t = .byte ∨ t = .char ∨ t = .short) (hd : decode c.code pc = .ok (.ireturn, 1)) (hc : cells ≤ C) (hs : slots ≤ S)
    (hq : Q (some (.int (nar t z))) T.heap locs) : EndsInW p e below s C S Q (T.setTop (mkF m pc Ls (.int z :: rest))) := by
  obtain ⟨fs, hr, hrun, hended, hE⟩ := leaveW X hS hk (v := some (.int (nar t z))) (fun h => by rw [hret] at h; cases h) hlk
  exact ⟨_, _, retN X hx hret ht hd hr, hrun, hended, _, _, rfl, hq, own_wmono hE hc hs⟩
theorem own_wret0 (X : Stand p l e R (s.setVm vm0) m args below meth c T locs cells slots) (hx : p.tables.exec = Jvm.exec) (hlk : meth.locks = false) (hS : s.Since vm0 k0) (hk : k0 ≤ T.heap.size) {pc : Nat} {Ls : Array Slot} (hret : meth.sig.returnType = none) (hd : decode c.code pc = .ok (.return_, 1)) (hc : cells ≤ C) (hs : slots ≤ S)
    (hq : Q none T.heap locs) : EndsInW p e below s C S Q (T.setTop (mkF m pc Ls [])) := by
  obtain ⟨fs, hr, hrun, hended, hE⟩ := leaveW X hS hk (v := none) (fun _ => rfl) hlk
  exact ⟨_, _, X.returnOut hx hret hd hr, hrun, hended, _, _, rfl, hq, own_wmono hE hc hs⟩
/-- a callee that may intern, told what the tables book for the constants of EL -/
theorem own_backS {Z : State} {a0 : Array Value} {EL : List (String × Nat)} {h : Heap} {y : MethodName} {bytes : ByteArray} {maxL : Nat} {ret : Option FieldType} {rm : Room} {len W : Nat} {as' : Array Value} {Q : Option Value → Heap → List Loc → Prop}
    (hM : MetFree l y (head1 [Cond.code y bytes maxL ret] rm) (fun a U => a = as' ∧ Z.Warmed39 U.vm ∧ U.heap = h ∧ CHv Z EL U.vm Z.heap) (fun _ _ _ _ _ => True) (fun _ U o U' => ∃ v L, o = .returned v ∧ Q v U'.heap L ∧ ReturnedEndW U o U' L rm.cells rm.slots))
    (hZ : Z.Warmed39 (s.setVm vm0).vm) (wc : (Cond.code y bytes maxL ret).before a0 Z = true) (wz : (Cond.initialized y.cls).before a0 Z = true) (hf : rm.frames + 1 ≤ R.frames) (hl : W + (maxL + 11) + rm.locals ≤ R.locals) (hEL : EW Z a0 EL) (H : CHv Z EL vm0 Z.heap) :
    BackS l R p e below (s.setVm vm0) args y len W (fun A a => a = as' ∧ A.U.heap = h ∧ A.cells + rm.cells ≤ R.cells ∧ A.slots + rm.slots ≤ R.slots)
      (fun A _ v B => ∃ L, Q v B.U.heap L ∧ B.locs = A.locs ++ L ∧ B.cells = A.cells + rm.cells ∧ B.slots = A.slots + rm.slots) :=
  BackS.of_freeW (bytes := bytes) (maxL := maxL) (ret := ret) (E := fun _ _ o t L k n => k = rm.cells ∧ n = rm.slots ∧ ∃ v, o = .returned v ∧ Q v t.heap L) hM hf hl
    (fun m meth c A a Y hp => have hU : Z.Warmed39 A.U.vm := wtrans hZ Y.warmed
      ⟨by show (Cond.and _ .tt).before a A.U = true; rw [Cond.before_and, mv hU wc]; rfl, mv hU wc, mv hU wz, hp.2.2.1, hp.2.2.2⟩)
    (fun m meth c A a g mk Y hp => ⟨hp.1, wtrans hZ Y.warmed, hp.2.1, (CHv.at Y hZ hEL H).1⟩) (fun _ _ _ _ _ _ _ _ _ => trivial)
    (fun _ _ _ _ ⟨v, L, h1, h2, h3⟩ => ⟨L, _, _, h3, rfl, rfl, v, h1, h2⟩)
    (fun m meth c A a g mk v t L k n Y hp _ _ ⟨e1, e2, v', e3, e4⟩ => by cases e3; subst e1 e2; exact ⟨L, e4, rfl, rfl, rfl⟩)
end Wide

theorem own_EW {Z : State} {a0 : Array Value} (hw : ∀ d ∈ tables_1, d.before a0 Z = true) : EW Z a0 own_EL :=
  EW.cons (own := "java/lang/String") (index := 7) (text := "") (hw _ (List.mem_of_getElem? (i := 21) rfl)) (fun _ q => (nomatch q)) EW.nil
theorem own_wS {Z : State} {a0 : Array Value} (hw : ∀ d ∈ tables_1, d.before a0 Z = true) : ∀ d ∈ Bundle.stringAtoms, d.before a0 Z = true :=
  fun d hd => hw d ((by decide +kernel : ∀ d ∈ Bundle.stringAtoms, d ∈ tables_1) d hd)

def own_L (n : Int32) : Prop := 0 ≤ n.toInt ∧ n.toInt ≤ 1000
def own_T (o v n : Int32) : Prop := o = 0 ∧ 0 ≤ v.toInt ∧ v.toInt ≤ 1000 ∧ n = v
def own_E (v1 v3 v4 n m : Int32) : Prop := v1 = 0 ∧ v3 = 0 ∧ 0 ≤ v4.toInt ∧ v4.toInt ≤ 1000 ∧ n = v4 ∧ m = v4
def own_I (v1 v3 v4 v5 n m : Int32) : Prop := v1 = v5 ∧ v3 = v5 ∧ 0 ≤ v5.toInt ∧ v5.toInt ≤ v4.toInt ∧ v4.toInt ≤ 1000 ∧ n = v4 ∧ m = v4
def own_J (v1 v2 v4 n c : Int32) : Prop := v1 = v4 ∧ 0 ≤ v4.toInt ∧ v4.toInt ≤ v2.toInt ∧ v2.toInt ≤ 1000 ∧ n = v2 ∧ c.toInt = 2 * v2.toInt
def own_gc (i n : Int32) : Prop := ¬ ((i <<< ((1 : Int32) &&& 31)) < 0) ∧ (i <<< ((1 : Int32) &&& 31)) < n ∧ ¬ (((i <<< ((1 : Int32) &&& 31)) + (1 : Int32)) < 0) ∧ ((i <<< ((1 : Int32) &&& 31)) + (1 : Int32)) < n
def own_mk (a n : Int32) : Prop := (a = 0 ∧ n = 0) ∨ (a = 1 ∧ n = 1) ∨ (a = 2 ∧ n = 63) ∨ (a = 3 ∧ n = 64) ∨ (a = 4 ∧ n = 65) ∨ (a = 5 ∧ n = 66) ∨ (a = 6 ∧ n = 128) ∨ (a = 7 ∧ n = 1000)
theorem own_lt {a b : Int32} (h : a.toInt < b.toInt) : a < b := Int32.lt_iff_toInt_lt.mpr h
theorem own_nlt {a b : Int32} (h : b.toInt ≤ a.toInt) : ¬ a < b := fun q => by have := Int32.lt_iff_toInt_lt.mp q; omega
theorem own_ltI {a b : Int32} (h : a < b) : a.toInt < b.toInt := Int32.lt_iff_toInt_lt.mp h
theorem own_nltI {a b : Int32} (h : ¬ a < b) : ¬ a.toInt < b.toInt := fun q => h (Int32.lt_iff_toInt_lt.mpr q)
theorem own_c0 : (0 : Int32).toInt = 0 := rfl
theorem own_c1 : (1 : Int32).toInt = 1 := rfl
theorem own_c2 : (2 : Int32).toInt = 2 := rfl
theorem own_add {a b : Int32} {x y : Int} (ha : a.toInt = x) (hb' : b.toInt = y) (h : -2147483648 ≤ x + y ∧ x + y < 2147483648) : (a + b).toInt = x + y := by
  have h1 := c_iadd a b; have r1 := rng32 (a + b); omega
theorem own_sub {a b : Int32} {x y : Int} (ha : a.toInt = x) (hb' : b.toInt = y) (h : -2147483648 ≤ x - y ∧ x - y < 2147483648) : (a - b).toInt = x - y := by
  have h1 := c_isub a b; have r1 := rng32 (a - b); omega
theorem own_nat (a : Int32) : (a.toNatClampNeg : Int) = if a.toInt < 0 then 0 else a.toInt := by
  have : a.toNatClampNeg = a.toInt.toNat := rfl
  rw [this]; split <;> omega
theorem own_natp {a : Int32} (h : 0 ≤ a.toInt) : (a.toNatClampNeg : Int) = a.toInt := by
  rw [own_nat, if_neg (by omega)]
theorem own_shl {x : Int32} (h : -1000 ≤ x.toInt ∧ x.toInt ≤ 1000) : (x <<< ((1 : Int32) &&& 31)).toInt = 2 * x.toInt := by
  have h1 := c_ishl x 1 1 (by decide); have r1 := rng32 (x <<< ((1 : Int32) &&& 31)); omega
section
variable {v1 v2 v3 v4 v5 v6 n m c : Int32}
theorem own_mkL (h : own_mk v4 n) : own_L n := by
  unfold own_L
  rcases h with ⟨rfl, rfl⟩ | ⟨rfl, rfl⟩ | ⟨rfl, rfl⟩ | ⟨rfl, rfl⟩ | ⟨rfl, rfl⟩ | ⟨rfl, rfl⟩ | ⟨rfl, rfl⟩ | ⟨rfl, rfl⟩ <;> decide
theorem own_LT (h : own_L n) : own_T 0 n n := ⟨rfl, h.1, h.2, rfl⟩
theorem own_n0 (h : ¬ n < (1 : Int32)) : ¬ ((0 : Int32) < 0) ∧ (0 : Int32) < n := by
  have h := own_nltI h; rw [own_c1] at h
  exact ⟨by decide, own_lt (by rw [own_c0]; omega)⟩
theorem own_n2 (hN : own_mk v4 n) (h6 : v6 = n) (h : ¬ v6 < (2 : Int32)) : ¬ ((v6 - (2 : Int32)) < 0) ∧ (v6 - (2 : Int32)) < n := by
  subst h6
  have l := own_mkL hN; have h := own_nltI h; rw [own_c2] at h; unfold own_L at l
  have e := own_sub (a := v6) rfl own_c2 (by omega)
  exact ⟨own_nlt (by rw [own_c0]; omega), own_lt (by omega)⟩
theorem own_n3 (hN : own_mk v4 n) (h6 : v6 = n) (h : ¬ v6 < (2 : Int32)) : ¬ ((v6 - (1 : Int32)) < 0) ∧ (v6 - (1 : Int32)) < n := by
  subst h6
  have l := own_mkL hN; have h := own_nltI h; rw [own_c2] at h; unfold own_L at l
  have e := own_sub (a := v6) rfl own_c1 (by omega)
  exact ⟨own_nlt (by rw [own_c0]; omega), own_lt (by omega)⟩
theorem own_T1 (h : own_T v1 v2 n) : ¬ v2 < 0 := own_nlt (by rw [own_c0]; exact h.2.1)
theorem own_T2 (h : own_T v1 v2 n) : v2.toNatClampNeg ≤ 1000 := by
  have := own_natp h.2.1; have := h.2.2.1; omega
theorem own_TE (h : own_T v1 v2 n) : own_E v1 0 v2 n v2 := ⟨h.1, rfl, h.2.1, h.2.2.1, h.2.2.2, rfl⟩
theorem own_Tn (h : own_T v1 v2 n) : own_L v2 := ⟨h.2.1, h.2.2.1⟩
theorem own_I0 (h : own_E v1 v3 v4 n m) : own_I v1 v3 v4 0 n m := ⟨h.1, h.2.1, Int.le_refl _, h.2.2.1, h.2.2.2.1, h.2.2.2.2.1, h.2.2.2.2.2⟩
theorem own_I1 (h : own_I v1 v3 v4 v5 n m) (q : v5 < v4) : own_I (v1 + (1 : Int32)) (v3 + (1 : Int32)) v4 (v5 + (1 : Int32)) n m := by
  obtain ⟨rfl, rfl, h3, h4, h5, h6, h7⟩ := h
  have q := own_ltI q
  have e := own_add (a := v3) rfl own_c1 (by omega)
  exact ⟨rfl, rfl, by omega, by omega, h5, h6, h7⟩
theorem own_in1 (h : own_I v1 v3 v4 v5 n m) (q : v5 < v4) : ¬ (v1 < 0) ∧ v1 < n := by
  obtain ⟨rfl, rfl, h3, h4, h5, rfl, h7⟩ := h
  exact ⟨own_nlt (by rw [own_c0]; omega), q⟩
theorem own_in2 (h : own_I v1 v3 v4 v5 n m) (q : v5 < v4) : ¬ (v3 < 0) ∧ v3 < m := by
  obtain ⟨rfl, rfl, h3, h4, h5, h6, rfl⟩ := h
  exact ⟨own_nlt (by rw [own_c0]; omega), q⟩
theorem own_mu1 {k : Nat} (h : own_I v1 v3 v4 v5 n m) (q : v5 < v4) (u : (v4.toInt - v5.toInt).toNat < k + 1) : (v4.toInt - (v5 + (1 : Int32)).toInt).toNat < k := by
  obtain ⟨rfl, rfl, h3, h4, h5, h6, h7⟩ := h
  have q := own_ltI q
  have e := own_add (a := v3) rfl own_c1 (by omega)
  omega
theorem own_mu2 (h : own_I v1 v3 v4 v5 n m) (q : v5 < v4) : (v4.toInt - (v5 + (1 : Int32)).toInt).toNat < 1001 := by
  obtain ⟨rfl, rfl, h3, h4, h5, h6, h7⟩ := h
  have q := own_ltI q
  have e := own_add (a := v3) rfl own_c1 (by omega)
  omega
theorem own_J1 (h : own_J v1 v2 v4 n c) (q : v4 < v2) : own_J (v1 + (1 : Int32)) v2 (v4 + (1 : Int32)) n c := by
  obtain ⟨rfl, h3, h4, h5, h6, h7⟩ := h
  have q := own_ltI q
  have e := own_add (a := v1) rfl own_c1 (by omega)
  exact ⟨rfl, by omega, by omega, h5, h6, h7⟩
theorem own_j1 (h : own_J v1 v2 v4 n c) (q : v4 < v2) : ¬ (v1 < 0) ∧ v1 < n := by
  obtain ⟨rfl, h3, h4, h5, rfl, h7⟩ := h
  exact ⟨own_nlt (by rw [own_c0]; omega), q⟩
theorem own_gcI {i : Int32} (h0 : 0 ≤ i.toInt) (h1 : i.toInt ≤ 1000) (h2 : 2 * i.toInt + 1 < n.toInt) : own_gc i n := by
  have e := own_shl (x := i) (by omega)
  have e2 := own_add e own_c1 (by omega)
  exact ⟨own_nlt (by rw [own_c0]; omega), own_lt (by omega), own_nlt (by rw [own_c0]; omega), own_lt (by omega)⟩
theorem own_j2 (h : own_J v1 v2 v4 n c) (q : v4 < v2) : own_gc v4 c := by
  obtain ⟨rfl, h3, h4, h5, h6, h7⟩ := h
  have q := own_ltI q
  exact own_gcI h3 (by omega) (by omega)
theorem own_mu3 (h : own_T v1 v2 n) : (v2.toInt - (0 : Int32).toInt).toNat < 1001 := by
  have h2 := h.2.1; have h3 := h.2.2.1; rw [own_c0]; omega
theorem own_mu4 {k : Nat} (h : own_J v1 v2 v4 n c) (q : v4 < v2) (u : (v2.toInt - v4.toInt).toNat < k + 1) : (v2.toInt - (v4 + (1 : Int32)).toInt).toNat < k := by
  obtain ⟨rfl, h3, h4, h5, h6, h7⟩ := h
  have q := own_ltI q
  have e := own_add (a := v1) rfl own_c1 (by omega)
  omega
theorem own_l0 (h : own_L n) : ¬ n < 0 := own_nlt (by rw [own_c0]; exact h.1)
theorem own_l1 (h : own_L n) : n < (1073741823 : Int32) := own_lt (by have : (1073741823 : Int32).toInt = 1073741823 := rfl; have := h.2; omega)
end
theorem own_fit {Z : State} {h : Heap} {a : Addr} {k : ClassId} {n : Int32} {xs : List Int32} (V : Arv Z h a k .char n (xs.map Value.int) (.int 0)) : ∀ i, i < n.toNatClampNeg → 0 ≤ (xs.getD i 0).toInt ∧ (xs.getD i 0).toInt ≤ 65535 := by
  intro i hi
  obtain ⟨cl, -, -, sz, -, -, G⟩ := V
  have g := G i (by rw [sz]; exact hi)
  rw [own_mapD] at g
  simp only [fits, Bool.and_eq_true, decide_eq_true_eq, Int32.le_iff_toInt_le] at g
  have z : (65535 : Int32).toInt = 65535 := rfl
  have z0 : (0 : Int32).toInt = 0 := rfl
  omega
theorem d1_0 : decode method_3_code 0 = .ok (.iload_n 0, 1) := by decide +kernel
theorem d1_1 : decode method_3_code 1 = .ok (.ifCond .ne 7, 3) := by decide +kernel
theorem d1_4 : decode method_3_code 4 = .ok (.iconst 0, 1) := by decide +kernel
theorem d1_5 : decode method_3_code 5 = .ok (.newarray .char, 2) := by decide +kernel
theorem d1_7 : decode method_3_code 7 = .ok (.areturn, 1) := by decide +kernel
theorem d1_8 : decode method_3_code 8 = .ok (.iload_n 0, 1) := by decide +kernel
theorem d1_9 : decode method_3_code 9 = .ok (.iconst 1, 1) := by decide +kernel
theorem d1_10 : decode method_3_code 10 = .ok (.if_icmp .ne 7, 3) := by decide +kernel
theorem d1_13 : decode method_3_code 13 = .ok (.iconst 1, 1) := by decide +kernel
theorem d1_14 : decode method_3_code 14 = .ok (.newarray .char, 2) := by decide +kernel
theorem d1_16 : decode method_3_code 16 = .ok (.areturn, 1) := by decide +kernel
theorem d1_17 : decode method_3_code 17 = .ok (.iload_n 0, 1) := by decide +kernel
theorem d1_18 : decode method_3_code 18 = .ok (.iconst 2, 1) := by decide +kernel
theorem d1_19 : decode method_3_code 19 = .ok (.if_icmp .ne 8, 3) := by decide +kernel
theorem d1_22 : decode method_3_code 22 = .ok (.bipush 63, 2) := by decide +kernel
theorem d1_24 : decode method_3_code 24 = .ok (.newarray .char, 2) := by decide +kernel
theorem d1_26 : decode method_3_code 26 = .ok (.areturn, 1) := by decide +kernel
theorem d1_27 : decode method_3_code 27 = .ok (.iload_n 0, 1) := by decide +kernel
theorem d1_28 : decode method_3_code 28 = .ok (.iconst 3, 1) := by decide +kernel
theorem d1_29 : decode method_3_code 29 = .ok (.if_icmp .ne 8, 3) := by decide +kernel
theorem d1_32 : decode method_3_code 32 = .ok (.bipush 64, 2) := by decide +kernel
theorem d1_34 : decode method_3_code 34 = .ok (.newarray .char, 2) := by decide +kernel
theorem d1_36 : decode method_3_code 36 = .ok (.areturn, 1) := by decide +kernel
theorem d1_37 : decode method_3_code 37 = .ok (.iload_n 0, 1) := by decide +kernel
theorem d1_38 : decode method_3_code 38 = .ok (.iconst 4, 1) := by decide +kernel
theorem d1_39 : decode method_3_code 39 = .ok (.if_icmp .ne 8, 3) := by decide +kernel
theorem d1_42 : decode method_3_code 42 = .ok (.bipush 65, 2) := by decide +kernel
theorem d1_44 : decode method_3_code 44 = .ok (.newarray .char, 2) := by decide +kernel
theorem d1_46 : decode method_3_code 46 = .ok (.areturn, 1) := by decide +kernel
theorem d1_47 : decode method_3_code 47 = .ok (.iload_n 0, 1) := by decide +kernel
theorem d1_48 : decode method_3_code 48 = .ok (.iconst 5, 1) := by decide +kernel
theorem d1_49 : decode method_3_code 49 = .ok (.if_icmp .ne 8, 3) := by decide +kernel
theorem d1_52 : decode method_3_code 52 = .ok (.bipush 66, 2) := by decide +kernel
theorem d1_54 : decode method_3_code 54 = .ok (.newarray .char, 2) := by decide +kernel
theorem d1_56 : decode method_3_code 56 = .ok (.areturn, 1) := by decide +kernel
theorem d1_57 : decode method_3_code 57 = .ok (.iload_n 0, 1) := by decide +kernel
theorem d1_58 : decode method_3_code 58 = .ok (.bipush 6, 2) := by decide +kernel
theorem d1_60 : decode method_3_code 60 = .ok (.if_icmp .ne 9, 3) := by decide +kernel
theorem d1_63 : decode method_3_code 63 = .ok (.sipush 128, 3) := by decide +kernel
theorem d1_66 : decode method_3_code 66 = .ok (.newarray .char, 2) := by decide +kernel
theorem d1_68 : decode method_3_code 68 = .ok (.areturn, 1) := by decide +kernel
theorem d1_69 : decode method_3_code 69 = .ok (.sipush 1000, 3) := by decide +kernel
theorem d1_72 : decode method_3_code 72 = .ok (.newarray .char, 2) := by decide +kernel
theorem d1_74 : decode method_3_code 74 = .ok (.areturn, 1) := by decide +kernel
theorem pn_1 : plainName "com/example/vestwright/vestwright/files/WrittenNumberIsTooLongPinLaw" = true := by first | (simp [plainName, overriddenIn]; done) | decide +kernel
def R1 : Room := { frames := 0, cells := 1, slots := 1000, locals := 0 }
def Q1 (Z : State)  (h0 : Heap) (n0 : Nat) (r : Int32 × List Int32) (v : Option Value) (h : Heap) (L : List Loc) : Prop := ∃ (b : Addr) (kb : ClassId), v = some (.ref b) ∧ Fr n0 L ∧ n0 ≤ b ∧ h0.size ≤ b ∧ Keep h0 h [] ∧ Arv Z h b kb .char r.1 (r.2.map Value.int) (.int 0) ∧ r.2.length = r.1.toNatClampNeg
def f1_0 (v0 : Int32) : Int32 × List Int32 := (if v0 = (0 : Int32) then ((0 : Int32), ([] : List Int32)) else (if v0 = (1 : Int32) then ((1 : Int32), ([0] : List Int32)) else (if v0 = (2 : Int32) then ((63 : Int32), (List.replicate (63 : Int32).toNatClampNeg (0 : Int32))) else (if v0 = (3 : Int32) then ((64 : Int32), (List.replicate (64 : Int32).toNatClampNeg (0 : Int32))) else (if v0 = (4 : Int32) then ((65 : Int32), (List.replicate (65 : Int32).toNatClampNeg (0 : Int32))) else (if v0 = (5 : Int32) then ((66 : Int32), (List.replicate (66 : Int32).toNatClampNeg (0 : Int32))) else (if v0 = (6 : Int32) then ((128 : Int32), (List.replicate (128 : Int32).toNatClampNeg (0 : Int32))) else ((1000 : Int32), (List.replicate (1000 : Int32).toNatClampNeg (0 : Int32))))))))))
set_option maxRecDepth 65536 in
set_option maxHeartbeats 40000000 in
theorem b1_0 {p : Program} {l : Launch} {e : Env} {s : State} {m : MethodId} {args : Array Value} {below : List Frame} {meth : Method} {c : Code} {Z : State} {a0 : Array Value} (B : Ctx p Z s a0 m meth c "com/example/vestwright/vestwright/files/WrittenNumberIsTooLongPinLaw" "make" method_3_code 1 (some (.array .char))) {T0 : State} {locs : List Loc} {h : Heap} (h0 : Heap) (n0 : Nat) (v0 : Int32) (X0 : Stand p l e R1 s m args below meth c T0 locs 0 0) (e0 : T0.heap = h) (N0 : Fr n0 locs) (Z0 : n0 ≤ h.size) (K : Keep h0 h []) (r : Int32 × List Int32) (hr : f1_0 v0 = r) :
    EndsIn p e below s R1.cells R1.slots (Q1 Z  h0 n0 r) (T0.setTop (mkF m 0 #[.val (.int v0)] [])) := by
  obtain ⟨hx, hZ, hw, hby, hml, hret, hown, hnm, hlk⟩ := B
  unfold f1_0 at hr
  refine EndsIn.by (B := T0.setTop (mkF m 1 #[.val (.int v0)] [(.int v0)])) (fun t k => ?_) ?_
  · show Steps p.tables e below (T0.setTop (mkF m 0 #[.val (.int v0)] [])) _
    refine XS.iloadN X0.here hx rfl (hb hby d1_0) rfl  ?_
    exact k
  by_cases hc1 : v0 = (0 : Int32)
  · rw [if_pos hc1] at hr
    refine EndsIn.by (B := T0.setTop (mkF m 4 #[.val (.int v0)] [])) (fun t k => ?_) ?_
    · show Steps p.tables e below (T0.setTop (mkF m 1 #[.val (.int v0)] [(.int v0)])) _
      exact XS.ifNo X0.here hx rfl (hb hby d1_1) rfl ((if0 _ _).trans (teq hc1).2) k
    refine EndsIn.by (B := T0.setTop (mkF m 5 #[.val (.int v0)] [(.int (0 : Int32))])) (fun t k => ?_) ?_
    · show Steps p.tables e below (T0.setTop (mkF m 4 #[.val (.int v0)] [])) _
      refine XS.iconst X0.here hx rfl (hb hby d1_4) ?_
      exact k
    obtain ⟨T1, h1, k1, X1, e1, X1e, A1, st1⟩ := newP X0 hx hZ (hw _ (List.mem_of_getElem? (i := 4) rfl)) e0 (g := (mkF m 5 #[.val (.int v0)] [(.int (0 : Int32))])) rfl (hb hby d1_5) rfl (by decide) (cap := 0) (by decide) (by decide) (by decide) (by decide)
    obtain ⟨b5, g1⟩ : ∃ z, z = h.size := ⟨_, rfl⟩
    rw [← g1] at A1 st1
    have g_b5 : n0 ≤ b5 := Nat.le_trans Z0 (Nat.le_of_eq g1.symm)
    have sz_b5 : h0.size ≤ b5 := Nat.le_trans K.1 (Nat.le_of_eq g1.symm)
    have Z1 : n0 ≤ h1.size := Nat.le_trans Z0 X1e.1
    have K1 := K.ext X1e
    obtain ⟨V_b5_1, ln_b5_1⟩ : Arv Z h1 b5 k1 .char (0 : Int32) (([] : List Int32).map Value.int) (.int 0) ∧ ([] : List Int32).length = (0 : Int32).toNatClampNeg := own_newI A1 rfl (by decide) (xs := ([] : List Int32)) (by decide)
    refine EndsIn.by (B := T1.setTop (mkF m 7 #[.val (.int v0)] [(.ref b5)])) (fun t k => st1 t k) ?_
    subst hr
    exact own_retR X1 hx hlk hret rfl (hb hby d1_7) (by decide) (by decide) ⟨b5, k1, rfl, N0, g_b5, sz_b5, (by rw [e1]; exact K1), (by rw [e1]; exact V_b5_1), ln_b5_1⟩
  · rw [if_neg hc1] at hr
    refine EndsIn.by (B := T0.setTop (mkF m 8 #[.val (.int v0)] [])) (fun t k => ?_) ?_
    · show Steps p.tables e below (T0.setTop (mkF m 1 #[.val (.int v0)] [(.int v0)])) _
      exact XS.ifYes X0.here hx rfl (pc0 := 1) (pc' := 8) rfl (hb hby d1_1) rfl ((if0 _ _).trans (feq hc1).2) (by decide) (by decide) k
    refine EndsIn.by (B := T0.setTop (mkF m 10 #[.val (.int v0)] [(.int (1 : Int32)), (.int v0)])) (fun t k => ?_) ?_
    · show Steps p.tables e below (T0.setTop (mkF m 8 #[.val (.int v0)] [])) _
      refine XS.iloadN X0.here hx rfl (hb hby d1_8) rfl  ?_
      show Steps p.tables e below (T0.setTop (mkF m 9 #[.val (.int v0)] [(.int v0)])) _
      refine XS.iconst X0.here hx rfl (hb hby d1_9) ?_
      exact k
    by_cases hc10 : v0 = (1 : Int32)
    · rw [if_pos hc10] at hr
      refine EndsIn.by (B := T0.setTop (mkF m 13 #[.val (.int v0)] [])) (fun t k => ?_) ?_
      · show Steps p.tables e below (T0.setTop (mkF m 10 #[.val (.int v0)] [(.int (1 : Int32)), (.int v0)])) _
        exact XS.icmpNo X0.here hx rfl (hb hby d1_10) rfl (teq hc10).2 k
      refine EndsIn.by (B := T0.setTop (mkF m 14 #[.val (.int v0)] [(.int (1 : Int32))])) (fun t k => ?_) ?_
      · show Steps p.tables e below (T0.setTop (mkF m 13 #[.val (.int v0)] [])) _
        refine XS.iconst X0.here hx rfl (hb hby d1_13) ?_
        exact k
      obtain ⟨T2, h2, k2, X2, e2, X2e, A2, st2⟩ := newP X0 hx hZ (hw _ (List.mem_of_getElem? (i := 4) rfl)) e0 (g := (mkF m 14 #[.val (.int v0)] [(.int (1 : Int32))])) rfl (hb hby d1_14) rfl (by decide) (cap := 1) (by decide) (by decide) (by decide) (by decide)
      obtain ⟨b14, g2⟩ : ∃ z, z = h.size := ⟨_, rfl⟩
      rw [← g2] at A2 st2
      have g_b14 : n0 ≤ b14 := Nat.le_trans Z0 (Nat.le_of_eq g2.symm)
      have sz_b14 : h0.size ≤ b14 := Nat.le_trans K.1 (Nat.le_of_eq g2.symm)
      have Z2 : n0 ≤ h2.size := Nat.le_trans Z0 X2e.1
      have K2 := K.ext X2e
      obtain ⟨V_b14_2, ln_b14_2⟩ : Arv Z h2 b14 k2 .char (1 : Int32) (([0] : List Int32).map Value.int) (.int 0) ∧ ([0] : List Int32).length = (1 : Int32).toNatClampNeg := own_newI A2 rfl (by decide) (xs := ([0] : List Int32)) (by decide)
      refine EndsIn.by (B := T2.setTop (mkF m 16 #[.val (.int v0)] [(.ref b14)])) (fun t k => st2 t k) ?_
      subst hr
      exact own_retR X2 hx hlk hret rfl (hb hby d1_16) (by decide) (by decide) ⟨b14, k2, rfl, N0, g_b14, sz_b14, (by rw [e2]; exact K2), (by rw [e2]; exact V_b14_2), ln_b14_2⟩
    · rw [if_neg hc10] at hr
      refine EndsIn.by (B := T0.setTop (mkF m 17 #[.val (.int v0)] [])) (fun t k => ?_) ?_
      · show Steps p.tables e below (T0.setTop (mkF m 10 #[.val (.int v0)] [(.int (1 : Int32)), (.int v0)])) _
        exact XS.icmpYes X0.here hx rfl (pc0 := 10) (pc' := 17) rfl (hb hby d1_10) rfl (feq hc10).2 (by decide) (by decide) k
      refine EndsIn.by (B := T0.setTop (mkF m 19 #[.val (.int v0)] [(.int (2 : Int32)), (.int v0)])) (fun t k => ?_) ?_
      · show Steps p.tables e below (T0.setTop (mkF m 17 #[.val (.int v0)] [])) _
        refine XS.iloadN X0.here hx rfl (hb hby d1_17) rfl  ?_
        show Steps p.tables e below (T0.setTop (mkF m 18 #[.val (.int v0)] [(.int v0)])) _
        refine XS.iconst X0.here hx rfl (hb hby d1_18) ?_
        exact k
      by_cases hc19 : v0 = (2 : Int32)
      · rw [if_pos hc19] at hr
        refine EndsIn.by (B := T0.setTop (mkF m 22 #[.val (.int v0)] [])) (fun t k => ?_) ?_
        · show Steps p.tables e below (T0.setTop (mkF m 19 #[.val (.int v0)] [(.int (2 : Int32)), (.int v0)])) _
          exact XS.icmpNo X0.here hx rfl (hb hby d1_19) rfl (teq hc19).2 k
        refine EndsIn.by (B := T0.setTop (mkF m 24 #[.val (.int v0)] [(.int (63 : Int32))])) (fun t k => ?_) ?_
        · show Steps p.tables e below (T0.setTop (mkF m 22 #[.val (.int v0)] [])) _
          refine XS.bipush X0.here hx rfl (hb hby d1_22) ?_
          exact k
        obtain ⟨T3, h3, k3, X3, e3, X3e, A3, st3⟩ := newP X0 hx hZ (hw _ (List.mem_of_getElem? (i := 4) rfl)) e0 (g := (mkF m 24 #[.val (.int v0)] [(.int (63 : Int32))])) rfl (hb hby d1_24) rfl (by decide) (cap := 63) (by decide) (by decide) (by decide) (by decide)
        obtain ⟨b24, g3⟩ : ∃ z, z = h.size := ⟨_, rfl⟩
        rw [← g3] at A3 st3
        have g_b24 : n0 ≤ b24 := Nat.le_trans Z0 (Nat.le_of_eq g3.symm)
        have sz_b24 : h0.size ≤ b24 := Nat.le_trans K.1 (Nat.le_of_eq g3.symm)
        have Z3 : n0 ≤ h3.size := Nat.le_trans Z0 X3e.1
        have K3 := K.ext X3e
        obtain ⟨V_b24_3, ln_b24_3⟩ : Arv Z h3 b24 k3 .char (63 : Int32) ((List.replicate (63 : Int32).toNatClampNeg (0 : Int32)).map Value.int) (.int 0) ∧ (List.replicate (63 : Int32).toNatClampNeg (0 : Int32)).length = (63 : Int32).toNatClampNeg := own_newI A3 rfl (by decide) (xs := (List.replicate (63 : Int32).toNatClampNeg (0 : Int32))) rfl
        refine EndsIn.by (B := T3.setTop (mkF m 26 #[.val (.int v0)] [(.ref b24)])) (fun t k => st3 t k) ?_
        subst hr
        exact own_retR X3 hx hlk hret rfl (hb hby d1_26) (by decide) (by decide) ⟨b24, k3, rfl, N0, g_b24, sz_b24, (by rw [e3]; exact K3), (by rw [e3]; exact V_b24_3), ln_b24_3⟩
      · rw [if_neg hc19] at hr
        refine EndsIn.by (B := T0.setTop (mkF m 27 #[.val (.int v0)] [])) (fun t k => ?_) ?_
        · show Steps p.tables e below (T0.setTop (mkF m 19 #[.val (.int v0)] [(.int (2 : Int32)), (.int v0)])) _
          exact XS.icmpYes X0.here hx rfl (pc0 := 19) (pc' := 27) rfl (hb hby d1_19) rfl (feq hc19).2 (by decide) (by decide) k
        refine EndsIn.by (B := T0.setTop (mkF m 29 #[.val (.int v0)] [(.int (3 : Int32)), (.int v0)])) (fun t k => ?_) ?_
        · show Steps p.tables e below (T0.setTop (mkF m 27 #[.val (.int v0)] [])) _
          refine XS.iloadN X0.here hx rfl (hb hby d1_27) rfl  ?_
          show Steps p.tables e below (T0.setTop (mkF m 28 #[.val (.int v0)] [(.int v0)])) _
          refine XS.iconst X0.here hx rfl (hb hby d1_28) ?_
          exact k
        by_cases hc29 : v0 = (3 : Int32)
        · rw [if_pos hc29] at hr
          refine EndsIn.by (B := T0.setTop (mkF m 32 #[.val (.int v0)] [])) (fun t k => ?_) ?_
          · show Steps p.tables e below (T0.setTop (mkF m 29 #[.val (.int v0)] [(.int (3 : Int32)), (.int v0)])) _
            exact XS.icmpNo X0.here hx rfl (hb hby d1_29) rfl (teq hc29).2 k
          refine EndsIn.by (B := T0.setTop (mkF m 34 #[.val (.int v0)] [(.int (64 : Int32))])) (fun t k => ?_) ?_
          · show Steps p.tables e below (T0.setTop (mkF m 32 #[.val (.int v0)] [])) _
            refine XS.bipush X0.here hx rfl (hb hby d1_32) ?_
            exact k
          obtain ⟨T4, h4, k4, X4, e4, X4e, A4, st4⟩ := newP X0 hx hZ (hw _ (List.mem_of_getElem? (i := 4) rfl)) e0 (g := (mkF m 34 #[.val (.int v0)] [(.int (64 : Int32))])) rfl (hb hby d1_34) rfl (by decide) (cap := 64) (by decide) (by decide) (by decide) (by decide)
          obtain ⟨b34, g4⟩ : ∃ z, z = h.size := ⟨_, rfl⟩
          rw [← g4] at A4 st4
          have g_b34 : n0 ≤ b34 := Nat.le_trans Z0 (Nat.le_of_eq g4.symm)
          have sz_b34 : h0.size ≤ b34 := Nat.le_trans K.1 (Nat.le_of_eq g4.symm)
          have Z4 : n0 ≤ h4.size := Nat.le_trans Z0 X4e.1
          have K4 := K.ext X4e
          obtain ⟨V_b34_4, ln_b34_4⟩ : Arv Z h4 b34 k4 .char (64 : Int32) ((List.replicate (64 : Int32).toNatClampNeg (0 : Int32)).map Value.int) (.int 0) ∧ (List.replicate (64 : Int32).toNatClampNeg (0 : Int32)).length = (64 : Int32).toNatClampNeg := own_newI A4 rfl (by decide) (xs := (List.replicate (64 : Int32).toNatClampNeg (0 : Int32))) rfl
          refine EndsIn.by (B := T4.setTop (mkF m 36 #[.val (.int v0)] [(.ref b34)])) (fun t k => st4 t k) ?_
          subst hr
          exact own_retR X4 hx hlk hret rfl (hb hby d1_36) (by decide) (by decide) ⟨b34, k4, rfl, N0, g_b34, sz_b34, (by rw [e4]; exact K4), (by rw [e4]; exact V_b34_4), ln_b34_4⟩
        · rw [if_neg hc29] at hr
          refine EndsIn.by (B := T0.setTop (mkF m 37 #[.val (.int v0)] [])) (fun t k => ?_) ?_
          · show Steps p.tables e below (T0.setTop (mkF m 29 #[.val (.int v0)] [(.int (3 : Int32)), (.int v0)])) _
            exact XS.icmpYes X0.here hx rfl (pc0 := 29) (pc' := 37) rfl (hb hby d1_29) rfl (feq hc29).2 (by decide) (by decide) k
          refine EndsIn.by (B := T0.setTop (mkF m 39 #[.val (.int v0)] [(.int (4 : Int32)), (.int v0)])) (fun t k => ?_) ?_
          · show Steps p.tables e below (T0.setTop (mkF m 37 #[.val (.int v0)] [])) _
            refine XS.iloadN X0.here hx rfl (hb hby d1_37) rfl  ?_
            show Steps p.tables e below (T0.setTop (mkF m 38 #[.val (.int v0)] [(.int v0)])) _
            refine XS.iconst X0.here hx rfl (hb hby d1_38) ?_
            exact k
          by_cases hc39 : v0 = (4 : Int32)
          · rw [if_pos hc39] at hr
            refine EndsIn.by (B := T0.setTop (mkF m 42 #[.val (.int v0)] [])) (fun t k => ?_) ?_
            · show Steps p.tables e below (T0.setTop (mkF m 39 #[.val (.int v0)] [(.int (4 : Int32)), (.int v0)])) _
              exact XS.icmpNo X0.here hx rfl (hb hby d1_39) rfl (teq hc39).2 k
            refine EndsIn.by (B := T0.setTop (mkF m 44 #[.val (.int v0)] [(.int (65 : Int32))])) (fun t k => ?_) ?_
            · show Steps p.tables e below (T0.setTop (mkF m 42 #[.val (.int v0)] [])) _
              refine XS.bipush X0.here hx rfl (hb hby d1_42) ?_
              exact k
            obtain ⟨T5, h5, k5, X5, e5, X5e, A5, st5⟩ := newP X0 hx hZ (hw _ (List.mem_of_getElem? (i := 4) rfl)) e0 (g := (mkF m 44 #[.val (.int v0)] [(.int (65 : Int32))])) rfl (hb hby d1_44) rfl (by decide) (cap := 65) (by decide) (by decide) (by decide) (by decide)
            obtain ⟨b44, g5⟩ : ∃ z, z = h.size := ⟨_, rfl⟩
            rw [← g5] at A5 st5
            have g_b44 : n0 ≤ b44 := Nat.le_trans Z0 (Nat.le_of_eq g5.symm)
            have sz_b44 : h0.size ≤ b44 := Nat.le_trans K.1 (Nat.le_of_eq g5.symm)
            have Z5 : n0 ≤ h5.size := Nat.le_trans Z0 X5e.1
            have K5 := K.ext X5e
            obtain ⟨V_b44_5, ln_b44_5⟩ : Arv Z h5 b44 k5 .char (65 : Int32) ((List.replicate (65 : Int32).toNatClampNeg (0 : Int32)).map Value.int) (.int 0) ∧ (List.replicate (65 : Int32).toNatClampNeg (0 : Int32)).length = (65 : Int32).toNatClampNeg := own_newI A5 rfl (by decide) (xs := (List.replicate (65 : Int32).toNatClampNeg (0 : Int32))) rfl
            refine EndsIn.by (B := T5.setTop (mkF m 46 #[.val (.int v0)] [(.ref b44)])) (fun t k => st5 t k) ?_
            subst hr
            exact own_retR X5 hx hlk hret rfl (hb hby d1_46) (by decide) (by decide) ⟨b44, k5, rfl, N0, g_b44, sz_b44, (by rw [e5]; exact K5), (by rw [e5]; exact V_b44_5), ln_b44_5⟩
          · rw [if_neg hc39] at hr
            refine EndsIn.by (B := T0.setTop (mkF m 47 #[.val (.int v0)] [])) (fun t k => ?_) ?_
            · show Steps p.tables e below (T0.setTop (mkF m 39 #[.val (.int v0)] [(.int (4 : Int32)), (.int v0)])) _
              exact XS.icmpYes X0.here hx rfl (pc0 := 39) (pc' := 47) rfl (hb hby d1_39) rfl (feq hc39).2 (by decide) (by decide) k
            refine EndsIn.by (B := T0.setTop (mkF m 49 #[.val (.int v0)] [(.int (5 : Int32)), (.int v0)])) (fun t k => ?_) ?_
            · show Steps p.tables e below (T0.setTop (mkF m 47 #[.val (.int v0)] [])) _
              refine XS.iloadN X0.here hx rfl (hb hby d1_47) rfl  ?_
              show Steps p.tables e below (T0.setTop (mkF m 48 #[.val (.int v0)] [(.int v0)])) _
              refine XS.iconst X0.here hx rfl (hb hby d1_48) ?_
              exact k
            by_cases hc49 : v0 = (5 : Int32)
            · rw [if_pos hc49] at hr
              refine EndsIn.by (B := T0.setTop (mkF m 52 #[.val (.int v0)] [])) (fun t k => ?_) ?_
              · show Steps p.tables e below (T0.setTop (mkF m 49 #[.val (.int v0)] [(.int (5 : Int32)), (.int v0)])) _
                exact XS.icmpNo X0.here hx rfl (hb hby d1_49) rfl (teq hc49).2 k
              refine EndsIn.by (B := T0.setTop (mkF m 54 #[.val (.int v0)] [(.int (66 : Int32))])) (fun t k => ?_) ?_
              · show Steps p.tables e below (T0.setTop (mkF m 52 #[.val (.int v0)] [])) _
                refine XS.bipush X0.here hx rfl (hb hby d1_52) ?_
                exact k
              obtain ⟨T6, h6, k6, X6, e6, X6e, A6, st6⟩ := newP X0 hx hZ (hw _ (List.mem_of_getElem? (i := 4) rfl)) e0 (g := (mkF m 54 #[.val (.int v0)] [(.int (66 : Int32))])) rfl (hb hby d1_54) rfl (by decide) (cap := 66) (by decide) (by decide) (by decide) (by decide)
              obtain ⟨b54, g6⟩ : ∃ z, z = h.size := ⟨_, rfl⟩
              rw [← g6] at A6 st6
              have g_b54 : n0 ≤ b54 := Nat.le_trans Z0 (Nat.le_of_eq g6.symm)
              have sz_b54 : h0.size ≤ b54 := Nat.le_trans K.1 (Nat.le_of_eq g6.symm)
              have Z6 : n0 ≤ h6.size := Nat.le_trans Z0 X6e.1
              have K6 := K.ext X6e
              obtain ⟨V_b54_6, ln_b54_6⟩ : Arv Z h6 b54 k6 .char (66 : Int32) ((List.replicate (66 : Int32).toNatClampNeg (0 : Int32)).map Value.int) (.int 0) ∧ (List.replicate (66 : Int32).toNatClampNeg (0 : Int32)).length = (66 : Int32).toNatClampNeg := own_newI A6 rfl (by decide) (xs := (List.replicate (66 : Int32).toNatClampNeg (0 : Int32))) rfl
              refine EndsIn.by (B := T6.setTop (mkF m 56 #[.val (.int v0)] [(.ref b54)])) (fun t k => st6 t k) ?_
              subst hr
              exact own_retR X6 hx hlk hret rfl (hb hby d1_56) (by decide) (by decide) ⟨b54, k6, rfl, N0, g_b54, sz_b54, (by rw [e6]; exact K6), (by rw [e6]; exact V_b54_6), ln_b54_6⟩
            · rw [if_neg hc49] at hr
              refine EndsIn.by (B := T0.setTop (mkF m 57 #[.val (.int v0)] [])) (fun t k => ?_) ?_
              · show Steps p.tables e below (T0.setTop (mkF m 49 #[.val (.int v0)] [(.int (5 : Int32)), (.int v0)])) _
                exact XS.icmpYes X0.here hx rfl (pc0 := 49) (pc' := 57) rfl (hb hby d1_49) rfl (feq hc49).2 (by decide) (by decide) k
              refine EndsIn.by (B := T0.setTop (mkF m 60 #[.val (.int v0)] [(.int (6 : Int32)), (.int v0)])) (fun t k => ?_) ?_
              · show Steps p.tables e below (T0.setTop (mkF m 57 #[.val (.int v0)] [])) _
                refine XS.iloadN X0.here hx rfl (hb hby d1_57) rfl  ?_
                show Steps p.tables e below (T0.setTop (mkF m 58 #[.val (.int v0)] [(.int v0)])) _
                refine XS.bipush X0.here hx rfl (hb hby d1_58) ?_
                exact k
              by_cases hc60 : v0 = (6 : Int32)
              · rw [if_pos hc60] at hr
                refine EndsIn.by (B := T0.setTop (mkF m 63 #[.val (.int v0)] [])) (fun t k => ?_) ?_
                · show Steps p.tables e below (T0.setTop (mkF m 60 #[.val (.int v0)] [(.int (6 : Int32)), (.int v0)])) _
                  exact XS.icmpNo X0.here hx rfl (hb hby d1_60) rfl (teq hc60).2 k
                refine EndsIn.by (B := T0.setTop (mkF m 66 #[.val (.int v0)] [(.int (128 : Int32))])) (fun t k => ?_) ?_
                · show Steps p.tables e below (T0.setTop (mkF m 63 #[.val (.int v0)] [])) _
                  refine XS.sipush X0.here hx rfl (hb hby d1_63) ?_
                  exact k
                obtain ⟨T7, h7, k7, X7, e7, X7e, A7, st7⟩ := newP X0 hx hZ (hw _ (List.mem_of_getElem? (i := 4) rfl)) e0 (g := (mkF m 66 #[.val (.int v0)] [(.int (128 : Int32))])) rfl (hb hby d1_66) rfl (by decide) (cap := 128) (by decide) (by decide) (by decide) (by decide)
                obtain ⟨b66, g7⟩ : ∃ z, z = h.size := ⟨_, rfl⟩
                rw [← g7] at A7 st7
                have g_b66 : n0 ≤ b66 := Nat.le_trans Z0 (Nat.le_of_eq g7.symm)
                have sz_b66 : h0.size ≤ b66 := Nat.le_trans K.1 (Nat.le_of_eq g7.symm)
                have Z7 : n0 ≤ h7.size := Nat.le_trans Z0 X7e.1
                have K7 := K.ext X7e
                obtain ⟨V_b66_7, ln_b66_7⟩ : Arv Z h7 b66 k7 .char (128 : Int32) ((List.replicate (128 : Int32).toNatClampNeg (0 : Int32)).map Value.int) (.int 0) ∧ (List.replicate (128 : Int32).toNatClampNeg (0 : Int32)).length = (128 : Int32).toNatClampNeg := own_newI A7 rfl (by decide) (xs := (List.replicate (128 : Int32).toNatClampNeg (0 : Int32))) rfl
                refine EndsIn.by (B := T7.setTop (mkF m 68 #[.val (.int v0)] [(.ref b66)])) (fun t k => st7 t k) ?_
                subst hr
                exact own_retR X7 hx hlk hret rfl (hb hby d1_68) (by decide) (by decide) ⟨b66, k7, rfl, N0, g_b66, sz_b66, (by rw [e7]; exact K7), (by rw [e7]; exact V_b66_7), ln_b66_7⟩
              · rw [if_neg hc60] at hr
                refine EndsIn.by (B := T0.setTop (mkF m 69 #[.val (.int v0)] [])) (fun t k => ?_) ?_
                · show Steps p.tables e below (T0.setTop (mkF m 60 #[.val (.int v0)] [(.int (6 : Int32)), (.int v0)])) _
                  exact XS.icmpYes X0.here hx rfl (pc0 := 60) (pc' := 69) rfl (hb hby d1_60) rfl (feq hc60).2 (by decide) (by decide) k
                refine EndsIn.by (B := T0.setTop (mkF m 72 #[.val (.int v0)] [(.int (1000 : Int32))])) (fun t k => ?_) ?_
                · show Steps p.tables e below (T0.setTop (mkF m 69 #[.val (.int v0)] [])) _
                  refine XS.sipush X0.here hx rfl (hb hby d1_69) ?_
                  exact k
                obtain ⟨T8, h8, k8, X8, e8, X8e, A8, st8⟩ := newP X0 hx hZ (hw _ (List.mem_of_getElem? (i := 4) rfl)) e0 (g := (mkF m 72 #[.val (.int v0)] [(.int (1000 : Int32))])) rfl (hb hby d1_72) rfl (by decide) (cap := 1000) (by decide) (by decide) (by decide) (by decide)
                obtain ⟨b72, g8⟩ : ∃ z, z = h.size := ⟨_, rfl⟩
                rw [← g8] at A8 st8
                have g_b72 : n0 ≤ b72 := Nat.le_trans Z0 (Nat.le_of_eq g8.symm)
                have sz_b72 : h0.size ≤ b72 := Nat.le_trans K.1 (Nat.le_of_eq g8.symm)
                have Z8 : n0 ≤ h8.size := Nat.le_trans Z0 X8e.1
                have K8 := K.ext X8e
                obtain ⟨V_b72_8, ln_b72_8⟩ : Arv Z h8 b72 k8 .char (1000 : Int32) ((List.replicate (1000 : Int32).toNatClampNeg (0 : Int32)).map Value.int) (.int 0) ∧ (List.replicate (1000 : Int32).toNatClampNeg (0 : Int32)).length = (1000 : Int32).toNatClampNeg := own_newI A8 rfl (by decide) (xs := (List.replicate (1000 : Int32).toNatClampNeg (0 : Int32))) rfl
                refine EndsIn.by (B := T8.setTop (mkF m 74 #[.val (.int v0)] [(.ref b72)])) (fun t k => st8 t k) ?_
                subst hr
                exact own_retR X8 hx hlk hret rfl (hb hby d1_74) (by decide) (by decide) ⟨b72, k8, rfl, N0, g_b72, sz_b72, (by rw [e8]; exact K8), (by rw [e8]; exact V_b72_8), ln_b72_8⟩
theorem ef_1 (m : MethodId) (v0 : Int32) : entryFrame m #[(.int v0)] 1 = (mkF m 0 #[.val (.int v0)] []) := by first | (simp [entryFrame, mkF, argsToLocals, Value.category]; done) | rfl
set_option maxRecDepth 65536 in
set_option maxHeartbeats 40000000 in
theorem rm1 (l : Launch) (Z : State) (a0 : Array Value) (hw : ∀ d ∈ tables_1, d.before a0 Z = true) (ws : List Jvm.Cond) (v0 : Int32) (h0 : Heap) (n0 : Nat) (Z0 : n0 ≤ h0.size) :
    MetFree l (⟨"com/example/vestwright/vestwright/files/WrittenNumberIsTooLongPinLaw", "make", "(I)[C"⟩ : MethodName) (head1 (Jvm.Cond.code (⟨"com/example/vestwright/vestwright/files/WrittenNumberIsTooLongPinLaw", "make", "(I)[C"⟩ : MethodName) method_3_code 1 (some (.array .char)) :: ws) R1) (fun a U => a = #[(.int v0)] ∧ Z.Warmed39 U.vm ∧ U.heap = h0) (fun _ _ _ _ _ => True) (fun _ U o U' => ∃ v L, o = .returned v ∧ (Q1 Z  h0 n0 (f1_0 v0)) v U'.heap L ∧ FrameEnd U o U' L R1.cells R1.slots) := by
  refine MetFree.of_bodySF (plainFor_of_name pn_1) hisR ?_
  intro p e s m args below meth c s₁ Bd hml0 hP hK
  obtain ⟨rfl, hZ, hh⟩ := hP
  have B : Ctx p Z s a0 m meth c "com/example/vestwright/vestwright/files/WrittenNumberIsTooLongPinLaw" "make" method_3_code 1 (some (.array .char)) := ⟨Bd.exec, hZ, hw, Bd.bytes, hml0, Bd.returns, findClass_of_methodNamed Bd.named, (name_of_methodNamed Bd.named Bd.method).1, Bd.notSynchronized⟩
  have X0 : Stand p l e R1 s m #[(.int v0)] below meth c s₁ [] 0 0 := Stand.of_body Bd
  have e0 : s₁.heap = h0 := by rw [← hh, Bd.state]; rfl
  have K := Keep.refl h0 []
  show EndsIn p e below s R1.cells R1.slots (Q1 Z  h0 n0 (f1_0 v0)) (s₁.setTop (entryFrame m #[(.int v0)] 1))
  refine EndsIn.by (fun t k => castTop (ef_1 m v0) k) ?_
  exact b1_0 B h0 n0 v0 X0 e0 (Fr.nil n0) Z0 K _ rfl
theorem pd_0 : parseMethodDescriptor "(I)[C" = some ⟨[.int], some (.array .char)⟩ := by decide +kernel
theorem d10_0 : decode jdk_52_method_21_code 0 = .ok (.iconst 0, 1) := by decide +kernel
theorem d10_1 : decode jdk_52_method_21_code 1 = .ok (.istore 5, 2) := by decide +kernel
theorem d10_3 : decode jdk_52_method_21_code 3 = .ok (.iload 5, 2) := by decide +kernel
theorem d10_5 : decode jdk_52_method_21_code 5 = .ok (.iload 4, 2) := by decide +kernel
theorem d10_7 : decode jdk_52_method_21_code 7 = .ok (.if_icmp .ge 37, 3) := by decide +kernel
theorem d10_10 : decode jdk_52_method_21_code 10 = .ok (.aload_n 0, 1) := by decide +kernel
theorem d10_11 : decode jdk_52_method_21_code 11 = .ok (.iload_n 1, 1) := by decide +kernel
theorem d10_12 : decode jdk_52_method_21_code 12 = .ok (.caload, 1) := by decide +kernel
theorem d10_13 : decode jdk_52_method_21_code 13 = .ok (.istore 6, 2) := by decide +kernel
theorem d10_15 : decode jdk_52_method_21_code 15 = .ok (.iload 6, 2) := by decide +kernel
theorem d10_17 : decode jdk_52_method_21_code 17 = .ok (.sipush 255, 3) := by decide +kernel
theorem d10_20 : decode jdk_52_method_21_code 20 = .ok (.if_icmp .le 6, 3) := by decide +kernel
theorem d10_23 : decode jdk_52_method_21_code 23 = .ok (.iload 5, 2) := by decide +kernel
theorem d10_25 : decode jdk_52_method_21_code 25 = .ok (.ireturn, 1) := by decide +kernel
theorem d10_26 : decode jdk_52_method_21_code 26 = .ok (.aload_n 2, 1) := by decide +kernel
theorem d10_27 : decode jdk_52_method_21_code 27 = .ok (.iload_n 3, 1) := by decide +kernel
theorem d10_28 : decode jdk_52_method_21_code 28 = .ok (.iload 6, 2) := by decide +kernel
theorem d10_30 : decode jdk_52_method_21_code 30 = .ok (.i2b, 1) := by decide +kernel
theorem d10_31 : decode jdk_52_method_21_code 31 = .ok (.bastore, 1) := by decide +kernel
theorem d10_32 : decode jdk_52_method_21_code 32 = .ok (.iinc 1 1, 3) := by decide +kernel
theorem d10_35 : decode jdk_52_method_21_code 35 = .ok (.iinc 3 1, 3) := by decide +kernel
theorem d10_38 : decode jdk_52_method_21_code 38 = .ok (.iinc 5 1, 3) := by decide +kernel
theorem d10_41 : decode jdk_52_method_21_code 41 = .ok (.goto (-38), 3) := by decide +kernel
theorem d10_44 : decode jdk_52_method_21_code 44 = .ok (.iload 4, 2) := by decide +kernel
theorem d10_46 : decode jdk_52_method_21_code 46 = .ok (.ireturn, 1) := by decide +kernel
theorem pn_10 : plainName "java/lang/StringUTF16" = true := by first | (simp [plainName, overriddenIn]; done) | decide +kernel
def R10 : Room := { frames := 0, cells := 0, slots := 0, locals := 0 }
def Q10 (Z : State) (o2 : Addr) (o2_k : ClassId) (o2_n : Int32) (h0 : Heap) (n0 : Nat) (r : Int32 × List Int32) (v : Option Value) (h : Heap) (L : List Loc) : Prop := v = some (.int r.1) ∧ Fr n0 L ∧ Keep h0 h [o2] ∧ Arv Z h o2 o2_k .byte o2_n ((r.2).map Value.int) (.int 0) ∧ (r.2).length = o2_n.toNatClampNeg
def f10_3_1 : Nat → Int32 → Int32 → Int32 → Int32 → Int32 → Int32 → List Int32 → Int32 → List Int32 → Int32 × List Int32
  | 0, _, _, _, _, _, _, _, _, _ => ((0 : Int32), [])
  | k + 1, v1, v3, v4, v5, v6, o0_n, o0_xs, o2_n, o2_xs => (if v5 < v4 then (if (255 : Int32) < (own_at o0_xs v1) then (v5, o2_xs) else (f10_3_1 k (v1 + (1 : Int32)) (v3 + (1 : Int32)) v4 (v5 + (1 : Int32)) (own_at o0_xs v1) o0_n o0_xs o2_n (o2_xs.set (v3).toNatClampNeg (((own_at o0_xs v1).toInt8.toInt32).toInt8.toInt32)))) else (v4, o2_xs))
set_option maxRecDepth 65536 in
set_option maxHeartbeats 40000000 in
theorem b10_3_1 {p : Program} {l : Launch} {e : Env} {s : State} {m : MethodId} {args : Array Value} {below : List Frame} {meth : Method} {c : Code} {Z : State} {a0 : Array Value} (B : Ctx p Z s a0 m meth c "java/lang/StringUTF16" "compress" jdk_52_method_21_code 7 (some .int)) (h0 : Heap) (n0 : Nat)  : ∀ (k : Nat) {T0 : State} {locs : List Loc} {h : Heap} (o0 : Addr) (v1 : Int32) (o2 : Addr) (v3 : Int32) (v4 : Int32) (v5 : Int32) (v6 : Int32) (o0_k : ClassId) (o0_n : Int32) (o0_xs : List Int32) (o2_k : ClassId) (o2_n : Int32) (o2_xs : List Int32) (X0 : Stand p l e R10 s m args below meth c T0 locs 0 0) (e0 : T0.heap = h) (N0 : Fr n0 locs) (Z0 : n0 ≤ h.size) (K : Keep h0 h [o2]) (V_o0 : Arv Z h o0 o0_k .char o0_n (o0_xs.map Value.int) (.int 0)) (ln_o0 : o0_xs.length = o0_n.toNatClampNeg) (V_o2 : Arv Z h o2 o2_k .byte o2_n (o2_xs.map Value.int) (.int 0)) (ln_o2 : o2_xs.length = o2_n.toNatClampNeg) (g_o2 : n0 ≤ o2) (ne_o0_o2 : o0 ≠ o2) (hI : own_I v1 v3 v4 v5 o0_n o2_n) (hmu : (v4.toInt - v5.toInt).toNat < k) (r : Int32 × List Int32) (hr : f10_3_1 k v1 v3 v4 v5 v6 o0_n o0_xs o2_n o2_xs = r),
    EndsIn p e below s R10.cells R10.slots (Q10 Z o2 o2_k o2_n h0 n0 r) (T0.setTop (mkF m 3 #[.val (.ref o0), .val (.int v1), .val (.ref o2), .val (.int v3), .val (.int v4), .val (.int v5), .val (.int v6)] [])) := by
  obtain ⟨hx, hZ, hw, hby, hml, hret, hown, hnm, hlk⟩ := B
  intro k
  induction k with
  | zero => intro T0 locs h o0 v1 o2 v3 v4 v5 v6 o0_k o0_n o0_xs o2_k o2_n o2_xs X0 e0 N0 Z0 K V_o0 ln_o0 V_o2 ln_o2 g_o2 ne_o0_o2 hI hmu r hr; exact absurd hmu (Nat.not_lt_zero _)
  | succ k ih =>
    intro T0 locs h o0 v1 o2 v3 v4 v5 v6 o0_k o0_n o0_xs o2_k o2_n o2_xs X0 e0 N0 Z0 K V_o0 ln_o0 V_o2 ln_o2 g_o2 ne_o0_o2 hI hmu r hr
    unfold f10_3_1 at hr
    refine EndsIn.by (B := T0.setTop (mkF m 7 #[.val (.ref o0), .val (.int v1), .val (.ref o2), .val (.int v3), .val (.int v4), .val (.int v5), .val (.int v6)] [(.int v4), (.int v5)])) (fun t k => ?_) ?_
    · show Steps p.tables e below (T0.setTop (mkF m 3 #[.val (.ref o0), .val (.int v1), .val (.ref o2), .val (.int v3), .val (.int v4), .val (.int v5), .val (.int v6)] [])) _
      refine XS.iload X0.here hx rfl (hb hby d10_3) rfl  ?_
      show Steps p.tables e below (T0.setTop (mkF m 5 #[.val (.ref o0), .val (.int v1), .val (.ref o2), .val (.int v3), .val (.int v4), .val (.int v5), .val (.int v6)] [(.int v5)])) _
      refine XS.iload X0.here hx rfl (hb hby d10_5) rfl  ?_
      exact k
    by_cases hc7 : v5 < v4
    · rw [if_pos hc7] at hr
      refine EndsIn.by (B := T0.setTop (mkF m 10 #[.val (.ref o0), .val (.int v1), .val (.ref o2), .val (.int v3), .val (.int v4), .val (.int v5), .val (.int v6)] [])) (fun t k => ?_) ?_
      · show Steps p.tables e below (T0.setTop (mkF m 7 #[.val (.ref o0), .val (.int v1), .val (.ref o2), .val (.int v3), .val (.int v4), .val (.int v5), .val (.int v6)] [(.int v4), (.int v5)])) _
        exact XS.icmpNo X0.here hx rfl (hb hby d10_7) rfl (tlt hc7).2.1 k
      refine EndsIn.by (B := T0.setTop (mkF m 12 #[.val (.ref o0), .val (.int v1), .val (.ref o2), .val (.int v3), .val (.int v4), .val (.int v5), .val (.int v6)] [(.int v1), (.ref o0)])) (fun t k => ?_) ?_
      · show Steps p.tables e below (T0.setTop (mkF m 10 #[.val (.ref o0), .val (.int v1), .val (.ref o2), .val (.int v3), .val (.int v4), .val (.int v5), .val (.int v6)] [])) _
        refine XS.aloadN X0.here hx rfl (hb hby d10_10) rfl rfl ?_
        show Steps p.tables e below (T0.setTop (mkF m 11 #[.val (.ref o0), .val (.int v1), .val (.ref o2), .val (.int v3), .val (.int v4), .val (.int v5), .val (.int v6)] [(.ref o0)])) _
        refine XS.iloadN X0.here hx rfl (hb hby d10_11) rfl  ?_
        exact k
      have hin3 : ¬ (v1 < 0) ∧ v1 < o0_n := own_in1 hI hc7
      obtain ⟨cl3, Ar3, hi3, q3⟩ := own_readI V_o0 hin3 _ rfl
      refine EndsIn.by (B := T0.setTop (mkF m 13 #[.val (.ref o0), .val (.int v1), .val (.ref o2), .val (.int v3), .val (.int v4), .val (.int v5), .val (.int v6)] [(.int (own_at o0_xs v1))])) (fun t k => ?_) ?_
      · show Steps p.tables e below (T0.setTop (mkF m 12 #[.val (.ref o0), .val (.int v1), .val (.ref o2), .val (.int v3), .val (.int v4), .val (.int v5), .val (.int v6)] [(.int v1), (.ref o0)])) _
        exact X0.caload hx (j := v1) (v := (.int (own_at o0_xs v1))) (by rw [e0]; exact Ar3.1) (State.isArrayOf_alike hZ.alike Ar3.2.1) Ar3.2.2 hi3 q3 (g := (mkF m 12 #[.val (.ref o0), .val (.int v1), .val (.ref o2), .val (.int v3), .val (.int v4), .val (.int v5), .val (.int v6)] [(.int v1), (.ref o0)])) rfl rfl (hb hby d10_12) _ k
      refine EndsIn.by (B := T0.setTop (mkF m 20 #[.val (.ref o0), .val (.int v1), .val (.ref o2), .val (.int v3), .val (.int v4), .val (.int v5), .val (.int (own_at o0_xs v1))] [(.int (255 : Int32)), (.int (own_at o0_xs v1))])) (fun t k => ?_) ?_
      · show Steps p.tables e below (T0.setTop (mkF m 13 #[.val (.ref o0), .val (.int v1), .val (.ref o2), .val (.int v3), .val (.int v4), .val (.int v5), .val (.int v6)] [(.int (own_at o0_xs v1))])) _
        refine XS.istore X0.here hx rfl (hb hby d10_13) rfl (l' := #[.val (.ref o0), .val (.int v1), .val (.ref o2), .val (.int v3), .val (.int v4), .val (.int v5), .val (.int (own_at o0_xs v1))]) rfl ?_
        show Steps p.tables e below (T0.setTop (mkF m 15 #[.val (.ref o0), .val (.int v1), .val (.ref o2), .val (.int v3), .val (.int v4), .val (.int v5), .val (.int (own_at o0_xs v1))] [])) _
        refine XS.iload X0.here hx rfl (hb hby d10_15) rfl  ?_
        show Steps p.tables e below (T0.setTop (mkF m 17 #[.val (.ref o0), .val (.int v1), .val (.ref o2), .val (.int v3), .val (.int v4), .val (.int v5), .val (.int (own_at o0_xs v1))] [(.int (own_at o0_xs v1))])) _
        refine XS.sipush X0.here hx rfl (hb hby d10_17) ?_
        exact k
      by_cases hc20 : (255 : Int32) < (own_at o0_xs v1)
      · rw [if_pos hc20] at hr
        refine EndsIn.by (B := T0.setTop (mkF m 23 #[.val (.ref o0), .val (.int v1), .val (.ref o2), .val (.int v3), .val (.int v4), .val (.int v5), .val (.int (own_at o0_xs v1))] [])) (fun t k => ?_) ?_
        · show Steps p.tables e below (T0.setTop (mkF m 20 #[.val (.ref o0), .val (.int v1), .val (.ref o2), .val (.int v3), .val (.int v4), .val (.int v5), .val (.int (own_at o0_xs v1))] [(.int (255 : Int32)), (.int (own_at o0_xs v1))])) _
          exact XS.icmpNo X0.here hx rfl (hb hby d10_20) rfl (tlt hc20).2.2.2 k
        refine EndsIn.by (B := T0.setTop (mkF m 25 #[.val (.ref o0), .val (.int v1), .val (.ref o2), .val (.int v3), .val (.int v4), .val (.int v5), .val (.int (own_at o0_xs v1))] [(.int v5)])) (fun t k => ?_) ?_
        · show Steps p.tables e below (T0.setTop (mkF m 23 #[.val (.ref o0), .val (.int v1), .val (.ref o2), .val (.int v3), .val (.int v4), .val (.int v5), .val (.int (own_at o0_xs v1))] [])) _
          refine XS.iload X0.here hx rfl (hb hby d10_23) rfl  ?_
          exact k
        subst hr
        exact own_retI X0 hx hlk hret (hb hby d10_25) (by decide) (by decide) ⟨rfl, N0, (by rw [e0]; exact K), (by rw [e0]; exact V_o2), ln_o2⟩
      · rw [if_neg hc20] at hr
        refine EndsIn.by (B := T0.setTop (mkF m 26 #[.val (.ref o0), .val (.int v1), .val (.ref o2), .val (.int v3), .val (.int v4), .val (.int v5), .val (.int (own_at o0_xs v1))] [])) (fun t k => ?_) ?_
        · show Steps p.tables e below (T0.setTop (mkF m 20 #[.val (.ref o0), .val (.int v1), .val (.ref o2), .val (.int v3), .val (.int v4), .val (.int v5), .val (.int (own_at o0_xs v1))] [(.int (255 : Int32)), (.int (own_at o0_xs v1))])) _
          exact XS.icmpYes X0.here hx rfl (pc0 := 20) (pc' := 26) rfl (hb hby d10_20) rfl (flt hc20).2.2.2 (by decide) (by decide) k
        refine EndsIn.by (B := T0.setTop (mkF m 31 #[.val (.ref o0), .val (.int v1), .val (.ref o2), .val (.int v3), .val (.int v4), .val (.int v5), .val (.int (own_at o0_xs v1))] [(.int ((own_at o0_xs v1).toInt8.toInt32)), (.int v3), (.ref o2)])) (fun t k => ?_) ?_
        · show Steps p.tables e below (T0.setTop (mkF m 26 #[.val (.ref o0), .val (.int v1), .val (.ref o2), .val (.int v3), .val (.int v4), .val (.int v5), .val (.int (own_at o0_xs v1))] [])) _
          refine XS.aloadN X0.here hx rfl (hb hby d10_26) rfl rfl ?_
          show Steps p.tables e below (T0.setTop (mkF m 27 #[.val (.ref o0), .val (.int v1), .val (.ref o2), .val (.int v3), .val (.int v4), .val (.int v5), .val (.int (own_at o0_xs v1))] [(.ref o2)])) _
          refine XS.iloadN X0.here hx rfl (hb hby d10_27) rfl  ?_
          show Steps p.tables e below (T0.setTop (mkF m 28 #[.val (.ref o0), .val (.int v1), .val (.ref o2), .val (.int v3), .val (.int v4), .val (.int v5), .val (.int (own_at o0_xs v1))] [(.int v3), (.ref o2)])) _
          refine XS.iload X0.here hx rfl (hb hby d10_28) rfl  ?_
          show Steps p.tables e below (T0.setTop (mkF m 30 #[.val (.ref o0), .val (.int v1), .val (.ref o2), .val (.int v3), .val (.int v4), .val (.int v5), .val (.int (own_at o0_xs v1))] [(.int (own_at o0_xs v1)), (.int v3), (.ref o2)])) _
          refine XS.i2b X0.here hx rfl (hb hby d10_30) rfl ?_
          exact k
        have hin4 : ¬ (v3 < 0) ∧ v3 < o2_n := own_in2 hI hc7
        obtain ⟨cl4, Ar4, hi4, q4⟩ := own_open V_o2 hin4
        obtain ⟨T4, h4, X4, e4, W4, st4⟩ := stB X0 hx hZ e0 Ar4 (j := v3) hi4 (g := (mkF m 31 #[.val (.ref o0), .val (.int v1), .val (.ref o2), .val (.int v3), .val (.int v4), .val (.int v5), .val (.int (own_at o0_xs v1))] [(.int ((own_at o0_xs v1).toInt8.toInt32)), (.int v3), (.ref o2)])) rfl rfl (hb hby d10_31)
        have V_o0_4 := V_o0.other W4 ne_o0_o2
        obtain ⟨V_o2_4, ln_o2_4⟩ : Arv Z h4 o2 o2_k .byte o2_n ((o2_xs.set (v3).toNatClampNeg (((own_at o0_xs v1).toInt8.toInt32).toInt8.toInt32)).map Value.int) (.int 0) ∧ (o2_xs.set (v3).toNatClampNeg (((own_at o0_xs v1).toInt8.toInt32).toInt8.toInt32)).length = o2_n.toNatClampNeg := own_setI V_o2 ln_o2 hin4 W4 (fits_nar_byte _) (v3).toNatClampNeg rfl
        have N4 := Fr.snoc X4 N0 g_o2
        have Z4 : n0 ≤ h4.size := Nat.le_trans Z0 (Nat.le_of_eq W4.size.symm)
        have K4 := K.wr W4 (Or.inl (by simp))
        refine EndsIn.by (B := T4.setTop (mkF m 32 #[.val (.ref o0), .val (.int v1), .val (.ref o2), .val (.int v3), .val (.int v4), .val (.int v5), .val (.int (own_at o0_xs v1))] [])) (fun t k => st4 t k) ?_
        refine EndsIn.by (B := T4.setTop (mkF m 3 #[.val (.ref o0), .val (.int (v1 + (1 : Int32))), .val (.ref o2), .val (.int (v3 + (1 : Int32))), .val (.int v4), .val (.int (v5 + (1 : Int32))), .val (.int (own_at o0_xs v1))] [])) (fun t k => ?_) ?_
        · show Steps p.tables e below (T4.setTop (mkF m 32 #[.val (.ref o0), .val (.int v1), .val (.ref o2), .val (.int v3), .val (.int v4), .val (.int v5), .val (.int (own_at o0_xs v1))] [])) _
          refine XS.iinc X4.here hx rfl (hb hby d10_32) rfl (l' := #[.val (.ref o0), .val (.int (v1 + (1 : Int32))), .val (.ref o2), .val (.int v3), .val (.int v4), .val (.int v5), .val (.int (own_at o0_xs v1))]) rfl ?_
          show Steps p.tables e below (T4.setTop (mkF m 35 #[.val (.ref o0), .val (.int (v1 + (1 : Int32))), .val (.ref o2), .val (.int v3), .val (.int v4), .val (.int v5), .val (.int (own_at o0_xs v1))] [])) _
          refine XS.iinc X4.here hx rfl (hb hby d10_35) rfl (l' := #[.val (.ref o0), .val (.int (v1 + (1 : Int32))), .val (.ref o2), .val (.int (v3 + (1 : Int32))), .val (.int v4), .val (.int v5), .val (.int (own_at o0_xs v1))]) rfl ?_
          show Steps p.tables e below (T4.setTop (mkF m 38 #[.val (.ref o0), .val (.int (v1 + (1 : Int32))), .val (.ref o2), .val (.int (v3 + (1 : Int32))), .val (.int v4), .val (.int v5), .val (.int (own_at o0_xs v1))] [])) _
          refine XS.iinc X4.here hx rfl (hb hby d10_38) rfl (l' := #[.val (.ref o0), .val (.int (v1 + (1 : Int32))), .val (.ref o2), .val (.int (v3 + (1 : Int32))), .val (.int v4), .val (.int (v5 + (1 : Int32))), .val (.int (own_at o0_xs v1))]) rfl ?_
          show Steps p.tables e below (T4.setTop (mkF m 41 #[.val (.ref o0), .val (.int (v1 + (1 : Int32))), .val (.ref o2), .val (.int (v3 + (1 : Int32))), .val (.int v4), .val (.int (v5 + (1 : Int32))), .val (.int (own_at o0_xs v1))] [])) _
          refine XS.goto X4.here hx rfl (pc0 := 41) (pc' := 3) rfl (hb hby d10_41) (by decide) (by decide) ?_
          exact k
        have hI_j : own_I (v1 + (1 : Int32)) (v3 + (1 : Int32)) v4 (v5 + (1 : Int32)) o0_n o2_n := (by first | exact own_I0 hE | exact own_I1 hI hc7)
        have hmu_j : (v4.toInt - (v5 + (1 : Int32)).toInt).toNat < k := own_mu1 hI hc7 hmu
        exact ih o0 (v1 + (1 : Int32)) o2 (v3 + (1 : Int32)) v4 (v5 + (1 : Int32)) (own_at o0_xs v1) o0_k o0_n o0_xs o2_k o2_n (o2_xs.set (v3).toNatClampNeg (((own_at o0_xs v1).toInt8.toInt32).toInt8.toInt32)) X4 e4 N4 Z4 K4 V_o0_4 ln_o0 V_o2_4 ln_o2_4 g_o2 ne_o0_o2 hI_j hmu_j _ hr
    · rw [if_neg hc7] at hr
      refine EndsIn.by (B := T0.setTop (mkF m 44 #[.val (.ref o0), .val (.int v1), .val (.ref o2), .val (.int v3), .val (.int v4), .val (.int v5), .val (.int v6)] [])) (fun t k => ?_) ?_
      · show Steps p.tables e below (T0.setTop (mkF m 7 #[.val (.ref o0), .val (.int v1), .val (.ref o2), .val (.int v3), .val (.int v4), .val (.int v5), .val (.int v6)] [(.int v4), (.int v5)])) _
        exact XS.icmpYes X0.here hx rfl (pc0 := 7) (pc' := 44) rfl (hb hby d10_7) rfl (flt hc7).2.1 (by decide) (by decide) k
      refine EndsIn.by (B := T0.setTop (mkF m 46 #[.val (.ref o0), .val (.int v1), .val (.ref o2), .val (.int v3), .val (.int v4), .val (.int v5), .val (.int v6)] [(.int v4)])) (fun t k => ?_) ?_
      · show Steps p.tables e below (T0.setTop (mkF m 44 #[.val (.ref o0), .val (.int v1), .val (.ref o2), .val (.int v3), .val (.int v4), .val (.int v5), .val (.int v6)] [])) _
        refine XS.iload X0.here hx rfl (hb hby d10_44) rfl  ?_
        exact k
      subst hr
      exact own_retI X0 hx hlk hret (hb hby d10_46) (by decide) (by decide) ⟨rfl, N0, (by rw [e0]; exact K), (by rw [e0]; exact V_o2), ln_o2⟩
def f10_3 (v1 : Int32) (v3 : Int32) (v4 : Int32) (v5 : Int32) (o0_n : Int32) (o0_xs : List Int32) (o2_n : Int32) (o2_xs : List Int32) : Int32 × List Int32 := (if v5 < v4 then (if (255 : Int32) < (own_at o0_xs v1) then (v5, o2_xs) else (f10_3_1 1001 (v1 + (1 : Int32)) (v3 + (1 : Int32)) v4 (v5 + (1 : Int32)) (own_at o0_xs v1) o0_n o0_xs o2_n (o2_xs.set (v3).toNatClampNeg (((own_at o0_xs v1).toInt8.toInt32).toInt8.toInt32)))) else (v4, o2_xs))
set_option maxRecDepth 65536 in
set_option maxHeartbeats 40000000 in
theorem b10_3 {p : Program} {l : Launch} {e : Env} {s : State} {m : MethodId} {args : Array Value} {below : List Frame} {meth : Method} {c : Code} {Z : State} {a0 : Array Value} (B : Ctx p Z s a0 m meth c "java/lang/StringUTF16" "compress" jdk_52_method_21_code 7 (some .int)) {T0 : State} {locs : List Loc} {h : Heap} (h0 : Heap) (n0 : Nat) (o0 : Addr) (v1 : Int32) (o2 : Addr) (v3 : Int32) (v4 : Int32) (v5 : Int32) (o0_k : ClassId) (o0_n : Int32) (o0_xs : List Int32) (o2_k : ClassId) (o2_n : Int32) (o2_xs : List Int32) (X0 : Stand p l e R10 s m args below meth c T0 locs 0 0) (e0 : T0.heap = h) (N0 : Fr n0 locs) (Z0 : n0 ≤ h.size) (K : Keep h0 h [o2]) (V_o0 : Arv Z h o0 o0_k .char o0_n (o0_xs.map Value.int) (.int 0)) (ln_o0 : o0_xs.length = o0_n.toNatClampNeg) (V_o2 : Arv Z h o2 o2_k .byte o2_n (o2_xs.map Value.int) (.int 0)) (ln_o2 : o2_xs.length = o2_n.toNatClampNeg) (g_o2 : n0 ≤ o2) (ne_o0_o2 : o0 ≠ o2) (hI : own_I v1 v3 v4 v5 o0_n o2_n) (r : Int32 × List Int32) (hr : f10_3 v1 v3 v4 v5 o0_n o0_xs o2_n o2_xs = r) :
    EndsIn p e below s R10.cells R10.slots (Q10 Z o2 o2_k o2_n h0 n0 r) (T0.setTop (mkF m 3 #[.val (.ref o0), .val (.int v1), .val (.ref o2), .val (.int v3), .val (.int v4), .val (.int v5), .unset] [])) := by
  obtain ⟨hx, hZ, hw, hby, hml, hret, hown, hnm, hlk⟩ := B
  unfold f10_3 at hr
  refine EndsIn.by (B := T0.setTop (mkF m 7 #[.val (.ref o0), .val (.int v1), .val (.ref o2), .val (.int v3), .val (.int v4), .val (.int v5), .unset] [(.int v4), (.int v5)])) (fun t k => ?_) ?_
  · show Steps p.tables e below (T0.setTop (mkF m 3 #[.val (.ref o0), .val (.int v1), .val (.ref o2), .val (.int v3), .val (.int v4), .val (.int v5), .unset] [])) _
    refine XS.iload X0.here hx rfl (hb hby d10_3) rfl  ?_
    show Steps p.tables e below (T0.setTop (mkF m 5 #[.val (.ref o0), .val (.int v1), .val (.ref o2), .val (.int v3), .val (.int v4), .val (.int v5), .unset] [(.int v5)])) _
    refine XS.iload X0.here hx rfl (hb hby d10_5) rfl  ?_
    exact k
  by_cases hc7 : v5 < v4
  · rw [if_pos hc7] at hr
    refine EndsIn.by (B := T0.setTop (mkF m 10 #[.val (.ref o0), .val (.int v1), .val (.ref o2), .val (.int v3), .val (.int v4), .val (.int v5), .unset] [])) (fun t k => ?_) ?_
    · show Steps p.tables e below (T0.setTop (mkF m 7 #[.val (.ref o0), .val (.int v1), .val (.ref o2), .val (.int v3), .val (.int v4), .val (.int v5), .unset] [(.int v4), (.int v5)])) _
      exact XS.icmpNo X0.here hx rfl (hb hby d10_7) rfl (tlt hc7).2.1 k
    refine EndsIn.by (B := T0.setTop (mkF m 12 #[.val (.ref o0), .val (.int v1), .val (.ref o2), .val (.int v3), .val (.int v4), .val (.int v5), .unset] [(.int v1), (.ref o0)])) (fun t k => ?_) ?_
    · show Steps p.tables e below (T0.setTop (mkF m 10 #[.val (.ref o0), .val (.int v1), .val (.ref o2), .val (.int v3), .val (.int v4), .val (.int v5), .unset] [])) _
      refine XS.aloadN X0.here hx rfl (hb hby d10_10) rfl rfl ?_
      show Steps p.tables e below (T0.setTop (mkF m 11 #[.val (.ref o0), .val (.int v1), .val (.ref o2), .val (.int v3), .val (.int v4), .val (.int v5), .unset] [(.ref o0)])) _
      refine XS.iloadN X0.here hx rfl (hb hby d10_11) rfl  ?_
      exact k
    have hin5 : ¬ (v1 < 0) ∧ v1 < o0_n := own_in1 hI hc7
    obtain ⟨cl5, Ar5, hi5, q5⟩ := own_readI V_o0 hin5 _ rfl
    refine EndsIn.by (B := T0.setTop (mkF m 13 #[.val (.ref o0), .val (.int v1), .val (.ref o2), .val (.int v3), .val (.int v4), .val (.int v5), .unset] [(.int (own_at o0_xs v1))])) (fun t k => ?_) ?_
    · show Steps p.tables e below (T0.setTop (mkF m 12 #[.val (.ref o0), .val (.int v1), .val (.ref o2), .val (.int v3), .val (.int v4), .val (.int v5), .unset] [(.int v1), (.ref o0)])) _
      exact X0.caload hx (j := v1) (v := (.int (own_at o0_xs v1))) (by rw [e0]; exact Ar5.1) (State.isArrayOf_alike hZ.alike Ar5.2.1) Ar5.2.2 hi5 q5 (g := (mkF m 12 #[.val (.ref o0), .val (.int v1), .val (.ref o2), .val (.int v3), .val (.int v4), .val (.int v5), .unset] [(.int v1), (.ref o0)])) rfl rfl (hb hby d10_12) _ k
    refine EndsIn.by (B := T0.setTop (mkF m 20 #[.val (.ref o0), .val (.int v1), .val (.ref o2), .val (.int v3), .val (.int v4), .val (.int v5), .val (.int (own_at o0_xs v1))] [(.int (255 : Int32)), (.int (own_at o0_xs v1))])) (fun t k => ?_) ?_
    · show Steps p.tables e below (T0.setTop (mkF m 13 #[.val (.ref o0), .val (.int v1), .val (.ref o2), .val (.int v3), .val (.int v4), .val (.int v5), .unset] [(.int (own_at o0_xs v1))])) _
      refine XS.istore X0.here hx rfl (hb hby d10_13) rfl (l' := #[.val (.ref o0), .val (.int v1), .val (.ref o2), .val (.int v3), .val (.int v4), .val (.int v5), .val (.int (own_at o0_xs v1))]) rfl ?_
      show Steps p.tables e below (T0.setTop (mkF m 15 #[.val (.ref o0), .val (.int v1), .val (.ref o2), .val (.int v3), .val (.int v4), .val (.int v5), .val (.int (own_at o0_xs v1))] [])) _
      refine XS.iload X0.here hx rfl (hb hby d10_15) rfl  ?_
      show Steps p.tables e below (T0.setTop (mkF m 17 #[.val (.ref o0), .val (.int v1), .val (.ref o2), .val (.int v3), .val (.int v4), .val (.int v5), .val (.int (own_at o0_xs v1))] [(.int (own_at o0_xs v1))])) _
      refine XS.sipush X0.here hx rfl (hb hby d10_17) ?_
      exact k
    by_cases hc20 : (255 : Int32) < (own_at o0_xs v1)
    · rw [if_pos hc20] at hr
      refine EndsIn.by (B := T0.setTop (mkF m 23 #[.val (.ref o0), .val (.int v1), .val (.ref o2), .val (.int v3), .val (.int v4), .val (.int v5), .val (.int (own_at o0_xs v1))] [])) (fun t k => ?_) ?_
      · show Steps p.tables e below (T0.setTop (mkF m 20 #[.val (.ref o0), .val (.int v1), .val (.ref o2), .val (.int v3), .val (.int v4), .val (.int v5), .val (.int (own_at o0_xs v1))] [(.int (255 : Int32)), (.int (own_at o0_xs v1))])) _
        exact XS.icmpNo X0.here hx rfl (hb hby d10_20) rfl (tlt hc20).2.2.2 k
      refine EndsIn.by (B := T0.setTop (mkF m 25 #[.val (.ref o0), .val (.int v1), .val (.ref o2), .val (.int v3), .val (.int v4), .val (.int v5), .val (.int (own_at o0_xs v1))] [(.int v5)])) (fun t k => ?_) ?_
      · show Steps p.tables e below (T0.setTop (mkF m 23 #[.val (.ref o0), .val (.int v1), .val (.ref o2), .val (.int v3), .val (.int v4), .val (.int v5), .val (.int (own_at o0_xs v1))] [])) _
        refine XS.iload X0.here hx rfl (hb hby d10_23) rfl  ?_
        exact k
      subst hr
      exact own_retI X0 hx hlk hret (hb hby d10_25) (by decide) (by decide) ⟨rfl, N0, (by rw [e0]; exact K), (by rw [e0]; exact V_o2), ln_o2⟩
    · rw [if_neg hc20] at hr
      refine EndsIn.by (B := T0.setTop (mkF m 26 #[.val (.ref o0), .val (.int v1), .val (.ref o2), .val (.int v3), .val (.int v4), .val (.int v5), .val (.int (own_at o0_xs v1))] [])) (fun t k => ?_) ?_
      · show Steps p.tables e below (T0.setTop (mkF m 20 #[.val (.ref o0), .val (.int v1), .val (.ref o2), .val (.int v3), .val (.int v4), .val (.int v5), .val (.int (own_at o0_xs v1))] [(.int (255 : Int32)), (.int (own_at o0_xs v1))])) _
        exact XS.icmpYes X0.here hx rfl (pc0 := 20) (pc' := 26) rfl (hb hby d10_20) rfl (flt hc20).2.2.2 (by decide) (by decide) k
      refine EndsIn.by (B := T0.setTop (mkF m 31 #[.val (.ref o0), .val (.int v1), .val (.ref o2), .val (.int v3), .val (.int v4), .val (.int v5), .val (.int (own_at o0_xs v1))] [(.int ((own_at o0_xs v1).toInt8.toInt32)), (.int v3), (.ref o2)])) (fun t k => ?_) ?_
      · show Steps p.tables e below (T0.setTop (mkF m 26 #[.val (.ref o0), .val (.int v1), .val (.ref o2), .val (.int v3), .val (.int v4), .val (.int v5), .val (.int (own_at o0_xs v1))] [])) _
        refine XS.aloadN X0.here hx rfl (hb hby d10_26) rfl rfl ?_
        show Steps p.tables e below (T0.setTop (mkF m 27 #[.val (.ref o0), .val (.int v1), .val (.ref o2), .val (.int v3), .val (.int v4), .val (.int v5), .val (.int (own_at o0_xs v1))] [(.ref o2)])) _
        refine XS.iloadN X0.here hx rfl (hb hby d10_27) rfl  ?_
        show Steps p.tables e below (T0.setTop (mkF m 28 #[.val (.ref o0), .val (.int v1), .val (.ref o2), .val (.int v3), .val (.int v4), .val (.int v5), .val (.int (own_at o0_xs v1))] [(.int v3), (.ref o2)])) _
        refine XS.iload X0.here hx rfl (hb hby d10_28) rfl  ?_
        show Steps p.tables e below (T0.setTop (mkF m 30 #[.val (.ref o0), .val (.int v1), .val (.ref o2), .val (.int v3), .val (.int v4), .val (.int v5), .val (.int (own_at o0_xs v1))] [(.int (own_at o0_xs v1)), (.int v3), (.ref o2)])) _
        refine XS.i2b X0.here hx rfl (hb hby d10_30) rfl ?_
        exact k
      have hin6 : ¬ (v3 < 0) ∧ v3 < o2_n := own_in2 hI hc7
      obtain ⟨cl6, Ar6, hi6, q6⟩ := own_open V_o2 hin6
      obtain ⟨T6, h6, X6, e6, W6, st6⟩ := stB X0 hx hZ e0 Ar6 (j := v3) hi6 (g := (mkF m 31 #[.val (.ref o0), .val (.int v1), .val (.ref o2), .val (.int v3), .val (.int v4), .val (.int v5), .val (.int (own_at o0_xs v1))] [(.int ((own_at o0_xs v1).toInt8.toInt32)), (.int v3), (.ref o2)])) rfl rfl (hb hby d10_31)
      have V_o0_6 := V_o0.other W6 ne_o0_o2
      obtain ⟨V_o2_6, ln_o2_6⟩ : Arv Z h6 o2 o2_k .byte o2_n ((o2_xs.set (v3).toNatClampNeg (((own_at o0_xs v1).toInt8.toInt32).toInt8.toInt32)).map Value.int) (.int 0) ∧ (o2_xs.set (v3).toNatClampNeg (((own_at o0_xs v1).toInt8.toInt32).toInt8.toInt32)).length = o2_n.toNatClampNeg := own_setI V_o2 ln_o2 hin6 W6 (fits_nar_byte _) (v3).toNatClampNeg rfl
      have N6 := Fr.snoc X6 N0 g_o2
      have Z6 : n0 ≤ h6.size := Nat.le_trans Z0 (Nat.le_of_eq W6.size.symm)
      have K6 := K.wr W6 (Or.inl (by simp))
      refine EndsIn.by (B := T6.setTop (mkF m 32 #[.val (.ref o0), .val (.int v1), .val (.ref o2), .val (.int v3), .val (.int v4), .val (.int v5), .val (.int (own_at o0_xs v1))] [])) (fun t k => st6 t k) ?_
      refine EndsIn.by (B := T6.setTop (mkF m 3 #[.val (.ref o0), .val (.int (v1 + (1 : Int32))), .val (.ref o2), .val (.int (v3 + (1 : Int32))), .val (.int v4), .val (.int (v5 + (1 : Int32))), .val (.int (own_at o0_xs v1))] [])) (fun t k => ?_) ?_
      · show Steps p.tables e below (T6.setTop (mkF m 32 #[.val (.ref o0), .val (.int v1), .val (.ref o2), .val (.int v3), .val (.int v4), .val (.int v5), .val (.int (own_at o0_xs v1))] [])) _
        refine XS.iinc X6.here hx rfl (hb hby d10_32) rfl (l' := #[.val (.ref o0), .val (.int (v1 + (1 : Int32))), .val (.ref o2), .val (.int v3), .val (.int v4), .val (.int v5), .val (.int (own_at o0_xs v1))]) rfl ?_
        show Steps p.tables e below (T6.setTop (mkF m 35 #[.val (.ref o0), .val (.int (v1 + (1 : Int32))), .val (.ref o2), .val (.int v3), .val (.int v4), .val (.int v5), .val (.int (own_at o0_xs v1))] [])) _
        refine XS.iinc X6.here hx rfl (hb hby d10_35) rfl (l' := #[.val (.ref o0), .val (.int (v1 + (1 : Int32))), .val (.ref o2), .val (.int (v3 + (1 : Int32))), .val (.int v4), .val (.int v5), .val (.int (own_at o0_xs v1))]) rfl ?_
        show Steps p.tables e below (T6.setTop (mkF m 38 #[.val (.ref o0), .val (.int (v1 + (1 : Int32))), .val (.ref o2), .val (.int (v3 + (1 : Int32))), .val (.int v4), .val (.int v5), .val (.int (own_at o0_xs v1))] [])) _
        refine XS.iinc X6.here hx rfl (hb hby d10_38) rfl (l' := #[.val (.ref o0), .val (.int (v1 + (1 : Int32))), .val (.ref o2), .val (.int (v3 + (1 : Int32))), .val (.int v4), .val (.int (v5 + (1 : Int32))), .val (.int (own_at o0_xs v1))]) rfl ?_
        show Steps p.tables e below (T6.setTop (mkF m 41 #[.val (.ref o0), .val (.int (v1 + (1 : Int32))), .val (.ref o2), .val (.int (v3 + (1 : Int32))), .val (.int v4), .val (.int (v5 + (1 : Int32))), .val (.int (own_at o0_xs v1))] [])) _
        refine XS.goto X6.here hx rfl (pc0 := 41) (pc' := 3) rfl (hb hby d10_41) (by decide) (by decide) ?_
        exact k
      have hI_j : own_I (v1 + (1 : Int32)) (v3 + (1 : Int32)) v4 (v5 + (1 : Int32)) o0_n o2_n := (by first | exact own_I0 hE | exact own_I1 hI hc7)
      have hmu_j : (v4.toInt - (v5 + (1 : Int32)).toInt).toNat < 1001 := own_mu2 hI hc7
      exact b10_3_1 ⟨hx, hZ, hw, hby, hml, hret, hown, hnm, hlk⟩ h0 n0  1001 o0 (v1 + (1 : Int32)) o2 (v3 + (1 : Int32)) v4 (v5 + (1 : Int32)) (own_at o0_xs v1) o0_k o0_n o0_xs o2_k o2_n (o2_xs.set (v3).toNatClampNeg (((own_at o0_xs v1).toInt8.toInt32).toInt8.toInt32)) X6 e6 N6 Z6 K6 V_o0_6 ln_o0 V_o2_6 ln_o2_6 g_o2 ne_o0_o2 hI_j hmu_j _ hr
  · rw [if_neg hc7] at hr
    refine EndsIn.by (B := T0.setTop (mkF m 44 #[.val (.ref o0), .val (.int v1), .val (.ref o2), .val (.int v3), .val (.int v4), .val (.int v5), .unset] [])) (fun t k => ?_) ?_
    · show Steps p.tables e below (T0.setTop (mkF m 7 #[.val (.ref o0), .val (.int v1), .val (.ref o2), .val (.int v3), .val (.int v4), .val (.int v5), .unset] [(.int v4), (.int v5)])) _
      exact XS.icmpYes X0.here hx rfl (pc0 := 7) (pc' := 44) rfl (hb hby d10_7) rfl (flt hc7).2.1 (by decide) (by decide) k
    refine EndsIn.by (B := T0.setTop (mkF m 46 #[.val (.ref o0), .val (.int v1), .val (.ref o2), .val (.int v3), .val (.int v4), .val (.int v5), .unset] [(.int v4)])) (fun t k => ?_) ?_
    · show Steps p.tables e below (T0.setTop (mkF m 44 #[.val (.ref o0), .val (.int v1), .val (.ref o2), .val (.int v3), .val (.int v4), .val (.int v5), .unset] [])) _
      refine XS.iload X0.here hx rfl (hb hby d10_44) rfl  ?_
      exact k
    subst hr
    exact own_retI X0 hx hlk hret (hb hby d10_46) (by decide) (by decide) ⟨rfl, N0, (by rw [e0]; exact K), (by rw [e0]; exact V_o2), ln_o2⟩
def f10_0 (v1 : Int32) (v3 : Int32) (v4 : Int32) (o0_n : Int32) (o0_xs : List Int32) (o2_n : Int32) (o2_xs : List Int32) : Int32 × List Int32 := (f10_3 v1 v3 v4 (0 : Int32) o0_n o0_xs o2_n o2_xs)
set_option maxRecDepth 65536 in
set_option maxHeartbeats 40000000 in
theorem b10_0 {p : Program} {l : Launch} {e : Env} {s : State} {m : MethodId} {args : Array Value} {below : List Frame} {meth : Method} {c : Code} {Z : State} {a0 : Array Value} (B : Ctx p Z s a0 m meth c "java/lang/StringUTF16" "compress" jdk_52_method_21_code 7 (some .int)) {T0 : State} {locs : List Loc} {h : Heap} (h0 : Heap) (n0 : Nat) (o0 : Addr) (v1 : Int32) (o2 : Addr) (v3 : Int32) (v4 : Int32) (o0_k : ClassId) (o0_n : Int32) (o0_xs : List Int32) (o2_k : ClassId) (o2_n : Int32) (o2_xs : List Int32) (X0 : Stand p l e R10 s m args below meth c T0 locs 0 0) (e0 : T0.heap = h) (N0 : Fr n0 locs) (Z0 : n0 ≤ h.size) (K : Keep h0 h [o2]) (V_o0 : Arv Z h o0 o0_k .char o0_n (o0_xs.map Value.int) (.int 0)) (ln_o0 : o0_xs.length = o0_n.toNatClampNeg) (V_o2 : Arv Z h o2 o2_k .byte o2_n (o2_xs.map Value.int) (.int 0)) (ln_o2 : o2_xs.length = o2_n.toNatClampNeg) (g_o2 : n0 ≤ o2) (ne_o0_o2 : o0 ≠ o2) (hE : own_E v1 v3 v4 o0_n o2_n) (r : Int32 × List Int32) (hr : f10_0 v1 v3 v4 o0_n o0_xs o2_n o2_xs = r) :
    EndsIn p e below s R10.cells R10.slots (Q10 Z o2 o2_k o2_n h0 n0 r) (T0.setTop (mkF m 0 #[.val (.ref o0), .val (.int v1), .val (.ref o2), .val (.int v3), .val (.int v4), .unset, .unset] [])) := by
  obtain ⟨hx, hZ, hw, hby, hml, hret, hown, hnm, hlk⟩ := B
  unfold f10_0 at hr
  refine EndsIn.by (B := T0.setTop (mkF m 3 #[.val (.ref o0), .val (.int v1), .val (.ref o2), .val (.int v3), .val (.int v4), .val (.int (0 : Int32)), .unset] [])) (fun t k => ?_) ?_
  · show Steps p.tables e below (T0.setTop (mkF m 0 #[.val (.ref o0), .val (.int v1), .val (.ref o2), .val (.int v3), .val (.int v4), .unset, .unset] [])) _
    refine XS.iconst X0.here hx rfl (hb hby d10_0) ?_
    show Steps p.tables e below (T0.setTop (mkF m 1 #[.val (.ref o0), .val (.int v1), .val (.ref o2), .val (.int v3), .val (.int v4), .unset, .unset] [(.int (0 : Int32))])) _
    refine XS.istore X0.here hx rfl (hb hby d10_1) rfl (l' := #[.val (.ref o0), .val (.int v1), .val (.ref o2), .val (.int v3), .val (.int v4), .val (.int (0 : Int32)), .unset]) rfl ?_
    exact k
  have hI_j : own_I v1 v3 v4 (0 : Int32) o0_n o2_n := (by first | exact own_I0 hE | exact own_I1 hI hc7)
  exact b10_3 ⟨hx, hZ, hw, hby, hml, hret, hown, hnm, hlk⟩ h0 n0 o0 v1 o2 v3 v4 (0 : Int32) o0_k o0_n o0_xs o2_k o2_n o2_xs X0 e0 N0 Z0 K V_o0 ln_o0 V_o2 ln_o2 g_o2 ne_o0_o2 hI_j _ hr
theorem ef_10 (m : MethodId) (o0 : Addr) (v1 : Int32) (o2 : Addr) (v3 : Int32) (v4 : Int32) : entryFrame m #[(.ref o0), (.int v1), (.ref o2), (.int v3), (.int v4)] 7 = (mkF m 0 #[.val (.ref o0), .val (.int v1), .val (.ref o2), .val (.int v3), .val (.int v4), .unset, .unset] []) := by first | (simp [entryFrame, mkF, argsToLocals, Value.category]; done) | rfl
set_option maxRecDepth 65536 in
set_option maxHeartbeats 40000000 in
theorem rm10 (l : Launch) (Z : State) (a0 : Array Value) (hw : ∀ d ∈ tables_1, d.before a0 Z = true) (ws : List Jvm.Cond) (o0 : Addr) (v1 : Int32) (o2 : Addr) (v3 : Int32) (v4 : Int32) (o0_k : ClassId) (o0_n : Int32) (o0_xs : List Int32) (o2_k : ClassId) (o2_n : Int32) (o2_xs : List Int32) (h0 : Heap) (n0 : Nat) (Z0 : n0 ≤ h0.size) (V_o0 : Arv Z h0 o0 o0_k .char o0_n (o0_xs.map Value.int) (.int 0)) (ln_o0 : o0_xs.length = o0_n.toNatClampNeg) (V_o2 : Arv Z h0 o2 o2_k .byte o2_n (o2_xs.map Value.int) (.int 0)) (ln_o2 : o2_xs.length = o2_n.toNatClampNeg) (g_o2 : n0 ≤ o2) (ne_o0_o2 : o0 ≠ o2) (hE : own_E v1 v3 v4 o0_n o2_n) :
    MetFree l (⟨"java/lang/StringUTF16", "compress", "([CI[BII)I"⟩ : MethodName) (head1 (Jvm.Cond.code (⟨"java/lang/StringUTF16", "compress", "([CI[BII)I"⟩ : MethodName) jdk_52_method_21_code 7 (some .int) :: ws) R10) (fun a U => a = #[(.ref o0), (.int v1), (.ref o2), (.int v3), (.int v4)] ∧ Z.Warmed39 U.vm ∧ U.heap = h0) (fun _ _ _ _ _ => True) (fun _ U o U' => ∃ v L, o = .returned v ∧ (Q10 Z o2 o2_k o2_n h0 n0 (f10_0 v1 v3 v4 o0_n o0_xs o2_n o2_xs)) v U'.heap L ∧ FrameEnd U o U' L R10.cells R10.slots) := by
  refine MetFree.of_bodySF (plainFor_of_name pn_10) hisR ?_
  intro p e s m args below meth c s₁ Bd hml0 hP hK
  obtain ⟨rfl, hZ, hh⟩ := hP
  have B : Ctx p Z s a0 m meth c "java/lang/StringUTF16" "compress" jdk_52_method_21_code 7 (some .int) := ⟨Bd.exec, hZ, hw, Bd.bytes, hml0, Bd.returns, findClass_of_methodNamed Bd.named, (name_of_methodNamed Bd.named Bd.method).1, Bd.notSynchronized⟩
  have X0 : Stand p l e R10 s m #[(.ref o0), (.int v1), (.ref o2), (.int v3), (.int v4)] below meth c s₁ [] 0 0 := Stand.of_body Bd
  have e0 : s₁.heap = h0 := by rw [← hh, Bd.state]; rfl
  have K := Keep.refl h0 [o2]
  show EndsIn p e below s R10.cells R10.slots (Q10 Z o2 o2_k o2_n h0 n0 (f10_0 v1 v3 v4 o0_n o0_xs o2_n o2_xs)) (s₁.setTop (entryFrame m #[(.ref o0), (.int v1), (.ref o2), (.int v3), (.int v4)] 7))
  refine EndsIn.by (fun t k => castTop (ef_10 m o0 v1 o2 v3 v4) k) ?_
  exact b10_0 B h0 n0 o0 v1 o2 v3 v4 o0_k o0_n o0_xs o2_k o2_n o2_xs X0 e0 (Fr.nil n0) Z0 K V_o0 ln_o0 V_o2 ln_o2 g_o2 ne_o0_o2 hE _ rfl
theorem pd_1 : parseMethodDescriptor "([CI[BII)I" = some ⟨[(.array .char), .int, (.array .byte), .int, .int], some .int⟩ := by decide +kernel
theorem d14_0 : decode jdk_52_method_3_code 0 = .ok (.iload_n 0, 1) := by decide +kernel
theorem d14_1 : decode jdk_52_method_3_code 1 = .ok (.ifCond .ge 11, 3) := by decide +kernel
theorem d14_12 : decode jdk_52_method_3_code 12 = .ok (.iload_n 0, 1) := by decide +kernel
theorem d14_13 : decode jdk_52_method_3_code 13 = .ok (.ldc 20, 2) := by decide +kernel
theorem d14_15 : decode jdk_52_method_3_code 15 = .ok (.if_icmp .lt 40, 3) := by decide +kernel
theorem d14_55 : decode jdk_52_method_3_code 55 = .ok (.iload_n 0, 1) := by decide +kernel
theorem d14_56 : decode jdk_52_method_3_code 56 = .ok (.iconst 1, 1) := by decide +kernel
theorem d14_57 : decode jdk_52_method_3_code 57 = .ok (.ishl, 1) := by decide +kernel
theorem d14_58 : decode jdk_52_method_3_code 58 = .ok (.ireturn, 1) := by decide +kernel
theorem pn_14 : plainName "java/lang/StringUTF16" = true := by first | (simp [plainName, overriddenIn]; done) | decide +kernel
def R14 : Room := { frames := 0, cells := 0, slots := 0, locals := 0 }
def Q14 (Z : State)  (h0 : Heap) (n0 : Nat) (r : Int32) (v : Option Value) (h : Heap) (L : List Loc) : Prop := v = some (.int r) ∧ Fr n0 L ∧ h = h0
def f14_0 (v0 : Int32) : Int32 := (v0 <<< ((1 : Int32) &&& 31))
set_option maxRecDepth 65536 in
set_option maxHeartbeats 40000000 in
theorem b14_0 {p : Program} {l : Launch} {e : Env} {s : State} {m : MethodId} {args : Array Value} {below : List Frame} {meth : Method} {c : Code} {Z : State} {a0 : Array Value} (B : Ctx p Z s a0 m meth c "java/lang/StringUTF16" "newBytesLength" jdk_52_method_3_code 1 (some .int)) {T0 : State} {locs : List Loc} {h : Heap} (h0 : Heap) (n0 : Nat) (v0 : Int32) (X0 : Stand p l e R14 s m args below meth c T0 locs 0 0) (e0 : T0.heap = h) (N0 : Fr n0 locs) (Z0 : n0 ≤ h.size) (hh0 : h = h0) (hn : own_L v0) (r : Int32) (hr : f14_0 v0 = r) :
    EndsIn p e below s R14.cells R14.slots (Q14 Z  h0 n0 r) (T0.setTop (mkF m 0 #[.val (.int v0)] [])) := by
  obtain ⟨hx, hZ, hw, hby, hml, hret, hown, hnm, hlk⟩ := B
  unfold f14_0 at hr
  refine EndsIn.by (B := T0.setTop (mkF m 1 #[.val (.int v0)] [(.int v0)])) (fun t k => ?_) ?_
  · show Steps p.tables e below (T0.setTop (mkF m 0 #[.val (.int v0)] [])) _
    refine XS.iloadN X0.here hx rfl (hb hby d14_0) rfl  ?_
    exact k
  have hc1 : ¬ (v0 < (0 : Int32)) := own_l0 hn
  refine EndsIn.by (B := T0.setTop (mkF m 12 #[.val (.int v0)] [])) (fun t k => ?_) ?_
  · show Steps p.tables e below (T0.setTop (mkF m 1 #[.val (.int v0)] [(.int v0)])) _
    exact XS.ifYes X0.here hx rfl (pc0 := 1) (pc' := 12) rfl (hb hby d14_1) rfl ((if0 _ _).trans (flt hc1).2.1) (by decide) (by decide) k
  refine EndsIn.by (B := T0.setTop (mkF m 15 #[.val (.int v0)] [(.int (1073741823 : Int32)), (.int v0)])) (fun t k => ?_) ?_
  · show Steps p.tables e below (T0.setTop (mkF m 12 #[.val (.int v0)] [])) _
    refine XS.iloadN X0.here hx rfl (hb hby d14_12) rfl  ?_
    show Steps p.tables e below (T0.setTop (mkF m 13 #[.val (.int v0)] [(.int v0)])) _
    refine X0.ldcInt hx hown (mvT hZ (hw _ (List.mem_of_getElem? (i := 71) rfl))) (g := (mkF m 13 #[.val (.int v0)] [(.int v0)])) rfl (hb hby d14_13) _ ?_
    exact k
  have hc15 : v0 < (1073741823 : Int32) := own_l1 hn
  refine EndsIn.by (B := T0.setTop (mkF m 55 #[.val (.int v0)] [])) (fun t k => ?_) ?_
  · show Steps p.tables e below (T0.setTop (mkF m 15 #[.val (.int v0)] [(.int (1073741823 : Int32)), (.int v0)])) _
    exact XS.icmpYes X0.here hx rfl (pc0 := 15) (pc' := 55) rfl (hb hby d14_15) rfl (tlt hc15).1 (by decide) (by decide) k
  refine EndsIn.by (B := T0.setTop (mkF m 58 #[.val (.int v0)] [(.int (v0 <<< ((1 : Int32) &&& 31)))])) (fun t k => ?_) ?_
  · show Steps p.tables e below (T0.setTop (mkF m 55 #[.val (.int v0)] [])) _
    refine XS.iloadN X0.here hx rfl (hb hby d14_55) rfl  ?_
    show Steps p.tables e below (T0.setTop (mkF m 56 #[.val (.int v0)] [(.int v0)])) _
    refine XS.iconst X0.here hx rfl (hb hby d14_56) ?_
    show Steps p.tables e below (T0.setTop (mkF m 57 #[.val (.int v0)] [(.int (1 : Int32)), (.int v0)])) _
    refine XS.ishl X0.here hx rfl (hb hby d14_57) rfl ?_
    exact k
  subst hr
  exact own_retI X0 hx hlk hret (hb hby d14_58) (by decide) (by decide) ⟨rfl, N0, (e0.trans hh0)⟩
theorem ef_14 (m : MethodId) (v0 : Int32) : entryFrame m #[(.int v0)] 1 = (mkF m 0 #[.val (.int v0)] []) := by first | (simp [entryFrame, mkF, argsToLocals, Value.category]; done) | rfl
set_option maxRecDepth 65536 in
set_option maxHeartbeats 40000000 in
theorem rm14 (l : Launch) (Z : State) (a0 : Array Value) (hw : ∀ d ∈ tables_1, d.before a0 Z = true) (ws : List Jvm.Cond) (v0 : Int32) (h0 : Heap) (n0 : Nat) (Z0 : n0 ≤ h0.size) (hn : own_L v0) :
    MetFree l (⟨"java/lang/StringUTF16", "newBytesLength", "(I)I"⟩ : MethodName) (head1 (Jvm.Cond.code (⟨"java/lang/StringUTF16", "newBytesLength", "(I)I"⟩ : MethodName) jdk_52_method_3_code 1 (some .int) :: ws) R14) (fun a U => a = #[(.int v0)] ∧ Z.Warmed39 U.vm ∧ U.heap = h0) (fun _ _ _ _ _ => True) (fun _ U o U' => ∃ v L, o = .returned v ∧ (Q14 Z  h0 n0 (f14_0 v0)) v U'.heap L ∧ FrameEnd U o U' L R14.cells R14.slots) := by
  refine MetFree.of_bodySF (plainFor_of_name pn_14) hisR ?_
  intro p e s m args below meth c s₁ Bd hml0 hP hK
  obtain ⟨rfl, hZ, hh⟩ := hP
  have B : Ctx p Z s a0 m meth c "java/lang/StringUTF16" "newBytesLength" jdk_52_method_3_code 1 (some .int) := ⟨Bd.exec, hZ, hw, Bd.bytes, hml0, Bd.returns, findClass_of_methodNamed Bd.named, (name_of_methodNamed Bd.named Bd.method).1, Bd.notSynchronized⟩
  have X0 : Stand p l e R14 s m #[(.int v0)] below meth c s₁ [] 0 0 := Stand.of_body Bd
  have e0 : s₁.heap = h0 := by rw [← hh, Bd.state]; rfl
  have K := Keep.refl h0 []
  show EndsIn p e below s R14.cells R14.slots (Q14 Z  h0 n0 (f14_0 v0)) (s₁.setTop (entryFrame m #[(.int v0)] 1))
  refine EndsIn.by (fun t k => castTop (ef_14 m v0) k) ?_
  exact b14_0 B h0 n0 v0 X0 e0 (Fr.nil n0) Z0 rfl hn _ rfl
theorem pd_2 : parseMethodDescriptor "(I)I" = some ⟨[.int], some .int⟩ := by decide +kernel

theorem own_14 {n : Int32} (h : own_L n) : (f14_0 n).toInt = 2 * n.toInt := own_shl (by have := h.1; have := h.2; omega)
theorem own_14a {n : Int32} (h : own_L n) : ¬ ((f14_0 n) < 0) := by
  have e := own_14 h; exact own_nlt (by rw [own_c0]; have := h.1; omega)
theorem own_14b {n : Int32} (h : own_L n) : (f14_0 n).toNatClampNeg ≤ 2000 := by
  have e := own_14 h; have h1 := h.1; have h2 := h.2; have := own_natp (a := f14_0 n) (by omega); omega

theorem d13_0 : decode jdk_52_method_2_code 0 = .ok (.iload_n 0, 1) := by decide +kernel
theorem d13_1 : decode jdk_52_method_2_code 1 = .ok (.invokestatic 11, 3) := by decide +kernel
theorem d13_4 : decode jdk_52_method_2_code 4 = .ok (.newarray .byte, 2) := by decide +kernel
theorem d13_6 : decode jdk_52_method_2_code 6 = .ok (.areturn, 1) := by decide +kernel
theorem pn_13 : plainName "java/lang/StringUTF16" = true := by first | (simp [plainName, overriddenIn]; done) | decide +kernel
def R13 : Room := { frames := 1, cells := 1, slots := 2000, locals := 12 }
def Q13 (Z : State)  (h0 : Heap) (n0 : Nat) (r : Int32 × List Int32) (v : Option Value) (h : Heap) (L : List Loc) : Prop := ∃ (b : Addr) (kb : ClassId), v = some (.ref b) ∧ Fr n0 L ∧ n0 ≤ b ∧ h0.size ≤ b ∧ Keep h0 h [] ∧ Arv Z h b kb .byte r.1 (r.2.map Value.int) (.int 0) ∧ r.2.length = r.1.toNatClampNeg
def f13_0 (v0 : Int32) : Int32 × List Int32 := ((f14_0 v0), (List.replicate (f14_0 v0).toNatClampNeg (0 : Int32)))
set_option maxRecDepth 65536 in
set_option maxHeartbeats 40000000 in
theorem b13_0 {p : Program} {l : Launch} {e : Env} {s : State} {m : MethodId} {args : Array Value} {below : List Frame} {meth : Method} {c : Code} {Z : State} {a0 : Array Value} (B : Ctx p Z s a0 m meth c "java/lang/StringUTF16" "newBytesFor" jdk_52_method_2_code 1 (some (.array .byte))) {T0 : State} {locs : List Loc} {h : Heap} (h0 : Heap) (n0 : Nat) (v0 : Int32) (X0 : Stand p l e R13 s m args below meth c T0 locs 0 0) (e0 : T0.heap = h) (N0 : Fr n0 locs) (Z0 : n0 ≤ h.size) (K : Keep h0 h []) (hn : own_L v0) (r : Int32 × List Int32) (hr : f13_0 v0 = r) :
    EndsIn p e below s R13.cells R13.slots (Q13 Z  h0 n0 r) (T0.setTop (mkF m 0 #[.val (.int v0)] [])) := by
  obtain ⟨hx, hZ, hw, hby, hml, hret, hown, hnm, hlk⟩ := B
  unfold f13_0 at hr
  refine EndsIn.by (B := T0.setTop (mkF m 1 #[.val (.int v0)] [(.int v0)])) (fun t k => ?_) ?_
  · show Steps p.tables e below (T0.setTop (mkF m 0 #[.val (.int v0)] [])) _
    refine XS.iloadN X0.here hx rfl (hb hby d13_0) rfl  ?_
    exact k
  have hp1_hn : own_L v0 := hn
  -- pc 1: java/lang/StringUTF16.newBytesLength
  obtain ⟨_, _, ⟨T1, L1, k1, n1⟩, -, X1, ⟨Lc1, hQ1, l1, y1, z1⟩, st1⟩ := Jvm.LawKit.callS X0 hx (y := (⟨"java/lang/StringUTF16", "newBytesLength", "(I)I"⟩ : MethodName)) hown (mvT hZ (hw _ (List.mem_of_getElem? (i := 68) rfl))) (mvT hZ (hw _ (List.mem_of_getElem? (i := 69) rfl))) (mvT hZ (hw _ (List.mem_of_getElem? (i := 54) rfl))) (mvT hZ (hw _ (List.mem_of_getElem? (i := 70) rfl))) (by decide) (backOf (W := 0) (rm14 l Z a0 hw [] v0 h n0 Z0 hp1_hn) hZ (hw _ (List.mem_of_getElem? (i := 70) rfl)) (hw _ (List.mem_of_getElem? (i := 54) rfl)) (by decide) (by decide)) (g := (mkF m 1 #[.val (.int v0)] [(.int v0)])) rfl (by rw [hml]; rfl) (argsL := [(.int v0)]) (rest := []) (lenOf pd_2 rfl) rfl (by show 2 * 0 + _ ≤ _; exact Nat.le_of_eq rfl) (hb hby d13_1) (fun _ _ => ⟨rfl, e0, (by decide : 0 + R14.cells ≤ _), (by decide : 0 + R14.slots ≤ _)⟩)
  dsimp only [Pt.U, Pt.locs, Pt.cells, Pt.slots] at X1 l1 y1 z1 st1 hQ1
  subst l1 y1 z1
  obtain ⟨rfl, Nq1, e1⟩ := hQ1
  have N1 := Fr.app N0 Nq1
  refine EndsIn.by (B := T1.setTop (mkF m 4 #[.val (.int v0)] [(.int (f14_0 v0))])) (fun t k => st1 t k) ?_
  obtain ⟨T2, h2, k2, X2, e2, X2e, A2, st2⟩ := newP X1 hx hZ (hw _ (List.mem_of_getElem? (i := 22) rfl)) e1 (g := (mkF m 4 #[.val (.int v0)] [(.int (f14_0 v0))])) rfl (hb hby d13_4) rfl (own_14a hn) (cap := 2000) (own_14b hn) (by decide) (by decide) (by decide)
  obtain ⟨b4, g2⟩ : ∃ z, z = h.size := ⟨_, rfl⟩
  rw [← g2] at A2 st2
  have g_b4 : n0 ≤ b4 := Nat.le_trans Z0 (Nat.le_of_eq g2.symm)
  have sz_b4 : h0.size ≤ b4 := Nat.le_trans K.1 (Nat.le_of_eq g2.symm)
  have Z2 : n0 ≤ h2.size := Nat.le_trans Z0 X2e.1
  have K2 := K.ext X2e
  obtain ⟨V_b4_2, ln_b4_2⟩ : Arv Z h2 b4 k2 .byte (f14_0 v0) ((List.replicate (f14_0 v0).toNatClampNeg (0 : Int32)).map Value.int) (.int 0) ∧ (List.replicate (f14_0 v0).toNatClampNeg (0 : Int32)).length = (f14_0 v0).toNatClampNeg := own_newI A2 rfl (own_14a hn) (xs := (List.replicate (f14_0 v0).toNatClampNeg (0 : Int32))) rfl
  refine EndsIn.by (B := T2.setTop (mkF m 6 #[.val (.int v0)] [(.ref b4)])) (fun t k => st2 t k) ?_
  subst hr
  exact own_retR X2 hx hlk hret rfl (hb hby d13_6) (by decide) (by decide) ⟨b4, k2, rfl, N1, g_b4, sz_b4, (by rw [e2]; exact K2), (by rw [e2]; exact V_b4_2), ln_b4_2⟩
theorem ef_13 (m : MethodId) (v0 : Int32) : entryFrame m #[(.int v0)] 1 = (mkF m 0 #[.val (.int v0)] []) := by first | (simp [entryFrame, mkF, argsToLocals, Value.category]; done) | rfl
set_option maxRecDepth 65536 in
set_option maxHeartbeats 40000000 in
theorem rm13 (l : Launch) (Z : State) (a0 : Array Value) (hw : ∀ d ∈ tables_1, d.before a0 Z = true) (ws : List Jvm.Cond) (v0 : Int32) (h0 : Heap) (n0 : Nat) (Z0 : n0 ≤ h0.size) (hn : own_L v0) :
    MetFree l (⟨"java/lang/StringUTF16", "newBytesFor", "(I)[B"⟩ : MethodName) (head1 (Jvm.Cond.code (⟨"java/lang/StringUTF16", "newBytesFor", "(I)[B"⟩ : MethodName) jdk_52_method_2_code 1 (some (.array .byte)) :: ws) R13) (fun a U => a = #[(.int v0)] ∧ Z.Warmed39 U.vm ∧ U.heap = h0) (fun _ _ _ _ _ => True) (fun _ U o U' => ∃ v L, o = .returned v ∧ (Q13 Z  h0 n0 (f13_0 v0)) v U'.heap L ∧ FrameEnd U o U' L R13.cells R13.slots) := by
  refine MetFree.of_bodySF (plainFor_of_name pn_13) hisR ?_
  intro p e s m args below meth c s₁ Bd hml0 hP hK
  obtain ⟨rfl, hZ, hh⟩ := hP
  have B : Ctx p Z s a0 m meth c "java/lang/StringUTF16" "newBytesFor" jdk_52_method_2_code 1 (some (.array .byte)) := ⟨Bd.exec, hZ, hw, Bd.bytes, hml0, Bd.returns, findClass_of_methodNamed Bd.named, (name_of_methodNamed Bd.named Bd.method).1, Bd.notSynchronized⟩
  have X0 : Stand p l e R13 s m #[(.int v0)] below meth c s₁ [] 0 0 := Stand.of_body Bd
  have e0 : s₁.heap = h0 := by rw [← hh, Bd.state]; rfl
  have K := Keep.refl h0 []
  show EndsIn p e below s R13.cells R13.slots (Q13 Z  h0 n0 (f13_0 v0)) (s₁.setTop (entryFrame m #[(.int v0)] 1))
  refine EndsIn.by (fun t k => castTop (ef_13 m v0) k) ?_
  exact b13_0 B h0 n0 v0 X0 e0 (Fr.nil n0) Z0 K hn _ rfl
theorem pd_3 : parseMethodDescriptor "(I)[B" = some ⟨[.int], some (.array .byte)⟩ := by decide +kernel
theorem d15_0 : decode jdk_52_method_4_code 0 = .ok (.getstatic 44, 3) := by decide +kernel
theorem d15_3 : decode jdk_52_method_4_code 3 = .ok (.ifCond .ne 25, 3) := by decide +kernel
theorem d15_28 : decode jdk_52_method_4_code 28 = .ok (.iload_n 1, 1) := by decide +kernel
theorem d15_29 : decode jdk_52_method_4_code 29 = .ok (.iconst 1, 1) := by decide +kernel
theorem d15_30 : decode jdk_52_method_4_code 30 = .ok (.ishl, 1) := by decide +kernel
theorem d15_31 : decode jdk_52_method_4_code 31 = .ok (.istore_n 1, 1) := by decide +kernel
theorem d15_32 : decode jdk_52_method_4_code 32 = .ok (.aload_n 0, 1) := by decide +kernel
theorem d15_33 : decode jdk_52_method_4_code 33 = .ok (.iload_n 1, 1) := by decide +kernel
theorem d15_34 : decode jdk_52_method_4_code 34 = .ok (.iinc 1 1, 3) := by decide +kernel
theorem d15_37 : decode jdk_52_method_4_code 37 = .ok (.iload_n 2, 1) := by decide +kernel
theorem d15_38 : decode jdk_52_method_4_code 38 = .ok (.getstatic 59, 3) := by decide +kernel
theorem d15_41 : decode jdk_52_method_4_code 41 = .ok (.ishr, 1) := by decide +kernel
theorem d15_42 : decode jdk_52_method_4_code 42 = .ok (.i2b, 1) := by decide +kernel
theorem d15_43 : decode jdk_52_method_4_code 43 = .ok (.bastore, 1) := by decide +kernel
theorem d15_44 : decode jdk_52_method_4_code 44 = .ok (.aload_n 0, 1) := by decide +kernel
theorem d15_45 : decode jdk_52_method_4_code 45 = .ok (.iload_n 1, 1) := by decide +kernel
theorem d15_46 : decode jdk_52_method_4_code 46 = .ok (.iload_n 2, 1) := by decide +kernel
theorem d15_47 : decode jdk_52_method_4_code 47 = .ok (.getstatic 63, 3) := by decide +kernel
theorem d15_50 : decode jdk_52_method_4_code 50 = .ok (.ishr, 1) := by decide +kernel
theorem d15_51 : decode jdk_52_method_4_code 51 = .ok (.i2b, 1) := by decide +kernel
theorem d15_52 : decode jdk_52_method_4_code 52 = .ok (.bastore, 1) := by decide +kernel
theorem d15_53 : decode jdk_52_method_4_code 53 = .ok (.return_, 1) := by decide +kernel
theorem pn_15 : plainName "java/lang/StringUTF16" = true := by first | (simp [plainName, overriddenIn]; done) | decide +kernel
def R15 : Room := { frames := 0, cells := 0, slots := 0, locals := 0 }
def Q15 (Z : State) (o0 : Addr) (o0_k : ClassId) (o0_n : Int32) (h0 : Heap) (n0 : Nat) (r : List Int32) (v : Option Value) (h : Heap) (L : List Loc) : Prop := v = none ∧ Fr n0 L ∧ Keep h0 h [o0] ∧ Arv Z h o0 o0_k .byte o0_n ((r).map Value.int) (.int 0) ∧ (r).length = o0_n.toNatClampNeg
def f15_0 (v1 : Int32) (v2 : Int32) (o0_n : Int32) (o0_xs : List Int32) : List Int32 := ((o0_xs.set ((v1 <<< ((1 : Int32) &&& 31))).toNatClampNeg (((v2 >>> ((0 : Int32) &&& 31)).toInt8.toInt32).toInt8.toInt32)).set (((v1 <<< ((1 : Int32) &&& 31)) + (1 : Int32))).toNatClampNeg (((v2 >>> ((8 : Int32) &&& 31)).toInt8.toInt32).toInt8.toInt32))
set_option maxRecDepth 65536 in
set_option maxHeartbeats 40000000 in
theorem b15_0 {p : Program} {l : Launch} {e : Env} {s : State} {m : MethodId} {args : Array Value} {below : List Frame} {meth : Method} {c : Code} {Z : State} {a0 : Array Value} (B : Ctx p Z s a0 m meth c "java/lang/StringUTF16" "putChar" jdk_52_method_4_code 3 none) {T0 : State} {locs : List Loc} {h : Heap} (h0 : Heap) (n0 : Nat) (o0 : Addr) (v1 : Int32) (v2 : Int32) (o0_k : ClassId) (o0_n : Int32) (o0_xs : List Int32) (X0 : Stand p l e R15 s m args below meth c T0 locs 0 0) (e0 : T0.heap = h) (N0 : Fr n0 locs) (Z0 : n0 ≤ h.size) (K : Keep h0 h [o0]) (V_o0 : Arv Z h o0 o0_k .byte o0_n (o0_xs.map Value.int) (.int 0)) (ln_o0 : o0_xs.length = o0_n.toNatClampNeg) (g_o0 : n0 ≤ o0) (O : Old Z n0 h) (S_as : Sta Z Z.heap "java/lang/StringUTF16" "$assertionsDisabled" "Z" (.int (1 : Int32))) (S_hi : Sta Z Z.heap "java/lang/StringUTF16" "HI_BYTE_SHIFT" "I" (.int (0 : Int32))) (S_lo : Sta Z Z.heap "java/lang/StringUTF16" "LO_BYTE_SHIFT" "I" (.int (8 : Int32))) (hg : own_gc v1 o0_n) (r : List Int32) (hr : f15_0 v1 v2 o0_n o0_xs = r) :
    EndsIn p e below s R15.cells R15.slots (Q15 Z o0 o0_k o0_n h0 n0 r) (T0.setTop (mkF m 0 #[.val (.ref o0), .val (.int v1), .val (.int v2)] [])) := by
  obtain ⟨hx, hZ, hw, hby, hml, hret, hown, hnm, hlk⟩ := B
  unfold f15_0 at hr
  obtain ⟨T1, X1, e1, st1⟩ := getS2 X0 hx hZ hown (host := "") (Or.inl (hw _ (List.mem_of_getElem? (i := 75) rfl))) Via.refl e0 (S_as.ext O.2) (g := (mkF m 0 #[.val (.ref o0), .val (.int v1), .val (.int v2)] [])) rfl (hb hby d15_0)
  refine EndsIn.by (B := T1.setTop (mkF m 3 #[.val (.ref o0), .val (.int v1), .val (.int v2)] [(.int (1 : Int32))])) (fun t k => st1 t k) ?_
  have hc3 : ¬ ((1 : Int32) = (0 : Int32)) := by decide
  refine EndsIn.by (B := T1.setTop (mkF m 28 #[.val (.ref o0), .val (.int v1), .val (.int v2)] [])) (fun t k => ?_) ?_
  · show Steps p.tables e below (T1.setTop (mkF m 3 #[.val (.ref o0), .val (.int v1), .val (.int v2)] [(.int (1 : Int32))])) _
    exact XS.ifYes X1.here hx rfl (pc0 := 3) (pc' := 28) rfl (hb hby d15_3) rfl ((if0 _ _).trans (feq hc3).2) (by decide) (by decide) k
  refine EndsIn.by (B := T1.setTop (mkF m 38 #[.val (.ref o0), .val (.int ((v1 <<< ((1 : Int32) &&& 31)) + (1 : Int32))), .val (.int v2)] [(.int v2), (.int (v1 <<< ((1 : Int32) &&& 31))), (.ref o0)])) (fun t k => ?_) ?_
  · show Steps p.tables e below (T1.setTop (mkF m 28 #[.val (.ref o0), .val (.int v1), .val (.int v2)] [])) _
    refine XS.iloadN X1.here hx rfl (hb hby d15_28) rfl  ?_
    show Steps p.tables e below (T1.setTop (mkF m 29 #[.val (.ref o0), .val (.int v1), .val (.int v2)] [(.int v1)])) _
    refine XS.iconst X1.here hx rfl (hb hby d15_29) ?_
    show Steps p.tables e below (T1.setTop (mkF m 30 #[.val (.ref o0), .val (.int v1), .val (.int v2)] [(.int (1 : Int32)), (.int v1)])) _
    refine XS.ishl X1.here hx rfl (hb hby d15_30) rfl ?_
    show Steps p.tables e below (T1.setTop (mkF m 31 #[.val (.ref o0), .val (.int v1), .val (.int v2)] [(.int (v1 <<< ((1 : Int32) &&& 31)))])) _
    refine XS.istoreN X1.here hx rfl (hb hby d15_31) rfl (l' := #[.val (.ref o0), .val (.int (v1 <<< ((1 : Int32) &&& 31))), .val (.int v2)]) rfl ?_
    show Steps p.tables e below (T1.setTop (mkF m 32 #[.val (.ref o0), .val (.int (v1 <<< ((1 : Int32) &&& 31))), .val (.int v2)] [])) _
    refine XS.aloadN X1.here hx rfl (hb hby d15_32) rfl rfl ?_
    show Steps p.tables e below (T1.setTop (mkF m 33 #[.val (.ref o0), .val (.int (v1 <<< ((1 : Int32) &&& 31))), .val (.int v2)] [(.ref o0)])) _
    refine XS.iloadN X1.here hx rfl (hb hby d15_33) rfl  ?_
    show Steps p.tables e below (T1.setTop (mkF m 34 #[.val (.ref o0), .val (.int (v1 <<< ((1 : Int32) &&& 31))), .val (.int v2)] [(.int (v1 <<< ((1 : Int32) &&& 31))), (.ref o0)])) _
    refine XS.iinc X1.here hx rfl (hb hby d15_34) rfl (l' := #[.val (.ref o0), .val (.int ((v1 <<< ((1 : Int32) &&& 31)) + (1 : Int32))), .val (.int v2)]) rfl ?_
    show Steps p.tables e below (T1.setTop (mkF m 37 #[.val (.ref o0), .val (.int ((v1 <<< ((1 : Int32) &&& 31)) + (1 : Int32))), .val (.int v2)] [(.int (v1 <<< ((1 : Int32) &&& 31))), (.ref o0)])) _
    refine XS.iloadN X1.here hx rfl (hb hby d15_37) rfl  ?_
    exact k
  obtain ⟨T2, X2, e2, st2⟩ := getS2 X1 hx hZ hown (host := "") (Or.inl (hw _ (List.mem_of_getElem? (i := 76) rfl))) Via.refl e1 (S_hi.ext O.2) (g := (mkF m 38 #[.val (.ref o0), .val (.int ((v1 <<< ((1 : Int32) &&& 31)) + (1 : Int32))), .val (.int v2)] [(.int v2), (.int (v1 <<< ((1 : Int32) &&& 31))), (.ref o0)])) rfl (hb hby d15_38)
  refine EndsIn.by (B := T2.setTop (mkF m 41 #[.val (.ref o0), .val (.int ((v1 <<< ((1 : Int32) &&& 31)) + (1 : Int32))), .val (.int v2)] [(.int (0 : Int32)), (.int v2), (.int (v1 <<< ((1 : Int32) &&& 31))), (.ref o0)])) (fun t k => st2 t k) ?_
  refine EndsIn.by (B := T2.setTop (mkF m 43 #[.val (.ref o0), .val (.int ((v1 <<< ((1 : Int32) &&& 31)) + (1 : Int32))), .val (.int v2)] [(.int ((v2 >>> ((0 : Int32) &&& 31)).toInt8.toInt32)), (.int (v1 <<< ((1 : Int32) &&& 31))), (.ref o0)])) (fun t k => ?_) ?_
  · show Steps p.tables e below (T2.setTop (mkF m 41 #[.val (.ref o0), .val (.int ((v1 <<< ((1 : Int32) &&& 31)) + (1 : Int32))), .val (.int v2)] [(.int (0 : Int32)), (.int v2), (.int (v1 <<< ((1 : Int32) &&& 31))), (.ref o0)])) _
    refine XS.ishr X2.here hx rfl (hb hby d15_41) rfl ?_
    show Steps p.tables e below (T2.setTop (mkF m 42 #[.val (.ref o0), .val (.int ((v1 <<< ((1 : Int32) &&& 31)) + (1 : Int32))), .val (.int v2)] [(.int (v2 >>> ((0 : Int32) &&& 31))), (.int (v1 <<< ((1 : Int32) &&& 31))), (.ref o0)])) _
    refine XS.i2b X2.here hx rfl (hb hby d15_42) rfl ?_
    exact k
  have hin3 : ¬ ((v1 <<< ((1 : Int32) &&& 31)) < 0) ∧ (v1 <<< ((1 : Int32) &&& 31)) < o0_n := ⟨hg.1, hg.2.1⟩
  obtain ⟨cl3, Ar3, hi3, q3⟩ := own_open V_o0 hin3
  obtain ⟨T3, h3, X3, e3, W3, st3⟩ := stB X2 hx hZ e2 Ar3 (j := (v1 <<< ((1 : Int32) &&& 31))) hi3 (g := (mkF m 43 #[.val (.ref o0), .val (.int ((v1 <<< ((1 : Int32) &&& 31)) + (1 : Int32))), .val (.int v2)] [(.int ((v2 >>> ((0 : Int32) &&& 31)).toInt8.toInt32)), (.int (v1 <<< ((1 : Int32) &&& 31))), (.ref o0)])) rfl rfl (hb hby d15_43)
  obtain ⟨V_o0_3, ln_o0_3⟩ : Arv Z h3 o0 o0_k .byte o0_n ((o0_xs.set ((v1 <<< ((1 : Int32) &&& 31))).toNatClampNeg (((v2 >>> ((0 : Int32) &&& 31)).toInt8.toInt32).toInt8.toInt32)).map Value.int) (.int 0) ∧ (o0_xs.set ((v1 <<< ((1 : Int32) &&& 31))).toNatClampNeg (((v2 >>> ((0 : Int32) &&& 31)).toInt8.toInt32).toInt8.toInt32)).length = o0_n.toNatClampNeg := own_setI V_o0 ln_o0 hin3 W3 (fits_nar_byte _) ((v1 <<< ((1 : Int32) &&& 31))).toNatClampNeg rfl
  have N3 := Fr.snoc X3 N0 g_o0
  have Z3 : n0 ≤ h3.size := Nat.le_trans Z0 (Nat.le_of_eq W3.size.symm)
  have K3 := K.wr W3 (Or.inl (by simp))
  have O3 := O.wr W3 g_o0
  refine EndsIn.by (B := T3.setTop (mkF m 44 #[.val (.ref o0), .val (.int ((v1 <<< ((1 : Int32) &&& 31)) + (1 : Int32))), .val (.int v2)] [])) (fun t k => st3 t k) ?_
  refine EndsIn.by (B := T3.setTop (mkF m 47 #[.val (.ref o0), .val (.int ((v1 <<< ((1 : Int32) &&& 31)) + (1 : Int32))), .val (.int v2)] [(.int v2), (.int ((v1 <<< ((1 : Int32) &&& 31)) + (1 : Int32))), (.ref o0)])) (fun t k => ?_) ?_
  · show Steps p.tables e below (T3.setTop (mkF m 44 #[.val (.ref o0), .val (.int ((v1 <<< ((1 : Int32) &&& 31)) + (1 : Int32))), .val (.int v2)] [])) _
    refine XS.aloadN X3.here hx rfl (hb hby d15_44) rfl rfl ?_
    show Steps p.tables e below (T3.setTop (mkF m 45 #[.val (.ref o0), .val (.int ((v1 <<< ((1 : Int32) &&& 31)) + (1 : Int32))), .val (.int v2)] [(.ref o0)])) _
    refine XS.iloadN X3.here hx rfl (hb hby d15_45) rfl  ?_
    show Steps p.tables e below (T3.setTop (mkF m 46 #[.val (.ref o0), .val (.int ((v1 <<< ((1 : Int32) &&& 31)) + (1 : Int32))), .val (.int v2)] [(.int ((v1 <<< ((1 : Int32) &&& 31)) + (1 : Int32))), (.ref o0)])) _
    refine XS.iloadN X3.here hx rfl (hb hby d15_46) rfl  ?_
    exact k
  obtain ⟨T4, X4, e4, st4⟩ := getS2 X3 hx hZ hown (host := "") (Or.inl (hw _ (List.mem_of_getElem? (i := 77) rfl))) Via.refl e3 (S_lo.ext O3.2) (g := (mkF m 47 #[.val (.ref o0), .val (.int ((v1 <<< ((1 : Int32) &&& 31)) + (1 : Int32))), .val (.int v2)] [(.int v2), (.int ((v1 <<< ((1 : Int32) &&& 31)) + (1 : Int32))), (.ref o0)])) rfl (hb hby d15_47)
  refine EndsIn.by (B := T4.setTop (mkF m 50 #[.val (.ref o0), .val (.int ((v1 <<< ((1 : Int32) &&& 31)) + (1 : Int32))), .val (.int v2)] [(.int (8 : Int32)), (.int v2), (.int ((v1 <<< ((1 : Int32) &&& 31)) + (1 : Int32))), (.ref o0)])) (fun t k => st4 t k) ?_
  refine EndsIn.by (B := T4.setTop (mkF m 52 #[.val (.ref o0), .val (.int ((v1 <<< ((1 : Int32) &&& 31)) + (1 : Int32))), .val (.int v2)] [(.int ((v2 >>> ((8 : Int32) &&& 31)).toInt8.toInt32)), (.int ((v1 <<< ((1 : Int32) &&& 31)) + (1 : Int32))), (.ref o0)])) (fun t k => ?_) ?_
  · show Steps p.tables e below (T4.setTop (mkF m 50 #[.val (.ref o0), .val (.int ((v1 <<< ((1 : Int32) &&& 31)) + (1 : Int32))), .val (.int v2)] [(.int (8 : Int32)), (.int v2), (.int ((v1 <<< ((1 : Int32) &&& 31)) + (1 : Int32))), (.ref o0)])) _
    refine XS.ishr X4.here hx rfl (hb hby d15_50) rfl ?_
    show Steps p.tables e below (T4.setTop (mkF m 51 #[.val (.ref o0), .val (.int ((v1 <<< ((1 : Int32) &&& 31)) + (1 : Int32))), .val (.int v2)] [(.int (v2 >>> ((8 : Int32) &&& 31))), (.int ((v1 <<< ((1 : Int32) &&& 31)) + (1 : Int32))), (.ref o0)])) _
    refine XS.i2b X4.here hx rfl (hb hby d15_51) rfl ?_
    exact k
  have hin5 : ¬ (((v1 <<< ((1 : Int32) &&& 31)) + (1 : Int32)) < 0) ∧ ((v1 <<< ((1 : Int32) &&& 31)) + (1 : Int32)) < o0_n := hg.2.2
  obtain ⟨cl5, Ar5, hi5, q5⟩ := own_open V_o0_3 hin5
  obtain ⟨T5, h5, X5, e5, W5, st5⟩ := stB X4 hx hZ e4 Ar5 (j := ((v1 <<< ((1 : Int32) &&& 31)) + (1 : Int32))) hi5 (g := (mkF m 52 #[.val (.ref o0), .val (.int ((v1 <<< ((1 : Int32) &&& 31)) + (1 : Int32))), .val (.int v2)] [(.int ((v2 >>> ((8 : Int32) &&& 31)).toInt8.toInt32)), (.int ((v1 <<< ((1 : Int32) &&& 31)) + (1 : Int32))), (.ref o0)])) rfl rfl (hb hby d15_52)
  obtain ⟨V_o0_5, ln_o0_5⟩ : Arv Z h5 o0 o0_k .byte o0_n (((o0_xs.set ((v1 <<< ((1 : Int32) &&& 31))).toNatClampNeg (((v2 >>> ((0 : Int32) &&& 31)).toInt8.toInt32).toInt8.toInt32)).set (((v1 <<< ((1 : Int32) &&& 31)) + (1 : Int32))).toNatClampNeg (((v2 >>> ((8 : Int32) &&& 31)).toInt8.toInt32).toInt8.toInt32)).map Value.int) (.int 0) ∧ ((o0_xs.set ((v1 <<< ((1 : Int32) &&& 31))).toNatClampNeg (((v2 >>> ((0 : Int32) &&& 31)).toInt8.toInt32).toInt8.toInt32)).set (((v1 <<< ((1 : Int32) &&& 31)) + (1 : Int32))).toNatClampNeg (((v2 >>> ((8 : Int32) &&& 31)).toInt8.toInt32).toInt8.toInt32)).length = o0_n.toNatClampNeg := own_setI V_o0_3 ln_o0_3 hin5 W5 (fits_nar_byte _) (((v1 <<< ((1 : Int32) &&& 31)) + (1 : Int32))).toNatClampNeg rfl
  have N5 := Fr.snoc X5 N3 g_o0
  have Z5 : n0 ≤ h5.size := Nat.le_trans Z3 (Nat.le_of_eq W5.size.symm)
  have K5 := K3.wr W5 (Or.inl (by simp))
  have O5 := O3.wr W5 g_o0
  refine EndsIn.by (B := T5.setTop (mkF m 53 #[.val (.ref o0), .val (.int ((v1 <<< ((1 : Int32) &&& 31)) + (1 : Int32))), .val (.int v2)] [])) (fun t k => st5 t k) ?_
  subst hr
  exact own_ret0 X5 hx hlk hret (hb hby d15_53) (by decide) (by decide) ⟨rfl, N5, (by rw [e5]; exact K5), (by rw [e5]; exact V_o0_5), ln_o0_5⟩
theorem ef_15 (m : MethodId) (o0 : Addr) (v1 : Int32) (v2 : Int32) : entryFrame m #[(.ref o0), (.int v1), (.int v2)] 3 = (mkF m 0 #[.val (.ref o0), .val (.int v1), .val (.int v2)] []) := by first | (simp [entryFrame, mkF, argsToLocals, Value.category]; done) | rfl
set_option maxRecDepth 65536 in
set_option maxHeartbeats 40000000 in
theorem rm15 (l : Launch) (Z : State) (a0 : Array Value) (hw : ∀ d ∈ tables_1, d.before a0 Z = true) (ws : List Jvm.Cond) (o0 : Addr) (v1 : Int32) (v2 : Int32) (o0_k : ClassId) (o0_n : Int32) (o0_xs : List Int32) (h0 : Heap) (n0 : Nat) (Z0 : n0 ≤ h0.size) (V_o0 : Arv Z h0 o0 o0_k .byte o0_n (o0_xs.map Value.int) (.int 0)) (ln_o0 : o0_xs.length = o0_n.toNatClampNeg) (g_o0 : n0 ≤ o0) (O : Old Z n0 h0) (S_as : Sta Z Z.heap "java/lang/StringUTF16" "$assertionsDisabled" "Z" (.int (1 : Int32))) (S_hi : Sta Z Z.heap "java/lang/StringUTF16" "HI_BYTE_SHIFT" "I" (.int (0 : Int32))) (S_lo : Sta Z Z.heap "java/lang/StringUTF16" "LO_BYTE_SHIFT" "I" (.int (8 : Int32))) (hg : own_gc v1 o0_n) :
    MetFree l (⟨"java/lang/StringUTF16", "putChar", "([BII)V"⟩ : MethodName) (head1 (Jvm.Cond.code (⟨"java/lang/StringUTF16", "putChar", "([BII)V"⟩ : MethodName) jdk_52_method_4_code 3 none :: ws) R15) (fun a U => a = #[(.ref o0), (.int v1), (.int v2)] ∧ Z.Warmed39 U.vm ∧ U.heap = h0) (fun _ _ _ _ _ => True) (fun _ U o U' => ∃ v L, o = .returned v ∧ (Q15 Z o0 o0_k o0_n h0 n0 (f15_0 v1 v2 o0_n o0_xs)) v U'.heap L ∧ FrameEnd U o U' L R15.cells R15.slots) := by
  refine MetFree.of_bodySF (plainFor_of_name pn_15) hisR ?_
  intro p e s m args below meth c s₁ Bd hml0 hP hK
  obtain ⟨rfl, hZ, hh⟩ := hP
  have B : Ctx p Z s a0 m meth c "java/lang/StringUTF16" "putChar" jdk_52_method_4_code 3 none := ⟨Bd.exec, hZ, hw, Bd.bytes, hml0, Bd.returns, findClass_of_methodNamed Bd.named, (name_of_methodNamed Bd.named Bd.method).1, Bd.notSynchronized⟩
  have X0 : Stand p l e R15 s m #[(.ref o0), (.int v1), (.int v2)] below meth c s₁ [] 0 0 := Stand.of_body Bd
  have e0 : s₁.heap = h0 := by rw [← hh, Bd.state]; rfl
  have K := Keep.refl h0 [o0]
  show EndsIn p e below s R15.cells R15.slots (Q15 Z o0 o0_k o0_n h0 n0 (f15_0 v1 v2 o0_n o0_xs)) (s₁.setTop (entryFrame m #[(.ref o0), (.int v1), (.int v2)] 3))
  refine EndsIn.by (fun t k => castTop (ef_15 m o0 v1 v2) k) ?_
  exact b15_0 B h0 n0 o0 v1 v2 o0_k o0_n o0_xs X0 e0 (Fr.nil n0) Z0 K V_o0 ln_o0 g_o0 O S_as S_hi S_lo hg _ rfl
theorem pd_4 : parseMethodDescriptor "([BII)V" = some ⟨[(.array .byte), .int, .int], none⟩ := by decide +kernel

theorem own_J0 {v1 v2 n : Int32} (h : own_T v1 v2 n) : own_J v1 v2 0 n (f13_0 v2).1 := ⟨h.1, Int.le_refl _, h.2.1, h.2.2.1, h.2.2.2, own_14 (own_Tn h)⟩

theorem d12_0 : decode jdk_52_method_14_code 0 = .ok (.iload_n 2, 1) := by decide +kernel
theorem d12_1 : decode jdk_52_method_14_code 1 = .ok (.invokestatic 107, 3) := by decide +kernel
theorem d12_4 : decode jdk_52_method_14_code 4 = .ok (.astore_n 3, 1) := by decide +kernel
theorem d12_5 : decode jdk_52_method_14_code 5 = .ok (.iconst 0, 1) := by decide +kernel
theorem d12_6 : decode jdk_52_method_14_code 6 = .ok (.istore 4, 2) := by decide +kernel
theorem d12_8 : decode jdk_52_method_14_code 8 = .ok (.iload 4, 2) := by decide +kernel
theorem d12_10 : decode jdk_52_method_14_code 10 = .ok (.iload_n 2, 1) := by decide +kernel
theorem d12_11 : decode jdk_52_method_14_code 11 = .ok (.if_icmp .ge 21, 3) := by decide +kernel
theorem d12_14 : decode jdk_52_method_14_code 14 = .ok (.aload_n 3, 1) := by decide +kernel
theorem d12_15 : decode jdk_52_method_14_code 15 = .ok (.iload 4, 2) := by decide +kernel
theorem d12_17 : decode jdk_52_method_14_code 17 = .ok (.aload_n 0, 1) := by decide +kernel
theorem d12_18 : decode jdk_52_method_14_code 18 = .ok (.iload_n 1, 1) := by decide +kernel
theorem d12_19 : decode jdk_52_method_14_code 19 = .ok (.caload, 1) := by decide +kernel
theorem d12_20 : decode jdk_52_method_14_code 20 = .ok (.invokestatic 111, 3) := by decide +kernel
theorem d12_23 : decode jdk_52_method_14_code 23 = .ok (.iinc 1 1, 3) := by decide +kernel
theorem d12_26 : decode jdk_52_method_14_code 26 = .ok (.iinc 4 1, 3) := by decide +kernel
theorem d12_29 : decode jdk_52_method_14_code 29 = .ok (.goto (-21), 3) := by decide +kernel
theorem d12_32 : decode jdk_52_method_14_code 32 = .ok (.aload_n 3, 1) := by decide +kernel
theorem d12_33 : decode jdk_52_method_14_code 33 = .ok (.areturn, 1) := by decide +kernel
theorem pn_12 : plainName "java/lang/StringUTF16" = true := by first | (simp [plainName, overriddenIn]; done) | decide +kernel
def R12 : Room := { frames := 2, cells := 1, slots := 2000, locals := 24 }
def Q12 (Z : State)  (h0 : Heap) (n0 : Nat) (r : Int32 × List Int32) (v : Option Value) (h : Heap) (L : List Loc) : Prop := ∃ (b : Addr) (kb : ClassId), v = some (.ref b) ∧ Fr n0 L ∧ n0 ≤ b ∧ h0.size ≤ b ∧ Keep h0 h [] ∧ Arv Z h b kb .byte r.1 (r.2.map Value.int) (.int 0) ∧ r.2.length = r.1.toNatClampNeg
def f12_8 : Nat → Int32 → Int32 → Int32 → Int32 → List Int32 → Int32 → List Int32 → Int32 × List Int32
  | 0, _, _, _, _, _, _, _ => ((0 : Int32), [])
  | k + 1, v1, v2, v4, o0_n, o0_xs, c1_n, c1_xs => (if v4 < v2 then (f12_8 k (v1 + (1 : Int32)) v2 (v4 + (1 : Int32)) o0_n o0_xs c1_n (f15_0 v4 (own_at o0_xs v1) c1_n c1_xs)) else (c1_n, c1_xs))
set_option maxRecDepth 65536 in
set_option maxHeartbeats 40000000 in
theorem b12_8 {p : Program} {l : Launch} {e : Env} {s : State} {m : MethodId} {args : Array Value} {below : List Frame} {meth : Method} {c : Code} {Z : State} {a0 : Array Value} (B : Ctx p Z s a0 m meth c "java/lang/StringUTF16" "toBytes" jdk_52_method_14_code 5 (some (.array .byte))) (h0 : Heap) (n0 : Nat)  : ∀ (k : Nat) {T0 : State} {locs : List Loc} {h : Heap} (o0 : Addr) (v1 : Int32) (v2 : Int32) (c1 : Addr) (v4 : Int32) (o0_k : ClassId) (o0_n : Int32) (o0_xs : List Int32) (c1_k : ClassId) (c1_n : Int32) (c1_xs : List Int32) (X0 : Stand p l e R12 s m args below meth c T0 locs 1 2000) (e0 : T0.heap = h) (N0 : Fr n0 locs) (Z0 : n0 ≤ h.size) (K : Keep h0 h []) (V_o0 : Arv Z h o0 o0_k .char o0_n (o0_xs.map Value.int) (.int 0)) (ln_o0 : o0_xs.length = o0_n.toNatClampNeg) (V_c1 : Arv Z h c1 c1_k .byte c1_n (c1_xs.map Value.int) (.int 0)) (ln_c1 : c1_xs.length = c1_n.toNatClampNeg) (g_c1 : n0 ≤ c1) (sz_c1 : h0.size ≤ c1) (ne_o0_c1 : o0 ≠ c1) (O : Old Z n0 h) (S_as : Sta Z Z.heap "java/lang/StringUTF16" "$assertionsDisabled" "Z" (.int (1 : Int32))) (S_hi : Sta Z Z.heap "java/lang/StringUTF16" "HI_BYTE_SHIFT" "I" (.int (0 : Int32))) (S_lo : Sta Z Z.heap "java/lang/StringUTF16" "LO_BYTE_SHIFT" "I" (.int (8 : Int32))) (hI : own_J v1 v2 v4 o0_n c1_n) (hmu : (v2.toInt - v4.toInt).toNat < k) (r : Int32 × List Int32) (hr : f12_8 k v1 v2 v4 o0_n o0_xs c1_n c1_xs = r),
    EndsIn p e below s R12.cells R12.slots (Q12 Z  h0 n0 r) (T0.setTop (mkF m 8 #[.val (.ref o0), .val (.int v1), .val (.int v2), .val (.ref c1), .val (.int v4)] [])) := by
  obtain ⟨hx, hZ, hw, hby, hml, hret, hown, hnm, hlk⟩ := B
  intro k
  induction k with
  | zero => intro T0 locs h o0 v1 v2 c1 v4 o0_k o0_n o0_xs c1_k c1_n c1_xs X0 e0 N0 Z0 K V_o0 ln_o0 V_c1 ln_c1 g_c1 sz_c1 ne_o0_c1 O S_as S_hi S_lo hI hmu r hr; exact absurd hmu (Nat.not_lt_zero _)
  | succ k ih =>
    intro T0 locs h o0 v1 v2 c1 v4 o0_k o0_n o0_xs c1_k c1_n c1_xs X0 e0 N0 Z0 K V_o0 ln_o0 V_c1 ln_c1 g_c1 sz_c1 ne_o0_c1 O S_as S_hi S_lo hI hmu r hr
    unfold f12_8 at hr
    refine EndsIn.by (B := T0.setTop (mkF m 11 #[.val (.ref o0), .val (.int v1), .val (.int v2), .val (.ref c1), .val (.int v4)] [(.int v2), (.int v4)])) (fun t k => ?_) ?_
    · show Steps p.tables e below (T0.setTop (mkF m 8 #[.val (.ref o0), .val (.int v1), .val (.int v2), .val (.ref c1), .val (.int v4)] [])) _
      refine XS.iload X0.here hx rfl (hb hby d12_8) rfl  ?_
      show Steps p.tables e below (T0.setTop (mkF m 10 #[.val (.ref o0), .val (.int v1), .val (.int v2), .val (.ref c1), .val (.int v4)] [(.int v4)])) _
      refine XS.iloadN X0.here hx rfl (hb hby d12_10) rfl  ?_
      exact k
    by_cases hc11 : v4 < v2
    · rw [if_pos hc11] at hr
      refine EndsIn.by (B := T0.setTop (mkF m 14 #[.val (.ref o0), .val (.int v1), .val (.int v2), .val (.ref c1), .val (.int v4)] [])) (fun t k => ?_) ?_
      · show Steps p.tables e below (T0.setTop (mkF m 11 #[.val (.ref o0), .val (.int v1), .val (.int v2), .val (.ref c1), .val (.int v4)] [(.int v2), (.int v4)])) _
        exact XS.icmpNo X0.here hx rfl (hb hby d12_11) rfl (tlt hc11).2.1 k
      refine EndsIn.by (B := T0.setTop (mkF m 19 #[.val (.ref o0), .val (.int v1), .val (.int v2), .val (.ref c1), .val (.int v4)] [(.int v1), (.ref o0), (.int v4), (.ref c1)])) (fun t k => ?_) ?_
      · show Steps p.tables e below (T0.setTop (mkF m 14 #[.val (.ref o0), .val (.int v1), .val (.int v2), .val (.ref c1), .val (.int v4)] [])) _
        refine XS.aloadN X0.here hx rfl (hb hby d12_14) rfl rfl ?_
        show Steps p.tables e below (T0.setTop (mkF m 15 #[.val (.ref o0), .val (.int v1), .val (.int v2), .val (.ref c1), .val (.int v4)] [(.ref c1)])) _
        refine XS.iload X0.here hx rfl (hb hby d12_15) rfl  ?_
        show Steps p.tables e below (T0.setTop (mkF m 17 #[.val (.ref o0), .val (.int v1), .val (.int v2), .val (.ref c1), .val (.int v4)] [(.int v4), (.ref c1)])) _
        refine XS.aloadN X0.here hx rfl (hb hby d12_17) rfl rfl ?_
        show Steps p.tables e below (T0.setTop (mkF m 18 #[.val (.ref o0), .val (.int v1), .val (.int v2), .val (.ref c1), .val (.int v4)] [(.ref o0), (.int v4), (.ref c1)])) _
        refine XS.iloadN X0.here hx rfl (hb hby d12_18) rfl  ?_
        exact k
      have hin2 : ¬ (v1 < 0) ∧ v1 < o0_n := own_j1 hI hc11
      obtain ⟨cl2, Ar2, hi2, q2⟩ := own_readI V_o0 hin2 _ rfl
      refine EndsIn.by (B := T0.setTop (mkF m 20 #[.val (.ref o0), .val (.int v1), .val (.int v2), .val (.ref c1), .val (.int v4)] [(.int (own_at o0_xs v1)), (.int v4), (.ref c1)])) (fun t k => ?_) ?_
      · show Steps p.tables e below (T0.setTop (mkF m 19 #[.val (.ref o0), .val (.int v1), .val (.int v2), .val (.ref c1), .val (.int v4)] [(.int v1), (.ref o0), (.int v4), (.ref c1)])) _
        exact X0.caload hx (j := v1) (v := (.int (own_at o0_xs v1))) (by rw [e0]; exact Ar2.1) (State.isArrayOf_alike hZ.alike Ar2.2.1) Ar2.2.2 hi2 q2 (g := (mkF m 19 #[.val (.ref o0), .val (.int v1), .val (.int v2), .val (.ref c1), .val (.int v4)] [(.int v1), (.ref o0), (.int v4), (.ref c1)])) rfl rfl (hb hby d12_19) _ k
      have hp3_hg : own_gc v4 c1_n := own_j2 hI hc11
      -- pc 20: java/lang/StringUTF16.putChar
      obtain ⟨_, _, ⟨T3, L3, k3, n3⟩, -, X3, ⟨Lc3, hQ3, l3, y3, z3⟩, st3⟩ := Jvm.LawKit.callS X0 hx (y := (⟨"java/lang/StringUTF16", "putChar", "([BII)V"⟩ : MethodName)) hown (mvT hZ (hw _ (List.mem_of_getElem? (i := 72) rfl))) (mvT hZ (hw _ (List.mem_of_getElem? (i := 73) rfl))) (mvT hZ (hw _ (List.mem_of_getElem? (i := 54) rfl))) (mvT hZ (hw _ (List.mem_of_getElem? (i := 74) rfl))) (by decide) (backOf (W := 0) (rm15 l Z a0 hw [] c1 v4 (own_at o0_xs v1) c1_k c1_n c1_xs h n0 Z0 V_c1 ln_c1 g_c1 O S_as S_hi S_lo hp3_hg) hZ (hw _ (List.mem_of_getElem? (i := 74) rfl)) (hw _ (List.mem_of_getElem? (i := 54) rfl)) (by decide) (by decide)) (g := (mkF m 20 #[.val (.ref o0), .val (.int v1), .val (.int v2), .val (.ref c1), .val (.int v4)] [(.int (own_at o0_xs v1)), (.int v4), (.ref c1)])) rfl (by rw [hml]; rfl) (argsL := [(.ref c1), (.int v4), (.int (own_at o0_xs v1))]) (rest := []) (lenOf pd_4 rfl) rfl (by show 2 * 0 + _ ≤ _; exact Nat.le_of_eq rfl) (hb hby d12_20) (fun _ _ => ⟨rfl, e0, (by decide : 1 + R15.cells ≤ _), (by decide : 2000 + R15.slots ≤ _)⟩)
      dsimp only [Pt.U, Pt.locs, Pt.cells, Pt.slots] at X3 l3 y3 z3 st3 hQ3
      subst l3 y3 z3
      obtain ⟨rfl, Nq3, Kq3, V_c1_3, ln_c1_3⟩ := hQ3
      obtain ⟨h3, e3⟩ : ∃ z, T3.heap = z := ⟨_, rfl⟩
      rw [e3] at Kq3 V_c1_3
      have N3 := Fr.app N0 Nq3
      have Z3 : n0 ≤ h3.size := Nat.le_trans Z0 Kq3.1
      have V_o0_3 := V_o0.keep Kq3 (ninS ne_o0_c1 nin0)
      have K3 := K.trans Kq3 (by intro z hz; simp only [List.mem_cons, List.not_mem_nil, or_false] at hz; first | exact absurd hz id | (rcases hz with rfl; exact Or.inr sz_c1))
      have O3 := O.keep Kq3 (allS g_c1 all0)
      refine EndsIn.by (B := T3.setTop (mkF m 23 #[.val (.ref o0), .val (.int v1), .val (.int v2), .val (.ref c1), .val (.int v4)] [])) (fun t k => st3 t k) ?_
      refine EndsIn.by (B := T3.setTop (mkF m 8 #[.val (.ref o0), .val (.int (v1 + (1 : Int32))), .val (.int v2), .val (.ref c1), .val (.int (v4 + (1 : Int32)))] [])) (fun t k => ?_) ?_
      · show Steps p.tables e below (T3.setTop (mkF m 23 #[.val (.ref o0), .val (.int v1), .val (.int v2), .val (.ref c1), .val (.int v4)] [])) _
        refine XS.iinc X3.here hx rfl (hb hby d12_23) rfl (l' := #[.val (.ref o0), .val (.int (v1 + (1 : Int32))), .val (.int v2), .val (.ref c1), .val (.int v4)]) rfl ?_
        show Steps p.tables e below (T3.setTop (mkF m 26 #[.val (.ref o0), .val (.int (v1 + (1 : Int32))), .val (.int v2), .val (.ref c1), .val (.int v4)] [])) _
        refine XS.iinc X3.here hx rfl (hb hby d12_26) rfl (l' := #[.val (.ref o0), .val (.int (v1 + (1 : Int32))), .val (.int v2), .val (.ref c1), .val (.int (v4 + (1 : Int32)))]) rfl ?_
        show Steps p.tables e below (T3.setTop (mkF m 29 #[.val (.ref o0), .val (.int (v1 + (1 : Int32))), .val (.int v2), .val (.ref c1), .val (.int (v4 + (1 : Int32)))] [])) _
        refine XS.goto X3.here hx rfl (pc0 := 29) (pc' := 8) rfl (hb hby d12_29) (by decide) (by decide) ?_
        exact k
      have hI_j : own_J (v1 + (1 : Int32)) v2 (v4 + (1 : Int32)) o0_n c1_n := (by first | exact own_J0 hT | exact own_J1 hI hc11)
      have hmu_j : (v2.toInt - (v4 + (1 : Int32)).toInt).toNat < k := own_mu4 hI hc11 hmu
      exact ih o0 (v1 + (1 : Int32)) v2 c1 (v4 + (1 : Int32)) o0_k o0_n o0_xs c1_k c1_n (f15_0 v4 (own_at o0_xs v1) c1_n c1_xs) X3 e3 N3 Z3 K3 V_o0_3 ln_o0 V_c1_3 ln_c1_3 g_c1 sz_c1 ne_o0_c1 O3 S_as S_hi S_lo hI_j hmu_j _ hr
    · rw [if_neg hc11] at hr
      refine EndsIn.by (B := T0.setTop (mkF m 32 #[.val (.ref o0), .val (.int v1), .val (.int v2), .val (.ref c1), .val (.int v4)] [])) (fun t k => ?_) ?_
      · show Steps p.tables e below (T0.setTop (mkF m 11 #[.val (.ref o0), .val (.int v1), .val (.int v2), .val (.ref c1), .val (.int v4)] [(.int v2), (.int v4)])) _
        exact XS.icmpYes X0.here hx rfl (pc0 := 11) (pc' := 32) rfl (hb hby d12_11) rfl (flt hc11).2.1 (by decide) (by decide) k
      refine EndsIn.by (B := T0.setTop (mkF m 33 #[.val (.ref o0), .val (.int v1), .val (.int v2), .val (.ref c1), .val (.int v4)] [(.ref c1)])) (fun t k => ?_) ?_
      · show Steps p.tables e below (T0.setTop (mkF m 32 #[.val (.ref o0), .val (.int v1), .val (.int v2), .val (.ref c1), .val (.int v4)] [])) _
        refine XS.aloadN X0.here hx rfl (hb hby d12_32) rfl rfl ?_
        exact k
      subst hr
      exact own_retR X0 hx hlk hret rfl (hb hby d12_33) (by decide) (by decide) ⟨c1, c1_k, rfl, N0, g_c1, sz_c1, (by rw [e0]; exact K), (by rw [e0]; exact V_c1), ln_c1⟩
def f12_0 (v1 : Int32) (v2 : Int32) (o0_n : Int32) (o0_xs : List Int32) : Int32 × List Int32 := (f12_8 1001 v1 v2 (0 : Int32) o0_n o0_xs ((f13_0 v2).1) ((f13_0 v2).2))
set_option maxRecDepth 65536 in
set_option maxHeartbeats 40000000 in
theorem b12_0 {p : Program} {l : Launch} {e : Env} {s : State} {m : MethodId} {args : Array Value} {below : List Frame} {meth : Method} {c : Code} {Z : State} {a0 : Array Value} (B : Ctx p Z s a0 m meth c "java/lang/StringUTF16" "toBytes" jdk_52_method_14_code 5 (some (.array .byte))) {T0 : State} {locs : List Loc} {h : Heap} (h0 : Heap) (n0 : Nat) (o0 : Addr) (v1 : Int32) (v2 : Int32) (o0_k : ClassId) (o0_n : Int32) (o0_xs : List Int32) (X0 : Stand p l e R12 s m args below meth c T0 locs 0 0) (e0 : T0.heap = h) (N0 : Fr n0 locs) (Z0 : n0 ≤ h.size) (K : Keep h0 h []) (V_o0 : Arv Z h o0 o0_k .char o0_n (o0_xs.map Value.int) (.int 0)) (ln_o0 : o0_xs.length = o0_n.toNatClampNeg) (O : Old Z n0 h) (S_as : Sta Z Z.heap "java/lang/StringUTF16" "$assertionsDisabled" "Z" (.int (1 : Int32))) (S_hi : Sta Z Z.heap "java/lang/StringUTF16" "HI_BYTE_SHIFT" "I" (.int (0 : Int32))) (S_lo : Sta Z Z.heap "java/lang/StringUTF16" "LO_BYTE_SHIFT" "I" (.int (8 : Int32))) (hT : own_T v1 v2 o0_n) (r : Int32 × List Int32) (hr : f12_0 v1 v2 o0_n o0_xs = r) :
    EndsIn p e below s R12.cells R12.slots (Q12 Z  h0 n0 r) (T0.setTop (mkF m 0 #[.val (.ref o0), .val (.int v1), .val (.int v2), .unset, .unset] [])) := by
  obtain ⟨hx, hZ, hw, hby, hml, hret, hown, hnm, hlk⟩ := B
  unfold f12_0 at hr
  refine EndsIn.by (B := T0.setTop (mkF m 1 #[.val (.ref o0), .val (.int v1), .val (.int v2), .unset, .unset] [(.int v2)])) (fun t k => ?_) ?_
  · show Steps p.tables e below (T0.setTop (mkF m 0 #[.val (.ref o0), .val (.int v1), .val (.int v2), .unset, .unset] [])) _
    refine XS.iloadN X0.here hx rfl (hb hby d12_0) rfl  ?_
    exact k
  have hp1_hn : own_L v2 := own_Tn hT
  -- pc 1: java/lang/StringUTF16.newBytesFor
  obtain ⟨_, _, ⟨T1, L1, k1, n1⟩, -, X1, ⟨Lc1, hQ1, l1, y1, z1⟩, st1⟩ := Jvm.LawKit.callS X0 hx (y := (⟨"java/lang/StringUTF16", "newBytesFor", "(I)[B"⟩ : MethodName)) hown (mvT hZ (hw _ (List.mem_of_getElem? (i := 65) rfl))) (mvT hZ (hw _ (List.mem_of_getElem? (i := 66) rfl))) (mvT hZ (hw _ (List.mem_of_getElem? (i := 54) rfl))) (mvT hZ (hw _ (List.mem_of_getElem? (i := 67) rfl))) (by decide) (backOf (W := 0) (rm13 l Z a0 hw [] v2 h n0 Z0 hp1_hn) hZ (hw _ (List.mem_of_getElem? (i := 67) rfl)) (hw _ (List.mem_of_getElem? (i := 54) rfl)) (by decide) (by decide)) (g := (mkF m 1 #[.val (.ref o0), .val (.int v1), .val (.int v2), .unset, .unset] [(.int v2)])) rfl (by rw [hml]; rfl) (argsL := [(.int v2)]) (rest := []) (lenOf pd_3 rfl) rfl (by show 2 * 0 + _ ≤ _; exact Nat.le_of_eq rfl) (hb hby d12_1) (fun _ _ => ⟨rfl, e0, (by decide : 0 + R13.cells ≤ _), (by decide : 0 + R13.slots ≤ _)⟩)
  dsimp only [Pt.U, Pt.locs, Pt.cells, Pt.slots] at X1 l1 y1 z1 st1 hQ1
  subst l1 y1 z1
  obtain ⟨c1, kb_1, rfl, Nq1, g_c1, szq1, Kq1, Vb_1, lnb_1⟩ := hQ1
  obtain ⟨h1, e1⟩ : ∃ z, T1.heap = z := ⟨_, rfl⟩
  rw [e1] at Kq1 Vb_1
  have N1 := Fr.app N0 Nq1
  have Z1 : n0 ≤ h1.size := Nat.le_trans Z0 Kq1.1
  have ne_o0_c1 : o0 ≠ c1 := Nat.ne_of_lt (Nat.lt_of_lt_of_le V_o0.lt szq1)
  have V_o0_1 := V_o0.keep Kq1 (by simp)
  have K1 := K.trans Kq1 (fun _ q => nomatch q)
  have O1 := O.keep Kq1 all0
  have sz_c1 : h0.size ≤ c1 := Nat.le_trans K.1 szq1
  refine EndsIn.by (B := T1.setTop (mkF m 4 #[.val (.ref o0), .val (.int v1), .val (.int v2), .unset, .unset] [(.ref c1)])) (fun t k => st1 t k) ?_
  refine EndsIn.by (B := T1.setTop (mkF m 8 #[.val (.ref o0), .val (.int v1), .val (.int v2), .val (.ref c1), .val (.int (0 : Int32))] [])) (fun t k => ?_) ?_
  · show Steps p.tables e below (T1.setTop (mkF m 4 #[.val (.ref o0), .val (.int v1), .val (.int v2), .unset, .unset] [(.ref c1)])) _
    refine XS.astoreN X1.here hx rfl (hb hby d12_4) rfl rfl (l' := #[.val (.ref o0), .val (.int v1), .val (.int v2), .val (.ref c1), .unset]) rfl ?_
    show Steps p.tables e below (T1.setTop (mkF m 5 #[.val (.ref o0), .val (.int v1), .val (.int v2), .val (.ref c1), .unset] [])) _
    refine XS.iconst X1.here hx rfl (hb hby d12_5) ?_
    show Steps p.tables e below (T1.setTop (mkF m 6 #[.val (.ref o0), .val (.int v1), .val (.int v2), .val (.ref c1), .unset] [(.int (0 : Int32))])) _
    refine XS.istore X1.here hx rfl (hb hby d12_6) rfl (l' := #[.val (.ref o0), .val (.int v1), .val (.int v2), .val (.ref c1), .val (.int (0 : Int32))]) rfl ?_
    exact k
  have hI_j : own_J v1 v2 (0 : Int32) o0_n (f13_0 v2).1 := (by first | exact own_J0 hT | exact own_J1 hI hc11)
  have hmu_j : (v2.toInt - (0 : Int32).toInt).toNat < 1001 := own_mu3 hT
  exact b12_8 ⟨hx, hZ, hw, hby, hml, hret, hown, hnm, hlk⟩ h0 n0  1001 o0 v1 v2 c1 (0 : Int32) o0_k o0_n o0_xs kb_1 ((f13_0 v2).1) ((f13_0 v2).2) X1 e1 N1 Z1 K1 V_o0_1 ln_o0 Vb_1 lnb_1 g_c1 sz_c1 ne_o0_c1 O1 S_as S_hi S_lo hI_j hmu_j _ hr
theorem ef_12 (m : MethodId) (o0 : Addr) (v1 : Int32) (v2 : Int32) : entryFrame m #[(.ref o0), (.int v1), (.int v2)] 5 = (mkF m 0 #[.val (.ref o0), .val (.int v1), .val (.int v2), .unset, .unset] []) := by first | (simp [entryFrame, mkF, argsToLocals, Value.category]; done) | rfl
set_option maxRecDepth 65536 in
set_option maxHeartbeats 40000000 in
theorem rm12 (l : Launch) (Z : State) (a0 : Array Value) (hw : ∀ d ∈ tables_1, d.before a0 Z = true) (ws : List Jvm.Cond) (o0 : Addr) (v1 : Int32) (v2 : Int32) (o0_k : ClassId) (o0_n : Int32) (o0_xs : List Int32) (h0 : Heap) (n0 : Nat) (Z0 : n0 ≤ h0.size) (V_o0 : Arv Z h0 o0 o0_k .char o0_n (o0_xs.map Value.int) (.int 0)) (ln_o0 : o0_xs.length = o0_n.toNatClampNeg) (O : Old Z n0 h0) (S_as : Sta Z Z.heap "java/lang/StringUTF16" "$assertionsDisabled" "Z" (.int (1 : Int32))) (S_hi : Sta Z Z.heap "java/lang/StringUTF16" "HI_BYTE_SHIFT" "I" (.int (0 : Int32))) (S_lo : Sta Z Z.heap "java/lang/StringUTF16" "LO_BYTE_SHIFT" "I" (.int (8 : Int32))) (hT : own_T v1 v2 o0_n) :
    MetFree l (⟨"java/lang/StringUTF16", "toBytes", "([CII)[B"⟩ : MethodName) (head1 (Jvm.Cond.code (⟨"java/lang/StringUTF16", "toBytes", "([CII)[B"⟩ : MethodName) jdk_52_method_14_code 5 (some (.array .byte)) :: ws) R12) (fun a U => a = #[(.ref o0), (.int v1), (.int v2)] ∧ Z.Warmed39 U.vm ∧ U.heap = h0) (fun _ _ _ _ _ => True) (fun _ U o U' => ∃ v L, o = .returned v ∧ (Q12 Z  h0 n0 (f12_0 v1 v2 o0_n o0_xs)) v U'.heap L ∧ FrameEnd U o U' L R12.cells R12.slots) := by
  refine MetFree.of_bodySF (plainFor_of_name pn_12) hisR ?_
  intro p e s m args below meth c s₁ Bd hml0 hP hK
  obtain ⟨rfl, hZ, hh⟩ := hP
  have B : Ctx p Z s a0 m meth c "java/lang/StringUTF16" "toBytes" jdk_52_method_14_code 5 (some (.array .byte)) := ⟨Bd.exec, hZ, hw, Bd.bytes, hml0, Bd.returns, findClass_of_methodNamed Bd.named, (name_of_methodNamed Bd.named Bd.method).1, Bd.notSynchronized⟩
  have X0 : Stand p l e R12 s m #[(.ref o0), (.int v1), (.int v2)] below meth c s₁ [] 0 0 := Stand.of_body Bd
  have e0 : s₁.heap = h0 := by rw [← hh, Bd.state]; rfl
  have K := Keep.refl h0 []
  show EndsIn p e below s R12.cells R12.slots (Q12 Z  h0 n0 (f12_0 v1 v2 o0_n o0_xs)) (s₁.setTop (entryFrame m #[(.ref o0), (.int v1), (.int v2)] 5))
  refine EndsIn.by (fun t k => castTop (ef_12 m o0 v1 v2) k) ?_
  exact b12_0 B h0 n0 o0 v1 v2 o0_k o0_n o0_xs X0 e0 (Fr.nil n0) Z0 K V_o0 ln_o0 O S_as S_hi S_lo hT _ rfl
theorem pd_5 : parseMethodDescriptor "([CII)[B" = some ⟨[(.array .char), .int, .int], some (.array .byte)⟩ := by decide +kernel
theorem d16_0 : decode jdk_52_method_5_code 0 = .ok (.getstatic 44, 3) := by decide +kernel
theorem d16_3 : decode jdk_52_method_5_code 3 = .ok (.ifCond .ne 25, 3) := by decide +kernel
theorem d16_28 : decode jdk_52_method_5_code 28 = .ok (.iload_n 1, 1) := by decide +kernel
theorem d16_29 : decode jdk_52_method_5_code 29 = .ok (.iconst 1, 1) := by decide +kernel
theorem d16_30 : decode jdk_52_method_5_code 30 = .ok (.ishl, 1) := by decide +kernel
theorem d16_31 : decode jdk_52_method_5_code 31 = .ok (.istore_n 1, 1) := by decide +kernel
theorem d16_32 : decode jdk_52_method_5_code 32 = .ok (.aload_n 0, 1) := by decide +kernel
theorem d16_33 : decode jdk_52_method_5_code 33 = .ok (.iload_n 1, 1) := by decide +kernel
theorem d16_34 : decode jdk_52_method_5_code 34 = .ok (.iinc 1 1, 3) := by decide +kernel
theorem d16_37 : decode jdk_52_method_5_code 37 = .ok (.baload, 1) := by decide +kernel
theorem d16_38 : decode jdk_52_method_5_code 38 = .ok (.sipush 255, 3) := by decide +kernel
theorem d16_41 : decode jdk_52_method_5_code 41 = .ok (.iand, 1) := by decide +kernel
theorem d16_42 : decode jdk_52_method_5_code 42 = .ok (.getstatic 59, 3) := by decide +kernel
theorem d16_45 : decode jdk_52_method_5_code 45 = .ok (.ishl, 1) := by decide +kernel
theorem d16_46 : decode jdk_52_method_5_code 46 = .ok (.aload_n 0, 1) := by decide +kernel
theorem d16_47 : decode jdk_52_method_5_code 47 = .ok (.iload_n 1, 1) := by decide +kernel
theorem d16_48 : decode jdk_52_method_5_code 48 = .ok (.baload, 1) := by decide +kernel
theorem d16_49 : decode jdk_52_method_5_code 49 = .ok (.sipush 255, 3) := by decide +kernel
theorem d16_52 : decode jdk_52_method_5_code 52 = .ok (.iand, 1) := by decide +kernel
theorem d16_53 : decode jdk_52_method_5_code 53 = .ok (.getstatic 63, 3) := by decide +kernel
theorem d16_56 : decode jdk_52_method_5_code 56 = .ok (.ishl, 1) := by decide +kernel
theorem d16_57 : decode jdk_52_method_5_code 57 = .ok (.ior, 1) := by decide +kernel
theorem d16_58 : decode jdk_52_method_5_code 58 = .ok (.i2c, 1) := by decide +kernel
theorem d16_59 : decode jdk_52_method_5_code 59 = .ok (.ireturn, 1) := by decide +kernel
theorem pn_16 : plainName "java/lang/StringUTF16" = true := by first | (simp [plainName, overriddenIn]; done) | decide +kernel
def R16 : Room := { frames := 0, cells := 0, slots := 0, locals := 0 }
def Q16 (Z : State)  (h0 : Heap) (n0 : Nat) (r : Int32) (v : Option Value) (h : Heap) (L : List Loc) : Prop := v = some (.int r) ∧ Fr n0 L ∧ h = h0
def f16_0 (v1 : Int32) (o0_n : Int32) (o0_xs : List Int32) : Int32 := (nar .char (((((own_at o0_xs (v1 <<< ((1 : Int32) &&& 31))) &&& (255 : Int32)) <<< ((0 : Int32) &&& 31)) ||| (((own_at o0_xs ((v1 <<< ((1 : Int32) &&& 31)) + (1 : Int32))) &&& (255 : Int32)) <<< ((8 : Int32) &&& 31))).toUInt32.toUInt16.toUInt32.toInt32))
set_option maxRecDepth 65536 in
set_option maxHeartbeats 40000000 in
theorem b16_0 {p : Program} {l : Launch} {e : Env} {s : State} {m : MethodId} {args : Array Value} {below : List Frame} {meth : Method} {c : Code} {Z : State} {a0 : Array Value} (B : Ctx p Z s a0 m meth c "java/lang/StringUTF16" "getChar" jdk_52_method_5_code 2 (some .char)) {T0 : State} {locs : List Loc} {h : Heap} (h0 : Heap) (n0 : Nat) (o0 : Addr) (v1 : Int32) (o0_k : ClassId) (o0_n : Int32) (o0_xs : List Int32) (X0 : Stand p l e R16 s m args below meth c T0 locs 0 0) (e0 : T0.heap = h) (N0 : Fr n0 locs) (Z0 : n0 ≤ h.size) (hh0 : h = h0) (V_o0 : Arv Z h o0 o0_k .byte o0_n (o0_xs.map Value.int) (.int 0)) (ln_o0 : o0_xs.length = o0_n.toNatClampNeg) (O : Old Z n0 h) (S_as : Sta Z Z.heap "java/lang/StringUTF16" "$assertionsDisabled" "Z" (.int (1 : Int32))) (S_hi : Sta Z Z.heap "java/lang/StringUTF16" "HI_BYTE_SHIFT" "I" (.int (0 : Int32))) (S_lo : Sta Z Z.heap "java/lang/StringUTF16" "LO_BYTE_SHIFT" "I" (.int (8 : Int32))) (hg : own_gc v1 o0_n) (r : Int32) (hr : f16_0 v1 o0_n o0_xs = r) :
    EndsIn p e below s R16.cells R16.slots (Q16 Z  h0 n0 r) (T0.setTop (mkF m 0 #[.val (.ref o0), .val (.int v1)] [])) := by
  obtain ⟨hx, hZ, hw, hby, hml, hret, hown, hnm, hlk⟩ := B
  unfold f16_0 at hr
  obtain ⟨T1, X1, e1, st1⟩ := getS2 X0 hx hZ hown (host := "") (Or.inl (hw _ (List.mem_of_getElem? (i := 75) rfl))) Via.refl e0 (S_as.ext O.2) (g := (mkF m 0 #[.val (.ref o0), .val (.int v1)] [])) rfl (hb hby d16_0)
  refine EndsIn.by (B := T1.setTop (mkF m 3 #[.val (.ref o0), .val (.int v1)] [(.int (1 : Int32))])) (fun t k => st1 t k) ?_
  have hc3 : ¬ ((1 : Int32) = (0 : Int32)) := by decide
  refine EndsIn.by (B := T1.setTop (mkF m 28 #[.val (.ref o0), .val (.int v1)] [])) (fun t k => ?_) ?_
  · show Steps p.tables e below (T1.setTop (mkF m 3 #[.val (.ref o0), .val (.int v1)] [(.int (1 : Int32))])) _
    exact XS.ifYes X1.here hx rfl (pc0 := 3) (pc' := 28) rfl (hb hby d16_3) rfl ((if0 _ _).trans (feq hc3).2) (by decide) (by decide) k
  refine EndsIn.by (B := T1.setTop (mkF m 37 #[.val (.ref o0), .val (.int ((v1 <<< ((1 : Int32) &&& 31)) + (1 : Int32)))] [(.int (v1 <<< ((1 : Int32) &&& 31))), (.ref o0)])) (fun t k => ?_) ?_
  · show Steps p.tables e below (T1.setTop (mkF m 28 #[.val (.ref o0), .val (.int v1)] [])) _
    refine XS.iloadN X1.here hx rfl (hb hby d16_28) rfl  ?_
    show Steps p.tables e below (T1.setTop (mkF m 29 #[.val (.ref o0), .val (.int v1)] [(.int v1)])) _
    refine XS.iconst X1.here hx rfl (hb hby d16_29) ?_
    show Steps p.tables e below (T1.setTop (mkF m 30 #[.val (.ref o0), .val (.int v1)] [(.int (1 : Int32)), (.int v1)])) _
    refine XS.ishl X1.here hx rfl (hb hby d16_30) rfl ?_
    show Steps p.tables e below (T1.setTop (mkF m 31 #[.val (.ref o0), .val (.int v1)] [(.int (v1 <<< ((1 : Int32) &&& 31)))])) _
    refine XS.istoreN X1.here hx rfl (hb hby d16_31) rfl (l' := #[.val (.ref o0), .val (.int (v1 <<< ((1 : Int32) &&& 31)))]) rfl ?_
    show Steps p.tables e below (T1.setTop (mkF m 32 #[.val (.ref o0), .val (.int (v1 <<< ((1 : Int32) &&& 31)))] [])) _
    refine XS.aloadN X1.here hx rfl (hb hby d16_32) rfl rfl ?_
    show Steps p.tables e below (T1.setTop (mkF m 33 #[.val (.ref o0), .val (.int (v1 <<< ((1 : Int32) &&& 31)))] [(.ref o0)])) _
    refine XS.iloadN X1.here hx rfl (hb hby d16_33) rfl  ?_
    show Steps p.tables e below (T1.setTop (mkF m 34 #[.val (.ref o0), .val (.int (v1 <<< ((1 : Int32) &&& 31)))] [(.int (v1 <<< ((1 : Int32) &&& 31))), (.ref o0)])) _
    refine XS.iinc X1.here hx rfl (hb hby d16_34) rfl (l' := #[.val (.ref o0), .val (.int ((v1 <<< ((1 : Int32) &&& 31)) + (1 : Int32)))]) rfl ?_
    exact k
  have hin2 : ¬ ((v1 <<< ((1 : Int32) &&& 31)) < 0) ∧ (v1 <<< ((1 : Int32) &&& 31)) < o0_n := ⟨hg.1, hg.2.1⟩
  obtain ⟨cl2, Ar2, hi2, q2⟩ := own_readI V_o0 hin2 _ rfl
  refine EndsIn.by (B := T1.setTop (mkF m 38 #[.val (.ref o0), .val (.int ((v1 <<< ((1 : Int32) &&& 31)) + (1 : Int32)))] [(.int (own_at o0_xs (v1 <<< ((1 : Int32) &&& 31))))])) (fun t k => ?_) ?_
  · show Steps p.tables e below (T1.setTop (mkF m 37 #[.val (.ref o0), .val (.int ((v1 <<< ((1 : Int32) &&& 31)) + (1 : Int32)))] [(.int (v1 <<< ((1 : Int32) &&& 31))), (.ref o0)])) _
    exact X1.baloadBytes hx (j := (v1 <<< ((1 : Int32) &&& 31))) (v := (.int (own_at o0_xs (v1 <<< ((1 : Int32) &&& 31))))) (by rw [e1]; exact Ar2.1) (State.isArrayOf_alike hZ.alike Ar2.2.1) Ar2.2.2 hi2 q2 (g := (mkF m 37 #[.val (.ref o0), .val (.int ((v1 <<< ((1 : Int32) &&& 31)) + (1 : Int32)))] [(.int (v1 <<< ((1 : Int32) &&& 31))), (.ref o0)])) rfl rfl (hb hby d16_37) _ k
  refine EndsIn.by (B := T1.setTop (mkF m 42 #[.val (.ref o0), .val (.int ((v1 <<< ((1 : Int32) &&& 31)) + (1 : Int32)))] [(.int ((own_at o0_xs (v1 <<< ((1 : Int32) &&& 31))) &&& (255 : Int32)))])) (fun t k => ?_) ?_
  · show Steps p.tables e below (T1.setTop (mkF m 38 #[.val (.ref o0), .val (.int ((v1 <<< ((1 : Int32) &&& 31)) + (1 : Int32)))] [(.int (own_at o0_xs (v1 <<< ((1 : Int32) &&& 31))))])) _
    refine XS.sipush X1.here hx rfl (hb hby d16_38) ?_
    show Steps p.tables e below (T1.setTop (mkF m 41 #[.val (.ref o0), .val (.int ((v1 <<< ((1 : Int32) &&& 31)) + (1 : Int32)))] [(.int (255 : Int32)), (.int (own_at o0_xs (v1 <<< ((1 : Int32) &&& 31))))])) _
    refine XS.iand X1.here hx rfl (hb hby d16_41) rfl ?_
    exact k
  obtain ⟨T3, X3, e3, st3⟩ := getS2 X1 hx hZ hown (host := "") (Or.inl (hw _ (List.mem_of_getElem? (i := 76) rfl))) Via.refl e1 (S_hi.ext O.2) (g := (mkF m 42 #[.val (.ref o0), .val (.int ((v1 <<< ((1 : Int32) &&& 31)) + (1 : Int32)))] [(.int ((own_at o0_xs (v1 <<< ((1 : Int32) &&& 31))) &&& (255 : Int32)))])) rfl (hb hby d16_42)
  refine EndsIn.by (B := T3.setTop (mkF m 45 #[.val (.ref o0), .val (.int ((v1 <<< ((1 : Int32) &&& 31)) + (1 : Int32)))] [(.int (0 : Int32)), (.int ((own_at o0_xs (v1 <<< ((1 : Int32) &&& 31))) &&& (255 : Int32)))])) (fun t k => st3 t k) ?_
  refine EndsIn.by (B := T3.setTop (mkF m 48 #[.val (.ref o0), .val (.int ((v1 <<< ((1 : Int32) &&& 31)) + (1 : Int32)))] [(.int ((v1 <<< ((1 : Int32) &&& 31)) + (1 : Int32))), (.ref o0), (.int (((own_at o0_xs (v1 <<< ((1 : Int32) &&& 31))) &&& (255 : Int32)) <<< ((0 : Int32) &&& 31)))])) (fun t k => ?_) ?_
  · show Steps p.tables e below (T3.setTop (mkF m 45 #[.val (.ref o0), .val (.int ((v1 <<< ((1 : Int32) &&& 31)) + (1 : Int32)))] [(.int (0 : Int32)), (.int ((own_at o0_xs (v1 <<< ((1 : Int32) &&& 31))) &&& (255 : Int32)))])) _
    refine XS.ishl X3.here hx rfl (hb hby d16_45) rfl ?_
    show Steps p.tables e below (T3.setTop (mkF m 46 #[.val (.ref o0), .val (.int ((v1 <<< ((1 : Int32) &&& 31)) + (1 : Int32)))] [(.int (((own_at o0_xs (v1 <<< ((1 : Int32) &&& 31))) &&& (255 : Int32)) <<< ((0 : Int32) &&& 31)))])) _
    refine XS.aloadN X3.here hx rfl (hb hby d16_46) rfl rfl ?_
    show Steps p.tables e below (T3.setTop (mkF m 47 #[.val (.ref o0), .val (.int ((v1 <<< ((1 : Int32) &&& 31)) + (1 : Int32)))] [(.ref o0), (.int (((own_at o0_xs (v1 <<< ((1 : Int32) &&& 31))) &&& (255 : Int32)) <<< ((0 : Int32) &&& 31)))])) _
    refine XS.iloadN X3.here hx rfl (hb hby d16_47) rfl  ?_
    exact k
  have hin4 : ¬ (((v1 <<< ((1 : Int32) &&& 31)) + (1 : Int32)) < 0) ∧ ((v1 <<< ((1 : Int32) &&& 31)) + (1 : Int32)) < o0_n := hg.2.2
  obtain ⟨cl4, Ar4, hi4, q4⟩ := own_readI V_o0 hin4 _ rfl
  refine EndsIn.by (B := T3.setTop (mkF m 49 #[.val (.ref o0), .val (.int ((v1 <<< ((1 : Int32) &&& 31)) + (1 : Int32)))] [(.int (own_at o0_xs ((v1 <<< ((1 : Int32) &&& 31)) + (1 : Int32)))), (.int (((own_at o0_xs (v1 <<< ((1 : Int32) &&& 31))) &&& (255 : Int32)) <<< ((0 : Int32) &&& 31)))])) (fun t k => ?_) ?_
  · show Steps p.tables e below (T3.setTop (mkF m 48 #[.val (.ref o0), .val (.int ((v1 <<< ((1 : Int32) &&& 31)) + (1 : Int32)))] [(.int ((v1 <<< ((1 : Int32) &&& 31)) + (1 : Int32))), (.ref o0), (.int (((own_at o0_xs (v1 <<< ((1 : Int32) &&& 31))) &&& (255 : Int32)) <<< ((0 : Int32) &&& 31)))])) _
    exact X3.baloadBytes hx (j := ((v1 <<< ((1 : Int32) &&& 31)) + (1 : Int32))) (v := (.int (own_at o0_xs ((v1 <<< ((1 : Int32) &&& 31)) + (1 : Int32))))) (by rw [e3]; exact Ar4.1) (State.isArrayOf_alike hZ.alike Ar4.2.1) Ar4.2.2 hi4 q4 (g := (mkF m 48 #[.val (.ref o0), .val (.int ((v1 <<< ((1 : Int32) &&& 31)) + (1 : Int32)))] [(.int ((v1 <<< ((1 : Int32) &&& 31)) + (1 : Int32))), (.ref o0), (.int (((own_at o0_xs (v1 <<< ((1 : Int32) &&& 31))) &&& (255 : Int32)) <<< ((0 : Int32) &&& 31)))])) rfl rfl (hb hby d16_48) _ k
  refine EndsIn.by (B := T3.setTop (mkF m 53 #[.val (.ref o0), .val (.int ((v1 <<< ((1 : Int32) &&& 31)) + (1 : Int32)))] [(.int ((own_at o0_xs ((v1 <<< ((1 : Int32) &&& 31)) + (1 : Int32))) &&& (255 : Int32))), (.int (((own_at o0_xs (v1 <<< ((1 : Int32) &&& 31))) &&& (255 : Int32)) <<< ((0 : Int32) &&& 31)))])) (fun t k => ?_) ?_
  · show Steps p.tables e below (T3.setTop (mkF m 49 #[.val (.ref o0), .val (.int ((v1 <<< ((1 : Int32) &&& 31)) + (1 : Int32)))] [(.int (own_at o0_xs ((v1 <<< ((1 : Int32) &&& 31)) + (1 : Int32)))), (.int (((own_at o0_xs (v1 <<< ((1 : Int32) &&& 31))) &&& (255 : Int32)) <<< ((0 : Int32) &&& 31)))])) _
    refine XS.sipush X3.here hx rfl (hb hby d16_49) ?_
    show Steps p.tables e below (T3.setTop (mkF m 52 #[.val (.ref o0), .val (.int ((v1 <<< ((1 : Int32) &&& 31)) + (1 : Int32)))] [(.int (255 : Int32)), (.int (own_at o0_xs ((v1 <<< ((1 : Int32) &&& 31)) + (1 : Int32)))), (.int (((own_at o0_xs (v1 <<< ((1 : Int32) &&& 31))) &&& (255 : Int32)) <<< ((0 : Int32) &&& 31)))])) _
    refine XS.iand X3.here hx rfl (hb hby d16_52) rfl ?_
    exact k
  obtain ⟨T5, X5, e5, st5⟩ := getS2 X3 hx hZ hown (host := "") (Or.inl (hw _ (List.mem_of_getElem? (i := 77) rfl))) Via.refl e3 (S_lo.ext O.2) (g := (mkF m 53 #[.val (.ref o0), .val (.int ((v1 <<< ((1 : Int32) &&& 31)) + (1 : Int32)))] [(.int ((own_at o0_xs ((v1 <<< ((1 : Int32) &&& 31)) + (1 : Int32))) &&& (255 : Int32))), (.int (((own_at o0_xs (v1 <<< ((1 : Int32) &&& 31))) &&& (255 : Int32)) <<< ((0 : Int32) &&& 31)))])) rfl (hb hby d16_53)
  refine EndsIn.by (B := T5.setTop (mkF m 56 #[.val (.ref o0), .val (.int ((v1 <<< ((1 : Int32) &&& 31)) + (1 : Int32)))] [(.int (8 : Int32)), (.int ((own_at o0_xs ((v1 <<< ((1 : Int32) &&& 31)) + (1 : Int32))) &&& (255 : Int32))), (.int (((own_at o0_xs (v1 <<< ((1 : Int32) &&& 31))) &&& (255 : Int32)) <<< ((0 : Int32) &&& 31)))])) (fun t k => st5 t k) ?_
  refine EndsIn.by (B := T5.setTop (mkF m 59 #[.val (.ref o0), .val (.int ((v1 <<< ((1 : Int32) &&& 31)) + (1 : Int32)))] [(.int (((((own_at o0_xs (v1 <<< ((1 : Int32) &&& 31))) &&& (255 : Int32)) <<< ((0 : Int32) &&& 31)) ||| (((own_at o0_xs ((v1 <<< ((1 : Int32) &&& 31)) + (1 : Int32))) &&& (255 : Int32)) <<< ((8 : Int32) &&& 31))).toUInt32.toUInt16.toUInt32.toInt32))])) (fun t k => ?_) ?_
  · show Steps p.tables e below (T5.setTop (mkF m 56 #[.val (.ref o0), .val (.int ((v1 <<< ((1 : Int32) &&& 31)) + (1 : Int32)))] [(.int (8 : Int32)), (.int ((own_at o0_xs ((v1 <<< ((1 : Int32) &&& 31)) + (1 : Int32))) &&& (255 : Int32))), (.int (((own_at o0_xs (v1 <<< ((1 : Int32) &&& 31))) &&& (255 : Int32)) <<< ((0 : Int32) &&& 31)))])) _
    refine XS.ishl X5.here hx rfl (hb hby d16_56) rfl ?_
    show Steps p.tables e below (T5.setTop (mkF m 57 #[.val (.ref o0), .val (.int ((v1 <<< ((1 : Int32) &&& 31)) + (1 : Int32)))] [(.int (((own_at o0_xs ((v1 <<< ((1 : Int32) &&& 31)) + (1 : Int32))) &&& (255 : Int32)) <<< ((8 : Int32) &&& 31))), (.int (((own_at o0_xs (v1 <<< ((1 : Int32) &&& 31))) &&& (255 : Int32)) <<< ((0 : Int32) &&& 31)))])) _
    refine XS.ior X5.here hx rfl (hb hby d16_57) rfl ?_
    show Steps p.tables e below (T5.setTop (mkF m 58 #[.val (.ref o0), .val (.int ((v1 <<< ((1 : Int32) &&& 31)) + (1 : Int32)))] [(.int ((((own_at o0_xs (v1 <<< ((1 : Int32) &&& 31))) &&& (255 : Int32)) <<< ((0 : Int32) &&& 31)) ||| (((own_at o0_xs ((v1 <<< ((1 : Int32) &&& 31)) + (1 : Int32))) &&& (255 : Int32)) <<< ((8 : Int32) &&& 31))))])) _
    refine XS.i2c X5.here hx rfl (hb hby d16_58) rfl ?_
    exact k
  subst hr
  exact own_retN X5 hx hlk (t := .char) hret (by simp) (hb hby d16_59) (by decide) (by decide) ⟨rfl, N0, (e5.trans hh0)⟩
theorem ef_16 (m : MethodId) (o0 : Addr) (v1 : Int32) : entryFrame m #[(.ref o0), (.int v1)] 2 = (mkF m 0 #[.val (.ref o0), .val (.int v1)] []) := by first | (simp [entryFrame, mkF, argsToLocals, Value.category]; done) | rfl
set_option maxRecDepth 65536 in
set_option maxHeartbeats 40000000 in
theorem rm16 (l : Launch) (Z : State) (a0 : Array Value) (hw : ∀ d ∈ tables_1, d.before a0 Z = true) (ws : List Jvm.Cond) (o0 : Addr) (v1 : Int32) (o0_k : ClassId) (o0_n : Int32) (o0_xs : List Int32) (h0 : Heap) (n0 : Nat) (Z0 : n0 ≤ h0.size) (V_o0 : Arv Z h0 o0 o0_k .byte o0_n (o0_xs.map Value.int) (.int 0)) (ln_o0 : o0_xs.length = o0_n.toNatClampNeg) (O : Old Z n0 h0) (S_as : Sta Z Z.heap "java/lang/StringUTF16" "$assertionsDisabled" "Z" (.int (1 : Int32))) (S_hi : Sta Z Z.heap "java/lang/StringUTF16" "HI_BYTE_SHIFT" "I" (.int (0 : Int32))) (S_lo : Sta Z Z.heap "java/lang/StringUTF16" "LO_BYTE_SHIFT" "I" (.int (8 : Int32))) (hg : own_gc v1 o0_n) :
    MetFree l (⟨"java/lang/StringUTF16", "getChar", "([BI)C"⟩ : MethodName) (head1 (Jvm.Cond.code (⟨"java/lang/StringUTF16", "getChar", "([BI)C"⟩ : MethodName) jdk_52_method_5_code 2 (some .char) :: ws) R16) (fun a U => a = #[(.ref o0), (.int v1)] ∧ Z.Warmed39 U.vm ∧ U.heap = h0) (fun _ _ _ _ _ => True) (fun _ U o U' => ∃ v L, o = .returned v ∧ (Q16 Z  h0 n0 (f16_0 v1 o0_n o0_xs)) v U'.heap L ∧ FrameEnd U o U' L R16.cells R16.slots) := by
  refine MetFree.of_bodySF (plainFor_of_name pn_16) hisR ?_
  intro p e s m args below meth c s₁ Bd hml0 hP hK
  obtain ⟨rfl, hZ, hh⟩ := hP
  have B : Ctx p Z s a0 m meth c "java/lang/StringUTF16" "getChar" jdk_52_method_5_code 2 (some .char) := ⟨Bd.exec, hZ, hw, Bd.bytes, hml0, Bd.returns, findClass_of_methodNamed Bd.named, (name_of_methodNamed Bd.named Bd.method).1, Bd.notSynchronized⟩
  have X0 : Stand p l e R16 s m #[(.ref o0), (.int v1)] below meth c s₁ [] 0 0 := Stand.of_body Bd
  have e0 : s₁.heap = h0 := by rw [← hh, Bd.state]; rfl
  have K := Keep.refl h0 []
  show EndsIn p e below s R16.cells R16.slots (Q16 Z  h0 n0 (f16_0 v1 o0_n o0_xs)) (s₁.setTop (entryFrame m #[(.ref o0), (.int v1)] 2))
  refine EndsIn.by (fun t k => castTop (ef_16 m o0 v1) k) ?_
  exact b16_0 B h0 n0 o0 v1 o0_k o0_n o0_xs X0 e0 (Fr.nil n0) Z0 rfl V_o0 ln_o0 O S_as S_hi S_lo hg _ rfl
theorem pd_6 : parseMethodDescriptor "([BI)C" = some ⟨[(.array .byte), .int], some .char⟩ := by decide +kernel

section
variable {v1 v2 v3 v4 v5 v6 n m c : Int32} {xs ys : List Int32}
/-- where compress stops: at the end, or at a char above 255 -/
theorem own_r10a : ∀ (k : Nat) (v1 v3 v4 v5 v6 n : Int32) (xs : List Int32) (m : Int32) (ys : List Int32), own_I v1 v3 v4 v5 n m → (v4.toInt - v5.toInt).toNat < k →
    (f10_3_1 k v1 v3 v4 v5 v6 n xs m ys).1 = v4 ∨ (0 ≤ (f10_3_1 k v1 v3 v4 v5 v6 n xs m ys).1.toInt ∧ (f10_3_1 k v1 v3 v4 v5 v6 n xs m ys).1.toInt < v4.toInt ∧ (255 : Int32) < own_at xs (f10_3_1 k v1 v3 v4 v5 v6 n xs m ys).1) := by
  intro k
  induction k with
  | zero => intro v1 v3 v4 v5 v6 n xs m ys _ u; exact absurd u (Nat.not_lt_zero _)
  | succ k ih =>
    intro v1 v3 v4 v5 v6 n xs m ys h u
    unfold f10_3_1
    by_cases q : v5 < v4
    · rw [if_pos q]
      by_cases q2 : (255 : Int32) < own_at xs v1
      · rw [if_pos q2]
        exact Or.inr ⟨h.2.2.1, own_ltI q, h.1 ▸ q2⟩
      · rw [if_neg q2]
        exact ih _ _ _ _ _ _ _ _ _ (own_I1 h q) (own_mu1 h q u)
    · rw [if_neg q]; exact Or.inl rfl
theorem own_r10 (hT : own_T v1 v2 n) : (f10_0 v1 0 v2 n xs v2 ys).1 = v2 ∨ (0 ≤ (f10_0 v1 0 v2 n xs v2 ys).1.toInt ∧ (f10_0 v1 0 v2 n xs v2 ys).1.toInt < v2.toInt ∧ (255 : Int32) < own_at xs (f10_0 v1 0 v2 n xs v2 ys).1) := by
  have h := own_I0 (own_TE hT)
  unfold f10_0 f10_3
  by_cases q : (0 : Int32) < v2
  · rw [if_pos q]
    by_cases q2 : (255 : Int32) < own_at xs v1
    · rw [if_pos q2]
      exact Or.inr ⟨h.2.2.1, own_ltI q, h.1 ▸ q2⟩
    · rw [if_neg q2]
      exact own_r10a _ _ _ _ _ _ _ _ _ _ (own_I1 h q) (own_mu2 h q)
  · rw [if_neg q]; exact Or.inl rfl
def own_B0 (x : Int32) : Int32 := (((x >>> ((0 : Int32) &&& 31)).toInt8.toInt32).toInt8.toInt32)
def own_B1 (x : Int32) : Int32 := (((x >>> ((8 : Int32) &&& 31)).toInt8.toInt32).toInt8.toInt32)
/-- the first t chars lie as bytes -/
def own_laid (xs ys : List Int32) (t : Nat) : Prop := ∀ j, j < t → ys.getD (2 * j) 0 = own_B0 (xs.getD j 0) ∧ ys.getD (2 * j + 1) 0 = own_B1 (xs.getD j 0)
theorem own_put (h : own_J v1 v2 v4 n c) (q : v4 < v2) (ln : ys.length = c.toNatClampNeg) (L : own_laid xs ys v4.toNatClampNeg) :
    (f15_0 v4 (own_at xs v1) c ys).length = c.toNatClampNeg ∧ own_laid xs (f15_0 v4 (own_at xs v1) c ys) (v4 + (1 : Int32)).toNatClampNeg := by
  obtain ⟨rfl, h3, h4, h5, h6, h7⟩ := h
  have q := own_ltI q
  have e := own_shl (x := v1) (by omega)
  have e2 := own_add e own_c1 (by omega)
  have e3 := own_add (a := v1) rfl own_c1 (by omega)
  have n1 := own_natp (a := v1) h3
  have n2 := own_natp (a := v1 <<< ((1 : Int32) &&& 31)) (by omega)
  have n3 := own_natp (a := (v1 <<< ((1 : Int32) &&& 31)) + (1 : Int32)) (by omega)
  have n4 := own_natp (a := v1 + (1 : Int32)) (by omega)
  have n5 := own_natp (a := c) (by omega)
  have i2 : (v1 <<< ((1 : Int32) &&& 31)).toNatClampNeg = 2 * v1.toNatClampNeg := by omega
  have i3 : ((v1 <<< ((1 : Int32) &&& 31)) + (1 : Int32)).toNatClampNeg = 2 * v1.toNatClampNeg + 1 := by omega
  have i4 : (v1 + (1 : Int32)).toNatClampNeg = v1.toNatClampNeg + 1 := by omega
  have i5 : 2 * v1.toNatClampNeg + 1 < ys.length := by omega
  unfold f15_0
  rw [i2, i3, i4]
  refine ⟨by rw [List.length_set, List.length_set]; exact ln, fun j hj => ?_⟩
  by_cases ej : j = v1.toNatClampNeg
  · subst ej
    constructor
    · rw [List.getD_eq_getElem?_getD, List.getElem?_set_ne (by omega), List.getElem?_set_self (by omega)]; rfl
    · rw [List.getD_eq_getElem?_getD, List.getElem?_set_self (by rw [List.length_set]; omega)]; rfl
  · have g := L j (by omega)
    have k : ∀ (i : Nat) (a b : Int32), i ≠ 2 * v1.toNatClampNeg → i ≠ 2 * v1.toNatClampNeg + 1 → ((ys.set (2 * v1.toNatClampNeg) a).set (2 * v1.toNatClampNeg + 1) b).getD i 0 = ys.getD i 0 := fun i a b h1 h2 => by
      rw [List.getD_eq_getElem?_getD, List.getD_eq_getElem?_getD, List.getElem?_set_ne (Ne.symm h2), List.getElem?_set_ne (Ne.symm h1)]
    rw [k _ _ _ (by omega) (by omega), k _ _ _ (by omega) (by omega)]
    exact g
theorem own_tb : ∀ (k : Nat) (v1 v2 v4 n : Int32) (xs : List Int32) (c : Int32) (ys : List Int32), own_J v1 v2 v4 n c → (v2.toInt - v4.toInt).toNat < k → ys.length = c.toNatClampNeg → own_laid xs ys v4.toNatClampNeg →
    (f12_8 k v1 v2 v4 n xs c ys).1 = c ∧ own_laid xs (f12_8 k v1 v2 v4 n xs c ys).2 v2.toNatClampNeg := by
  intro k
  induction k with
  | zero => intro v1 v2 v4 n xs c ys _ u; exact absurd u (Nat.not_lt_zero _)
  | succ k ih =>
    intro v1 v2 v4 n xs c ys h u ln L
    unfold f12_8
    by_cases q : v4 < v2
    · rw [if_pos q]
      obtain ⟨l2, L2⟩ := own_put h q ln L
      exact ih _ _ _ _ _ _ _ (own_J1 h q) (own_mu4 h q u) l2 L2
    · rw [if_neg q]
      refine ⟨rfl, ?_⟩
      have q := own_nltI q
      have e : v4 = v2 := Int32.toInt_inj.mp (by have := h.2.2.1; omega)
      rw [← e]; exact L
theorem own_f12 (hT : own_T v1 v2 n) : (f12_0 v1 v2 n xs).1.toInt = 2 * v2.toInt ∧ own_laid xs (f12_0 v1 v2 n xs).2 v2.toNatClampNeg := by
  have a := own_tb 1001 v1 v2 0 n xs (f13_0 v2).1 (f13_0 v2).2 (own_J0 hT) (own_mu3 hT) List.length_replicate (fun j hj => absurd hj (Nat.not_lt_zero _))
  refine ⟨?_, a.2⟩
  show (f12_8 1001 v1 v2 0 n xs (f13_0 v2).1 (f13_0 v2).2).1.toInt = _
  rw [a.1]; exact own_14 (own_Tn hT)
theorem own_r9 (hT : own_T v1 v2 n) (q : ¬ ((f10_0 v1 0 v2 n xs v2 ys).1 = v2)) : own_gc (f10_0 v1 0 v2 n xs v2 ys).1 (f12_0 v1 v2 n xs).1 := by
  rcases own_r10 (xs := xs) (ys := ys) hT with h | ⟨h1, h2, -⟩
  · exact absurd h q
  · have e := (own_f12 (xs := xs) hT).1; have t := hT.2.2.1
    exact own_gcI h1 (by omega) (by omega)
/-- the two bytes of a char give it back -/
theorem own_back {x : Int32} (h0 : 0 ≤ x.toInt) (h1 : x.toInt ≤ 65535) : (nar .char ((((own_B0 x &&& (255 : Int32)) <<< ((0 : Int32) &&& 31)) ||| ((own_B1 x &&& (255 : Int32)) <<< ((8 : Int32) &&& 31))).toUInt32.toUInt16.toUInt32.toInt32)).toInt = x.toInt := by
  show ((((own_B0 x &&& (255 : Int32)) <<< ((0 : Int32) &&& 31)) ||| ((own_B1 x &&& (255 : Int32)) <<< ((8 : Int32) &&& 31))).toUInt32.toUInt16.toUInt32.toInt32.toUInt32.toUInt16.toUInt32.toInt32).toInt = x.toInt
  have s0 := c_ishr x 0 0 (by decide); have s8 := c_ishr x 8 8 (by decide)
  have a1 := c_i2b (x >>> ((0 : Int32) &&& 31)); have a2 := c_i2b (x >>> ((0 : Int32) &&& 31)).toInt8.toInt32
  have b1 := c_i2b (x >>> ((8 : Int32) &&& 31)); have b2 := c_i2b (x >>> ((8 : Int32) &&& 31)).toInt8.toInt32
  have m0 := c_mask (own_B0 x) 255 8 (by decide) (by decide); have m1 := c_mask (own_B1 x) 255 8 (by decide) (by decide)
  have l0 := c_ishl (own_B0 x &&& 255) 0 0 (by decide); have l8 := c_ishl (own_B1 x &&& 255) 8 8 (by decide)
  have r0 := rng32 ((own_B0 x &&& (255 : Int32)) <<< ((0 : Int32) &&& 31)); have r8 := rng32 ((own_B1 x &&& (255 : Int32)) <<< ((8 : Int32) &&& 31))
  have u0 : (own_B0 x).toInt = (x >>> ((0 : Int32) &&& 31)).toInt8.toInt32.toInt8.toInt32.toInt := rfl
  have u1 : (own_B1 x).toInt = (x >>> ((8 : Int32) &&& 31)).toInt8.toInt32.toInt8.toInt32.toInt := rfl
  have e0 : ((own_B0 x &&& (255 : Int32)) <<< ((0 : Int32) &&& 31)).toInt = x.toInt % 256 := by omega
  have e1 : ((own_B1 x &&& (255 : Int32)) <<< ((8 : Int32) &&& 31)).toInt = (x.toInt / 256) * 256 := by omega
  rw [Int32.or_comm]
  have o := c_or ((own_B1 x &&& (255 : Int32)) <<< ((8 : Int32) &&& 31)) ((own_B0 x &&& (255 : Int32)) <<< ((0 : Int32) &&& 31)) 8 (by decide) 256 (by decide) (by omega) (by omega) (by omega)
  have ro := rng32 (((own_B1 x &&& (255 : Int32)) <<< ((8 : Int32) &&& 31)) ||| ((own_B0 x &&& (255 : Int32)) <<< ((0 : Int32) &&& 31)))
  have c1 := c_i2c (((own_B1 x &&& (255 : Int32)) <<< ((8 : Int32) &&& 31)) ||| ((own_B0 x &&& (255 : Int32)) <<< ((0 : Int32) &&& 31)))
  have c2 := c_i2c (((own_B1 x &&& (255 : Int32)) <<< ((8 : Int32) &&& 31)) ||| ((own_B0 x &&& (255 : Int32)) <<< ((0 : Int32) &&& 31))).toUInt32.toUInt16.toUInt32.toInt32
  omega
theorem own_gt9 (hT : own_T v1 v2 n) (fit : ∀ i, i < n.toNatClampNeg → 0 ≤ (xs.getD i 0).toInt ∧ (xs.getD i 0).toInt ≤ 65535) (q : ¬ ((f10_0 v1 0 v2 n xs v2 ys).1 = v2)) :
    (255 : Int32) < f16_0 (f10_0 v1 0 v2 n xs v2 ys).1 (f12_0 v1 v2 n xs).1 (f12_0 v1 v2 n xs).2 := by
  rcases own_r10 (xs := xs) (ys := ys) hT with h | ⟨h1, h2, h3⟩
  · exact absurd h q
  · generalize (f10_0 v1 0 v2 n xs v2 ys).1 = r at *
    obtain ⟨e, L⟩ := own_f12 (xs := xs) hT
    obtain ⟨-, t1, t2, t3⟩ := hT
    subst t3
    have s := own_shl (x := r) (by omega)
    have s2 := own_add s own_c1 (by omega)
    have n1 := own_natp (a := r) h1
    have n2 := own_natp (a := r <<< ((1 : Int32) &&& 31)) (by omega)
    have n3 := own_natp (a := (r <<< ((1 : Int32) &&& 31)) + (1 : Int32)) (by omega)
    have n4 := own_natp (a := n) t1
    have i2 : (r <<< ((1 : Int32) &&& 31)).toNatClampNeg = 2 * r.toNatClampNeg := by omega
    have i3 : ((r <<< ((1 : Int32) &&& 31)) + (1 : Int32)).toNatClampNeg = 2 * r.toNatClampNeg + 1 := by omega
    obtain ⟨g1, g2⟩ := L r.toNatClampNeg (by omega)
    have f := fit r.toNatClampNeg (by omega)
    unfold f16_0
    unfold own_at at h3 ⊢
    rw [i2, i3, g1, g2]
    have bk := own_back f.1 f.2
    have h3 := own_ltI h3
    exact own_lt (by omega)
end

theorem d9_0 : decode jdk_52_method_16_code 0 = .ok (.iload_n 2, 1) := by decide +kernel
theorem d9_1 : decode jdk_52_method_16_code 1 = .ok (.newarray .byte, 2) := by decide +kernel
theorem d9_3 : decode jdk_52_method_16_code 3 = .ok (.astore_n 3, 1) := by decide +kernel
theorem d9_4 : decode jdk_52_method_16_code 4 = .ok (.aload_n 0, 1) := by decide +kernel
theorem d9_5 : decode jdk_52_method_16_code 5 = .ok (.iload_n 1, 1) := by decide +kernel
theorem d9_6 : decode jdk_52_method_16_code 6 = .ok (.aload_n 3, 1) := by decide +kernel
theorem d9_7 : decode jdk_52_method_16_code 7 = .ok (.iconst 0, 1) := by decide +kernel
theorem d9_8 : decode jdk_52_method_16_code 8 = .ok (.iload_n 2, 1) := by decide +kernel
theorem d9_9 : decode jdk_52_method_16_code 9 = .ok (.invokestatic 115, 3) := by decide +kernel
theorem d9_12 : decode jdk_52_method_16_code 12 = .ok (.istore 4, 2) := by decide +kernel
theorem d9_14 : decode jdk_52_method_16_code 14 = .ok (.iload 4, 2) := by decide +kernel
theorem d9_16 : decode jdk_52_method_16_code 16 = .ok (.iload_n 2, 1) := by decide +kernel
theorem d9_17 : decode jdk_52_method_16_code 17 = .ok (.if_icmp .eq 40, 3) := by decide +kernel
theorem d9_20 : decode jdk_52_method_16_code 20 = .ok (.aload_n 0, 1) := by decide +kernel
theorem d9_21 : decode jdk_52_method_16_code 21 = .ok (.iload_n 1, 1) := by decide +kernel
theorem d9_22 : decode jdk_52_method_16_code 22 = .ok (.iload_n 2, 1) := by decide +kernel
theorem d9_23 : decode jdk_52_method_16_code 23 = .ok (.invokestatic 119, 3) := by decide +kernel
theorem d9_26 : decode jdk_52_method_16_code 26 = .ok (.astore 5, 2) := by decide +kernel
theorem d9_28 : decode jdk_52_method_16_code 28 = .ok (.aload 5, 2) := by decide +kernel
theorem d9_30 : decode jdk_52_method_16_code 30 = .ok (.iload 4, 2) := by decide +kernel
theorem d9_32 : decode jdk_52_method_16_code 32 = .ok (.invokestatic 71, 3) := by decide +kernel
theorem d9_35 : decode jdk_52_method_16_code 35 = .ok (.sipush 255, 3) := by decide +kernel
theorem d9_38 : decode jdk_52_method_16_code 38 = .ok (.if_icmp .gt 16, 3) := by decide +kernel
theorem d9_54 : decode jdk_52_method_16_code 54 = .ok (.aload 5, 2) := by decide +kernel
theorem d9_56 : decode jdk_52_method_16_code 56 = .ok (.areturn, 1) := by decide +kernel
theorem d9_57 : decode jdk_52_method_16_code 57 = .ok (.aload_n 3, 1) := by decide +kernel
theorem d9_58 : decode jdk_52_method_16_code 58 = .ok (.areturn, 1) := by decide +kernel
theorem pn_9 : plainName "java/lang/StringUTF16" = true := by first | (simp [plainName, overriddenIn]; done) | decide +kernel
def R9 : Room := { frames := 3, cells := 2, slots := 3000, locals := 40 }
def Q9 (Z : State)  (h0 : Heap) (n0 : Nat) (r : Int32 × List Int32) (v : Option Value) (h : Heap) (L : List Loc) : Prop := ∃ (b : Addr) (kb : ClassId), v = some (.ref b) ∧ Fr n0 L ∧ n0 ≤ b ∧ h0.size ≤ b ∧ Keep h0 h [] ∧ Arv Z h b kb .byte r.1 (r.2.map Value.int) (.int 0) ∧ r.2.length = r.1.toNatClampNeg
def f9_0 (v1 : Int32) (v2 : Int32) (o0_n : Int32) (o0_xs : List Int32) : Int32 × List Int32 := (if (f10_0 v1 (0 : Int32) v2 o0_n o0_xs v2 (List.replicate v2.toNatClampNeg (0 : Int32))).1 = v2 then (v2, ((f10_0 v1 (0 : Int32) v2 o0_n o0_xs v2 (List.replicate v2.toNatClampNeg (0 : Int32))).2)) else ((f12_0 v1 v2 o0_n o0_xs).1, (f12_0 v1 v2 o0_n o0_xs).2))
set_option maxRecDepth 65536 in
set_option maxHeartbeats 40000000 in
theorem b9_0 {p : Program} {l : Launch} {e : Env} {s : State} {m : MethodId} {args : Array Value} {below : List Frame} {meth : Method} {c : Code} {Z : State} {a0 : Array Value} (B : Ctx p Z s a0 m meth c "java/lang/StringUTF16" "compress" jdk_52_method_16_code 6 (some (.array .byte))) {T0 : State} {locs : List Loc} {h : Heap} (h0 : Heap) (n0 : Nat) (o0 : Addr) (v1 : Int32) (v2 : Int32) (o0_k : ClassId) (o0_n : Int32) (o0_xs : List Int32) (X0 : Stand p l e R9 s m args below meth c T0 locs 0 0) (e0 : T0.heap = h) (N0 : Fr n0 locs) (Z0 : n0 ≤ h.size) (K : Keep h0 h []) (V_o0 : Arv Z h o0 o0_k .char o0_n (o0_xs.map Value.int) (.int 0)) (ln_o0 : o0_xs.length = o0_n.toNatClampNeg) (O : Old Z n0 h) (S_as : Sta Z Z.heap "java/lang/StringUTF16" "$assertionsDisabled" "Z" (.int (1 : Int32))) (S_hi : Sta Z Z.heap "java/lang/StringUTF16" "HI_BYTE_SHIFT" "I" (.int (0 : Int32))) (S_lo : Sta Z Z.heap "java/lang/StringUTF16" "LO_BYTE_SHIFT" "I" (.int (8 : Int32))) (hT : own_T v1 v2 o0_n) (r : Int32 × List Int32) (hr : f9_0 v1 v2 o0_n o0_xs = r) :
    EndsIn p e below s R9.cells R9.slots (Q9 Z  h0 n0 r) (T0.setTop (mkF m 0 #[.val (.ref o0), .val (.int v1), .val (.int v2), .unset, .unset, .unset] [])) := by
  obtain ⟨hx, hZ, hw, hby, hml, hret, hown, hnm, hlk⟩ := B
  unfold f9_0 at hr
  refine EndsIn.by (B := T0.setTop (mkF m 1 #[.val (.ref o0), .val (.int v1), .val (.int v2), .unset, .unset, .unset] [(.int v2)])) (fun t k => ?_) ?_
  · show Steps p.tables e below (T0.setTop (mkF m 0 #[.val (.ref o0), .val (.int v1), .val (.int v2), .unset, .unset, .unset] [])) _
    refine XS.iloadN X0.here hx rfl (hb hby d9_0) rfl  ?_
    exact k
  obtain ⟨T1, h1, k1, X1, e1, X1e, A1, st1⟩ := newP X0 hx hZ (hw _ (List.mem_of_getElem? (i := 22) rfl)) e0 (g := (mkF m 1 #[.val (.ref o0), .val (.int v1), .val (.int v2), .unset, .unset, .unset] [(.int v2)])) rfl (hb hby d9_1) rfl (own_T1 hT) (cap := 1000) (own_T2 hT) (by decide) (by decide) (by decide)
  obtain ⟨b1, g1⟩ : ∃ z, z = h.size := ⟨_, rfl⟩
  rw [← g1] at A1 st1
  have g_b1 : n0 ≤ b1 := Nat.le_trans Z0 (Nat.le_of_eq g1.symm)
  have sz_b1 : h0.size ≤ b1 := Nat.le_trans K.1 (Nat.le_of_eq g1.symm)
  have ne_o0_b1 : o0 ≠ b1 := Nat.ne_of_lt (Nat.lt_of_lt_of_le V_o0.lt (Nat.le_of_eq g1.symm))
  have V_o0_1 := V_o0.ext X1e
  have Z1 : n0 ≤ h1.size := Nat.le_trans Z0 X1e.1
  have K1 := K.ext X1e
  have O1 := O.ext X1e
  obtain ⟨V_b1_1, ln_b1_1⟩ : Arv Z h1 b1 k1 .byte v2 ((List.replicate v2.toNatClampNeg (0 : Int32)).map Value.int) (.int 0) ∧ (List.replicate v2.toNatClampNeg (0 : Int32)).length = v2.toNatClampNeg := own_newI A1 rfl (own_T1 hT) (xs := (List.replicate v2.toNatClampNeg (0 : Int32))) rfl
  refine EndsIn.by (B := T1.setTop (mkF m 3 #[.val (.ref o0), .val (.int v1), .val (.int v2), .unset, .unset, .unset] [(.ref b1)])) (fun t k => st1 t k) ?_
  refine EndsIn.by (B := T1.setTop (mkF m 9 #[.val (.ref o0), .val (.int v1), .val (.int v2), .val (.ref b1), .unset, .unset] [(.int v2), (.int (0 : Int32)), (.ref b1), (.int v1), (.ref o0)])) (fun t k => ?_) ?_
  · show Steps p.tables e below (T1.setTop (mkF m 3 #[.val (.ref o0), .val (.int v1), .val (.int v2), .unset, .unset, .unset] [(.ref b1)])) _
    refine XS.astoreN X1.here hx rfl (hb hby d9_3) rfl rfl (l' := #[.val (.ref o0), .val (.int v1), .val (.int v2), .val (.ref b1), .unset, .unset]) rfl ?_
    show Steps p.tables e below (T1.setTop (mkF m 4 #[.val (.ref o0), .val (.int v1), .val (.int v2), .val (.ref b1), .unset, .unset] [])) _
    refine XS.aloadN X1.here hx rfl (hb hby d9_4) rfl rfl ?_
    show Steps p.tables e below (T1.setTop (mkF m 5 #[.val (.ref o0), .val (.int v1), .val (.int v2), .val (.ref b1), .unset, .unset] [(.ref o0)])) _
    refine XS.iloadN X1.here hx rfl (hb hby d9_5) rfl  ?_
    show Steps p.tables e below (T1.setTop (mkF m 6 #[.val (.ref o0), .val (.int v1), .val (.int v2), .val (.ref b1), .unset, .unset] [(.int v1), (.ref o0)])) _
    refine XS.aloadN X1.here hx rfl (hb hby d9_6) rfl rfl ?_
    show Steps p.tables e below (T1.setTop (mkF m 7 #[.val (.ref o0), .val (.int v1), .val (.int v2), .val (.ref b1), .unset, .unset] [(.ref b1), (.int v1), (.ref o0)])) _
    refine XS.iconst X1.here hx rfl (hb hby d9_7) ?_
    show Steps p.tables e below (T1.setTop (mkF m 8 #[.val (.ref o0), .val (.int v1), .val (.int v2), .val (.ref b1), .unset, .unset] [(.int (0 : Int32)), (.ref b1), (.int v1), (.ref o0)])) _
    refine XS.iloadN X1.here hx rfl (hb hby d9_8) rfl  ?_
    exact k
  have hp2_hE : own_E v1 (0 : Int32) v2 o0_n v2 := own_TE hT
  -- pc 9: java/lang/StringUTF16.compress
  obtain ⟨_, _, ⟨T2, L2, k2, n2⟩, -, X2, ⟨Lc2, hQ2, l2, y2, z2⟩, st2⟩ := Jvm.LawKit.callS X1 hx (y := (⟨"java/lang/StringUTF16", "compress", "([CI[BII)I"⟩ : MethodName)) hown (mvT hZ (hw _ (List.mem_of_getElem? (i := 56) rfl))) (mvT hZ (hw _ (List.mem_of_getElem? (i := 57) rfl))) (mvT hZ (hw _ (List.mem_of_getElem? (i := 54) rfl))) (mvT hZ (hw _ (List.mem_of_getElem? (i := 58) rfl))) (by decide) (backOf (W := 0) (rm10 l Z a0 hw [] o0 v1 b1 (0 : Int32) v2 o0_k o0_n o0_xs k1 v2 (List.replicate v2.toNatClampNeg (0 : Int32)) h1 n0 Z1 V_o0_1 ln_o0 V_b1_1 ln_b1_1 g_b1 ne_o0_b1 hp2_hE) hZ (hw _ (List.mem_of_getElem? (i := 58) rfl)) (hw _ (List.mem_of_getElem? (i := 54) rfl)) (by decide) (by decide)) (g := (mkF m 9 #[.val (.ref o0), .val (.int v1), .val (.int v2), .val (.ref b1), .unset, .unset] [(.int v2), (.int (0 : Int32)), (.ref b1), (.int v1), (.ref o0)])) rfl (by rw [hml]; rfl) (argsL := [(.ref o0), (.int v1), (.ref b1), (.int (0 : Int32)), (.int v2)]) (rest := []) (lenOf pd_1 rfl) rfl (by show 2 * 0 + _ ≤ _; exact Nat.le_of_eq rfl) (hb hby d9_9) (fun _ _ => ⟨rfl, e1, (by decide : 1 + R10.cells ≤ _), (by decide : 1000 + R10.slots ≤ _)⟩)
  dsimp only [Pt.U, Pt.locs, Pt.cells, Pt.slots] at X2 l2 y2 z2 st2 hQ2
  subst l2 y2 z2
  obtain ⟨rfl, Nq2, Kq2, V_b1_2, ln_b1_2⟩ := hQ2
  obtain ⟨h2, e2⟩ : ∃ z, T2.heap = z := ⟨_, rfl⟩
  rw [e2] at Kq2 V_b1_2
  have N2 := Fr.app N0 Nq2
  have Z2 : n0 ≤ h2.size := Nat.le_trans Z1 Kq2.1
  have V_o0_2 := V_o0_1.keep Kq2 (ninS ne_o0_b1 nin0)
  have K2 := K1.trans Kq2 (by intro z hz; simp only [List.mem_cons, List.not_mem_nil, or_false] at hz; first | exact absurd hz id | (rcases hz with rfl; exact Or.inr sz_b1))
  have O2 := O1.keep Kq2 (allS g_b1 all0)
  refine EndsIn.by (B := T2.setTop (mkF m 12 #[.val (.ref o0), .val (.int v1), .val (.int v2), .val (.ref b1), .unset, .unset] [(.int (f10_0 v1 (0 : Int32) v2 o0_n o0_xs v2 (List.replicate v2.toNatClampNeg (0 : Int32))).1)])) (fun t k => st2 t k) ?_
  refine EndsIn.by (B := T2.setTop (mkF m 17 #[.val (.ref o0), .val (.int v1), .val (.int v2), .val (.ref b1), .val (.int (f10_0 v1 (0 : Int32) v2 o0_n o0_xs v2 (List.replicate v2.toNatClampNeg (0 : Int32))).1), .unset] [(.int v2), (.int (f10_0 v1 (0 : Int32) v2 o0_n o0_xs v2 (List.replicate v2.toNatClampNeg (0 : Int32))).1)])) (fun t k => ?_) ?_
  · show Steps p.tables e below (T2.setTop (mkF m 12 #[.val (.ref o0), .val (.int v1), .val (.int v2), .val (.ref b1), .unset, .unset] [(.int (f10_0 v1 (0 : Int32) v2 o0_n o0_xs v2 (List.replicate v2.toNatClampNeg (0 : Int32))).1)])) _
    refine XS.istore X2.here hx rfl (hb hby d9_12) rfl (l' := #[.val (.ref o0), .val (.int v1), .val (.int v2), .val (.ref b1), .val (.int (f10_0 v1 (0 : Int32) v2 o0_n o0_xs v2 (List.replicate v2.toNatClampNeg (0 : Int32))).1), .unset]) rfl ?_
    show Steps p.tables e below (T2.setTop (mkF m 14 #[.val (.ref o0), .val (.int v1), .val (.int v2), .val (.ref b1), .val (.int (f10_0 v1 (0 : Int32) v2 o0_n o0_xs v2 (List.replicate v2.toNatClampNeg (0 : Int32))).1), .unset] [])) _
    refine XS.iload X2.here hx rfl (hb hby d9_14) rfl  ?_
    show Steps p.tables e below (T2.setTop (mkF m 16 #[.val (.ref o0), .val (.int v1), .val (.int v2), .val (.ref b1), .val (.int (f10_0 v1 (0 : Int32) v2 o0_n o0_xs v2 (List.replicate v2.toNatClampNeg (0 : Int32))).1), .unset] [(.int (f10_0 v1 (0 : Int32) v2 o0_n o0_xs v2 (List.replicate v2.toNatClampNeg (0 : Int32))).1)])) _
    refine XS.iloadN X2.here hx rfl (hb hby d9_16) rfl  ?_
    exact k
  by_cases hc17 : (f10_0 v1 (0 : Int32) v2 o0_n o0_xs v2 (List.replicate v2.toNatClampNeg (0 : Int32))).1 = v2
  · rw [if_pos hc17] at hr
    refine EndsIn.by (B := T2.setTop (mkF m 57 #[.val (.ref o0), .val (.int v1), .val (.int v2), .val (.ref b1), .val (.int (f10_0 v1 (0 : Int32) v2 o0_n o0_xs v2 (List.replicate v2.toNatClampNeg (0 : Int32))).1), .unset] [])) (fun t k => ?_) ?_
    · show Steps p.tables e below (T2.setTop (mkF m 17 #[.val (.ref o0), .val (.int v1), .val (.int v2), .val (.ref b1), .val (.int (f10_0 v1 (0 : Int32) v2 o0_n o0_xs v2 (List.replicate v2.toNatClampNeg (0 : Int32))).1), .unset] [(.int v2), (.int (f10_0 v1 (0 : Int32) v2 o0_n o0_xs v2 (List.replicate v2.toNatClampNeg (0 : Int32))).1)])) _
      exact XS.icmpYes X2.here hx rfl (pc0 := 17) (pc' := 57) rfl (hb hby d9_17) rfl (teq hc17).1 (by decide) (by decide) k
    refine EndsIn.by (B := T2.setTop (mkF m 58 #[.val (.ref o0), .val (.int v1), .val (.int v2), .val (.ref b1), .val (.int (f10_0 v1 (0 : Int32) v2 o0_n o0_xs v2 (List.replicate v2.toNatClampNeg (0 : Int32))).1), .unset] [(.ref b1)])) (fun t k => ?_) ?_
    · show Steps p.tables e below (T2.setTop (mkF m 57 #[.val (.ref o0), .val (.int v1), .val (.int v2), .val (.ref b1), .val (.int (f10_0 v1 (0 : Int32) v2 o0_n o0_xs v2 (List.replicate v2.toNatClampNeg (0 : Int32))).1), .unset] [])) _
      refine XS.aloadN X2.here hx rfl (hb hby d9_57) rfl rfl ?_
      exact k
    subst hr
    exact own_retR X2 hx hlk hret rfl (hb hby d9_58) (by decide) (by decide) ⟨b1, k1, rfl, N2, g_b1, sz_b1, (by rw [e2]; exact K2), (by rw [e2]; exact V_b1_2), ln_b1_2⟩
  · rw [if_neg hc17] at hr
    refine EndsIn.by (B := T2.setTop (mkF m 20 #[.val (.ref o0), .val (.int v1), .val (.int v2), .val (.ref b1), .val (.int (f10_0 v1 (0 : Int32) v2 o0_n o0_xs v2 (List.replicate v2.toNatClampNeg (0 : Int32))).1), .unset] [])) (fun t k => ?_) ?_
    · show Steps p.tables e below (T2.setTop (mkF m 17 #[.val (.ref o0), .val (.int v1), .val (.int v2), .val (.ref b1), .val (.int (f10_0 v1 (0 : Int32) v2 o0_n o0_xs v2 (List.replicate v2.toNatClampNeg (0 : Int32))).1), .unset] [(.int v2), (.int (f10_0 v1 (0 : Int32) v2 o0_n o0_xs v2 (List.replicate v2.toNatClampNeg (0 : Int32))).1)])) _
      exact XS.icmpNo X2.here hx rfl (hb hby d9_17) rfl (feq hc17).1 k
    refine EndsIn.by (B := T2.setTop (mkF m 23 #[.val (.ref o0), .val (.int v1), .val (.int v2), .val (.ref b1), .val (.int (f10_0 v1 (0 : Int32) v2 o0_n o0_xs v2 (List.replicate v2.toNatClampNeg (0 : Int32))).1), .unset] [(.int v2), (.int v1), (.ref o0)])) (fun t k => ?_) ?_
    · show Steps p.tables e below (T2.setTop (mkF m 20 #[.val (.ref o0), .val (.int v1), .val (.int v2), .val (.ref b1), .val (.int (f10_0 v1 (0 : Int32) v2 o0_n o0_xs v2 (List.replicate v2.toNatClampNeg (0 : Int32))).1), .unset] [])) _
      refine XS.aloadN X2.here hx rfl (hb hby d9_20) rfl rfl ?_
      show Steps p.tables e below (T2.setTop (mkF m 21 #[.val (.ref o0), .val (.int v1), .val (.int v2), .val (.ref b1), .val (.int (f10_0 v1 (0 : Int32) v2 o0_n o0_xs v2 (List.replicate v2.toNatClampNeg (0 : Int32))).1), .unset] [(.ref o0)])) _
      refine XS.iloadN X2.here hx rfl (hb hby d9_21) rfl  ?_
      show Steps p.tables e below (T2.setTop (mkF m 22 #[.val (.ref o0), .val (.int v1), .val (.int v2), .val (.ref b1), .val (.int (f10_0 v1 (0 : Int32) v2 o0_n o0_xs v2 (List.replicate v2.toNatClampNeg (0 : Int32))).1), .unset] [(.int v1), (.ref o0)])) _
      refine XS.iloadN X2.here hx rfl (hb hby d9_22) rfl  ?_
      exact k
    have hp3_hT : own_T v1 v2 o0_n := hT
    -- pc 23: java/lang/StringUTF16.toBytes
    obtain ⟨_, _, ⟨T3, L3, k3, n3⟩, -, X3, ⟨Lc3, hQ3, l3, y3, z3⟩, st3⟩ := Jvm.LawKit.callS X2 hx (y := (⟨"java/lang/StringUTF16", "toBytes", "([CII)[B"⟩ : MethodName)) hown (mvT hZ (hw _ (List.mem_of_getElem? (i := 62) rfl))) (mvT hZ (hw _ (List.mem_of_getElem? (i := 63) rfl))) (mvT hZ (hw _ (List.mem_of_getElem? (i := 54) rfl))) (mvT hZ (hw _ (List.mem_of_getElem? (i := 64) rfl))) (by decide) (backOf (W := 0) (rm12 l Z a0 hw [] o0 v1 v2 o0_k o0_n o0_xs h2 n0 Z2 V_o0_2 ln_o0 O2 S_as S_hi S_lo hp3_hT) hZ (hw _ (List.mem_of_getElem? (i := 64) rfl)) (hw _ (List.mem_of_getElem? (i := 54) rfl)) (by decide) (by decide)) (g := (mkF m 23 #[.val (.ref o0), .val (.int v1), .val (.int v2), .val (.ref b1), .val (.int (f10_0 v1 (0 : Int32) v2 o0_n o0_xs v2 (List.replicate v2.toNatClampNeg (0 : Int32))).1), .unset] [(.int v2), (.int v1), (.ref o0)])) rfl (by rw [hml]; rfl) (argsL := [(.ref o0), (.int v1), (.int v2)]) (rest := []) (lenOf pd_5 rfl) rfl (by show 2 * 0 + _ ≤ _; exact Nat.le_of_eq rfl) (hb hby d9_23) (fun _ _ => ⟨rfl, e2, (by decide : 1 + R12.cells ≤ _), (by decide : 1000 + R12.slots ≤ _)⟩)
    dsimp only [Pt.U, Pt.locs, Pt.cells, Pt.slots] at X3 l3 y3 z3 st3 hQ3
    subst l3 y3 z3
    obtain ⟨c23, kb_3, rfl, Nq3, g_c23, szq3, Kq3, Vb_3, lnb_3⟩ := hQ3
    obtain ⟨h3, e3⟩ : ∃ z, T3.heap = z := ⟨_, rfl⟩
    rw [e3] at Kq3 Vb_3
    have N3 := Fr.app N2 Nq3
    have Z3 : n0 ≤ h3.size := Nat.le_trans Z2 Kq3.1
    have ne_o0_c23 : o0 ≠ c23 := Nat.ne_of_lt (Nat.lt_of_lt_of_le V_o0_2.lt szq3)
    have ne_b1_c23 : b1 ≠ c23 := Nat.ne_of_lt (Nat.lt_of_lt_of_le V_b1_2.lt szq3)
    have V_o0_3 := V_o0_2.keep Kq3 (by simp)
    have V_b1_3 := V_b1_2.keep Kq3 (by simp)
    have K3 := K2.trans Kq3 (fun _ q => nomatch q)
    have O3 := O2.keep Kq3 all0
    have sz_c23 : h0.size ≤ c23 := Nat.le_trans K2.1 szq3
    refine EndsIn.by (B := T3.setTop (mkF m 26 #[.val (.ref o0), .val (.int v1), .val (.int v2), .val (.ref b1), .val (.int (f10_0 v1 (0 : Int32) v2 o0_n o0_xs v2 (List.replicate v2.toNatClampNeg (0 : Int32))).1), .unset] [(.ref c23)])) (fun t k => st3 t k) ?_
    refine EndsIn.by (B := T3.setTop (mkF m 32 #[.val (.ref o0), .val (.int v1), .val (.int v2), .val (.ref b1), .val (.int (f10_0 v1 (0 : Int32) v2 o0_n o0_xs v2 (List.replicate v2.toNatClampNeg (0 : Int32))).1), .val (.ref c23)] [(.int (f10_0 v1 (0 : Int32) v2 o0_n o0_xs v2 (List.replicate v2.toNatClampNeg (0 : Int32))).1), (.ref c23)])) (fun t k => ?_) ?_
    · show Steps p.tables e below (T3.setTop (mkF m 26 #[.val (.ref o0), .val (.int v1), .val (.int v2), .val (.ref b1), .val (.int (f10_0 v1 (0 : Int32) v2 o0_n o0_xs v2 (List.replicate v2.toNatClampNeg (0 : Int32))).1), .unset] [(.ref c23)])) _
      refine XS.astore X3.here hx rfl (hb hby d9_26) rfl rfl (l' := #[.val (.ref o0), .val (.int v1), .val (.int v2), .val (.ref b1), .val (.int (f10_0 v1 (0 : Int32) v2 o0_n o0_xs v2 (List.replicate v2.toNatClampNeg (0 : Int32))).1), .val (.ref c23)]) rfl ?_
      show Steps p.tables e below (T3.setTop (mkF m 28 #[.val (.ref o0), .val (.int v1), .val (.int v2), .val (.ref b1), .val (.int (f10_0 v1 (0 : Int32) v2 o0_n o0_xs v2 (List.replicate v2.toNatClampNeg (0 : Int32))).1), .val (.ref c23)] [])) _
      refine XS.aload X3.here hx rfl (hb hby d9_28) rfl rfl ?_
      show Steps p.tables e below (T3.setTop (mkF m 30 #[.val (.ref o0), .val (.int v1), .val (.int v2), .val (.ref b1), .val (.int (f10_0 v1 (0 : Int32) v2 o0_n o0_xs v2 (List.replicate v2.toNatClampNeg (0 : Int32))).1), .val (.ref c23)] [(.ref c23)])) _
      refine XS.iload X3.here hx rfl (hb hby d9_30) rfl  ?_
      exact k
    have hp4_hg : own_gc (f10_0 v1 (0 : Int32) v2 o0_n o0_xs v2 (List.replicate v2.toNatClampNeg (0 : Int32))).1 (f12_0 v1 v2 o0_n o0_xs).1 := own_r9 hT hc17
    -- pc 32: java/lang/StringUTF16.getChar
    obtain ⟨_, _, ⟨T4, L4, k4, n4⟩, -, X4, ⟨Lc4, hQ4, l4, y4, z4⟩, st4⟩ := Jvm.LawKit.callS X3 hx (y := (⟨"java/lang/StringUTF16", "getChar", "([BI)C"⟩ : MethodName)) hown (mvT hZ (hw _ (List.mem_of_getElem? (i := 78) rfl))) (mvT hZ (hw _ (List.mem_of_getElem? (i := 79) rfl))) (mvT hZ (hw _ (List.mem_of_getElem? (i := 54) rfl))) (mvT hZ (hw _ (List.mem_of_getElem? (i := 80) rfl))) (by decide) (backOf (W := 0) (rm16 l Z a0 hw [] c23 ((f10_0 v1 (0 : Int32) v2 o0_n o0_xs v2 (List.replicate v2.toNatClampNeg (0 : Int32))).1) kb_3 ((f12_0 v1 v2 o0_n o0_xs).1) ((f12_0 v1 v2 o0_n o0_xs).2) h3 n0 Z3 Vb_3 lnb_3 O3 S_as S_hi S_lo hp4_hg) hZ (hw _ (List.mem_of_getElem? (i := 80) rfl)) (hw _ (List.mem_of_getElem? (i := 54) rfl)) (by decide) (by decide)) (g := (mkF m 32 #[.val (.ref o0), .val (.int v1), .val (.int v2), .val (.ref b1), .val (.int (f10_0 v1 (0 : Int32) v2 o0_n o0_xs v2 (List.replicate v2.toNatClampNeg (0 : Int32))).1), .val (.ref c23)] [(.int (f10_0 v1 (0 : Int32) v2 o0_n o0_xs v2 (List.replicate v2.toNatClampNeg (0 : Int32))).1), (.ref c23)])) rfl (by rw [hml]; rfl) (argsL := [(.ref c23), (.int (f10_0 v1 (0 : Int32) v2 o0_n o0_xs v2 (List.replicate v2.toNatClampNeg (0 : Int32))).1)]) (rest := []) (lenOf pd_6 rfl) rfl (by show 2 * 0 + _ ≤ _; exact Nat.le_of_eq rfl) (hb hby d9_32) (fun _ _ => ⟨rfl, e3, (by decide : 2 + R16.cells ≤ _), (by decide : 3000 + R16.slots ≤ _)⟩)
    dsimp only [Pt.U, Pt.locs, Pt.cells, Pt.slots] at X4 l4 y4 z4 st4 hQ4
    subst l4 y4 z4
    obtain ⟨rfl, Nq4, e4⟩ := hQ4
    have N4 := Fr.app N3 Nq4
    refine EndsIn.by (B := T4.setTop (mkF m 35 #[.val (.ref o0), .val (.int v1), .val (.int v2), .val (.ref b1), .val (.int (f10_0 v1 (0 : Int32) v2 o0_n o0_xs v2 (List.replicate v2.toNatClampNeg (0 : Int32))).1), .val (.ref c23)] [(.int (f16_0 ((f10_0 v1 (0 : Int32) v2 o0_n o0_xs v2 (List.replicate v2.toNatClampNeg (0 : Int32))).1) ((f12_0 v1 v2 o0_n o0_xs).1) ((f12_0 v1 v2 o0_n o0_xs).2)))])) (fun t k => st4 t k) ?_
    refine EndsIn.by (B := T4.setTop (mkF m 38 #[.val (.ref o0), .val (.int v1), .val (.int v2), .val (.ref b1), .val (.int (f10_0 v1 (0 : Int32) v2 o0_n o0_xs v2 (List.replicate v2.toNatClampNeg (0 : Int32))).1), .val (.ref c23)] [(.int (255 : Int32)), (.int (f16_0 ((f10_0 v1 (0 : Int32) v2 o0_n o0_xs v2 (List.replicate v2.toNatClampNeg (0 : Int32))).1) ((f12_0 v1 v2 o0_n o0_xs).1) ((f12_0 v1 v2 o0_n o0_xs).2)))])) (fun t k => ?_) ?_
    · show Steps p.tables e below (T4.setTop (mkF m 35 #[.val (.ref o0), .val (.int v1), .val (.int v2), .val (.ref b1), .val (.int (f10_0 v1 (0 : Int32) v2 o0_n o0_xs v2 (List.replicate v2.toNatClampNeg (0 : Int32))).1), .val (.ref c23)] [(.int (f16_0 ((f10_0 v1 (0 : Int32) v2 o0_n o0_xs v2 (List.replicate v2.toNatClampNeg (0 : Int32))).1) ((f12_0 v1 v2 o0_n o0_xs).1) ((f12_0 v1 v2 o0_n o0_xs).2)))])) _
      refine XS.sipush X4.here hx rfl (hb hby d9_35) ?_
      exact k
    have hc38 : (255 : Int32) < (f16_0 ((f10_0 v1 (0 : Int32) v2 o0_n o0_xs v2 (List.replicate v2.toNatClampNeg (0 : Int32))).1) ((f12_0 v1 v2 o0_n o0_xs).1) ((f12_0 v1 v2 o0_n o0_xs).2)) := own_gt9 hT (own_fit V_o0) hc17
    refine EndsIn.by (B := T4.setTop (mkF m 54 #[.val (.ref o0), .val (.int v1), .val (.int v2), .val (.ref b1), .val (.int (f10_0 v1 (0 : Int32) v2 o0_n o0_xs v2 (List.replicate v2.toNatClampNeg (0 : Int32))).1), .val (.ref c23)] [])) (fun t k => ?_) ?_
    · show Steps p.tables e below (T4.setTop (mkF m 38 #[.val (.ref o0), .val (.int v1), .val (.int v2), .val (.ref b1), .val (.int (f10_0 v1 (0 : Int32) v2 o0_n o0_xs v2 (List.replicate v2.toNatClampNeg (0 : Int32))).1), .val (.ref c23)] [(.int (255 : Int32)), (.int (f16_0 ((f10_0 v1 (0 : Int32) v2 o0_n o0_xs v2 (List.replicate v2.toNatClampNeg (0 : Int32))).1) ((f12_0 v1 v2 o0_n o0_xs).1) ((f12_0 v1 v2 o0_n o0_xs).2)))])) _
      exact XS.icmpYes X4.here hx rfl (pc0 := 38) (pc' := 54) rfl (hb hby d9_38) rfl (tlt hc38).2.2.1 (by decide) (by decide) k
    refine EndsIn.by (B := T4.setTop (mkF m 56 #[.val (.ref o0), .val (.int v1), .val (.int v2), .val (.ref b1), .val (.int (f10_0 v1 (0 : Int32) v2 o0_n o0_xs v2 (List.replicate v2.toNatClampNeg (0 : Int32))).1), .val (.ref c23)] [(.ref c23)])) (fun t k => ?_) ?_
    · show Steps p.tables e below (T4.setTop (mkF m 54 #[.val (.ref o0), .val (.int v1), .val (.int v2), .val (.ref b1), .val (.int (f10_0 v1 (0 : Int32) v2 o0_n o0_xs v2 (List.replicate v2.toNatClampNeg (0 : Int32))).1), .val (.ref c23)] [])) _
      refine XS.aload X4.here hx rfl (hb hby d9_54) rfl rfl ?_
      exact k
    subst hr
    exact own_retR X4 hx hlk hret rfl (hb hby d9_56) (by decide) (by decide) ⟨c23, kb_3, rfl, N4, g_c23, sz_c23, (by rw [e4]; exact K3), (by rw [e4]; exact Vb_3), lnb_3⟩
theorem ef_9 (m : MethodId) (o0 : Addr) (v1 : Int32) (v2 : Int32) : entryFrame m #[(.ref o0), (.int v1), (.int v2)] 6 = (mkF m 0 #[.val (.ref o0), .val (.int v1), .val (.int v2), .unset, .unset, .unset] []) := by first | (simp [entryFrame, mkF, argsToLocals, Value.category]; done) | rfl
set_option maxRecDepth 65536 in
set_option maxHeartbeats 40000000 in
theorem rm9 (l : Launch) (Z : State) (a0 : Array Value) (hw : ∀ d ∈ tables_1, d.before a0 Z = true) (ws : List Jvm.Cond) (o0 : Addr) (v1 : Int32) (v2 : Int32) (o0_k : ClassId) (o0_n : Int32) (o0_xs : List Int32) (h0 : Heap) (n0 : Nat) (Z0 : n0 ≤ h0.size) (V_o0 : Arv Z h0 o0 o0_k .char o0_n (o0_xs.map Value.int) (.int 0)) (ln_o0 : o0_xs.length = o0_n.toNatClampNeg) (O : Old Z n0 h0) (S_as : Sta Z Z.heap "java/lang/StringUTF16" "$assertionsDisabled" "Z" (.int (1 : Int32))) (S_hi : Sta Z Z.heap "java/lang/StringUTF16" "HI_BYTE_SHIFT" "I" (.int (0 : Int32))) (S_lo : Sta Z Z.heap "java/lang/StringUTF16" "LO_BYTE_SHIFT" "I" (.int (8 : Int32))) (hT : own_T v1 v2 o0_n) :
    MetFree l (⟨"java/lang/StringUTF16", "compress", "([CII)[B"⟩ : MethodName) (head1 (Jvm.Cond.code (⟨"java/lang/StringUTF16", "compress", "([CII)[B"⟩ : MethodName) jdk_52_method_16_code 6 (some (.array .byte)) :: ws) R9) (fun a U => a = #[(.ref o0), (.int v1), (.int v2)] ∧ Z.Warmed39 U.vm ∧ U.heap = h0) (fun _ _ _ _ _ => True) (fun _ U o U' => ∃ v L, o = .returned v ∧ (Q9 Z  h0 n0 (f9_0 v1 v2 o0_n o0_xs)) v U'.heap L ∧ FrameEnd U o U' L R9.cells R9.slots) := by
  refine MetFree.of_bodySF (plainFor_of_name pn_9) hisR ?_
  intro p e s m args below meth c s₁ Bd hml0 hP hK
  obtain ⟨rfl, hZ, hh⟩ := hP
  have B : Ctx p Z s a0 m meth c "java/lang/StringUTF16" "compress" jdk_52_method_16_code 6 (some (.array .byte)) := ⟨Bd.exec, hZ, hw, Bd.bytes, hml0, Bd.returns, findClass_of_methodNamed Bd.named, (name_of_methodNamed Bd.named Bd.method).1, Bd.notSynchronized⟩
  have X0 : Stand p l e R9 s m #[(.ref o0), (.int v1), (.int v2)] below meth c s₁ [] 0 0 := Stand.of_body Bd
  have e0 : s₁.heap = h0 := by rw [← hh, Bd.state]; rfl
  have K := Keep.refl h0 []
  show EndsIn p e below s R9.cells R9.slots (Q9 Z  h0 n0 (f9_0 v1 v2 o0_n o0_xs)) (s₁.setTop (entryFrame m #[(.ref o0), (.int v1), (.int v2)] 6))
  refine EndsIn.by (fun t k => castTop (ef_9 m o0 v1 v2) k) ?_
  exact b9_0 B h0 n0 o0 v1 v2 o0_k o0_n o0_xs X0 e0 (Fr.nil n0) Z0 K V_o0 ln_o0 O S_as S_hi S_lo hT _ rfl
theorem d11_0 : decode jdk_52_method_15_code 0 = .ok (.iload_n 1, 1) := by decide +kernel
theorem d11_1 : decode jdk_52_method_15_code 1 = .ok (.aload_n 0, 1) := by decide +kernel
theorem d11_2 : decode jdk_52_method_15_code 2 = .ok (.arraylength, 1) := by decide +kernel
theorem d11_3 : decode jdk_52_method_15_code 3 = .ok (.isub, 1) := by decide +kernel
theorem d11_4 : decode jdk_52_method_15_code 4 = .ok (.bipush 31, 2) := by decide +kernel
theorem d11_6 : decode jdk_52_method_15_code 6 = .ok (.iushr, 1) := by decide +kernel
theorem d11_7 : decode jdk_52_method_15_code 7 = .ok (.i2b, 1) := by decide +kernel
theorem d11_8 : decode jdk_52_method_15_code 8 = .ok (.ireturn, 1) := by decide +kernel
theorem pn_11 : plainName "java/lang/StringUTF16" = true := by first | (simp [plainName, overriddenIn]; done) | decide +kernel
def R11 : Room := { frames := 0, cells := 0, slots := 0, locals := 0 }
def Q11 (Z : State)  (h0 : Heap) (n0 : Nat) (r : Int32) (v : Option Value) (h : Heap) (L : List Loc) : Prop := v = some (.int r) ∧ Fr n0 L ∧ h = h0
def f11_0 (v1 : Int32) (o0_n : Int32) (o0_xs : List Int32) : Int32 := (nar .byte ((((v1 - o0_n).toUInt32 >>> ((31 : Int32) &&& 31).toUInt32).toInt32).toInt8.toInt32))
set_option maxRecDepth 65536 in
set_option maxHeartbeats 40000000 in
theorem b11_0 {p : Program} {l : Launch} {e : Env} {s : State} {m : MethodId} {args : Array Value} {below : List Frame} {meth : Method} {c : Code} {Z : State} {a0 : Array Value} (B : Ctx p Z s a0 m meth c "java/lang/StringUTF16" "coderFromArrayLen" jdk_52_method_15_code 2 (some .byte)) {T0 : State} {locs : List Loc} {h : Heap} (h0 : Heap) (n0 : Nat) (o0 : Addr) (v1 : Int32) (o0_k : ClassId) (o0_n : Int32) (o0_xs : List Int32) (X0 : Stand p l e R11 s m args below meth c T0 locs 0 0) (e0 : T0.heap = h) (N0 : Fr n0 locs) (Z0 : n0 ≤ h.size) (hh0 : h = h0) (V_o0 : Arv Z h o0 o0_k .byte o0_n (o0_xs.map Value.int) (.int 0)) (ln_o0 : o0_xs.length = o0_n.toNatClampNeg) (r : Int32) (hr : f11_0 v1 o0_n o0_xs = r) :
    EndsIn p e below s R11.cells R11.slots (Q11 Z  h0 n0 r) (T0.setTop (mkF m 0 #[.val (.ref o0), .val (.int v1)] [])) := by
  obtain ⟨hx, hZ, hw, hby, hml, hret, hown, hnm, hlk⟩ := B
  unfold f11_0 at hr
  refine EndsIn.by (B := T0.setTop (mkF m 2 #[.val (.ref o0), .val (.int v1)] [(.ref o0), (.int v1)])) (fun t k => ?_) ?_
  · show Steps p.tables e below (T0.setTop (mkF m 0 #[.val (.ref o0), .val (.int v1)] [])) _
    refine XS.iloadN X0.here hx rfl (hb hby d11_0) rfl  ?_
    show Steps p.tables e below (T0.setTop (mkF m 1 #[.val (.ref o0), .val (.int v1)] [(.int v1)])) _
    refine XS.aloadN X0.here hx rfl (hb hby d11_1) rfl rfl ?_
    exact k
  have V1 := V_o0
  obtain ⟨cl1, Ar1, -, S1, M1, -, -⟩ := V1
  refine EndsIn.by (B := T0.setTop (mkF m 3 #[.val (.ref o0), .val (.int v1)] [(.int o0_n), (.int v1)])) (fun t k => ?_) ?_
  · show Steps p.tables e below (T0.setTop (mkF m 2 #[.val (.ref o0), .val (.int v1)] [(.ref o0), (.int v1)])) _
    refine X0.arraylength hx (by rw [e0]; exact Ar1.1) (State.isArrayOf_alike hZ.alike Ar1.2.1) (g := (mkF m 2 #[.val (.ref o0), .val (.int v1)] [(.ref o0), (.int v1)])) rfl rfl (hb hby d11_2) _ ?_
    rw [len_of S1 M1]
    exact k
  refine EndsIn.by (B := T0.setTop (mkF m 8 #[.val (.ref o0), .val (.int v1)] [(.int ((((v1 - o0_n).toUInt32 >>> ((31 : Int32) &&& 31).toUInt32).toInt32).toInt8.toInt32))])) (fun t k => ?_) ?_
  · show Steps p.tables e below (T0.setTop (mkF m 3 #[.val (.ref o0), .val (.int v1)] [(.int o0_n), (.int v1)])) _
    refine XS.isub X0.here hx rfl (hb hby d11_3) rfl ?_
    show Steps p.tables e below (T0.setTop (mkF m 4 #[.val (.ref o0), .val (.int v1)] [(.int (v1 - o0_n))])) _
    refine XS.bipush X0.here hx rfl (hb hby d11_4) ?_
    show Steps p.tables e below (T0.setTop (mkF m 6 #[.val (.ref o0), .val (.int v1)] [(.int (31 : Int32)), (.int (v1 - o0_n))])) _
    refine XS.iushr X0.here hx rfl (hb hby d11_6) rfl ?_
    show Steps p.tables e below (T0.setTop (mkF m 7 #[.val (.ref o0), .val (.int v1)] [(.int (((v1 - o0_n).toUInt32 >>> ((31 : Int32) &&& 31).toUInt32).toInt32))])) _
    refine XS.i2b X0.here hx rfl (hb hby d11_7) rfl ?_
    exact k
  subst hr
  exact own_retN X0 hx hlk (t := .byte) hret (by simp) (hb hby d11_8) (by decide) (by decide) ⟨rfl, N0, (e0.trans hh0)⟩
theorem ef_11 (m : MethodId) (o0 : Addr) (v1 : Int32) : entryFrame m #[(.ref o0), (.int v1)] 2 = (mkF m 0 #[.val (.ref o0), .val (.int v1)] []) := by first | (simp [entryFrame, mkF, argsToLocals, Value.category]; done) | rfl
set_option maxRecDepth 65536 in
set_option maxHeartbeats 40000000 in
theorem rm11 (l : Launch) (Z : State) (a0 : Array Value) (hw : ∀ d ∈ tables_1, d.before a0 Z = true) (ws : List Jvm.Cond) (o0 : Addr) (v1 : Int32) (o0_k : ClassId) (o0_n : Int32) (o0_xs : List Int32) (h0 : Heap) (n0 : Nat) (Z0 : n0 ≤ h0.size) (V_o0 : Arv Z h0 o0 o0_k .byte o0_n (o0_xs.map Value.int) (.int 0)) (ln_o0 : o0_xs.length = o0_n.toNatClampNeg) :
    MetFree l (⟨"java/lang/StringUTF16", "coderFromArrayLen", "([BI)B"⟩ : MethodName) (head1 (Jvm.Cond.code (⟨"java/lang/StringUTF16", "coderFromArrayLen", "([BI)B"⟩ : MethodName) jdk_52_method_15_code 2 (some .byte) :: ws) R11) (fun a U => a = #[(.ref o0), (.int v1)] ∧ Z.Warmed39 U.vm ∧ U.heap = h0) (fun _ _ _ _ _ => True) (fun _ U o U' => ∃ v L, o = .returned v ∧ (Q11 Z  h0 n0 (f11_0 v1 o0_n o0_xs)) v U'.heap L ∧ FrameEnd U o U' L R11.cells R11.slots) := by
  refine MetFree.of_bodySF (plainFor_of_name pn_11) hisR ?_
  intro p e s m args below meth c s₁ Bd hml0 hP hK
  obtain ⟨rfl, hZ, hh⟩ := hP
  have B : Ctx p Z s a0 m meth c "java/lang/StringUTF16" "coderFromArrayLen" jdk_52_method_15_code 2 (some .byte) := ⟨Bd.exec, hZ, hw, Bd.bytes, hml0, Bd.returns, findClass_of_methodNamed Bd.named, (name_of_methodNamed Bd.named Bd.method).1, Bd.notSynchronized⟩
  have X0 : Stand p l e R11 s m #[(.ref o0), (.int v1)] below meth c s₁ [] 0 0 := Stand.of_body Bd
  have e0 : s₁.heap = h0 := by rw [← hh, Bd.state]; rfl
  have K := Keep.refl h0 []
  show EndsIn p e below s R11.cells R11.slots (Q11 Z  h0 n0 (f11_0 v1 o0_n o0_xs)) (s₁.setTop (entryFrame m #[(.ref o0), (.int v1)] 2))
  refine EndsIn.by (fun t k => castTop (ef_11 m o0 v1) k) ?_
  exact b11_0 B h0 n0 o0 v1 o0_k o0_n o0_xs X0 e0 (Fr.nil n0) Z0 rfl V_o0 ln_o0 _ rfl
theorem pd_7 : parseMethodDescriptor "([BI)B" = some ⟨[(.array .byte), .int], some .byte⟩ := by decide +kernel
theorem d3_0 : decode jdk_42_method_149_code 0 = .ok (.aload_n 0, 1) := by decide +kernel
theorem d3_1 : decode jdk_42_method_149_code 1 = .ok (.invokespecial 1, 3) := by decide +kernel
theorem d3_4 : decode jdk_42_method_149_code 4 = .ok (.iload_n 3, 1) := by decide +kernel
theorem d3_5 : decode jdk_42_method_149_code 5 = .ok (.ifCond .ne 22, 3) := by decide +kernel
theorem d3_8 : decode jdk_42_method_149_code 8 = .ok (.aload_n 0, 1) := by decide +kernel
theorem d3_9 : decode jdk_42_method_149_code 9 = .ok (.ldc 7, 2) := by decide +kernel
theorem d3_11 : decode jdk_42_method_149_code 11 = .ok (.getfield 9, 3) := by decide +kernel
theorem d3_14 : decode jdk_42_method_149_code 14 = .ok (.putfield 9, 3) := by decide +kernel
theorem d3_17 : decode jdk_42_method_149_code 17 = .ok (.aload_n 0, 1) := by decide +kernel
theorem d3_18 : decode jdk_42_method_149_code 18 = .ok (.ldc 7, 2) := by decide +kernel
theorem d3_20 : decode jdk_42_method_149_code 20 = .ok (.getfield 15, 3) := by decide +kernel
theorem d3_23 : decode jdk_42_method_149_code 23 = .ok (.putfield 15, 3) := by decide +kernel
theorem d3_26 : decode jdk_42_method_149_code 26 = .ok (.return_, 1) := by decide +kernel
theorem d3_27 : decode jdk_42_method_149_code 27 = .ok (.getstatic 38, 3) := by decide +kernel
theorem d3_30 : decode jdk_42_method_149_code 30 = .ok (.ifCond .eq 28, 3) := by decide +kernel
theorem d3_33 : decode jdk_42_method_149_code 33 = .ok (.aload_n 1, 1) := by decide +kernel
theorem d3_34 : decode jdk_42_method_149_code 34 = .ok (.iload_n 2, 1) := by decide +kernel
theorem d3_35 : decode jdk_42_method_149_code 35 = .ok (.iload_n 3, 1) := by decide +kernel
theorem d3_36 : decode jdk_42_method_149_code 36 = .ok (.invokestatic 177, 3) := by decide +kernel
theorem d3_39 : decode jdk_42_method_149_code 39 = .ok (.astore 5, 2) := by decide +kernel
theorem d3_41 : decode jdk_42_method_149_code 41 = .ok (.aload_n 0, 1) := by decide +kernel
theorem d3_42 : decode jdk_42_method_149_code 42 = .ok (.aload 5, 2) := by decide +kernel
theorem d3_44 : decode jdk_42_method_149_code 44 = .ok (.iload_n 3, 1) := by decide +kernel
theorem d3_45 : decode jdk_42_method_149_code 45 = .ok (.invokestatic 47, 3) := by decide +kernel
theorem d3_48 : decode jdk_42_method_149_code 48 = .ok (.putfield 15, 3) := by decide +kernel
theorem d3_51 : decode jdk_42_method_149_code 51 = .ok (.aload_n 0, 1) := by decide +kernel
theorem d3_52 : decode jdk_42_method_149_code 52 = .ok (.aload 5, 2) := by decide +kernel
theorem d3_54 : decode jdk_42_method_149_code 54 = .ok (.putfield 9, 3) := by decide +kernel
theorem d3_57 : decode jdk_42_method_149_code 57 = .ok (.return_, 1) := by decide +kernel
theorem pn_3 : plainName "java/lang/String" = true := by first | (simp [plainName, overriddenIn]; done) | decide +kernel
def R3 : Room := { frames := 4, cells := 2, slots := 3000, locals := 57 }
def Q3 (Z : State) (o0 : Addr) (h0 : Heap) (n0 : Nat) (r : Int32 × Int32 × List Int32) (v : Option Value) (h : Heap) (L : List Loc) : Prop := ∃ (b : Addr) (kb : ClassId), v = none ∧ Fr n0 L ∧ Keep h0 h [o0] ∧ Exa Z h o0 "java/lang/String" ∧ Fld Z h o0 "java/lang/String" "value" "[B" (.ref b) ∧ Fld Z h o0 "java/lang/String" "coder" "B" (.int r.1) ∧ Arv Z h b kb .byte r.2.1 (r.2.2.map Value.int) (.int 0) ∧ r.2.2.length = r.2.1.toNatClampNeg
def f3_0 (v2 : Int32) (v3 : Int32) (o0_coder : Int32) (o1_n : Int32) (o1_xs : List Int32) : Int32 × Int32 × List Int32 := (if v3 = (0 : Int32) then ((0 : Int32), (0 : Int32), ([] : List Int32)) else ((nar .byte (f11_0 v3 ((f9_0 v2 v3 o1_n o1_xs).1) ((f9_0 v2 v3 o1_n o1_xs).2))), (f9_0 v2 v3 o1_n o1_xs).1, (f9_0 v2 v3 o1_n o1_xs).2))
set_option maxRecDepth 65536 in
set_option maxHeartbeats 40000000 in
theorem b3_0 {p : Program} {l : Launch} {e : Env} {s0 : State} {vm0 : Vm} {k0 : Nat} {m : MethodId} {args : Array Value} {below : List Frame} {meth : Method} {c : Code} {Z : State} {a0 : Array Value} (B : Ctx p Z (s0.setVm vm0) a0 m meth c "java/lang/String" "<init>" jdk_42_method_149_code 6 none) {T0 : State} {locs : List Loc} {h : Heap} (h0 : Heap) (n0 : Nat) (o0 : Addr) (o1 : Addr) (v2 : Int32) (v3 : Int32) (o0_value : Value) (o0_coder : Int32) (o1_k : ClassId) (o1_n : Int32) (o1_xs : List Int32) (cs : Int32) (X0 : Stand p l e R3 (s0.setVm vm0) m args below meth c T0 locs 0 0) (e0 : T0.heap = h) (N0 : Fr n0 locs) (Z0 : n0 ≤ h.size) (hS : s0.Since vm0 k0) (hk : k0 ≤ h.size) (hC : CHv Z own_EL vm0 Z.heap) (K : Keep h0 h [o0]) (E_o0 : Exa Z h o0 "java/lang/String") (F_o0_value : Fld Z h o0 "java/lang/String" "value" "[B" o0_value) (F_o0_coder : Fld Z h o0 "java/lang/String" "coder" "B" (.int o0_coder)) (g_o0 : n0 ≤ o0) (V_o1 : Arv Z h o1 o1_k .char o1_n (o1_xs.map Value.int) (.int 0)) (ln_o1 : o1_xs.length = o1_n.toNatClampNeg) (ne_o0_o1 : o0 ≠ o1) (O : Old Z n0 h) (S_cs : Sta Z Z.heap "java/lang/String" "COMPACT_STRINGS" "Z" (.int cs)) (P5 : ¬ (cs = (0 : Int32))) (S_as : Sta Z Z.heap "java/lang/StringUTF16" "$assertionsDisabled" "Z" (.int (1 : Int32))) (S_hi : Sta Z Z.heap "java/lang/StringUTF16" "HI_BYTE_SHIFT" "I" (.int (0 : Int32))) (S_lo : Sta Z Z.heap "java/lang/StringUTF16" "LO_BYTE_SHIFT" "I" (.int (8 : Int32))) (hT : own_T v2 v3 o1_n) (r : Int32 × Int32 × List Int32) (hr : f3_0 v2 v3 o0_coder o1_n o1_xs = r) :
    EndsInW p e below s0 R3.cells R3.slots (Q3 Z o0 h0 n0 r) (T0.setTop (mkF m 0 #[.val (.ref o0), .val (.ref o1), .val (.int v2), .val (.int v3), .val .null, .unset] [])) := by
  obtain ⟨hx, hZ, hw, hby, hml, hret, hown, hnm, hlk⟩ := B
  unfold f3_0 at hr
  refine EndsInW.by (B := T0.setTop (mkF m 1 #[.val (.ref o0), .val (.ref o1), .val (.int v2), .val (.int v3), .val .null, .unset] [(.ref o0)])) (fun t k => ?_) ?_
  · show Steps p.tables e below (T0.setTop (mkF m 0 #[.val (.ref o0), .val (.ref o1), .val (.int v2), .val (.int v3), .val .null, .unset] [])) _
    refine XS.aloadN X0.here hx rfl (hb hby d3_0) rfl rfl ?_
    exact k
  obtain ⟨T1, X1, e1, st1⟩ := initO X0 hx hZ hown (hw _ (List.mem_of_getElem? (i := 18) rfl)) (hw _ (List.mem_of_getElem? (i := 19) rfl)) (hw _ (List.mem_of_getElem? (i := 20) rfl)) e0 (g := (mkF m 1 #[.val (.ref o0), .val (.ref o1), .val (.int v2), .val (.int v3), .val .null, .unset] [(.ref o0)])) rfl (by rw [hml]; rfl) rfl (hb hby d3_1) (by decide) (W := 0) (by show 2 * 0 + _ ≤ _; exact Nat.le_of_eq rfl) (by decide)
  refine EndsInW.by (B := T1.setTop (mkF m 4 #[.val (.ref o0), .val (.ref o1), .val (.int v2), .val (.int v3), .val .null, .unset] [])) (fun t k => st1 t k) ?_
  refine EndsInW.by (B := T1.setTop (mkF m 5 #[.val (.ref o0), .val (.ref o1), .val (.int v2), .val (.int v3), .val .null, .unset] [(.int v3)])) (fun t k => ?_) ?_
  · show Steps p.tables e below (T1.setTop (mkF m 4 #[.val (.ref o0), .val (.ref o1), .val (.int v2), .val (.int v3), .val .null, .unset] [])) _
    refine XS.iloadN X1.here hx rfl (hb hby d3_4) rfl  ?_
    exact k
  by_cases hc5 : v3 = (0 : Int32)
  · rw [if_pos hc5] at hr
    refine EndsInW.by (B := T1.setTop (mkF m 8 #[.val (.ref o0), .val (.ref o1), .val (.int v2), .val (.int v3), .val .null, .unset] [])) (fun t k => ?_) ?_
    · show Steps p.tables e below (T1.setTop (mkF m 5 #[.val (.ref o0), .val (.ref o1), .val (.int v2), .val (.int v3), .val .null, .unset] [(.int v3)])) _
      exact XS.ifNo X1.here hx rfl (hb hby d3_5) rfl ((if0 _ _).trans (teq hc5).2) k
    refine EndsInW.by (B := T1.setTop (mkF m 9 #[.val (.ref o0), .val (.ref o1), .val (.int v2), .val (.int v3), .val .null, .unset] [(.ref o0)])) (fun t k => ?_) ?_
    · show Steps p.tables e below (T1.setTop (mkF m 8 #[.val (.ref o0), .val (.ref o1), .val (.int v2), .val (.int v3), .val .null, .unset] [])) _
      refine XS.aloadN X1.here hx rfl (hb hby d3_8) rfl rfl ?_
      exact k
    have sf2 : Safe Z own_EL vm0 h o0 := Safe.ext O.2 hC (Safe.new (Nat.le_trans (Nat.le_of_eq O.1) g_o0))
    obtain ⟨a9, T2, h2, k2, b9, kb2, X2, e2, X2e, hS, hkk2, hZ, hown, Ea2, Fc2, Fv2, Vb2, -, -, hR2, hL2, hne2, st2⟩ := ldcCH (EL := own_EL) (own := "java/lang/String") (text := "") X1 hx hZ hown (hw _ (List.mem_of_getElem? (i := 21) rfl)) (own_wS hw) e1 hS hk (own_EW hw) (List.mem_singleton.mpr rfl) (hC.ext O.2) (vs := []) (z := 0) ⟨fun _ q => (nomatch q), rfl⟩ (by decide) rfl (g := (mkF m 9 #[.val (.ref o0), .val (.ref o1), .val (.int v2), .val (.int v3), .val .null, .unset] [(.ref o0)])) rfl (hb hby d3_9) (n := 0) (by decide) (by decide) (by decide) (by decide)
    have sg2 := hR2.safe E_o0.lt sf2
    have ne_o0_a9 : o0 ≠ a9 := (hne2 o0 sg2).1
    have ne_o0_b9 : o0 ≠ b9 := (hne2 o0 sg2).2
    have E_o0_2 := E_o0.ext X2e
    have F_o0_value_2 := F_o0_value.ext X2e
    have F_o0_coder_2 := F_o0_coder.ext X2e
    have V_o1_2 := V_o1.ext X2e
    have hk2 : _ ≤ h2.size := Nat.le_trans hk X2e.1
    have Z2 : n0 ≤ h2.size := Nat.le_trans Z0 X2e.1
    have K2 := K.ext X2e
    have O2 := O.ext X2e
    have Vc2 : Arv Z h2 b9 kb2 .byte (0 : Int32) (([] : List Int32).map Value.int) (.int 0) := Vb2
    have lnc2 : ([] : List Int32).length = (0 : Int32).toNatClampNeg := rfl
    refine EndsInW.by (B := T2.setTop (mkF m 11 #[.val (.ref o0), .val (.ref o1), .val (.int v2), .val (.int v3), .val .null, .unset] [(.ref a9), (.ref o0)])) (fun t k => st2 t k) ?_
    obtain ⟨T3, X3, e3, st3⟩ := getF X2 hx hZ hown (host := "") (Or.inl (hw _ (List.mem_of_getElem? (i := 27) rfl))) Via.refl e2 Fv2 (g := (mkF m 11 #[.val (.ref o0), .val (.ref o1), .val (.int v2), .val (.int v3), .val .null, .unset] [(.ref a9), (.ref o0)])) rfl rfl (hb hby d3_11)
    refine EndsInW.by (B := T3.setTop (mkF m 14 #[.val (.ref o0), .val (.ref o1), .val (.int v2), .val (.int v3), .val .null, .unset] [(.ref b9), (.ref o0)])) (fun t k => st3 t k) ?_
    obtain ⟨T4, h4, X4, e4, W4, st4⟩ := putF X3 hx hZ hown (host := "") (Or.inl (hw _ (List.mem_of_getElem? (i := 27) rfl))) Via.refl e3 F_o0_value_2 E_o0_2 (Or.inr ⟨(hw _ (List.mem_of_getElem? (i := 23) rfl)), rfl, hnm⟩) (hw _ (List.mem_of_getElem? (i := 9) rfl)) (ty := (.array .byte)) (by decide) rfl rfl (g := (mkF m 14 #[.val (.ref o0), .val (.ref o1), .val (.int v2), .val (.int v3), .val .null, .unset] [(.ref b9), (.ref o0)])) rfl rfl (hb hby d3_14)
    have E_o0_4 := E_o0_2.wr W4
    have F_o0_value_4 := F_o0_value_2.same W4
    have F_o0_coder_4 := F_o0_coder_2.other W4 (Or.inr (slot_ne (Or.inr (hw _ (List.mem_of_getElem? (i := 24) rfl))) (Or.inr (hw _ (List.mem_of_getElem? (i := 23) rfl))) (by decide) (t := .byte) (t' := (.array .byte)) (by decide) (by decide)))
    have E_a9_4 := Ea2.wr W4
    have F_a9_value_4 := Fv2.other W4 (Or.inl (Ne.symm ne_o0_a9))
    have F_a9_coder_4 := Fc2.other W4 (Or.inl (Ne.symm ne_o0_a9))
    have V_o1_4 := V_o1_2.other W4 (Ne.symm ne_o0_o1)
    have V_b9_4 := Vc2.other W4 (Ne.symm ne_o0_b9)
    have hk4 : _ ≤ h4.size := Nat.le_trans hkk2 (Nat.le_of_eq W4.size.symm)
    have N4 := Fr.snoc X4 N0 g_o0
    have Z4 : n0 ≤ h4.size := Nat.le_trans Z2 (Nat.le_of_eq W4.size.symm)
    have K4 := K2.wr W4 (Or.inl (by simp))
    have O4 := O2.wr W4 g_o0
    refine EndsInW.by (B := T4.setTop (mkF m 17 #[.val (.ref o0), .val (.ref o1), .val (.int v2), .val (.int v3), .val .null, .unset] [])) (fun t k => st4 t k) ?_
    refine EndsInW.by (B := T4.setTop (mkF m 18 #[.val (.ref o0), .val (.ref o1), .val (.int v2), .val (.int v3), .val .null, .unset] [(.ref o0)])) (fun t k => ?_) ?_
    · show Steps p.tables e below (T4.setTop (mkF m 17 #[.val (.ref o0), .val (.ref o1), .val (.int v2), .val (.int v3), .val .null, .unset] [])) _
      refine XS.aloadN X4.here hx rfl (hb hby d3_17) rfl rfl ?_
      exact k
    have st5 := ldcAgain (own := "java/lang/String") (text := "") X4 hx hZ hown (hw _ (List.mem_of_getElem? (i := 21) rfl)) hL2 (g := (mkF m 18 #[.val (.ref o0), .val (.ref o1), .val (.int v2), .val (.int v3), .val .null, .unset] [(.ref o0)])) rfl (hb hby d3_18)
    refine EndsInW.by (B := T4.setTop (mkF m 20 #[.val (.ref o0), .val (.ref o1), .val (.int v2), .val (.int v3), .val .null, .unset] [(.ref a9), (.ref o0)])) (fun t k => st5 t k) ?_
    obtain ⟨T6, X6, e6, st6⟩ := getF X4 hx hZ hown (host := "") (Or.inl (hw _ (List.mem_of_getElem? (i := 28) rfl))) Via.refl e4 F_a9_coder_4 (g := (mkF m 20 #[.val (.ref o0), .val (.ref o1), .val (.int v2), .val (.int v3), .val .null, .unset] [(.ref a9), (.ref o0)])) rfl rfl (hb hby d3_20)
    refine EndsInW.by (B := T6.setTop (mkF m 23 #[.val (.ref o0), .val (.ref o1), .val (.int v2), .val (.int v3), .val .null, .unset] [(.int (0 : Int32)), (.ref o0)])) (fun t k => st6 t k) ?_
    obtain ⟨T7, h7, X7, e7, W7, st7⟩ := putFN X6 hx hZ hown (hw _ (List.mem_of_getElem? (i := 28) rfl)) Via.refl e6 F_o0_coder_4 E_o0_4 (Or.inr ⟨(hw _ (List.mem_of_getElem? (i := 24) rfl)), rfl, hnm⟩) (hw _ (List.mem_of_getElem? (i := 9) rfl)) (ty := .byte) (v' := (.int (0 : Int32))) (by decide) rfl rfl (g := (mkF m 23 #[.val (.ref o0), .val (.ref o1), .val (.int v2), .val (.int v3), .val .null, .unset] [(.int (0 : Int32)), (.ref o0)])) rfl rfl (hb hby d3_23)
    have E_o0_7 := E_o0_4.wr W7
    have F_o0_value_7 := F_o0_value_4.other W7 (Or.inr (slot_ne (Or.inr (hw _ (List.mem_of_getElem? (i := 23) rfl))) (Or.inr (hw _ (List.mem_of_getElem? (i := 24) rfl))) (by decide) (t := (.array .byte)) (t' := .byte) (by decide) (by decide)))
    have F_o0_coder_7 := F_o0_coder_4.same W7
    have E_a9_7 := E_a9_4.wr W7
    have F_a9_value_7 := F_a9_value_4.other W7 (Or.inl (Ne.symm ne_o0_a9))
    have F_a9_coder_7 := F_a9_coder_4.other W7 (Or.inl (Ne.symm ne_o0_a9))
    have V_o1_7 := V_o1_4.other W7 (Ne.symm ne_o0_o1)
    have V_b9_7 := V_b9_4.other W7 (Ne.symm ne_o0_b9)
    have hk7 : _ ≤ h7.size := Nat.le_trans hk4 (Nat.le_of_eq W7.size.symm)
    have N7 := Fr.snoc X7 N4 g_o0
    have Z7 : n0 ≤ h7.size := Nat.le_trans Z4 (Nat.le_of_eq W7.size.symm)
    have K7 := K4.wr W7 (Or.inl (by simp))
    have O7 := O4.wr W7 g_o0
    refine EndsInW.by (B := T7.setTop (mkF m 26 #[.val (.ref o0), .val (.ref o1), .val (.int v2), .val (.int v3), .val .null, .unset] [])) (fun t k => st7 t k) ?_
    subst hr
    exact own_wret0 X7 hx hlk hS (Nat.le_trans hk7 (Nat.le_of_eq (congrArg Array.size e7.symm))) hret (hb hby d3_26) (by decide) (by decide) ⟨b9, kb2, rfl, N7, (by rw [e7]; exact K7), (by rw [e7]; exact E_o0_7), (by rw [e7]; exact F_o0_value_7), (by rw [e7]; exact F_o0_coder_7), (by rw [e7]; exact V_b9_7), lnc2⟩
  · rw [if_neg hc5] at hr
    refine EndsInW.by (B := T1.setTop (mkF m 27 #[.val (.ref o0), .val (.ref o1), .val (.int v2), .val (.int v3), .val .null, .unset] [])) (fun t k => ?_) ?_
    · show Steps p.tables e below (T1.setTop (mkF m 5 #[.val (.ref o0), .val (.ref o1), .val (.int v2), .val (.int v3), .val .null, .unset] [(.int v3)])) _
      exact XS.ifYes X1.here hx rfl (pc0 := 5) (pc' := 27) rfl (hb hby d3_5) rfl ((if0 _ _).trans (feq hc5).2) (by decide) (by decide) k
    obtain ⟨T8, X8, e8, st8⟩ := getS2 X1 hx hZ hown (host := "") (Or.inl (hw _ (List.mem_of_getElem? (i := 50) rfl))) Via.refl e1 (S_cs.ext O.2) (g := (mkF m 27 #[.val (.ref o0), .val (.ref o1), .val (.int v2), .val (.int v3), .val .null, .unset] [])) rfl (hb hby d3_27)
    refine EndsInW.by (B := T8.setTop (mkF m 30 #[.val (.ref o0), .val (.ref o1), .val (.int v2), .val (.int v3), .val .null, .unset] [(.int cs)])) (fun t k => st8 t k) ?_
    have hc30 : ¬ (cs = (0 : Int32)) := P5
    refine EndsInW.by (B := T8.setTop (mkF m 33 #[.val (.ref o0), .val (.ref o1), .val (.int v2), .val (.int v3), .val .null, .unset] [])) (fun t k => ?_) ?_
    · show Steps p.tables e below (T8.setTop (mkF m 30 #[.val (.ref o0), .val (.ref o1), .val (.int v2), .val (.int v3), .val .null, .unset] [(.int cs)])) _
      exact XS.ifNo X8.here hx rfl (hb hby d3_30) rfl ((if0 _ _).trans (feq hc30).1) k
    refine EndsInW.by (B := T8.setTop (mkF m 36 #[.val (.ref o0), .val (.ref o1), .val (.int v2), .val (.int v3), .val .null, .unset] [(.int v3), (.int v2), (.ref o1)])) (fun t k => ?_) ?_
    · show Steps p.tables e below (T8.setTop (mkF m 33 #[.val (.ref o0), .val (.ref o1), .val (.int v2), .val (.int v3), .val .null, .unset] [])) _
      refine XS.aloadN X8.here hx rfl (hb hby d3_33) rfl rfl ?_
      show Steps p.tables e below (T8.setTop (mkF m 34 #[.val (.ref o0), .val (.ref o1), .val (.int v2), .val (.int v3), .val .null, .unset] [(.ref o1)])) _
      refine XS.iloadN X8.here hx rfl (hb hby d3_34) rfl  ?_
      show Steps p.tables e below (T8.setTop (mkF m 35 #[.val (.ref o0), .val (.ref o1), .val (.int v2), .val (.int v3), .val .null, .unset] [(.int v2), (.ref o1)])) _
      refine XS.iloadN X8.here hx rfl (hb hby d3_35) rfl  ?_
      exact k
    have hp9_hT : own_T v2 v3 o1_n := hT
    -- pc 36: java/lang/StringUTF16.compress
    obtain ⟨_, _, ⟨T9, L9, k9, n9⟩, -, X9, ⟨Lc9, hQ9, l9, y9, z9⟩, st9⟩ := Jvm.LawKit.callS X8 hx (y := (⟨"java/lang/StringUTF16", "compress", "([CII)[B"⟩ : MethodName)) hown (mvT hZ (hw _ (List.mem_of_getElem? (i := 52) rfl))) (mvT hZ (hw _ (List.mem_of_getElem? (i := 53) rfl))) (mvT hZ (hw _ (List.mem_of_getElem? (i := 54) rfl))) (mvT hZ (hw _ (List.mem_of_getElem? (i := 55) rfl))) (by decide) (backOf (W := 0) (rm9 l Z a0 hw [] o1 v2 v3 o1_k o1_n o1_xs h n0 Z0 V_o1 ln_o1 O S_as S_hi S_lo hp9_hT) hZ (hw _ (List.mem_of_getElem? (i := 55) rfl)) (hw _ (List.mem_of_getElem? (i := 54) rfl)) (by decide) (by decide)) (g := (mkF m 36 #[.val (.ref o0), .val (.ref o1), .val (.int v2), .val (.int v3), .val .null, .unset] [(.int v3), (.int v2), (.ref o1)])) rfl (by rw [hml]; rfl) (argsL := [(.ref o1), (.int v2), (.int v3)]) (rest := []) (lenOf pd_5 rfl) rfl (by show 2 * 0 + _ ≤ _; exact Nat.le_of_eq rfl) (hb hby d3_36) (fun _ _ => ⟨rfl, e8, (by decide : 0 + R9.cells ≤ _), (by decide : 0 + R9.slots ≤ _)⟩)
    dsimp only [Pt.U, Pt.locs, Pt.cells, Pt.slots] at X9 l9 y9 z9 st9 hQ9
    subst l9 y9 z9
    obtain ⟨c36, kb_9, rfl, Nq9, g_c36, szq9, Kq9, Vb_9, lnb_9⟩ := hQ9
    obtain ⟨h9, e9⟩ : ∃ z, T9.heap = z := ⟨_, rfl⟩
    rw [e9] at Kq9 Vb_9
    have hk9 : _ ≤ h9.size := Nat.le_trans hk Kq9.1
    have N9 := Fr.app N0 Nq9
    have Z9 : n0 ≤ h9.size := Nat.le_trans Z0 Kq9.1
    have ne_o0_c36 : o0 ≠ c36 := Nat.ne_of_lt (Nat.lt_of_lt_of_le E_o0.lt szq9)
    have ne_o1_c36 : o1 ≠ c36 := Nat.ne_of_lt (Nat.lt_of_lt_of_le V_o1.lt szq9)
    have E_o0_9 := E_o0.keep Kq9
    have F_o0_value_9 := F_o0_value.keep Kq9 (by simp)
    have F_o0_coder_9 := F_o0_coder.keep Kq9 (by simp)
    have V_o1_9 := V_o1.keep Kq9 (by simp)
    have K9 := K.trans Kq9 (fun _ q => nomatch q)
    have O9 := O.keep Kq9 all0
    have sz_c36 : h0.size ≤ c36 := Nat.le_trans K.1 szq9
    refine EndsInW.by (B := T9.setTop (mkF m 39 #[.val (.ref o0), .val (.ref o1), .val (.int v2), .val (.int v3), .val .null, .unset] [(.ref c36)])) (fun t k => st9 t k) ?_
    refine EndsInW.by (B := T9.setTop (mkF m 45 #[.val (.ref o0), .val (.ref o1), .val (.int v2), .val (.int v3), .val .null, .val (.ref c36)] [(.int v3), (.ref c36), (.ref o0)])) (fun t k => ?_) ?_
    · show Steps p.tables e below (T9.setTop (mkF m 39 #[.val (.ref o0), .val (.ref o1), .val (.int v2), .val (.int v3), .val .null, .unset] [(.ref c36)])) _
      refine XS.astore X9.here hx rfl (hb hby d3_39) rfl rfl (l' := #[.val (.ref o0), .val (.ref o1), .val (.int v2), .val (.int v3), .val .null, .val (.ref c36)]) rfl ?_
      show Steps p.tables e below (T9.setTop (mkF m 41 #[.val (.ref o0), .val (.ref o1), .val (.int v2), .val (.int v3), .val .null, .val (.ref c36)] [])) _
      refine XS.aloadN X9.here hx rfl (hb hby d3_41) rfl rfl ?_
      show Steps p.tables e below (T9.setTop (mkF m 42 #[.val (.ref o0), .val (.ref o1), .val (.int v2), .val (.int v3), .val .null, .val (.ref c36)] [(.ref o0)])) _
      refine XS.aload X9.here hx rfl (hb hby d3_42) rfl rfl ?_
      show Steps p.tables e below (T9.setTop (mkF m 44 #[.val (.ref o0), .val (.ref o1), .val (.int v2), .val (.int v3), .val .null, .val (.ref c36)] [(.ref c36), (.ref o0)])) _
      refine XS.iloadN X9.here hx rfl (hb hby d3_44) rfl  ?_
      exact k
    -- pc 45: java/lang/StringUTF16.coderFromArrayLen
    obtain ⟨_, _, ⟨T10, L10, k10, n10⟩, -, X10, ⟨Lc10, hQ10, l10, y10, z10⟩, st10⟩ := Jvm.LawKit.callS X9 hx (y := (⟨"java/lang/StringUTF16", "coderFromArrayLen", "([BI)B"⟩ : MethodName)) hown (mvT hZ (hw _ (List.mem_of_getElem? (i := 59) rfl))) (mvT hZ (hw _ (List.mem_of_getElem? (i := 60) rfl))) (mvT hZ (hw _ (List.mem_of_getElem? (i := 54) rfl))) (mvT hZ (hw _ (List.mem_of_getElem? (i := 61) rfl))) (by decide) (backOf (W := 1) (rm11 l Z a0 hw [] c36 v3 kb_9 ((f9_0 v2 v3 o1_n o1_xs).1) ((f9_0 v2 v3 o1_n o1_xs).2) h9 n0 Z9 Vb_9 lnb_9) hZ (hw _ (List.mem_of_getElem? (i := 61) rfl)) (hw _ (List.mem_of_getElem? (i := 54) rfl)) (by decide) (by decide)) (g := (mkF m 45 #[.val (.ref o0), .val (.ref o1), .val (.int v2), .val (.int v3), .val .null, .val (.ref c36)] [(.int v3), (.ref c36), (.ref o0)])) rfl (by rw [hml]; rfl) (argsL := [(.ref c36), (.int v3)]) (rest := [(.ref o0)]) (lenOf pd_7 rfl) rfl (by show 2 * 0 + _ ≤ _; exact Nat.le_of_eq rfl) (hb hby d3_45) (fun _ _ => ⟨rfl, e9, (by decide : 2 + R11.cells ≤ _), (by decide : 3000 + R11.slots ≤ _)⟩)
    dsimp only [Pt.U, Pt.locs, Pt.cells, Pt.slots] at X10 l10 y10 z10 st10 hQ10
    subst l10 y10 z10
    obtain ⟨rfl, Nq10, e10⟩ := hQ10
    have N10 := Fr.app N9 Nq10
    refine EndsInW.by (B := T10.setTop (mkF m 48 #[.val (.ref o0), .val (.ref o1), .val (.int v2), .val (.int v3), .val .null, .val (.ref c36)] [(.int (f11_0 v3 ((f9_0 v2 v3 o1_n o1_xs).1) ((f9_0 v2 v3 o1_n o1_xs).2))), (.ref o0)])) (fun t k => st10 t k) ?_
    obtain ⟨T11, h11, X11, e11, W11, st11⟩ := putFN X10 hx hZ hown (hw _ (List.mem_of_getElem? (i := 28) rfl)) Via.refl e10 F_o0_coder_9 E_o0_9 (Or.inr ⟨(hw _ (List.mem_of_getElem? (i := 24) rfl)), rfl, hnm⟩) (hw _ (List.mem_of_getElem? (i := 9) rfl)) (ty := .byte) (v' := (.int (nar .byte (f11_0 v3 ((f9_0 v2 v3 o1_n o1_xs).1) ((f9_0 v2 v3 o1_n o1_xs).2))))) (by decide) rfl (fits_nar_byte _) (g := (mkF m 48 #[.val (.ref o0), .val (.ref o1), .val (.int v2), .val (.int v3), .val .null, .val (.ref c36)] [(.int (f11_0 v3 ((f9_0 v2 v3 o1_n o1_xs).1) ((f9_0 v2 v3 o1_n o1_xs).2))), (.ref o0)])) rfl rfl (hb hby d3_48)
    have E_o0_11 := E_o0_9.wr W11
    have F_o0_value_11 := F_o0_value_9.other W11 (Or.inr (slot_ne (Or.inr (hw _ (List.mem_of_getElem? (i := 23) rfl))) (Or.inr (hw _ (List.mem_of_getElem? (i := 24) rfl))) (by decide) (t := (.array .byte)) (t' := .byte) (by decide) (by decide)))
    have F_o0_coder_11 := F_o0_coder_9.same W11
    have V_o1_11 := V_o1_9.other W11 (Ne.symm ne_o0_o1)
    have V_c36_11 := Vb_9.other W11 (Ne.symm ne_o0_c36)
    have hk11 : _ ≤ h11.size := Nat.le_trans hk9 (Nat.le_of_eq W11.size.symm)
    have N11 := Fr.snoc X11 N10 g_o0
    have Z11 : n0 ≤ h11.size := Nat.le_trans Z9 (Nat.le_of_eq W11.size.symm)
    have K11 := K9.wr W11 (Or.inl (by simp))
    have O11 := O9.wr W11 g_o0
    refine EndsInW.by (B := T11.setTop (mkF m 51 #[.val (.ref o0), .val (.ref o1), .val (.int v2), .val (.int v3), .val .null, .val (.ref c36)] [])) (fun t k => st11 t k) ?_
    refine EndsInW.by (B := T11.setTop (mkF m 54 #[.val (.ref o0), .val (.ref o1), .val (.int v2), .val (.int v3), .val .null, .val (.ref c36)] [(.ref c36), (.ref o0)])) (fun t k => ?_) ?_
    · show Steps p.tables e below (T11.setTop (mkF m 51 #[.val (.ref o0), .val (.ref o1), .val (.int v2), .val (.int v3), .val .null, .val (.ref c36)] [])) _
      refine XS.aloadN X11.here hx rfl (hb hby d3_51) rfl rfl ?_
      show Steps p.tables e below (T11.setTop (mkF m 52 #[.val (.ref o0), .val (.ref o1), .val (.int v2), .val (.int v3), .val .null, .val (.ref c36)] [(.ref o0)])) _
      refine XS.aload X11.here hx rfl (hb hby d3_52) rfl rfl ?_
      exact k
    obtain ⟨T12, h12, X12, e12, W12, st12⟩ := putF X11 hx hZ hown (host := "") (Or.inl (hw _ (List.mem_of_getElem? (i := 27) rfl))) Via.refl e11 F_o0_value_11 E_o0_11 (Or.inr ⟨(hw _ (List.mem_of_getElem? (i := 23) rfl)), rfl, hnm⟩) (hw _ (List.mem_of_getElem? (i := 9) rfl)) (ty := (.array .byte)) (by decide) rfl rfl (g := (mkF m 54 #[.val (.ref o0), .val (.ref o1), .val (.int v2), .val (.int v3), .val .null, .val (.ref c36)] [(.ref c36), (.ref o0)])) rfl rfl (hb hby d3_54)
    have E_o0_12 := E_o0_11.wr W12
    have F_o0_value_12 := F_o0_value_11.same W12
    have F_o0_coder_12 := F_o0_coder_11.other W12 (Or.inr (slot_ne (Or.inr (hw _ (List.mem_of_getElem? (i := 24) rfl))) (Or.inr (hw _ (List.mem_of_getElem? (i := 23) rfl))) (by decide) (t := .byte) (t' := (.array .byte)) (by decide) (by decide)))
    have V_o1_12 := V_o1_11.other W12 (Ne.symm ne_o0_o1)
    have V_c36_12 := V_c36_11.other W12 (Ne.symm ne_o0_c36)
    have hk12 : _ ≤ h12.size := Nat.le_trans hk11 (Nat.le_of_eq W12.size.symm)
    have N12 := Fr.snoc X12 N11 g_o0
    have Z12 : n0 ≤ h12.size := Nat.le_trans Z11 (Nat.le_of_eq W12.size.symm)
    have K12 := K11.wr W12 (Or.inl (by simp))
    have O12 := O11.wr W12 g_o0
    refine EndsInW.by (B := T12.setTop (mkF m 57 #[.val (.ref o0), .val (.ref o1), .val (.int v2), .val (.int v3), .val .null, .val (.ref c36)] [])) (fun t k => st12 t k) ?_
    subst hr
    exact own_wret0 X12 hx hlk hS (Nat.le_trans hk12 (Nat.le_of_eq (congrArg Array.size e12.symm))) hret (hb hby d3_57) (by decide) (by decide) ⟨c36, kb_9, rfl, N12, (by rw [e12]; exact K12), (by rw [e12]; exact E_o0_12), (by rw [e12]; exact F_o0_value_12), (by rw [e12]; exact F_o0_coder_12), (by rw [e12]; exact V_c36_12), lnb_9⟩
theorem ef_3 (m : MethodId) (o0 : Addr) (o1 : Addr) (v2 : Int32) (v3 : Int32) : entryFrame m #[(.ref o0), (.ref o1), (.int v2), (.int v3), .null] 6 = (mkF m 0 #[.val (.ref o0), .val (.ref o1), .val (.int v2), .val (.int v3), .val .null, .unset] []) := by first | (simp [entryFrame, mkF, argsToLocals, Value.category]; done) | rfl
set_option maxRecDepth 65536 in
set_option maxHeartbeats 40000000 in
theorem rm3 (l : Launch) (Z : State) (a0 : Array Value) (hw : ∀ d ∈ tables_1, d.before a0 Z = true) (ws : List Jvm.Cond) (o0 : Addr) (o1 : Addr) (v2 : Int32) (v3 : Int32) (o0_value : Value) (o0_coder : Int32) (o1_k : ClassId) (o1_n : Int32) (o1_xs : List Int32) (cs : Int32) (h0 : Heap) (n0 : Nat) (Z0 : n0 ≤ h0.size) (E_o0 : Exa Z h0 o0 "java/lang/String") (F_o0_value : Fld Z h0 o0 "java/lang/String" "value" "[B" o0_value) (F_o0_coder : Fld Z h0 o0 "java/lang/String" "coder" "B" (.int o0_coder)) (g_o0 : n0 ≤ o0) (V_o1 : Arv Z h0 o1 o1_k .char o1_n (o1_xs.map Value.int) (.int 0)) (ln_o1 : o1_xs.length = o1_n.toNatClampNeg) (ne_o0_o1 : o0 ≠ o1) (O : Old Z n0 h0) (S_cs : Sta Z Z.heap "java/lang/String" "COMPACT_STRINGS" "Z" (.int cs)) (P5 : ¬ (cs = (0 : Int32))) (S_as : Sta Z Z.heap "java/lang/StringUTF16" "$assertionsDisabled" "Z" (.int (1 : Int32))) (S_hi : Sta Z Z.heap "java/lang/StringUTF16" "HI_BYTE_SHIFT" "I" (.int (0 : Int32))) (S_lo : Sta Z Z.heap "java/lang/StringUTF16" "LO_BYTE_SHIFT" "I" (.int (8 : Int32))) (hT : own_T v2 v3 o1_n) :
    MetFree l (⟨"java/lang/String", "<init>", "([CIILjava/lang/Void;)V"⟩ : MethodName) (head1 (Jvm.Cond.code (⟨"java/lang/String", "<init>", "([CIILjava/lang/Void;)V"⟩ : MethodName) jdk_42_method_149_code 6 none :: ws) R3) (fun a U => a = #[(.ref o0), (.ref o1), (.int v2), (.int v3), .null] ∧ Z.Warmed39 U.vm ∧ U.heap = h0 ∧ CHv Z own_EL U.vm Z.heap) (fun _ _ _ _ _ => True) (fun _ U o U' => ∃ v L, o = .returned v ∧ (Q3 Z o0 h0 n0 (f3_0 v2 v3 o0_coder o1_n o1_xs)) v U'.heap L ∧ ReturnedEndW U o U' L R3.cells R3.slots) := by
  refine MetFree.of_bodySF (plainFor_of_name pn_3) hisR ?_
  intro p e s m args below meth c s₁ Bd hml0 hP hK
  obtain ⟨rfl, hZ, hh, hC⟩ := hP
  have B : Ctx p Z (s.setVm s.vm) a0 m meth c "java/lang/String" "<init>" jdk_42_method_149_code 6 none := ⟨Bd.exec, hZ, hw, Bd.bytes, hml0, Bd.returns, findClass_of_methodNamed Bd.named, (name_of_methodNamed Bd.named Bd.method).1, Bd.notSynchronized⟩
  have X0 : Stand p l e R3 (s.setVm s.vm) m #[(.ref o0), (.ref o1), (.int v2), (.int v3), .null] below meth c s₁ [] 0 0 := Stand.of_body Bd
  have e0 : s₁.heap = h0 := by rw [← hh, Bd.state]; rfl
  have K := Keep.refl h0 [o0]
  show EndsInW p e below s R3.cells R3.slots (Q3 Z o0 h0 n0 (f3_0 v2 v3 o0_coder o1_n o1_xs)) (s₁.setTop (entryFrame m #[(.ref o0), (.ref o1), (.int v2), (.int v3), .null] 6))
  refine EndsInW.by (fun t k => castTop (ef_3 m o0 o1 v2 v3) k) ?_
  exact b3_0 (s0 := s) (vm0 := s.vm) (k0 := 0) B h0 n0 o0 o1 v2 v3 o0_value o0_coder o1_k o1_n o1_xs cs X0 e0 (Fr.nil n0) Z0 ((State.WarmedH.refl s).since 0) (Nat.zero_le _) hC K E_o0 F_o0_value F_o0_coder g_o0 V_o1 ln_o1 ne_o0_o1 O S_cs P5 S_as S_hi S_lo hT _ rfl
theorem pd_8 : parseMethodDescriptor "([CIILjava/lang/Void;)V" = some ⟨[(.array .char), .int, .int, (.object "java/lang/Void")], none⟩ := by decide +kernel
theorem d2_0 : decode jdk_42_method_3_code 0 = .ok (.aload_n 0, 1) := by decide +kernel
theorem d2_1 : decode jdk_42_method_3_code 1 = .ok (.aload_n 1, 1) := by decide +kernel
theorem d2_2 : decode jdk_42_method_3_code 2 = .ok (.iconst 0, 1) := by decide +kernel
theorem d2_3 : decode jdk_42_method_3_code 3 = .ok (.aload_n 1, 1) := by decide +kernel
theorem d2_4 : decode jdk_42_method_3_code 4 = .ok (.arraylength, 1) := by decide +kernel
theorem d2_5 : decode jdk_42_method_3_code 5 = .ok (.aconst_null, 1) := by decide +kernel
theorem d2_6 : decode jdk_42_method_3_code 6 = .ok (.invokespecial 27, 3) := by decide +kernel
theorem d2_9 : decode jdk_42_method_3_code 9 = .ok (.return_, 1) := by decide +kernel
theorem pn_2 : plainName "java/lang/String" = true := by first | (simp [plainName, overriddenIn]; done) | decide +kernel
def R2 : Room := { frames := 5, cells := 2, slots := 3000, locals := 74 }
def Q2 (Z : State) (o0 : Addr) (h0 : Heap) (n0 : Nat) (r : Int32 × Int32 × List Int32) (v : Option Value) (h : Heap) (L : List Loc) : Prop := ∃ (b : Addr) (kb : ClassId), v = none ∧ Fr n0 L ∧ Keep h0 h [o0] ∧ Exa Z h o0 "java/lang/String" ∧ Fld Z h o0 "java/lang/String" "value" "[B" (.ref b) ∧ Fld Z h o0 "java/lang/String" "coder" "B" (.int r.1) ∧ Arv Z h b kb .byte r.2.1 (r.2.2.map Value.int) (.int 0) ∧ r.2.2.length = r.2.1.toNatClampNeg
def f2_0 (o0_coder : Int32) (o1_n : Int32) (o1_xs : List Int32) : Int32 × Int32 × List Int32 := ((f3_0 (0 : Int32) o1_n o0_coder o1_n o1_xs).1, (f3_0 (0 : Int32) o1_n o0_coder o1_n o1_xs).2.1, (f3_0 (0 : Int32) o1_n o0_coder o1_n o1_xs).2.2)
set_option maxRecDepth 65536 in
set_option maxHeartbeats 40000000 in
theorem b2_0 {p : Program} {l : Launch} {e : Env} {s0 : State} {vm0 : Vm} {k0 : Nat} {m : MethodId} {args : Array Value} {below : List Frame} {meth : Method} {c : Code} {Z : State} {a0 : Array Value} (B : Ctx p Z (s0.setVm vm0) a0 m meth c "java/lang/String" "<init>" jdk_42_method_3_code 2 none) {T0 : State} {locs : List Loc} {h : Heap} (h0 : Heap) (n0 : Nat) (o0 : Addr) (o1 : Addr) (o0_value : Value) (o0_coder : Int32) (o1_k : ClassId) (o1_n : Int32) (o1_xs : List Int32) (cs : Int32) (X0 : Stand p l e R2 (s0.setVm vm0) m args below meth c T0 locs 0 0) (e0 : T0.heap = h) (N0 : Fr n0 locs) (Z0 : n0 ≤ h.size) (hS : s0.Since vm0 k0) (hk : k0 ≤ h.size) (hC : CHv Z own_EL vm0 Z.heap) (K : Keep h0 h [o0]) (E_o0 : Exa Z h o0 "java/lang/String") (F_o0_value : Fld Z h o0 "java/lang/String" "value" "[B" o0_value) (F_o0_coder : Fld Z h o0 "java/lang/String" "coder" "B" (.int o0_coder)) (g_o0 : n0 ≤ o0) (V_o1 : Arv Z h o1 o1_k .char o1_n (o1_xs.map Value.int) (.int 0)) (ln_o1 : o1_xs.length = o1_n.toNatClampNeg) (ne_o0_o1 : o0 ≠ o1) (O : Old Z n0 h) (S_cs : Sta Z Z.heap "java/lang/String" "COMPACT_STRINGS" "Z" (.int cs)) (P5 : ¬ (cs = (0 : Int32))) (S_as : Sta Z Z.heap "java/lang/StringUTF16" "$assertionsDisabled" "Z" (.int (1 : Int32))) (S_hi : Sta Z Z.heap "java/lang/StringUTF16" "HI_BYTE_SHIFT" "I" (.int (0 : Int32))) (S_lo : Sta Z Z.heap "java/lang/StringUTF16" "LO_BYTE_SHIFT" "I" (.int (8 : Int32))) (hT : own_L o1_n) (r : Int32 × Int32 × List Int32) (hr : f2_0 o0_coder o1_n o1_xs = r) :
    EndsInW p e below s0 R2.cells R2.slots (Q2 Z o0 h0 n0 r) (T0.setTop (mkF m 0 #[.val (.ref o0), .val (.ref o1)] [])) := by
  obtain ⟨hx, hZ, hw, hby, hml, hret, hown, hnm, hlk⟩ := B
  unfold f2_0 at hr
  refine EndsInW.by (B := T0.setTop (mkF m 4 #[.val (.ref o0), .val (.ref o1)] [(.ref o1), (.int (0 : Int32)), (.ref o1), (.ref o0)])) (fun t k => ?_) ?_
  · show Steps p.tables e below (T0.setTop (mkF m 0 #[.val (.ref o0), .val (.ref o1)] [])) _
    refine XS.aloadN X0.here hx rfl (hb hby d2_0) rfl rfl ?_
    show Steps p.tables e below (T0.setTop (mkF m 1 #[.val (.ref o0), .val (.ref o1)] [(.ref o0)])) _
    refine XS.aloadN X0.here hx rfl (hb hby d2_1) rfl rfl ?_
    show Steps p.tables e below (T0.setTop (mkF m 2 #[.val (.ref o0), .val (.ref o1)] [(.ref o1), (.ref o0)])) _
    refine XS.iconst X0.here hx rfl (hb hby d2_2) ?_
    show Steps p.tables e below (T0.setTop (mkF m 3 #[.val (.ref o0), .val (.ref o1)] [(.int (0 : Int32)), (.ref o1), (.ref o0)])) _
    refine XS.aloadN X0.here hx rfl (hb hby d2_3) rfl rfl ?_
    exact k
  have V1 := V_o1
  obtain ⟨cl1, Ar1, -, S1, M1, -, -⟩ := V1
  refine EndsInW.by (B := T0.setTop (mkF m 5 #[.val (.ref o0), .val (.ref o1)] [(.int o1_n), (.int (0 : Int32)), (.ref o1), (.ref o0)])) (fun t k => ?_) ?_
  · show Steps p.tables e below (T0.setTop (mkF m 4 #[.val (.ref o0), .val (.ref o1)] [(.ref o1), (.int (0 : Int32)), (.ref o1), (.ref o0)])) _
    refine X0.arraylength hx (by rw [e0]; exact Ar1.1) (State.isArrayOf_alike hZ.alike Ar1.2.1) (g := (mkF m 4 #[.val (.ref o0), .val (.ref o1)] [(.ref o1), (.int (0 : Int32)), (.ref o1), (.ref o0)])) rfl rfl (hb hby d2_4) _ ?_
    rw [len_of S1 M1]
    exact k
  refine EndsInW.by (B := T0.setTop (mkF m 6 #[.val (.ref o0), .val (.ref o1)] [.null, (.int o1_n), (.int (0 : Int32)), (.ref o1), (.ref o0)])) (fun t k => ?_) ?_
  · show Steps p.tables e below (T0.setTop (mkF m 5 #[.val (.ref o0), .val (.ref o1)] [(.int o1_n), (.int (0 : Int32)), (.ref o1), (.ref o0)])) _
    refine XS.aconstNull X0.here hx rfl (hb hby d2_5) ?_
    exact k
  have hp2_hT : own_T (0 : Int32) o1_n o1_n := own_LT hT
  -- pc 6: java/lang/String.<init>
  obtain ⟨_, _, ⟨T2, L2, k2, n2⟩, -, X2, h22, hg2, ⟨Lc2, hQ2, l2, y2, z2⟩, st2⟩ := X0.specialBackS hx (y := (⟨"java/lang/String", "<init>", "([CIILjava/lang/Void;)V"⟩ : MethodName)) rfl hown (mvT hZ (hw _ (List.mem_of_getElem? (i := 14) rfl))) (mvT hZ (hw _ (List.mem_of_getElem? (i := 15) rfl))) (mvT hZ (hw _ (List.mem_of_getElem? (i := 17) rfl))) (by decide) (own_backS (W := 0) (rm3 l Z a0 hw [] o0 o1 (0 : Int32) o1_n o0_value o0_coder o1_k o1_n o1_xs cs h n0 Z0 E_o0 F_o0_value F_o0_coder g_o0 V_o1 ln_o1 ne_o0_o1 O S_cs P5 S_as S_hi S_lo hp2_hT) hZ (hw _ (List.mem_of_getElem? (i := 17) rfl)) (hw _ (List.mem_of_getElem? (i := 10) rfl)) (by decide) (by decide) (own_EW hw) hC) (g := (mkF m 6 #[.val (.ref o0), .val (.ref o1)] [.null, (.int o1_n), (.int (0 : Int32)), (.ref o1), (.ref o0)])) rfl (by rw [hml]; rfl) (Steps.refl _) (a := o0) (argsL := [(.ref o1), (.int (0 : Int32)), (.int o1_n), .null]) (rest := []) (lenOf pd_8 rfl) rfl (by show 2 * 0 + _ ≤ _; exact Nat.le_of_eq rfl) (hb hby d2_6) (fun _ _ => ⟨rfl, e0, (by decide : 0 + R3.cells ≤ _), (by decide : 0 + R3.slots ≤ _)⟩)
  dsimp only [Pt.U, Pt.locs, Pt.cells, Pt.slots] at X2 l2 y2 z2 st2 hQ2
  subst l2 y2 z2
  dsimp only [Pt.U, Pt.locs, Pt.cells, Pt.slots] at h22 hg2
  obtain ⟨X2, hS, hZ, hown⟩ := rebS hS (n1 := T0.heap.size) (Nat.le_trans hk (Nat.le_of_eq (congrArg Array.size e0.symm))) X2 h22 hg2 hZ hown
  obtain ⟨c6, kb_2, rfl, Nq2, Kq2, E_o0_2, F_o0_value_2, F_o0_coder_2, Vb_2, lnb_2⟩ := hQ2
  obtain ⟨h2, e2⟩ : ∃ z, T2.heap = z := ⟨_, rfl⟩
  rw [e2] at Kq2 E_o0_2 F_o0_value_2 F_o0_coder_2 Vb_2
  have hk2 : _ ≤ h2.size := Nat.le_of_eq (congrArg Array.size e2)
  have N2 := Fr.app N0 Nq2
  have Z2 : n0 ≤ h2.size := Nat.le_trans Z0 Kq2.1
  have V_o1_2 := V_o1.keep Kq2 (ninS (Ne.symm ne_o0_o1) nin0)
  have K2 := K.trans Kq2 (by intro z hz; simp only [List.mem_cons, List.not_mem_nil, or_false] at hz; first | exact absurd hz id | (rcases hz with rfl; exact Or.inl (by simp)))
  have O2 := O.keep Kq2 (allS g_o0 all0)
  have ne_o0_c6 : o0 ≠ c6 := Exa.neArv E_o0_2 Vb_2 (hw _ (List.mem_of_getElem? (i := 9) rfl))
  refine EndsInW.by (B := T2.setTop (mkF m 9 #[.val (.ref o0), .val (.ref o1)] [])) (fun t k => st2.trans k) ?_
  subst hr
  exact own_wret0 X2 hx hlk hS (Nat.le_trans hk2 (Nat.le_of_eq (congrArg Array.size e2.symm))) hret (hb hby d2_9) (by decide) (by decide) ⟨c6, kb_2, rfl, N2, (by rw [e2]; exact K2), (by rw [e2]; exact E_o0_2), (by rw [e2]; exact F_o0_value_2), (by rw [e2]; exact F_o0_coder_2), (by rw [e2]; exact Vb_2), lnb_2⟩
theorem ef_2 (m : MethodId) (o0 : Addr) (o1 : Addr) : entryFrame m #[(.ref o0), (.ref o1)] 2 = (mkF m 0 #[.val (.ref o0), .val (.ref o1)] []) := by first | (simp [entryFrame, mkF, argsToLocals, Value.category]; done) | rfl
set_option maxRecDepth 65536 in
set_option maxHeartbeats 40000000 in
theorem rm2 (l : Launch) (Z : State) (a0 : Array Value) (hw : ∀ d ∈ tables_1, d.before a0 Z = true) (ws : List Jvm.Cond) (o0 : Addr) (o1 : Addr) (o0_value : Value) (o0_coder : Int32) (o1_k : ClassId) (o1_n : Int32) (o1_xs : List Int32) (cs : Int32) (h0 : Heap) (n0 : Nat) (Z0 : n0 ≤ h0.size) (E_o0 : Exa Z h0 o0 "java/lang/String") (F_o0_value : Fld Z h0 o0 "java/lang/String" "value" "[B" o0_value) (F_o0_coder : Fld Z h0 o0 "java/lang/String" "coder" "B" (.int o0_coder)) (g_o0 : n0 ≤ o0) (V_o1 : Arv Z h0 o1 o1_k .char o1_n (o1_xs.map Value.int) (.int 0)) (ln_o1 : o1_xs.length = o1_n.toNatClampNeg) (ne_o0_o1 : o0 ≠ o1) (O : Old Z n0 h0) (S_cs : Sta Z Z.heap "java/lang/String" "COMPACT_STRINGS" "Z" (.int cs)) (P5 : ¬ (cs = (0 : Int32))) (S_as : Sta Z Z.heap "java/lang/StringUTF16" "$assertionsDisabled" "Z" (.int (1 : Int32))) (S_hi : Sta Z Z.heap "java/lang/StringUTF16" "HI_BYTE_SHIFT" "I" (.int (0 : Int32))) (S_lo : Sta Z Z.heap "java/lang/StringUTF16" "LO_BYTE_SHIFT" "I" (.int (8 : Int32))) (hT : own_L o1_n) :
    MetFree l (⟨"java/lang/String", "<init>", "([C)V"⟩ : MethodName) (head1 (Jvm.Cond.code (⟨"java/lang/String", "<init>", "([C)V"⟩ : MethodName) jdk_42_method_3_code 2 none :: ws) R2) (fun a U => a = #[(.ref o0), (.ref o1)] ∧ Z.Warmed39 U.vm ∧ U.heap = h0 ∧ CHv Z own_EL U.vm Z.heap) (fun _ _ _ _ _ => True) (fun _ U o U' => ∃ v L, o = .returned v ∧ (Q2 Z o0 h0 n0 (f2_0 o0_coder o1_n o1_xs)) v U'.heap L ∧ ReturnedEndW U o U' L R2.cells R2.slots) := by
  refine MetFree.of_bodySF (plainFor_of_name pn_2) hisR ?_
  intro p e s m args below meth c s₁ Bd hml0 hP hK
  obtain ⟨rfl, hZ, hh, hC⟩ := hP
  have B : Ctx p Z (s.setVm s.vm) a0 m meth c "java/lang/String" "<init>" jdk_42_method_3_code 2 none := ⟨Bd.exec, hZ, hw, Bd.bytes, hml0, Bd.returns, findClass_of_methodNamed Bd.named, (name_of_methodNamed Bd.named Bd.method).1, Bd.notSynchronized⟩
  have X0 : Stand p l e R2 (s.setVm s.vm) m #[(.ref o0), (.ref o1)] below meth c s₁ [] 0 0 := Stand.of_body Bd
  have e0 : s₁.heap = h0 := by rw [← hh, Bd.state]; rfl
  have K := Keep.refl h0 [o0]
  show EndsInW p e below s R2.cells R2.slots (Q2 Z o0 h0 n0 (f2_0 o0_coder o1_n o1_xs)) (s₁.setTop (entryFrame m #[(.ref o0), (.ref o1)] 2))
  refine EndsInW.by (fun t k => castTop (ef_2 m o0 o1) k) ?_
  exact b2_0 (s0 := s) (vm0 := s.vm) (k0 := 0) B h0 n0 o0 o1 o0_value o0_coder o1_k o1_n o1_xs cs X0 e0 (Fr.nil n0) Z0 ((State.WarmedH.refl s).since 0) (Nat.zero_le _) hC K E_o0 F_o0_value F_o0_coder g_o0 V_o1 ln_o1 ne_o0_o1 O S_cs P5 S_as S_hi S_lo hT _ rfl
theorem pd_9 : parseMethodDescriptor "([C)V" = some ⟨[(.array .char)], none⟩ := by decide +kernel
theorem d5_0 : decode prog_50_method_1_code 0 = .ok (.aload_n 0, 1) := by decide +kernel
theorem d5_1 : decode prog_50_method_1_code 1 = .ok (.invokespecial 1, 3) := by decide +kernel
theorem d5_4 : decode prog_50_method_1_code 4 = .ok (.aload_n 0, 1) := by decide +kernel
theorem d5_5 : decode prog_50_method_1_code 5 = .ok (.aload_n 1, 1) := by decide +kernel
theorem d5_6 : decode prog_50_method_1_code 6 = .ok (.putfield 7, 3) := by decide +kernel
theorem d5_9 : decode prog_50_method_1_code 9 = .ok (.return_, 1) := by decide +kernel
theorem pn_5 : plainName "com/example/vestwright/vestwright/files/WrittenNumber" = true := by first | (simp [plainName, overriddenIn]; done) | decide +kernel
def R5 : Room := { frames := 1, cells := 0, slots := 0, locals := 12 }
def Q5 (Z : State) (o0 : Addr) (o1 : Addr) (h0 : Heap) (n0 : Nat) (r : Unit) (v : Option Value) (h : Heap) (L : List Loc) : Prop := v = none ∧ Fr n0 L ∧ Keep h0 h [o0] ∧ Exa Z h o0 "com/example/vestwright/vestwright/files/WrittenNumber" ∧ Fld Z h o0 "com/example/vestwright/vestwright/files/WrittenNumber" "text" "Ljava/lang/String;" (.ref o1)
def f5_0  : Unit := ()
set_option maxRecDepth 65536 in
set_option maxHeartbeats 40000000 in
theorem b5_0 {p : Program} {l : Launch} {e : Env} {s : State} {m : MethodId} {args : Array Value} {below : List Frame} {meth : Method} {c : Code} {Z : State} {a0 : Array Value} (B : Ctx p Z s a0 m meth c "com/example/vestwright/vestwright/files/WrittenNumber" "<init>" prog_50_method_1_code 2 none) {T0 : State} {locs : List Loc} {h : Heap} (h0 : Heap) (n0 : Nat) (o0 : Addr) (o1 : Addr) (o0_text : Value) (X0 : Stand p l e R5 s m args below meth c T0 locs 0 0) (e0 : T0.heap = h) (N0 : Fr n0 locs) (Z0 : n0 ≤ h.size) (K : Keep h0 h [o0]) (E_o0 : Exa Z h o0 "com/example/vestwright/vestwright/files/WrittenNumber") (F_o0_text : Fld Z h o0 "com/example/vestwright/vestwright/files/WrittenNumber" "text" "Ljava/lang/String;" o0_text) (g_o0 : n0 ≤ o0) (r : Unit) (hr : f5_0  = r) :
    EndsIn p e below s R5.cells R5.slots (Q5 Z o0 o1 h0 n0 r) (T0.setTop (mkF m 0 #[.val (.ref o0), .val (.ref o1)] [])) := by
  obtain ⟨hx, hZ, hw, hby, hml, hret, hown, hnm, hlk⟩ := B
  unfold f5_0 at hr
  refine EndsIn.by (B := T0.setTop (mkF m 1 #[.val (.ref o0), .val (.ref o1)] [(.ref o0)])) (fun t k => ?_) ?_
  · show Steps p.tables e below (T0.setTop (mkF m 0 #[.val (.ref o0), .val (.ref o1)] [])) _
    refine XS.aloadN X0.here hx rfl (hb hby d5_0) rfl rfl ?_
    exact k
  obtain ⟨T1, X1, e1, st1⟩ := initO X0 hx hZ hown (hw _ (List.mem_of_getElem? (i := 32) rfl)) (hw _ (List.mem_of_getElem? (i := 19) rfl)) (hw _ (List.mem_of_getElem? (i := 20) rfl)) e0 (g := (mkF m 1 #[.val (.ref o0), .val (.ref o1)] [(.ref o0)])) rfl (by rw [hml]; rfl) rfl (hb hby d5_1) (by decide) (W := 0) (by show 2 * 0 + _ ≤ _; exact Nat.le_of_eq rfl) (by decide)
  refine EndsIn.by (B := T1.setTop (mkF m 4 #[.val (.ref o0), .val (.ref o1)] [])) (fun t k => st1 t k) ?_
  refine EndsIn.by (B := T1.setTop (mkF m 6 #[.val (.ref o0), .val (.ref o1)] [(.ref o1), (.ref o0)])) (fun t k => ?_) ?_
  · show Steps p.tables e below (T1.setTop (mkF m 4 #[.val (.ref o0), .val (.ref o1)] [])) _
    refine XS.aloadN X1.here hx rfl (hb hby d5_4) rfl rfl ?_
    show Steps p.tables e below (T1.setTop (mkF m 5 #[.val (.ref o0), .val (.ref o1)] [(.ref o0)])) _
    refine XS.aloadN X1.here hx rfl (hb hby d5_5) rfl rfl ?_
    exact k
  obtain ⟨T2, h2, X2, e2, W2, st2⟩ := putF X1 hx hZ hown (host := "") (Or.inl (hw _ (List.mem_of_getElem? (i := 33) rfl))) Via.refl e1 F_o0_text E_o0 (Or.inr ⟨(hw _ (List.mem_of_getElem? (i := 34) rfl)), rfl, hnm⟩) (hw _ (List.mem_of_getElem? (i := 6) rfl)) (ty := (.object "java/lang/String")) (by decide) rfl rfl (g := (mkF m 6 #[.val (.ref o0), .val (.ref o1)] [(.ref o1), (.ref o0)])) rfl rfl (hb hby d5_6)
  have E_o0_2 := E_o0.wr W2
  have F_o0_text_2 := F_o0_text.same W2
  have N2 := Fr.snoc X2 N0 g_o0
  have Z2 : n0 ≤ h2.size := Nat.le_trans Z0 (Nat.le_of_eq W2.size.symm)
  have K2 := K.wr W2 (Or.inl (by simp))
  refine EndsIn.by (B := T2.setTop (mkF m 9 #[.val (.ref o0), .val (.ref o1)] [])) (fun t k => st2 t k) ?_
  subst hr
  exact own_ret0 X2 hx hlk hret (hb hby d5_9) (by decide) (by decide) ⟨rfl, N2, (by rw [e2]; exact K2), (by rw [e2]; exact E_o0_2), (by rw [e2]; exact F_o0_text_2)⟩
theorem ef_5 (m : MethodId) (o0 : Addr) (o1 : Addr) : entryFrame m #[(.ref o0), (.ref o1)] 2 = (mkF m 0 #[.val (.ref o0), .val (.ref o1)] []) := by first | (simp [entryFrame, mkF, argsToLocals, Value.category]; done) | rfl
set_option maxRecDepth 65536 in
set_option maxHeartbeats 40000000 in
theorem rm5 (l : Launch) (Z : State) (a0 : Array Value) (hw : ∀ d ∈ tables_1, d.before a0 Z = true) (ws : List Jvm.Cond) (o0 : Addr) (o1 : Addr) (o0_text : Value) (h0 : Heap) (n0 : Nat) (Z0 : n0 ≤ h0.size) (E_o0 : Exa Z h0 o0 "com/example/vestwright/vestwright/files/WrittenNumber") (F_o0_text : Fld Z h0 o0 "com/example/vestwright/vestwright/files/WrittenNumber" "text" "Ljava/lang/String;" o0_text) (g_o0 : n0 ≤ o0) :
    MetFree l (⟨"com/example/vestwright/vestwright/files/WrittenNumber", "<init>", "(Ljava/lang/String;)V"⟩ : MethodName) (head1 (Jvm.Cond.code (⟨"com/example/vestwright/vestwright/files/WrittenNumber", "<init>", "(Ljava/lang/String;)V"⟩ : MethodName) prog_50_method_1_code 2 none :: ws) R5) (fun a U => a = #[(.ref o0), (.ref o1)] ∧ Z.Warmed39 U.vm ∧ U.heap = h0) (fun _ _ _ _ _ => True) (fun _ U o U' => ∃ v L, o = .returned v ∧ (Q5 Z o0 o1 h0 n0 f5_0) v U'.heap L ∧ FrameEnd U o U' L R5.cells R5.slots) := by
  refine MetFree.of_bodySF (plainFor_of_name pn_5) hisR ?_
  intro p e s m args below meth c s₁ Bd hml0 hP hK
  obtain ⟨rfl, hZ, hh⟩ := hP
  have B : Ctx p Z s a0 m meth c "com/example/vestwright/vestwright/files/WrittenNumber" "<init>" prog_50_method_1_code 2 none := ⟨Bd.exec, hZ, hw, Bd.bytes, hml0, Bd.returns, findClass_of_methodNamed Bd.named, (name_of_methodNamed Bd.named Bd.method).1, Bd.notSynchronized⟩
  have X0 : Stand p l e R5 s m #[(.ref o0), (.ref o1)] below meth c s₁ [] 0 0 := Stand.of_body Bd
  have e0 : s₁.heap = h0 := by rw [← hh, Bd.state]; rfl
  have K := Keep.refl h0 [o0]
  show EndsIn p e below s R5.cells R5.slots (Q5 Z o0 o1 h0 n0 f5_0) (s₁.setTop (entryFrame m #[(.ref o0), (.ref o1)] 2))
  refine EndsIn.by (fun t k => castTop (ef_5 m o0 o1) k) ?_
  exact b5_0 B h0 n0 o0 o1 o0_text X0 e0 (Fr.nil n0) Z0 K E_o0 F_o0_text g_o0 _ rfl
theorem pd_10 : parseMethodDescriptor "(Ljava/lang/String;)V" = some ⟨[(.object "java/lang/String")], none⟩ := by decide +kernel
theorem d8_0 : decode jdk_42_method_152_code 0 = .ok (.getstatic 38, 3) := by decide +kernel
theorem d8_3 : decode jdk_42_method_152_code 3 = .ok (.ifCond .eq 10, 3) := by decide +kernel
theorem d8_6 : decode jdk_42_method_152_code 6 = .ok (.aload_n 0, 1) := by decide +kernel
theorem d8_7 : decode jdk_42_method_152_code 7 = .ok (.getfield 15, 3) := by decide +kernel
theorem d8_10 : decode jdk_42_method_152_code 10 = .ok (.goto 4, 3) := by decide +kernel
theorem d8_14 : decode jdk_42_method_152_code 14 = .ok (.ireturn, 1) := by decide +kernel
theorem pn_8 : plainName "java/lang/String" = true := by first | (simp [plainName, overriddenIn]; done) | decide +kernel
def R8 : Room := { frames := 0, cells := 0, slots := 0, locals := 0 }
def Q8 (Z : State)  (h0 : Heap) (n0 : Nat) (r : Int32) (v : Option Value) (h : Heap) (L : List Loc) : Prop := v = some (.int r) ∧ Fr n0 L ∧ h = h0
def f8_0 (o0_coder : Int32) : Int32 := (nar .byte o0_coder)
set_option maxRecDepth 65536 in
set_option maxHeartbeats 40000000 in
theorem b8_0 {p : Program} {l : Launch} {e : Env} {s : State} {m : MethodId} {args : Array Value} {below : List Frame} {meth : Method} {c : Code} {Z : State} {a0 : Array Value} (B : Ctx p Z s a0 m meth c "java/lang/String" "coder" jdk_42_method_152_code 1 (some .byte)) {T0 : State} {locs : List Loc} {h : Heap} (h0 : Heap) (n0 : Nat) (o0 : Addr) (o0_value : Value) (o0_coder : Int32) (cs : Int32) (X0 : Stand p l e R8 s m args below meth c T0 locs 0 0) (e0 : T0.heap = h) (N0 : Fr n0 locs) (Z0 : n0 ≤ h.size) (hh0 : h = h0) (E_o0 : Exa Z h o0 "java/lang/String") (F_o0_value : Fld Z h o0 "java/lang/String" "value" "[B" o0_value) (F_o0_coder : Fld Z h o0 "java/lang/String" "coder" "B" (.int o0_coder)) (O : Old Z n0 h) (S_cs : Sta Z Z.heap "java/lang/String" "COMPACT_STRINGS" "Z" (.int cs)) (P5 : ¬ (cs = (0 : Int32))) (r : Int32) (hr : f8_0 o0_coder = r) :
    EndsIn p e below s R8.cells R8.slots (Q8 Z  h0 n0 r) (T0.setTop (mkF m 0 #[.val (.ref o0)] [])) := by
  obtain ⟨hx, hZ, hw, hby, hml, hret, hown, hnm, hlk⟩ := B
  unfold f8_0 at hr
  obtain ⟨T1, X1, e1, st1⟩ := getS2 X0 hx hZ hown (host := "") (Or.inl (hw _ (List.mem_of_getElem? (i := 50) rfl))) Via.refl e0 (S_cs.ext O.2) (g := (mkF m 0 #[.val (.ref o0)] [])) rfl (hb hby d8_0)
  refine EndsIn.by (B := T1.setTop (mkF m 3 #[.val (.ref o0)] [(.int cs)])) (fun t k => st1 t k) ?_
  have hc3 : ¬ (cs = (0 : Int32)) := P5
  refine EndsIn.by (B := T1.setTop (mkF m 6 #[.val (.ref o0)] [])) (fun t k => ?_) ?_
  · show Steps p.tables e below (T1.setTop (mkF m 3 #[.val (.ref o0)] [(.int cs)])) _
    exact XS.ifNo X1.here hx rfl (hb hby d8_3) rfl ((if0 _ _).trans (feq hc3).1) k
  refine EndsIn.by (B := T1.setTop (mkF m 7 #[.val (.ref o0)] [(.ref o0)])) (fun t k => ?_) ?_
  · show Steps p.tables e below (T1.setTop (mkF m 6 #[.val (.ref o0)] [])) _
    refine XS.aloadN X1.here hx rfl (hb hby d8_6) rfl rfl ?_
    exact k
  obtain ⟨T2, X2, e2, st2⟩ := getF X1 hx hZ hown (host := "") (Or.inl (hw _ (List.mem_of_getElem? (i := 28) rfl))) Via.refl e1 F_o0_coder (g := (mkF m 7 #[.val (.ref o0)] [(.ref o0)])) rfl rfl (hb hby d8_7)
  refine EndsIn.by (B := T2.setTop (mkF m 10 #[.val (.ref o0)] [(.int o0_coder)])) (fun t k => st2 t k) ?_
  refine EndsIn.by (B := T2.setTop (mkF m 14 #[.val (.ref o0)] [(.int o0_coder)])) (fun t k => ?_) ?_
  · show Steps p.tables e below (T2.setTop (mkF m 10 #[.val (.ref o0)] [(.int o0_coder)])) _
    refine XS.goto X2.here hx rfl (pc0 := 10) (pc' := 14) rfl (hb hby d8_10) (by decide) (by decide) ?_
    exact k
  subst hr
  exact own_retN X2 hx hlk (t := .byte) hret (by simp) (hb hby d8_14) (by decide) (by decide) ⟨rfl, N0, (e2.trans hh0)⟩
theorem ef_8 (m : MethodId) (o0 : Addr) : entryFrame m #[(.ref o0)] 1 = (mkF m 0 #[.val (.ref o0)] []) := by first | (simp [entryFrame, mkF, argsToLocals, Value.category]; done) | rfl
set_option maxRecDepth 65536 in
set_option maxHeartbeats 40000000 in
theorem rm8 (l : Launch) (Z : State) (a0 : Array Value) (hw : ∀ d ∈ tables_1, d.before a0 Z = true) (ws : List Jvm.Cond) (o0 : Addr) (o0_value : Value) (o0_coder : Int32) (cs : Int32) (h0 : Heap) (n0 : Nat) (Z0 : n0 ≤ h0.size) (E_o0 : Exa Z h0 o0 "java/lang/String") (F_o0_value : Fld Z h0 o0 "java/lang/String" "value" "[B" o0_value) (F_o0_coder : Fld Z h0 o0 "java/lang/String" "coder" "B" (.int o0_coder)) (O : Old Z n0 h0) (S_cs : Sta Z Z.heap "java/lang/String" "COMPACT_STRINGS" "Z" (.int cs)) (P5 : ¬ (cs = (0 : Int32))) :
    MetFree l (⟨"java/lang/String", "coder", "()B"⟩ : MethodName) (head1 (Jvm.Cond.code (⟨"java/lang/String", "coder", "()B"⟩ : MethodName) jdk_42_method_152_code 1 (some .byte) :: ws) R8) (fun a U => a = #[(.ref o0)] ∧ Z.Warmed39 U.vm ∧ U.heap = h0) (fun _ _ _ _ _ => True) (fun _ U o U' => ∃ v L, o = .returned v ∧ (Q8 Z  h0 n0 (f8_0 o0_coder)) v U'.heap L ∧ FrameEnd U o U' L R8.cells R8.slots) := by
  refine MetFree.of_bodySF (plainFor_of_name pn_8) hisR ?_
  intro p e s m args below meth c s₁ Bd hml0 hP hK
  obtain ⟨rfl, hZ, hh⟩ := hP
  have B : Ctx p Z s a0 m meth c "java/lang/String" "coder" jdk_42_method_152_code 1 (some .byte) := ⟨Bd.exec, hZ, hw, Bd.bytes, hml0, Bd.returns, findClass_of_methodNamed Bd.named, (name_of_methodNamed Bd.named Bd.method).1, Bd.notSynchronized⟩
  have X0 : Stand p l e R8 s m #[(.ref o0)] below meth c s₁ [] 0 0 := Stand.of_body Bd
  have e0 : s₁.heap = h0 := by rw [← hh, Bd.state]; rfl
  have K := Keep.refl h0 []
  show EndsIn p e below s R8.cells R8.slots (Q8 Z  h0 n0 (f8_0 o0_coder)) (s₁.setTop (entryFrame m #[(.ref o0)] 1))
  refine EndsIn.by (fun t k => castTop (ef_8 m o0) k) ?_
  exact b8_0 B h0 n0 o0 o0_value o0_coder cs X0 e0 (Fr.nil n0) Z0 rfl E_o0 F_o0_value F_o0_coder O S_cs P5 _ rfl
theorem pd_11 : parseMethodDescriptor "()B" = some ⟨[], some .byte⟩ := by decide +kernel
theorem d7_0 : decode jdk_42_method_54_code 0 = .ok (.aload_n 0, 1) := by decide +kernel
theorem d7_1 : decode jdk_42_method_54_code 1 = .ok (.getfield 9, 3) := by decide +kernel
theorem d7_4 : decode jdk_42_method_54_code 4 = .ok (.arraylength, 1) := by decide +kernel
theorem d7_5 : decode jdk_42_method_54_code 5 = .ok (.aload_n 0, 1) := by decide +kernel
theorem d7_6 : decode jdk_42_method_54_code 6 = .ok (.invokevirtual 335, 3) := by decide +kernel
theorem d7_9 : decode jdk_42_method_54_code 9 = .ok (.ishr, 1) := by decide +kernel
theorem d7_10 : decode jdk_42_method_54_code 10 = .ok (.ireturn, 1) := by decide +kernel
theorem pn_7 : plainName "java/lang/String" = true := by first | (simp [plainName, overriddenIn]; done) | decide +kernel
def R7 : Room := { frames := 1, cells := 0, slots := 0, locals := 13 }
def Q7 (Z : State)  (h0 : Heap) (n0 : Nat) (r : Int32) (v : Option Value) (h : Heap) (L : List Loc) : Prop := v = some (.int r) ∧ Fr n0 L ∧ h = h0
def f7_0 (o0_coder : Int32) (d_n : Int32) (d_xs : List Int32) : Int32 := (d_n >>> ((f8_0 o0_coder) &&& 31))
set_option maxRecDepth 65536 in
set_option maxHeartbeats 40000000 in
theorem b7_0 {p : Program} {l : Launch} {e : Env} {s : State} {m : MethodId} {args : Array Value} {below : List Frame} {meth : Method} {c : Code} {Z : State} {a0 : Array Value} (B : Ctx p Z s a0 m meth c "java/lang/String" "length" jdk_42_method_54_code 1 (some .int)) {T0 : State} {locs : List Loc} {h : Heap} (h0 : Heap) (n0 : Nat) (o0 : Addr) (d : Addr) (o0_coder : Int32) (d_k : ClassId) (d_n : Int32) (d_xs : List Int32) (cs : Int32) (X0 : Stand p l e R7 s m args below meth c T0 locs 0 0) (e0 : T0.heap = h) (N0 : Fr n0 locs) (Z0 : n0 ≤ h.size) (hh0 : h = h0) (E_o0 : Exa Z h o0 "java/lang/String") (F_o0_value : Fld Z h o0 "java/lang/String" "value" "[B" (.ref d)) (F_o0_coder : Fld Z h o0 "java/lang/String" "coder" "B" (.int o0_coder)) (V_d : Arv Z h d d_k .byte d_n (d_xs.map Value.int) (.int 0)) (ln_d : d_xs.length = d_n.toNatClampNeg) (O : Old Z n0 h) (S_cs : Sta Z Z.heap "java/lang/String" "COMPACT_STRINGS" "Z" (.int cs)) (P5 : ¬ (cs = (0 : Int32))) (r : Int32) (hr : f7_0 o0_coder d_n d_xs = r) :
    EndsIn p e below s R7.cells R7.slots (Q7 Z  h0 n0 r) (T0.setTop (mkF m 0 #[.val (.ref o0)] [])) := by
  obtain ⟨hx, hZ, hw, hby, hml, hret, hown, hnm, hlk⟩ := B
  unfold f7_0 at hr
  refine EndsIn.by (B := T0.setTop (mkF m 1 #[.val (.ref o0)] [(.ref o0)])) (fun t k => ?_) ?_
  · show Steps p.tables e below (T0.setTop (mkF m 0 #[.val (.ref o0)] [])) _
    refine XS.aloadN X0.here hx rfl (hb hby d7_0) rfl rfl ?_
    exact k
  obtain ⟨T1, X1, e1, st1⟩ := getF X0 hx hZ hown (host := "") (Or.inl (hw _ (List.mem_of_getElem? (i := 27) rfl))) Via.refl e0 F_o0_value (g := (mkF m 1 #[.val (.ref o0)] [(.ref o0)])) rfl rfl (hb hby d7_1)
  refine EndsIn.by (B := T1.setTop (mkF m 4 #[.val (.ref o0)] [(.ref d)])) (fun t k => st1 t k) ?_
  have V2 := V_d
  obtain ⟨cl2, Ar2, -, S2, M2, -, -⟩ := V2
  refine EndsIn.by (B := T1.setTop (mkF m 5 #[.val (.ref o0)] [(.int d_n)])) (fun t k => ?_) ?_
  · show Steps p.tables e below (T1.setTop (mkF m 4 #[.val (.ref o0)] [(.ref d)])) _
    refine X1.arraylength hx (by rw [e1]; exact Ar2.1) (State.isArrayOf_alike hZ.alike Ar2.2.1) (g := (mkF m 4 #[.val (.ref o0)] [(.ref d)])) rfl rfl (hb hby d7_4) _ ?_
    rw [len_of S2 M2]
    exact k
  refine EndsIn.by (B := T1.setTop (mkF m 6 #[.val (.ref o0)] [(.ref o0), (.int d_n)])) (fun t k => ?_) ?_
  · show Steps p.tables e below (T1.setTop (mkF m 5 #[.val (.ref o0)] [(.int d_n)])) _
    refine XS.aloadN X1.here hx rfl (hb hby d7_5) rfl rfl ?_
    exact k
  -- pc 6: java/lang/String.coder
  obtain ⟨cq3, kq3, q3a, q3b, q3c⟩ := isOf hZ e1 E_o0
  obtain ⟨_, _, ⟨T3, L3, k3, n3⟩, -, X3, ⟨Lc3, hQ3, l3, y3, z3⟩, st3⟩ := X1.virtualBack hx (y := (⟨"java/lang/String", "coder", "()B"⟩ : MethodName)) (z := (⟨"java/lang/String", "coder", "()B"⟩ : MethodName)) hown (mvT hZ (hw _ (List.mem_of_getElem? (i := 45) rfl))) (mvT hZ (hw _ (List.mem_of_getElem? (i := 46) rfl))) (notFace_of_selects (args := #[]) (mvT hZ (hw _ (List.mem_of_getElem? (i := 48) rfl)))) (mvT hZ (hw _ (List.mem_of_getElem? (i := 48) rfl))) (mvT hZ (hw _ (List.mem_of_getElem? (i := 47) rfl))) (by decide) (backOf (W := 1) (rm8 l Z a0 hw [] o0 (.ref d) o0_coder cs h n0 Z0 E_o0 F_o0_value F_o0_coder O S_cs P5) hZ (hw _ (List.mem_of_getElem? (i := 49) rfl)) (hw _ (List.mem_of_getElem? (i := 10) rfl)) (by decide) (by decide)) q3a q3c (g := (mkF m 6 #[.val (.ref o0)] [(.ref o0), (.int d_n)])) rfl (by rw [hml]; rfl) (Steps.refl _) (argsL := []) (rest := [(.int d_n)]) (lenOf pd_11 rfl) rfl (by show 2 * 0 + _ ≤ _; exact Nat.le_of_eq rfl) (hb hby d7_6) (fun _ _ => ⟨rfl, e1, (by decide : 0 + R8.cells ≤ _), (by decide : 0 + R8.slots ≤ _)⟩)
  dsimp only [Pt.U, Pt.locs, Pt.cells, Pt.slots] at X3 l3 y3 z3 st3 hQ3
  subst l3 y3 z3
  obtain ⟨rfl, Nq3, e3⟩ := hQ3
  have N3 := Fr.app N0 Nq3
  refine EndsIn.by (B := T3.setTop (mkF m 9 #[.val (.ref o0)] [(.int (f8_0 o0_coder)), (.int d_n)])) (fun t k => st3.trans k) ?_
  refine EndsIn.by (B := T3.setTop (mkF m 10 #[.val (.ref o0)] [(.int (d_n >>> ((f8_0 o0_coder) &&& 31)))])) (fun t k => ?_) ?_
  · show Steps p.tables e below (T3.setTop (mkF m 9 #[.val (.ref o0)] [(.int (f8_0 o0_coder)), (.int d_n)])) _
    refine XS.ishr X3.here hx rfl (hb hby d7_9) rfl ?_
    exact k
  subst hr
  exact own_retI X3 hx hlk hret (hb hby d7_10) (by decide) (by decide) ⟨rfl, N3, (e3.trans hh0)⟩
theorem ef_7 (m : MethodId) (o0 : Addr) : entryFrame m #[(.ref o0)] 1 = (mkF m 0 #[.val (.ref o0)] []) := by first | (simp [entryFrame, mkF, argsToLocals, Value.category]; done) | rfl
set_option maxRecDepth 65536 in
set_option maxHeartbeats 40000000 in
theorem rm7 (l : Launch) (Z : State) (a0 : Array Value) (hw : ∀ d ∈ tables_1, d.before a0 Z = true) (ws : List Jvm.Cond) (o0 : Addr) (d : Addr) (o0_coder : Int32) (d_k : ClassId) (d_n : Int32) (d_xs : List Int32) (cs : Int32) (h0 : Heap) (n0 : Nat) (Z0 : n0 ≤ h0.size) (E_o0 : Exa Z h0 o0 "java/lang/String") (F_o0_value : Fld Z h0 o0 "java/lang/String" "value" "[B" (.ref d)) (F_o0_coder : Fld Z h0 o0 "java/lang/String" "coder" "B" (.int o0_coder)) (V_d : Arv Z h0 d d_k .byte d_n (d_xs.map Value.int) (.int 0)) (ln_d : d_xs.length = d_n.toNatClampNeg) (O : Old Z n0 h0) (S_cs : Sta Z Z.heap "java/lang/String" "COMPACT_STRINGS" "Z" (.int cs)) (P5 : ¬ (cs = (0 : Int32))) :
    MetFree l (⟨"java/lang/String", "length", "()I"⟩ : MethodName) (head1 (Jvm.Cond.code (⟨"java/lang/String", "length", "()I"⟩ : MethodName) jdk_42_method_54_code 1 (some .int) :: ws) R7) (fun a U => a = #[(.ref o0)] ∧ Z.Warmed39 U.vm ∧ U.heap = h0) (fun _ _ _ _ _ => True) (fun _ U o U' => ∃ v L, o = .returned v ∧ (Q7 Z  h0 n0 (f7_0 o0_coder d_n d_xs)) v U'.heap L ∧ FrameEnd U o U' L R7.cells R7.slots) := by
  refine MetFree.of_bodySF (plainFor_of_name pn_7) hisR ?_
  intro p e s m args below meth c s₁ Bd hml0 hP hK
  obtain ⟨rfl, hZ, hh⟩ := hP
  have B : Ctx p Z s a0 m meth c "java/lang/String" "length" jdk_42_method_54_code 1 (some .int) := ⟨Bd.exec, hZ, hw, Bd.bytes, hml0, Bd.returns, findClass_of_methodNamed Bd.named, (name_of_methodNamed Bd.named Bd.method).1, Bd.notSynchronized⟩
  have X0 : Stand p l e R7 s m #[(.ref o0)] below meth c s₁ [] 0 0 := Stand.of_body Bd
  have e0 : s₁.heap = h0 := by rw [← hh, Bd.state]; rfl
  have K := Keep.refl h0 []
  show EndsIn p e below s R7.cells R7.slots (Q7 Z  h0 n0 (f7_0 o0_coder d_n d_xs)) (s₁.setTop (entryFrame m #[(.ref o0)] 1))
  refine EndsIn.by (fun t k => castTop (ef_7 m o0) k) ?_
  exact b7_0 B h0 n0 o0 d o0_coder d_k d_n d_xs cs X0 e0 (Fr.nil n0) Z0 rfl E_o0 F_o0_value F_o0_coder V_d ln_d O S_cs P5 _ rfl
theorem pd_12 : parseMethodDescriptor "()I" = some ⟨[], some .int⟩ := by decide +kernel
theorem d6_0 : decode prog_50_method_2_code 0 = .ok (.aload_n 0, 1) := by decide +kernel
theorem d6_1 : decode prog_50_method_2_code 1 = .ok (.getfield 7, 3) := by decide +kernel
theorem d6_4 : decode prog_50_method_2_code 4 = .ok (.invokevirtual 13, 3) := by decide +kernel
theorem d6_7 : decode prog_50_method_2_code 7 = .ok (.bipush 64, 2) := by decide +kernel
theorem d6_9 : decode prog_50_method_2_code 9 = .ok (.if_icmp .le 7, 3) := by decide +kernel
theorem d6_12 : decode prog_50_method_2_code 12 = .ok (.iconst 1, 1) := by decide +kernel
theorem d6_13 : decode prog_50_method_2_code 13 = .ok (.goto 4, 3) := by decide +kernel
theorem d6_16 : decode prog_50_method_2_code 16 = .ok (.iconst 0, 1) := by decide +kernel
theorem d6_17 : decode prog_50_method_2_code 17 = .ok (.ireturn, 1) := by decide +kernel
theorem pn_6 : plainName "com/example/vestwright/vestwright/files/WrittenNumber" = true := by first | (simp [plainName, overriddenIn]; done) | decide +kernel
def R6 : Room := { frames := 2, cells := 0, slots := 0, locals := 25 }
def Q6 (Z : State)  (h0 : Heap) (n0 : Nat) (r : Int32) (v : Option Value) (h : Heap) (L : List Loc) : Prop := v = some (.int r) ∧ Fr n0 L ∧ h = h0
def f6_0 (t_coder : Int32) (d_n : Int32) (d_xs : List Int32) : Int32 := (if (64 : Int32) < (f7_0 t_coder d_n d_xs) then (1 : Int32) else (0 : Int32))
set_option maxRecDepth 65536 in
set_option maxHeartbeats 40000000 in
theorem b6_0 {p : Program} {l : Launch} {e : Env} {s : State} {m : MethodId} {args : Array Value} {below : List Frame} {meth : Method} {c : Code} {Z : State} {a0 : Array Value} (B : Ctx p Z s a0 m meth c "com/example/vestwright/vestwright/files/WrittenNumber" "isTooLong" prog_50_method_2_code 1 (some .boolean)) {T0 : State} {locs : List Loc} {h : Heap} (h0 : Heap) (n0 : Nat) (o0 : Addr) (t : Addr) (d : Addr) (t_coder : Int32) (d_k : ClassId) (d_n : Int32) (d_xs : List Int32) (cs : Int32) (X0 : Stand p l e R6 s m args below meth c T0 locs 0 0) (e0 : T0.heap = h) (N0 : Fr n0 locs) (Z0 : n0 ≤ h.size) (hh0 : h = h0) (E_o0 : Exa Z h o0 "com/example/vestwright/vestwright/files/WrittenNumber") (F_o0_text : Fld Z h o0 "com/example/vestwright/vestwright/files/WrittenNumber" "text" "Ljava/lang/String;" (.ref t)) (E_t : Exa Z h t "java/lang/String") (F_t_value : Fld Z h t "java/lang/String" "value" "[B" (.ref d)) (F_t_coder : Fld Z h t "java/lang/String" "coder" "B" (.int t_coder)) (V_d : Arv Z h d d_k .byte d_n (d_xs.map Value.int) (.int 0)) (ln_d : d_xs.length = d_n.toNatClampNeg) (O : Old Z n0 h) (S_cs : Sta Z Z.heap "java/lang/String" "COMPACT_STRINGS" "Z" (.int cs)) (P5 : ¬ (cs = (0 : Int32))) (r : Int32) (hr : f6_0 t_coder d_n d_xs = r) :
    EndsIn p e below s R6.cells R6.slots (Q6 Z  h0 n0 r) (T0.setTop (mkF m 0 #[.val (.ref o0)] [])) := by
  obtain ⟨hx, hZ, hw, hby, hml, hret, hown, hnm, hlk⟩ := B
  unfold f6_0 at hr
  refine EndsIn.by (B := T0.setTop (mkF m 1 #[.val (.ref o0)] [(.ref o0)])) (fun t k => ?_) ?_
  · show Steps p.tables e below (T0.setTop (mkF m 0 #[.val (.ref o0)] [])) _
    refine XS.aloadN X0.here hx rfl (hb hby d6_0) rfl rfl ?_
    exact k
  obtain ⟨T1, X1, e1, st1⟩ := getF X0 hx hZ hown (host := "") (Or.inl (hw _ (List.mem_of_getElem? (i := 33) rfl))) Via.refl e0 F_o0_text (g := (mkF m 1 #[.val (.ref o0)] [(.ref o0)])) rfl rfl (hb hby d6_1)
  refine EndsIn.by (B := T1.setTop (mkF m 4 #[.val (.ref o0)] [(.ref t)])) (fun t k => st1 t k) ?_
  -- pc 4: java/lang/String.length
  obtain ⟨cq2, kq2, q2a, q2b, q2c⟩ := isOf hZ e1 E_t
  obtain ⟨_, _, ⟨T2, L2, k2, n2⟩, -, X2, ⟨Lc2, hQ2, l2, y2, z2⟩, st2⟩ := X1.virtualBack hx (y := (⟨"java/lang/String", "length", "()I"⟩ : MethodName)) (z := (⟨"java/lang/String", "length", "()I"⟩ : MethodName)) hown (mvT hZ (hw _ (List.mem_of_getElem? (i := 40) rfl))) (mvT hZ (hw _ (List.mem_of_getElem? (i := 41) rfl))) (notFace_of_selects (args := #[]) (mvT hZ (hw _ (List.mem_of_getElem? (i := 43) rfl)))) (mvT hZ (hw _ (List.mem_of_getElem? (i := 43) rfl))) (mvT hZ (hw _ (List.mem_of_getElem? (i := 42) rfl))) (by decide) (backOf (W := 0) (rm7 l Z a0 hw [] t d t_coder d_k d_n d_xs cs h n0 Z0 E_t F_t_value F_t_coder V_d ln_d O S_cs P5) hZ (hw _ (List.mem_of_getElem? (i := 44) rfl)) (hw _ (List.mem_of_getElem? (i := 10) rfl)) (by decide) (by decide)) q2a q2c (g := (mkF m 4 #[.val (.ref o0)] [(.ref t)])) rfl (by rw [hml]; rfl) (Steps.refl _) (argsL := []) (rest := []) (lenOf pd_12 rfl) rfl (by show 2 * 0 + _ ≤ _; exact Nat.le_of_eq rfl) (hb hby d6_4) (fun _ _ => ⟨rfl, e1, (by decide : 0 + R7.cells ≤ _), (by decide : 0 + R7.slots ≤ _)⟩)
  dsimp only [Pt.U, Pt.locs, Pt.cells, Pt.slots] at X2 l2 y2 z2 st2 hQ2
  subst l2 y2 z2
  obtain ⟨rfl, Nq2, e2⟩ := hQ2
  have N2 := Fr.app N0 Nq2
  refine EndsIn.by (B := T2.setTop (mkF m 7 #[.val (.ref o0)] [(.int (f7_0 t_coder d_n d_xs))])) (fun t k => st2.trans k) ?_
  refine EndsIn.by (B := T2.setTop (mkF m 9 #[.val (.ref o0)] [(.int (64 : Int32)), (.int (f7_0 t_coder d_n d_xs))])) (fun t k => ?_) ?_
  · show Steps p.tables e below (T2.setTop (mkF m 7 #[.val (.ref o0)] [(.int (f7_0 t_coder d_n d_xs))])) _
    refine XS.bipush X2.here hx rfl (hb hby d6_7) ?_
    exact k
  by_cases hc9 : (64 : Int32) < (f7_0 t_coder d_n d_xs)
  · rw [if_pos hc9] at hr
    refine EndsIn.by (B := T2.setTop (mkF m 12 #[.val (.ref o0)] [])) (fun t k => ?_) ?_
    · show Steps p.tables e below (T2.setTop (mkF m 9 #[.val (.ref o0)] [(.int (64 : Int32)), (.int (f7_0 t_coder d_n d_xs))])) _
      exact XS.icmpNo X2.here hx rfl (hb hby d6_9) rfl (tlt hc9).2.2.2 k
    refine EndsIn.by (B := T2.setTop (mkF m 17 #[.val (.ref o0)] [(.int (1 : Int32))])) (fun t k => ?_) ?_
    · show Steps p.tables e below (T2.setTop (mkF m 12 #[.val (.ref o0)] [])) _
      refine XS.iconst X2.here hx rfl (hb hby d6_12) ?_
      show Steps p.tables e below (T2.setTop (mkF m 13 #[.val (.ref o0)] [(.int (1 : Int32))])) _
      refine XS.goto X2.here hx rfl (pc0 := 13) (pc' := 17) rfl (hb hby d6_13) (by decide) (by decide) ?_
      exact k
    subst hr
    exact own_retN X2 hx hlk (t := .boolean) hret (by simp) (hb hby d6_17) (by decide) (by decide) ⟨rfl, N2, (e2.trans hh0)⟩
  · rw [if_neg hc9] at hr
    refine EndsIn.by (B := T2.setTop (mkF m 16 #[.val (.ref o0)] [])) (fun t k => ?_) ?_
    · show Steps p.tables e below (T2.setTop (mkF m 9 #[.val (.ref o0)] [(.int (64 : Int32)), (.int (f7_0 t_coder d_n d_xs))])) _
      exact XS.icmpYes X2.here hx rfl (pc0 := 9) (pc' := 16) rfl (hb hby d6_9) rfl (flt hc9).2.2.2 (by decide) (by decide) k
    refine EndsIn.by (B := T2.setTop (mkF m 17 #[.val (.ref o0)] [(.int (0 : Int32))])) (fun t k => ?_) ?_
    · show Steps p.tables e below (T2.setTop (mkF m 16 #[.val (.ref o0)] [])) _
      refine XS.iconst X2.here hx rfl (hb hby d6_16) ?_
      exact k
    subst hr
    exact own_retN X2 hx hlk (t := .boolean) hret (by simp) (hb hby d6_17) (by decide) (by decide) ⟨rfl, N2, (e2.trans hh0)⟩
theorem ef_6 (m : MethodId) (o0 : Addr) : entryFrame m #[(.ref o0)] 1 = (mkF m 0 #[.val (.ref o0)] []) := by first | (simp [entryFrame, mkF, argsToLocals, Value.category]; done) | rfl
set_option maxRecDepth 65536 in
set_option maxHeartbeats 40000000 in
theorem rm6 (l : Launch) (Z : State) (a0 : Array Value) (hw : ∀ d ∈ tables_1, d.before a0 Z = true) (ws : List Jvm.Cond) (o0 : Addr) (t : Addr) (d : Addr) (t_coder : Int32) (d_k : ClassId) (d_n : Int32) (d_xs : List Int32) (cs : Int32) (h0 : Heap) (n0 : Nat) (Z0 : n0 ≤ h0.size) (E_o0 : Exa Z h0 o0 "com/example/vestwright/vestwright/files/WrittenNumber") (F_o0_text : Fld Z h0 o0 "com/example/vestwright/vestwright/files/WrittenNumber" "text" "Ljava/lang/String;" (.ref t)) (E_t : Exa Z h0 t "java/lang/String") (F_t_value : Fld Z h0 t "java/lang/String" "value" "[B" (.ref d)) (F_t_coder : Fld Z h0 t "java/lang/String" "coder" "B" (.int t_coder)) (V_d : Arv Z h0 d d_k .byte d_n (d_xs.map Value.int) (.int 0)) (ln_d : d_xs.length = d_n.toNatClampNeg) (O : Old Z n0 h0) (S_cs : Sta Z Z.heap "java/lang/String" "COMPACT_STRINGS" "Z" (.int cs)) (P5 : ¬ (cs = (0 : Int32))) :
    MetFree l (⟨"com/example/vestwright/vestwright/files/WrittenNumber", "isTooLong", "()Z"⟩ : MethodName) (head1 (Jvm.Cond.code (⟨"com/example/vestwright/vestwright/files/WrittenNumber", "isTooLong", "()Z"⟩ : MethodName) prog_50_method_2_code 1 (some .boolean) :: ws) R6) (fun a U => a = #[(.ref o0)] ∧ Z.Warmed39 U.vm ∧ U.heap = h0) (fun _ _ _ _ _ => True) (fun _ U o U' => ∃ v L, o = .returned v ∧ (Q6 Z  h0 n0 (f6_0 t_coder d_n d_xs)) v U'.heap L ∧ FrameEnd U o U' L R6.cells R6.slots) := by
  refine MetFree.of_bodySF (plainFor_of_name pn_6) hisR ?_
  intro p e s m args below meth c s₁ Bd hml0 hP hK
  obtain ⟨rfl, hZ, hh⟩ := hP
  have B : Ctx p Z s a0 m meth c "com/example/vestwright/vestwright/files/WrittenNumber" "isTooLong" prog_50_method_2_code 1 (some .boolean) := ⟨Bd.exec, hZ, hw, Bd.bytes, hml0, Bd.returns, findClass_of_methodNamed Bd.named, (name_of_methodNamed Bd.named Bd.method).1, Bd.notSynchronized⟩
  have X0 : Stand p l e R6 s m #[(.ref o0)] below meth c s₁ [] 0 0 := Stand.of_body Bd
  have e0 : s₁.heap = h0 := by rw [← hh, Bd.state]; rfl
  have K := Keep.refl h0 []
  show EndsIn p e below s R6.cells R6.slots (Q6 Z  h0 n0 (f6_0 t_coder d_n d_xs)) (s₁.setTop (entryFrame m #[(.ref o0)] 1))
  refine EndsIn.by (fun t k => castTop (ef_6 m o0) k) ?_
  exact b6_0 B h0 n0 o0 t d t_coder d_k d_n d_xs cs X0 e0 (Fr.nil n0) Z0 rfl E_o0 F_o0_text E_t F_t_value F_t_coder V_d ln_d O S_cs P5 _ rfl
theorem pd_13 : parseMethodDescriptor "()Z" = some ⟨[], some .boolean⟩ := by decide +kernel

theorem own_m7 (x : Int32) : x &&& (7 : Int32) = 0 ∨ x &&& (7 : Int32) = 1 ∨ x &&& (7 : Int32) = 2 ∨ x &&& (7 : Int32) = 3 ∨ x &&& (7 : Int32) = 4 ∨ x &&& (7 : Int32) = 5 ∨ x &&& (7 : Int32) = 6 ∨ x &&& (7 : Int32) = 7 := by
  have h := c_mask x 7 3 (by decide) (by decide)
  have h3 : (x &&& 7).toInt = 0 ∨ (x &&& 7).toInt = 1 ∨ (x &&& 7).toInt = 2 ∨ (x &&& 7).toInt = 3 ∨ (x &&& 7).toInt = 4 ∨ (x &&& 7).toInt = 5 ∨ (x &&& 7).toInt = 6 ∨ (x &&& 7).toInt = 7 := by omega
  rcases h3 with h | h | h | h | h | h | h | h
  · exact Or.inl (Int32.toInt_inj.mp h)
  · exact Or.inr (Or.inl (Int32.toInt_inj.mp h))
  · exact Or.inr (Or.inr (Or.inl (Int32.toInt_inj.mp h)))
  · exact Or.inr (Or.inr (Or.inr (Or.inl (Int32.toInt_inj.mp h))))
  · exact Or.inr (Or.inr (Or.inr (Or.inr (Or.inl (Int32.toInt_inj.mp h)))))
  · exact Or.inr (Or.inr (Or.inr (Or.inr (Or.inr (Or.inl (Int32.toInt_inj.mp h))))))
  · exact Or.inr (Or.inr (Or.inr (Or.inr (Or.inr (Or.inr (Or.inl (Int32.toInt_inj.mp h)))))))
  · exact Or.inr (Or.inr (Or.inr (Or.inr (Or.inr (Or.inr (Or.inr (Int32.toInt_inj.mp h)))))))
theorem own_mk0 (x : Int32) : own_mk (x &&& (7 : Int32)) (f1_0 (x &&& (7 : Int32))).1 := by
  rcases own_m7 x with h | h | h | h | h | h | h | h <;> rw [h] <;> unfold f1_0
  · rw [if_pos rfl]; exact Or.inl ⟨rfl, rfl⟩
  · rw [if_neg (by decide), if_pos rfl]; exact Or.inr (Or.inl ⟨rfl, rfl⟩)
  · rw [if_neg (by decide), if_neg (by decide), if_pos rfl]; exact Or.inr (Or.inr (Or.inl ⟨rfl, rfl⟩))
  · rw [if_neg (by decide), if_neg (by decide), if_neg (by decide), if_pos rfl]; exact Or.inr (Or.inr (Or.inr (Or.inl ⟨rfl, rfl⟩)))
  · rw [if_neg (by decide), if_neg (by decide), if_neg (by decide), if_neg (by decide), if_pos rfl]; exact Or.inr (Or.inr (Or.inr (Or.inr (Or.inl ⟨rfl, rfl⟩))))
  · rw [if_neg (by decide), if_neg (by decide), if_neg (by decide), if_neg (by decide), if_neg (by decide), if_pos rfl]; exact Or.inr (Or.inr (Or.inr (Or.inr (Or.inr (Or.inl ⟨rfl, rfl⟩)))))
  · rw [if_neg (by decide), if_neg (by decide), if_neg (by decide), if_neg (by decide), if_neg (by decide), if_neg (by decide), if_pos rfl]; exact Or.inr (Or.inr (Or.inr (Or.inr (Or.inr (Or.inr (Or.inl ⟨rfl, rfl⟩))))))
  · rw [if_neg (by decide), if_neg (by decide), if_neg (by decide), if_neg (by decide), if_neg (by decide), if_neg (by decide), if_neg (by decide)]; exact Or.inr (Or.inr (Or.inr (Or.inr (Or.inr (Or.inr (Or.inr (⟨rfl, rfl⟩)))))))

theorem pn_0 : plainName "com/example/vestwright/vestwright/files/WrittenNumberIsTooLongPinLaw" = true := by first | (simp [plainName, overriddenIn]; done) | decide +kernel
def Q0 (n0 : Nat) (r : Int32) (v : Option Value) (h : Heap) (L : List Loc) : Prop := v = some (.int r) ∧ Fr n0 L
def f0_92 (v0 : Int32) (v1 : Int32) (v2 : Int32) (v3 : Int32) (v4 : Int32) (v6 : Int32) (v7 : Int32) (b80_coder : Int32) (c8_n : Int32) (c8_xs : List Int32) (c86_n : Int32) (c86_xs : List Int32) : Int32 := (if (f6_0 b80_coder c86_n c86_xs) = v7 then (1 : Int32) else (0 : Int32))
set_option maxRecDepth 65536 in
set_option maxHeartbeats 40000000 in
theorem b0_92 {p : Program} {l : Launch} {e : Env} {s0 : State} {vm0 : Vm} {k0 : Nat} {m : MethodId} {args : Array Value} {below : List Frame} {meth : Method} {c : Code} {Z : State} {a0 : Array Value} (B : Ctx p Z (s0.setVm vm0) a0 m meth c "com/example/vestwright/vestwright/files/WrittenNumberIsTooLongPinLaw" "law" code 9 (some .boolean)) {T0 : State} {locs : List Loc} {h : Heap} (h0 : Heap) (n0 : Nat) (v0 : Int32) (v1 : Int32) (v2 : Int32) (v3 : Int32) (v4 : Int32) (c8 : Addr) (v6 : Int32) (v7 : Int32) (b76 : Addr) (b80 : Addr) (c86 : Addr) (b80_coder : Int32) (c8_k : ClassId) (c8_n : Int32) (c8_xs : List Int32) (c86_k : ClassId) (c86_n : Int32) (c86_xs : List Int32) (cs : Int32) (X0 : Stand p l e room_1 (s0.setVm vm0) m args below meth c T0 locs 5 4005) (e0 : T0.heap = h) (N0 : Fr n0 locs) (Z0 : n0 ≤ h.size) (hS : s0.Since vm0 k0) (hk : k0 ≤ h.size) (E_b76 : Exa Z h b76 "com/example/vestwright/vestwright/files/WrittenNumber") (F_b76_text : Fld Z h b76 "com/example/vestwright/vestwright/files/WrittenNumber" "text" "Ljava/lang/String;" (.ref b80)) (g_b76 : n0 ≤ b76) (E_b80 : Exa Z h b80 "java/lang/String") (F_b80_value : Fld Z h b80 "java/lang/String" "value" "[B" (.ref c86)) (F_b80_coder : Fld Z h b80 "java/lang/String" "coder" "B" (.int b80_coder)) (g_b80 : n0 ≤ b80) (V_c8 : Arv Z h c8 c8_k .char c8_n (c8_xs.map Value.int) (.int 0)) (ln_c8 : c8_xs.length = c8_n.toNatClampNeg) (g_c8 : n0 ≤ c8) (V_c86 : Arv Z h c86 c86_k .byte c86_n (c86_xs.map Value.int) (.int 0)) (ln_c86 : c86_xs.length = c86_n.toNatClampNeg) (ne_c8_b76 : c8 ≠ b76) (ne_b76_b80 : b76 ≠ b80) (ne_c8_b80 : c8 ≠ b80) (ne_b76_c86 : b76 ≠ c86) (ne_b80_c86 : b80 ≠ c86) (O : Old Z n0 h) (S_cs : Sta Z Z.heap "java/lang/String" "COMPACT_STRINGS" "Z" (.int cs)) (P5 : ¬ (cs = (0 : Int32))) (S_as : Sta Z Z.heap "java/lang/StringUTF16" "$assertionsDisabled" "Z" (.int (1 : Int32))) (S_hi : Sta Z Z.heap "java/lang/StringUTF16" "HI_BYTE_SHIFT" "I" (.int (0 : Int32))) (S_lo : Sta Z Z.heap "java/lang/StringUTF16" "LO_BYTE_SHIFT" "I" (.int (8 : Int32))) (r : Int32) (hr : f0_92 v0 v1 v2 v3 v4 v6 v7 b80_coder c8_n c8_xs c86_n c86_xs = r) :
    EndsInW p e below s0 5 4005 (Q0 n0 r) (T0.setTop (mkF m 92 #[.val (.int v0), .val (.int v1), .val (.int v2), .val (.int v3), .val (.int v4), .val (.ref c8), .val (.int v6), .val (.int v7), .unset] [(.ref b76)])) := by
  obtain ⟨hx, hZ, hw, hby, hml, hret, hown, hnm, hlk⟩ := B
  unfold f0_92 at hr
  refine EndsInW.by (B := T0.setTop (mkF m 96 #[.val (.int v0), .val (.int v1), .val (.int v2), .val (.int v3), .val (.int v4), .val (.ref c8), .val (.int v6), .val (.int v7), .val (.ref b76)] [(.ref b76)])) (fun t k => ?_) ?_
  · show Steps p.tables e below (T0.setTop (mkF m 92 #[.val (.int v0), .val (.int v1), .val (.int v2), .val (.int v3), .val (.int v4), .val (.ref c8), .val (.int v6), .val (.int v7), .unset] [(.ref b76)])) _
    refine XS.astore X0.here hx rfl (hb hby at_92) rfl rfl (l' := #[.val (.int v0), .val (.int v1), .val (.int v2), .val (.int v3), .val (.int v4), .val (.ref c8), .val (.int v6), .val (.int v7), .val (.ref b76)]) rfl ?_
    show Steps p.tables e below (T0.setTop (mkF m 94 #[.val (.int v0), .val (.int v1), .val (.int v2), .val (.int v3), .val (.int v4), .val (.ref c8), .val (.int v6), .val (.int v7), .val (.ref b76)] [])) _
    refine XS.aload X0.here hx rfl (hb hby at_94) rfl rfl ?_
    exact k
  -- pc 96: com/example/vestwright/vestwright/files/WrittenNumber.isTooLong
  obtain ⟨cq7, kq7, q7a, q7b, q7c⟩ := isOf hZ e0 E_b76
  obtain ⟨_, _, ⟨T7, L7, k7, n7⟩, -, X7, ⟨Lc7, hQ7, l7, y7, z7⟩, st7⟩ := X0.virtualBack hx (y := (⟨"com/example/vestwright/vestwright/files/WrittenNumber", "isTooLong", "()Z"⟩ : MethodName)) (z := (⟨"com/example/vestwright/vestwright/files/WrittenNumber", "isTooLong", "()Z"⟩ : MethodName)) hown (mvT hZ (hw _ (List.mem_of_getElem? (i := 35) rfl))) (mvT hZ (hw _ (List.mem_of_getElem? (i := 36) rfl))) (notFace_of_selects (args := #[]) (mvT hZ (hw _ (List.mem_of_getElem? (i := 38) rfl)))) (mvT hZ (hw _ (List.mem_of_getElem? (i := 38) rfl))) (mvT hZ (hw _ (List.mem_of_getElem? (i := 37) rfl))) (by decide) (backOf (W := 0) (rm6 l Z a0 hw [] b76 b80 c86 b80_coder c86_k c86_n c86_xs cs h n0 Z0 E_b76 F_b76_text E_b80 F_b80_value F_b80_coder V_c86 ln_c86 O S_cs P5) hZ (hw _ (List.mem_of_getElem? (i := 39) rfl)) (hw _ (List.mem_of_getElem? (i := 7) rfl)) (by decide) (by decide)) q7a q7c (g := (mkF m 96 #[.val (.int v0), .val (.int v1), .val (.int v2), .val (.int v3), .val (.int v4), .val (.ref c8), .val (.int v6), .val (.int v7), .val (.ref b76)] [(.ref b76)])) rfl (by rw [hml]; rfl) (Steps.refl _) (argsL := []) (rest := []) (lenOf pd_13 rfl) rfl (by show 2 * 0 + _ ≤ _; exact Nat.le_of_eq rfl) (hb hby at_96) (fun _ _ => ⟨rfl, e0, (by decide : 5 + R6.cells ≤ _), (by decide : 4005 + R6.slots ≤ _)⟩)
  dsimp only [Pt.U, Pt.locs, Pt.cells, Pt.slots] at X7 l7 y7 z7 st7 hQ7
  subst l7 y7 z7
  obtain ⟨rfl, Nq7, e7⟩ := hQ7
  have N7 := Fr.app N0 Nq7
  refine EndsInW.by (B := T7.setTop (mkF m 99 #[.val (.int v0), .val (.int v1), .val (.int v2), .val (.int v3), .val (.int v4), .val (.ref c8), .val (.int v6), .val (.int v7), .val (.ref b76)] [(.int (f6_0 b80_coder c86_n c86_xs))])) (fun t k => st7.trans k) ?_
  refine EndsInW.by (B := T7.setTop (mkF m 101 #[.val (.int v0), .val (.int v1), .val (.int v2), .val (.int v3), .val (.int v4), .val (.ref c8), .val (.int v6), .val (.int v7), .val (.ref b76)] [(.int v7), (.int (f6_0 b80_coder c86_n c86_xs))])) (fun t k => ?_) ?_
  · show Steps p.tables e below (T7.setTop (mkF m 99 #[.val (.int v0), .val (.int v1), .val (.int v2), .val (.int v3), .val (.int v4), .val (.ref c8), .val (.int v6), .val (.int v7), .val (.ref b76)] [(.int (f6_0 b80_coder c86_n c86_xs))])) _
    refine XS.iload X7.here hx rfl (hb hby at_99) rfl  ?_
    exact k
  by_cases hc101 : (f6_0 b80_coder c86_n c86_xs) = v7
  · rw [if_pos hc101] at hr
    refine EndsInW.by (B := T7.setTop (mkF m 104 #[.val (.int v0), .val (.int v1), .val (.int v2), .val (.int v3), .val (.int v4), .val (.ref c8), .val (.int v6), .val (.int v7), .val (.ref b76)] [])) (fun t k => ?_) ?_
    · show Steps p.tables e below (T7.setTop (mkF m 101 #[.val (.int v0), .val (.int v1), .val (.int v2), .val (.int v3), .val (.int v4), .val (.ref c8), .val (.int v6), .val (.int v7), .val (.ref b76)] [(.int v7), (.int (f6_0 b80_coder c86_n c86_xs))])) _
      exact XS.icmpNo X7.here hx rfl (hb hby at_101) rfl (teq hc101).2 k
    refine EndsInW.by (B := T7.setTop (mkF m 109 #[.val (.int v0), .val (.int v1), .val (.int v2), .val (.int v3), .val (.int v4), .val (.ref c8), .val (.int v6), .val (.int v7), .val (.ref b76)] [(.int (1 : Int32))])) (fun t k => ?_) ?_
    · show Steps p.tables e below (T7.setTop (mkF m 104 #[.val (.int v0), .val (.int v1), .val (.int v2), .val (.int v3), .val (.int v4), .val (.ref c8), .val (.int v6), .val (.int v7), .val (.ref b76)] [])) _
      refine XS.iconst X7.here hx rfl (hb hby at_104) ?_
      show Steps p.tables e below (T7.setTop (mkF m 105 #[.val (.int v0), .val (.int v1), .val (.int v2), .val (.int v3), .val (.int v4), .val (.ref c8), .val (.int v6), .val (.int v7), .val (.ref b76)] [(.int (1 : Int32))])) _
      refine XS.goto X7.here hx rfl (pc0 := 105) (pc' := 109) rfl (hb hby at_105) (by decide) (by decide) ?_
      exact k
    subst hr
    exact own_wretN X7 hx hlk hS (Nat.le_trans hk (Nat.le_of_eq (congrArg Array.size e7.symm))) (t := .boolean) hret (by simp) (hb hby at_109) (by decide) (by decide) ⟨rfl, N7⟩
  · rw [if_neg hc101] at hr
    refine EndsInW.by (B := T7.setTop (mkF m 108 #[.val (.int v0), .val (.int v1), .val (.int v2), .val (.int v3), .val (.int v4), .val (.ref c8), .val (.int v6), .val (.int v7), .val (.ref b76)] [])) (fun t k => ?_) ?_
    · show Steps p.tables e below (T7.setTop (mkF m 101 #[.val (.int v0), .val (.int v1), .val (.int v2), .val (.int v3), .val (.int v4), .val (.ref c8), .val (.int v6), .val (.int v7), .val (.ref b76)] [(.int v7), (.int (f6_0 b80_coder c86_n c86_xs))])) _
      exact XS.icmpYes X7.here hx rfl (pc0 := 101) (pc' := 108) rfl (hb hby at_101) rfl (feq hc101).2 (by decide) (by decide) k
    refine EndsInW.by (B := T7.setTop (mkF m 109 #[.val (.int v0), .val (.int v1), .val (.int v2), .val (.int v3), .val (.int v4), .val (.ref c8), .val (.int v6), .val (.int v7), .val (.ref b76)] [(.int (0 : Int32))])) (fun t k => ?_) ?_
    · show Steps p.tables e below (T7.setTop (mkF m 108 #[.val (.int v0), .val (.int v1), .val (.int v2), .val (.int v3), .val (.int v4), .val (.ref c8), .val (.int v6), .val (.int v7), .val (.ref b76)] [])) _
      refine XS.iconst X7.here hx rfl (hb hby at_108) ?_
      exact k
    subst hr
    exact own_wretN X7 hx hlk hS (Nat.le_trans hk (Nat.le_of_eq (congrArg Array.size e7.symm))) (t := .boolean) hret (by simp) (hb hby at_109) (by decide) (by decide) ⟨rfl, N7⟩
def f0_89 (v0 : Int32) (v1 : Int32) (v2 : Int32) (v3 : Int32) (v4 : Int32) (v6 : Int32) (v7 : Int32) (b80_coder : Int32) (c8_n : Int32) (c8_xs : List Int32) (c86_n : Int32) (c86_xs : List Int32) : Int32 := (f0_92 v0 v1 v2 v3 v4 v6 v7 b80_coder c8_n c8_xs c86_n c86_xs)
set_option maxRecDepth 65536 in
set_option maxHeartbeats 40000000 in
theorem b0_89 {p : Program} {l : Launch} {e : Env} {s0 : State} {vm0 : Vm} {k0 : Nat} {m : MethodId} {args : Array Value} {below : List Frame} {meth : Method} {c : Code} {Z : State} {a0 : Array Value} (B : Ctx p Z (s0.setVm vm0) a0 m meth c "com/example/vestwright/vestwright/files/WrittenNumberIsTooLongPinLaw" "law" code 9 (some .boolean)) {T0 : State} {locs : List Loc} {h : Heap} (h0 : Heap) (n0 : Nat) (v0 : Int32) (v1 : Int32) (v2 : Int32) (v3 : Int32) (v4 : Int32) (c8 : Addr) (v6 : Int32) (v7 : Int32) (b80 : Addr) (b76 : Addr) (c86 : Addr) (b80_coder : Int32) (c8_k : ClassId) (c8_n : Int32) (c8_xs : List Int32) (c86_k : ClassId) (c86_n : Int32) (c86_xs : List Int32) (cs : Int32) (X0 : Stand p l e room_1 (s0.setVm vm0) m args below meth c T0 locs 5 4005) (e0 : T0.heap = h) (N0 : Fr n0 locs) (Z0 : n0 ≤ h.size) (hS : s0.Since vm0 k0) (hk : k0 ≤ h.size) (E_b76 : Exa Z h b76 "com/example/vestwright/vestwright/files/WrittenNumber") (F_b76_text : Fld Z h b76 "com/example/vestwright/vestwright/files/WrittenNumber" "text" "Ljava/lang/String;" .null) (g_b76 : n0 ≤ b76) (E_b80 : Exa Z h b80 "java/lang/String") (F_b80_value : Fld Z h b80 "java/lang/String" "value" "[B" (.ref c86)) (F_b80_coder : Fld Z h b80 "java/lang/String" "coder" "B" (.int b80_coder)) (g_b80 : n0 ≤ b80) (V_c8 : Arv Z h c8 c8_k .char c8_n (c8_xs.map Value.int) (.int 0)) (ln_c8 : c8_xs.length = c8_n.toNatClampNeg) (g_c8 : n0 ≤ c8) (V_c86 : Arv Z h c86 c86_k .byte c86_n (c86_xs.map Value.int) (.int 0)) (ln_c86 : c86_xs.length = c86_n.toNatClampNeg) (ne_c8_b76 : c8 ≠ b76) (ne_b76_b80 : b76 ≠ b80) (ne_c8_b80 : c8 ≠ b80) (ne_b76_c86 : b76 ≠ c86) (ne_b80_c86 : b80 ≠ c86) (O : Old Z n0 h) (S_cs : Sta Z Z.heap "java/lang/String" "COMPACT_STRINGS" "Z" (.int cs)) (P5 : ¬ (cs = (0 : Int32))) (S_as : Sta Z Z.heap "java/lang/StringUTF16" "$assertionsDisabled" "Z" (.int (1 : Int32))) (S_hi : Sta Z Z.heap "java/lang/StringUTF16" "HI_BYTE_SHIFT" "I" (.int (0 : Int32))) (S_lo : Sta Z Z.heap "java/lang/StringUTF16" "LO_BYTE_SHIFT" "I" (.int (8 : Int32))) (r : Int32) (hr : f0_89 v0 v1 v2 v3 v4 v6 v7 b80_coder c8_n c8_xs c86_n c86_xs = r) :
    EndsInW p e below s0 5 4005 (Q0 n0 r) (T0.setTop (mkF m 89 #[.val (.int v0), .val (.int v1), .val (.int v2), .val (.int v3), .val (.int v4), .val (.ref c8), .val (.int v6), .val (.int v7), .unset] [(.ref b80), (.ref b76), (.ref b76)])) := by
  obtain ⟨hx, hZ, hw, hby, hml, hret, hown, hnm, hlk⟩ := B
  unfold f0_89 at hr
  -- pc 89: com/example/vestwright/vestwright/files/WrittenNumber.<init>
  obtain ⟨_, _, ⟨T6, L6, k6, n6⟩, -, X6, ⟨Lc6, hQ6, l6, y6, z6⟩, st6⟩ := X0.specialBack hx (y := (⟨"com/example/vestwright/vestwright/files/WrittenNumber", "<init>", "(Ljava/lang/String;)V"⟩ : MethodName)) rfl hown (mvT hZ (hw _ (List.mem_of_getElem? (i := 29) rfl))) (mvT hZ (hw _ (List.mem_of_getElem? (i := 30) rfl))) (mvT hZ (hw _ (List.mem_of_getElem? (i := 31) rfl))) (by decide) (backOf (W := 1) (rm5 l Z a0 hw [] b76 b80 .null h n0 Z0 E_b76 F_b76_text g_b76) hZ (hw _ (List.mem_of_getElem? (i := 31) rfl)) (hw _ (List.mem_of_getElem? (i := 7) rfl)) (by decide) (by decide)) (g := (mkF m 89 #[.val (.int v0), .val (.int v1), .val (.int v2), .val (.int v3), .val (.int v4), .val (.ref c8), .val (.int v6), .val (.int v7), .unset] [(.ref b80), (.ref b76), (.ref b76)])) rfl (by rw [hml]; rfl) (Steps.refl _) (a := b76) (argsL := [(.ref b80)]) (rest := [(.ref b76)]) (lenOf pd_10 rfl) rfl (by show 2 * 0 + _ ≤ _; exact Nat.le_of_eq rfl) (hb hby at_89) (fun _ _ => ⟨rfl, e0, (by decide : 5 + R5.cells ≤ _), (by decide : 4005 + R5.slots ≤ _)⟩)
  dsimp only [Pt.U, Pt.locs, Pt.cells, Pt.slots] at X6 l6 y6 z6 st6 hQ6
  subst l6 y6 z6
  obtain ⟨rfl, Nq6, Kq6, E_b76_6, F_b76_text_6⟩ := hQ6
  obtain ⟨h6, e6⟩ : ∃ z, T6.heap = z := ⟨_, rfl⟩
  rw [e6] at Kq6 E_b76_6 F_b76_text_6
  have hk6 : _ ≤ h6.size := Nat.le_trans hk Kq6.1
  have N6 := Fr.app N0 Nq6
  have Z6 : n0 ≤ h6.size := Nat.le_trans Z0 Kq6.1
  have E_b80_6 := E_b80.keep Kq6
  have F_b80_value_6 := F_b80_value.keep Kq6 (ninS (Ne.symm ne_b76_b80) nin0)
  have F_b80_coder_6 := F_b80_coder.keep Kq6 (ninS (Ne.symm ne_b76_b80) nin0)
  have V_c8_6 := V_c8.keep Kq6 (ninS ne_c8_b76 nin0)
  have V_c86_6 := V_c86.keep Kq6 (ninS (Ne.symm ne_b76_c86) nin0)
  have O6 := O.keep Kq6 (allS g_b76 all0)
  refine EndsInW.by (B := T6.setTop (mkF m 92 #[.val (.int v0), .val (.int v1), .val (.int v2), .val (.int v3), .val (.int v4), .val (.ref c8), .val (.int v6), .val (.int v7), .unset] [(.ref b76)])) (fun t k => st6.trans k) ?_
  exact b0_92 ⟨hx, hZ, hw, hby, hml, hret, hown, hnm, hlk⟩ h0 n0 v0 v1 v2 v3 v4 c8 v6 v7 b76 b80 c86 b80_coder c8_k c8_n c8_xs c86_k c86_n c86_xs cs X6 e6 N6 Z6 hS hk6 E_b76_6 F_b76_text_6 g_b76 E_b80_6 F_b80_value_6 F_b80_coder_6 g_b80 V_c8_6 ln_c8 g_c8 V_c86_6 ln_c86 ne_c8_b76 ne_b76_b80 ne_c8_b80 ne_b76_c86 ne_b80_c86 O6 S_cs P5 S_as S_hi S_lo _ hr
def f0_74 (v0 : Int32) (v1 : Int32) (v2 : Int32) (v3 : Int32) (v4 : Int32) (v6 : Int32) (t0 : Int32) (c8_n : Int32) (c8_xs : List Int32) : Int32 := (f0_89 v0 v1 v2 v3 v4 v6 t0 ((f2_0 (0 : Int32) c8_n c8_xs).1) c8_n c8_xs ((f2_0 (0 : Int32) c8_n c8_xs).2.1) ((f2_0 (0 : Int32) c8_n c8_xs).2.2))
set_option maxRecDepth 65536 in
set_option maxHeartbeats 40000000 in
theorem b0_74 {p : Program} {l : Launch} {e : Env} {s0 : State} {vm0 : Vm} {k0 : Nat} {m : MethodId} {args : Array Value} {below : List Frame} {meth : Method} {c : Code} {Z : State} {a0 : Array Value} (B : Ctx p Z (s0.setVm vm0) a0 m meth c "com/example/vestwright/vestwright/files/WrittenNumberIsTooLongPinLaw" "law" code 9 (some .boolean)) {T0 : State} {locs : List Loc} {h : Heap} (h0 : Heap) (n0 : Nat) (v0 : Int32) (v1 : Int32) (v2 : Int32) (v3 : Int32) (v4 : Int32) (c8 : Addr) (v6 : Int32) (t0 : Int32) (c8_k : ClassId) (c8_n : Int32) (c8_xs : List Int32) (cs : Int32) (X0 : Stand p l e room_1 (s0.setVm vm0) m args below meth c T0 locs 1 1000) (e0 : T0.heap = h) (N0 : Fr n0 locs) (Z0 : n0 ≤ h.size) (hS : s0.Since vm0 k0) (hk : k0 ≤ h.size) (V_c8 : Arv Z h c8 c8_k .char c8_n (c8_xs.map Value.int) (.int 0)) (ln_c8 : c8_xs.length = c8_n.toNatClampNeg) (g_c8 : n0 ≤ c8) (O : Old Z n0 h) (S_cs : Sta Z Z.heap "java/lang/String" "COMPACT_STRINGS" "Z" (.int cs)) (P5 : ¬ (cs = (0 : Int32))) (S_as : Sta Z Z.heap "java/lang/StringUTF16" "$assertionsDisabled" "Z" (.int (1 : Int32))) (S_hi : Sta Z Z.heap "java/lang/StringUTF16" "HI_BYTE_SHIFT" "I" (.int (0 : Int32))) (S_lo : Sta Z Z.heap "java/lang/StringUTF16" "LO_BYTE_SHIFT" "I" (.int (8 : Int32))) (hC : CHv Z own_EL vm0 Z.heap) (hN : own_mk v4 c8_n) (r : Int32) (hr : f0_74 v0 v1 v2 v3 v4 v6 t0 c8_n c8_xs = r) :
    EndsInW p e below s0 5 4005 (Q0 n0 r) (T0.setTop (mkF m 74 #[.val (.int v0), .val (.int v1), .val (.int v2), .val (.int v3), .val (.int v4), .val (.ref c8), .val (.int v6), .unset, .unset] [(.int t0)])) := by
  obtain ⟨hx, hZ, hw, hby, hml, hret, hown, hnm, hlk⟩ := B
  unfold f0_74 at hr
  refine EndsInW.by (B := T0.setTop (mkF m 76 #[.val (.int v0), .val (.int v1), .val (.int v2), .val (.int v3), .val (.int v4), .val (.ref c8), .val (.int v6), .val (.int t0), .unset] [])) (fun t k => ?_) ?_
  · show Steps p.tables e below (T0.setTop (mkF m 74 #[.val (.int v0), .val (.int v1), .val (.int v2), .val (.int v3), .val (.int v4), .val (.ref c8), .val (.int v6), .unset, .unset] [(.int t0)])) _
    refine XS.istore X0.here hx rfl (hb hby at_74) rfl (l' := #[.val (.int v0), .val (.int v1), .val (.int v2), .val (.int v3), .val (.int v4), .val (.ref c8), .val (.int v6), .val (.int t0), .unset]) rfl ?_
    exact k
  obtain ⟨T3, h3, X3, e3, X3e, A3, D3, -, st3⟩ := newO X0 hx hZ hown (hw _ (List.mem_of_getElem? (i := 5) rfl)) (hw _ (List.mem_of_getElem? (i := 6) rfl)) (hw _ (List.mem_of_getElem? (i := 7) rfl)) e0 (g := (mkF m 76 #[.val (.int v0), .val (.int v1), .val (.int v2), .val (.int v3), .val (.int v4), .val (.ref c8), .val (.int v6), .val (.int t0), .unset] [])) rfl (hb hby at_76) (by decide) (by decide)
  obtain ⟨b76, g3⟩ : ∃ z, z = h.size := ⟨_, rfl⟩
  rw [← g3] at A3 D3 st3
  have g_b76 : n0 ≤ b76 := Nat.le_trans Z0 (Nat.le_of_eq g3.symm)
  have ne_c8_b76 : c8 ≠ b76 := Nat.ne_of_lt (Nat.lt_of_lt_of_le V_c8.lt (Nat.le_of_eq g3.symm))
  have V_c8_3 := V_c8.ext X3e
  have hk3 : _ ≤ h3.size := Nat.le_trans hk X3e.1
  have Z3 : n0 ≤ h3.size := Nat.le_trans Z0 X3e.1
  have O3 := O.ext X3e
  have E_b76_3 := A3
  have F_b76_text_3 : Fld Z h3 b76 "com/example/vestwright/vestwright/files/WrittenNumber" "text" "Ljava/lang/String;" .null := D3 (Or.inr (hw _ (List.mem_of_getElem? (i := 34) rfl))) (ty := (.object "java/lang/String")) (by decide)
  refine EndsInW.by (B := T3.setTop (mkF m 79 #[.val (.int v0), .val (.int v1), .val (.int v2), .val (.int v3), .val (.int v4), .val (.ref c8), .val (.int v6), .val (.int t0), .unset] [(.ref b76)])) (fun t k => st3 t k) ?_
  refine EndsInW.by (B := T3.setTop (mkF m 80 #[.val (.int v0), .val (.int v1), .val (.int v2), .val (.int v3), .val (.int v4), .val (.ref c8), .val (.int v6), .val (.int t0), .unset] [(.ref b76), (.ref b76)])) (fun t k => ?_) ?_
  · show Steps p.tables e below (T3.setTop (mkF m 79 #[.val (.int v0), .val (.int v1), .val (.int v2), .val (.int v3), .val (.int v4), .val (.ref c8), .val (.int v6), .val (.int t0), .unset] [(.ref b76)])) _
    refine XS.dup X3.here hx rfl (hb hby at_79) rfl rfl ?_
    exact k
  obtain ⟨T4, h4, X4, e4, X4e, A4, D4, -, st4⟩ := newO X3 hx hZ hown (hw _ (List.mem_of_getElem? (i := 8) rfl)) (hw _ (List.mem_of_getElem? (i := 9) rfl)) (hw _ (List.mem_of_getElem? (i := 10) rfl)) e3 (g := (mkF m 80 #[.val (.int v0), .val (.int v1), .val (.int v2), .val (.int v3), .val (.int v4), .val (.ref c8), .val (.int v6), .val (.int t0), .unset] [(.ref b76), (.ref b76)])) rfl (hb hby at_80) (by decide) (by decide)
  obtain ⟨b80, g4⟩ : ∃ z, z = h3.size := ⟨_, rfl⟩
  rw [← g4] at A4 D4 st4
  have g_b80 : n0 ≤ b80 := Nat.le_trans Z3 (Nat.le_of_eq g4.symm)
  have ne_b76_b80 : b76 ≠ b80 := Nat.ne_of_lt (Nat.lt_of_lt_of_le E_b76_3.lt (Nat.le_of_eq g4.symm))
  have ne_c8_b80 : c8 ≠ b80 := Nat.ne_of_lt (Nat.lt_of_lt_of_le V_c8_3.lt (Nat.le_of_eq g4.symm))
  have E_b76_4 := E_b76_3.ext X4e
  have F_b76_text_4 := F_b76_text_3.ext X4e
  have V_c8_4 := V_c8_3.ext X4e
  have hk4 : _ ≤ h4.size := Nat.le_trans hk3 X4e.1
  have Z4 : n0 ≤ h4.size := Nat.le_trans Z3 X4e.1
  have O4 := O3.ext X4e
  have E_b80_4 := A4
  have F_b80_value_4 : Fld Z h4 b80 "java/lang/String" "value" "[B" .null := D4 (Or.inr (hw _ (List.mem_of_getElem? (i := 23) rfl))) (ty := (.array .byte)) (by decide)
  have F_b80_coder_4 : Fld Z h4 b80 "java/lang/String" "coder" "B" (.int (0 : Int32)) := D4 (Or.inr (hw _ (List.mem_of_getElem? (i := 24) rfl))) (ty := .byte) (by decide)
  refine EndsInW.by (B := T4.setTop (mkF m 83 #[.val (.int v0), .val (.int v1), .val (.int v2), .val (.int v3), .val (.int v4), .val (.ref c8), .val (.int v6), .val (.int t0), .unset] [(.ref b80), (.ref b76), (.ref b76)])) (fun t k => st4 t k) ?_
  refine EndsInW.by (B := T4.setTop (mkF m 86 #[.val (.int v0), .val (.int v1), .val (.int v2), .val (.int v3), .val (.int v4), .val (.ref c8), .val (.int v6), .val (.int t0), .unset] [(.ref c8), (.ref b80), (.ref b80), (.ref b76), (.ref b76)])) (fun t k => ?_) ?_
  · show Steps p.tables e below (T4.setTop (mkF m 83 #[.val (.int v0), .val (.int v1), .val (.int v2), .val (.int v3), .val (.int v4), .val (.ref c8), .val (.int v6), .val (.int t0), .unset] [(.ref b80), (.ref b76), (.ref b76)])) _
    refine XS.dup X4.here hx rfl (hb hby at_83) rfl rfl ?_
    show Steps p.tables e below (T4.setTop (mkF m 84 #[.val (.int v0), .val (.int v1), .val (.int v2), .val (.int v3), .val (.int v4), .val (.ref c8), .val (.int v6), .val (.int t0), .unset] [(.ref b80), (.ref b80), (.ref b76), (.ref b76)])) _
    refine XS.aload X4.here hx rfl (hb hby at_84) rfl rfl ?_
    exact k
  have hp5_hT : own_L c8_n := own_mkL hN
  -- pc 86: java/lang/String.<init>
  obtain ⟨_, _, ⟨T5, L5, k5, n5⟩, -, X5, h25, hg5, ⟨Lc5, hQ5, l5, y5, z5⟩, st5⟩ := X4.specialBackS hx (y := (⟨"java/lang/String", "<init>", "([C)V"⟩ : MethodName)) rfl hown (mvT hZ (hw _ (List.mem_of_getElem? (i := 11) rfl))) (mvT hZ (hw _ (List.mem_of_getElem? (i := 12) rfl))) (mvT hZ (hw _ (List.mem_of_getElem? (i := 13) rfl))) (by decide) (own_backS (W := 3) (rm2 l Z a0 hw [] b80 c8 .null (0 : Int32) c8_k c8_n c8_xs cs h4 n0 Z4 E_b80_4 F_b80_value_4 F_b80_coder_4 g_b80 V_c8_4 ln_c8 (Ne.symm ne_c8_b80) O4 S_cs P5 S_as S_hi S_lo hp5_hT) hZ (hw _ (List.mem_of_getElem? (i := 13) rfl)) (hw _ (List.mem_of_getElem? (i := 10) rfl)) (by decide) (by decide) (own_EW hw) hC) (g := (mkF m 86 #[.val (.int v0), .val (.int v1), .val (.int v2), .val (.int v3), .val (.int v4), .val (.ref c8), .val (.int v6), .val (.int t0), .unset] [(.ref c8), (.ref b80), (.ref b80), (.ref b76), (.ref b76)])) rfl (by rw [hml]; rfl) (Steps.refl _) (a := b80) (argsL := [(.ref c8)]) (rest := [(.ref b80), (.ref b76), (.ref b76)]) (lenOf pd_9 rfl) rfl (by show 2 * 0 + _ ≤ _; exact Nat.le_of_eq rfl) (hb hby at_86) (fun _ _ => ⟨rfl, e4, (by decide : 3 + R2.cells ≤ _), (by decide : 1005 + R2.slots ≤ _)⟩)
  dsimp only [Pt.U, Pt.locs, Pt.cells, Pt.slots] at X5 l5 y5 z5 st5 hQ5
  subst l5 y5 z5
  dsimp only [Pt.U, Pt.locs, Pt.cells, Pt.slots] at h25 hg5
  obtain ⟨X5, hS, hZ, hown⟩ := rebS hS (n1 := T4.heap.size) (Nat.le_trans hk4 (Nat.le_of_eq (congrArg Array.size e4.symm))) X5 h25 hg5 hZ hown
  obtain ⟨c86, kb_5, rfl, Nq5, Kq5, E_b80_5, F_b80_value_5, F_b80_coder_5, Vb_5, lnb_5⟩ := hQ5
  obtain ⟨h5, e5⟩ : ∃ z, T5.heap = z := ⟨_, rfl⟩
  rw [e5] at Kq5 E_b80_5 F_b80_value_5 F_b80_coder_5 Vb_5
  have hk5 : _ ≤ h5.size := Nat.le_of_eq (congrArg Array.size e5)
  have N5 := Fr.app N0 Nq5
  have Z5 : n0 ≤ h5.size := Nat.le_trans Z4 Kq5.1
  have E_b76_5 := E_b76_4.keep Kq5
  have F_b76_text_5 := F_b76_text_4.keep Kq5 (ninS ne_b76_b80 nin0)
  have V_c8_5 := V_c8_4.keep Kq5 (ninS ne_c8_b80 nin0)
  have O5 := O4.keep Kq5 (allS g_b80 all0)
  have ne_b76_c86 : b76 ≠ c86 := Exa.neArv E_b76_5 Vb_5 (hw _ (List.mem_of_getElem? (i := 6) rfl))
  have ne_b80_c86 : b80 ≠ c86 := Exa.neArv E_b80_5 Vb_5 (hw _ (List.mem_of_getElem? (i := 9) rfl))
  refine EndsInW.by (B := T5.setTop (mkF m 89 #[.val (.int v0), .val (.int v1), .val (.int v2), .val (.int v3), .val (.int v4), .val (.ref c8), .val (.int v6), .val (.int t0), .unset] [(.ref b80), (.ref b76), (.ref b76)])) (fun t k => st5.trans k) ?_
  exact b0_89 ⟨hx, hZ, hw, hby, hml, hret, hown, hnm, hlk⟩ h0 n0 v0 v1 v2 v3 v4 c8 v6 t0 b80 b76 c86 ((f2_0 (0 : Int32) c8_n c8_xs).1) c8_k c8_n c8_xs kb_5 ((f2_0 (0 : Int32) c8_n c8_xs).2.1) ((f2_0 (0 : Int32) c8_n c8_xs).2.2) cs X5 e5 N5 Z5 hS hk5 E_b76_5 F_b76_text_5 g_b76 E_b80_5 F_b80_value_5 F_b80_coder_5 g_b80 V_c8_5 ln_c8 g_c8 Vb_5 lnb_5 ne_c8_b76 ne_b76_b80 ne_c8_b80 ne_b76_c86 ne_b80_c86 O5 S_cs P5 S_as S_hi S_lo _ hr
def f0_63 (v0 : Int32) (v1 : Int32) (v2 : Int32) (v3 : Int32) (v4 : Int32) (v6 : Int32) (c8_n : Int32) (c8_xs : List Int32) : Int32 := (if v4 < (4 : Int32) then (f0_74 v0 v1 v2 v3 v4 v6 (0 : Int32) c8_n c8_xs) else (f0_74 v0 v1 v2 v3 v4 v6 (1 : Int32) c8_n c8_xs))
set_option maxRecDepth 65536 in
set_option maxHeartbeats 40000000 in
theorem b0_63 {p : Program} {l : Launch} {e : Env} {s0 : State} {vm0 : Vm} {k0 : Nat} {m : MethodId} {args : Array Value} {below : List Frame} {meth : Method} {c : Code} {Z : State} {a0 : Array Value} (B : Ctx p Z (s0.setVm vm0) a0 m meth c "com/example/vestwright/vestwright/files/WrittenNumberIsTooLongPinLaw" "law" code 9 (some .boolean)) {T0 : State} {locs : List Loc} {h : Heap} (h0 : Heap) (n0 : Nat) (v0 : Int32) (v1 : Int32) (v2 : Int32) (v3 : Int32) (v4 : Int32) (c8 : Addr) (v6 : Int32) (c8_k : ClassId) (c8_n : Int32) (c8_xs : List Int32) (cs : Int32) (X0 : Stand p l e room_1 (s0.setVm vm0) m args below meth c T0 locs 1 1000) (e0 : T0.heap = h) (N0 : Fr n0 locs) (Z0 : n0 ≤ h.size) (hS : s0.Since vm0 k0) (hk : k0 ≤ h.size) (V_c8 : Arv Z h c8 c8_k .char c8_n (c8_xs.map Value.int) (.int 0)) (ln_c8 : c8_xs.length = c8_n.toNatClampNeg) (g_c8 : n0 ≤ c8) (O : Old Z n0 h) (S_cs : Sta Z Z.heap "java/lang/String" "COMPACT_STRINGS" "Z" (.int cs)) (P5 : ¬ (cs = (0 : Int32))) (S_as : Sta Z Z.heap "java/lang/StringUTF16" "$assertionsDisabled" "Z" (.int (1 : Int32))) (S_hi : Sta Z Z.heap "java/lang/StringUTF16" "HI_BYTE_SHIFT" "I" (.int (0 : Int32))) (S_lo : Sta Z Z.heap "java/lang/StringUTF16" "LO_BYTE_SHIFT" "I" (.int (8 : Int32))) (hC : CHv Z own_EL vm0 Z.heap) (hN : own_mk v4 c8_n) (r : Int32) (hr : f0_63 v0 v1 v2 v3 v4 v6 c8_n c8_xs = r) :
    EndsInW p e below s0 5 4005 (Q0 n0 r) (T0.setTop (mkF m 63 #[.val (.int v0), .val (.int v1), .val (.int v2), .val (.int v3), .val (.int v4), .val (.ref c8), .val (.int v6), .unset, .unset] [])) := by
  obtain ⟨hx, hZ, hw, hby, hml, hret, hown, hnm, hlk⟩ := B
  unfold f0_63 at hr
  refine EndsInW.by (B := T0.setTop (mkF m 66 #[.val (.int v0), .val (.int v1), .val (.int v2), .val (.int v3), .val (.int v4), .val (.ref c8), .val (.int v6), .unset, .unset] [(.int (4 : Int32)), (.int v4)])) (fun t k => ?_) ?_
  · show Steps p.tables e below (T0.setTop (mkF m 63 #[.val (.int v0), .val (.int v1), .val (.int v2), .val (.int v3), .val (.int v4), .val (.ref c8), .val (.int v6), .unset, .unset] [])) _
    refine XS.iload X0.here hx rfl (hb hby at_63) rfl  ?_
    show Steps p.tables e below (T0.setTop (mkF m 65 #[.val (.int v0), .val (.int v1), .val (.int v2), .val (.int v3), .val (.int v4), .val (.ref c8), .val (.int v6), .unset, .unset] [(.int v4)])) _
    refine XS.iconst X0.here hx rfl (hb hby at_65) ?_
    exact k
  by_cases hc66 : v4 < (4 : Int32)
  · rw [if_pos hc66] at hr
    refine EndsInW.by (B := T0.setTop (mkF m 73 #[.val (.int v0), .val (.int v1), .val (.int v2), .val (.int v3), .val (.int v4), .val (.ref c8), .val (.int v6), .unset, .unset] [])) (fun t k => ?_) ?_
    · show Steps p.tables e below (T0.setTop (mkF m 66 #[.val (.int v0), .val (.int v1), .val (.int v2), .val (.int v3), .val (.int v4), .val (.ref c8), .val (.int v6), .unset, .unset] [(.int (4 : Int32)), (.int v4)])) _
      exact XS.icmpYes X0.here hx rfl (pc0 := 66) (pc' := 73) rfl (hb hby at_66) rfl (tlt hc66).1 (by decide) (by decide) k
    refine EndsInW.by (B := T0.setTop (mkF m 74 #[.val (.int v0), .val (.int v1), .val (.int v2), .val (.int v3), .val (.int v4), .val (.ref c8), .val (.int v6), .unset, .unset] [(.int (0 : Int32))])) (fun t k => ?_) ?_
    · show Steps p.tables e below (T0.setTop (mkF m 73 #[.val (.int v0), .val (.int v1), .val (.int v2), .val (.int v3), .val (.int v4), .val (.ref c8), .val (.int v6), .unset, .unset] [])) _
      refine XS.iconst X0.here hx rfl (hb hby at_73) ?_
      exact k
    have hC_j : CHv Z own_EL vm0 Z.heap := hC
    have hN_j : own_mk v4 c8_n := hN
    exact b0_74 ⟨hx, hZ, hw, hby, hml, hret, hown, hnm, hlk⟩ h0 n0 v0 v1 v2 v3 v4 c8 v6 (0 : Int32) c8_k c8_n c8_xs cs X0 e0 N0 Z0 hS hk V_c8 ln_c8 g_c8 O S_cs P5 S_as S_hi S_lo hC_j hN_j _ hr
  · rw [if_neg hc66] at hr
    refine EndsInW.by (B := T0.setTop (mkF m 69 #[.val (.int v0), .val (.int v1), .val (.int v2), .val (.int v3), .val (.int v4), .val (.ref c8), .val (.int v6), .unset, .unset] [])) (fun t k => ?_) ?_
    · show Steps p.tables e below (T0.setTop (mkF m 66 #[.val (.int v0), .val (.int v1), .val (.int v2), .val (.int v3), .val (.int v4), .val (.ref c8), .val (.int v6), .unset, .unset] [(.int (4 : Int32)), (.int v4)])) _
      exact XS.icmpNo X0.here hx rfl (hb hby at_66) rfl (flt hc66).1 k
    refine EndsInW.by (B := T0.setTop (mkF m 74 #[.val (.int v0), .val (.int v1), .val (.int v2), .val (.int v3), .val (.int v4), .val (.ref c8), .val (.int v6), .unset, .unset] [(.int (1 : Int32))])) (fun t k => ?_) ?_
    · show Steps p.tables e below (T0.setTop (mkF m 69 #[.val (.int v0), .val (.int v1), .val (.int v2), .val (.int v3), .val (.int v4), .val (.ref c8), .val (.int v6), .unset, .unset] [])) _
      refine XS.iconst X0.here hx rfl (hb hby at_69) ?_
      show Steps p.tables e below (T0.setTop (mkF m 70 #[.val (.int v0), .val (.int v1), .val (.int v2), .val (.int v3), .val (.int v4), .val (.ref c8), .val (.int v6), .unset, .unset] [(.int (1 : Int32))])) _
      refine XS.goto X0.here hx rfl (pc0 := 70) (pc' := 74) rfl (hb hby at_70) (by decide) (by decide) ?_
      exact k
    have hC_j : CHv Z own_EL vm0 Z.heap := hC
    have hN_j : own_mk v4 c8_n := hN
    exact b0_74 ⟨hx, hZ, hw, hby, hml, hret, hown, hnm, hlk⟩ h0 n0 v0 v1 v2 v3 v4 c8 v6 (1 : Int32) c8_k c8_n c8_xs cs X0 e0 N0 Z0 hS hk V_c8 ln_c8 g_c8 O S_cs P5 S_as S_hi S_lo hC_j hN_j _ hr
def f0_33 (v0 : Int32) (v1 : Int32) (v2 : Int32) (v3 : Int32) (v4 : Int32) (v6 : Int32) (c8_n : Int32) (c8_xs : List Int32) : Int32 := (if v6 < (2 : Int32) then (f0_63 v0 v1 v2 v3 v4 v6 c8_n c8_xs) else (f0_63 v0 v1 v2 v3 v4 v6 c8_n ((c8_xs.set ((v6 - (2 : Int32))).toNatClampNeg (nar .char ((v2 &&& (65535 : Int32)).toUInt32.toUInt16.toUInt32.toInt32))).set ((v6 - (1 : Int32))).toNatClampNeg (nar .char ((v3 &&& (65535 : Int32)).toUInt32.toUInt16.toUInt32.toInt32)))))
set_option maxRecDepth 65536 in
set_option maxHeartbeats 40000000 in
theorem b0_33 {p : Program} {l : Launch} {e : Env} {s0 : State} {vm0 : Vm} {k0 : Nat} {m : MethodId} {args : Array Value} {below : List Frame} {meth : Method} {c : Code} {Z : State} {a0 : Array Value} (B : Ctx p Z (s0.setVm vm0) a0 m meth c "com/example/vestwright/vestwright/files/WrittenNumberIsTooLongPinLaw" "law" code 9 (some .boolean)) {T0 : State} {locs : List Loc} {h : Heap} (h0 : Heap) (n0 : Nat) (v0 : Int32) (v1 : Int32) (v2 : Int32) (v3 : Int32) (v4 : Int32) (c8 : Addr) (v6 : Int32) (c8_k : ClassId) (c8_n : Int32) (c8_xs : List Int32) (cs : Int32) (X0 : Stand p l e room_1 (s0.setVm vm0) m args below meth c T0 locs 1 1000) (e0 : T0.heap = h) (N0 : Fr n0 locs) (Z0 : n0 ≤ h.size) (hS : s0.Since vm0 k0) (hk : k0 ≤ h.size) (V_c8 : Arv Z h c8 c8_k .char c8_n (c8_xs.map Value.int) (.int 0)) (ln_c8 : c8_xs.length = c8_n.toNatClampNeg) (g_c8 : n0 ≤ c8) (O : Old Z n0 h) (S_cs : Sta Z Z.heap "java/lang/String" "COMPACT_STRINGS" "Z" (.int cs)) (P5 : ¬ (cs = (0 : Int32))) (S_as : Sta Z Z.heap "java/lang/StringUTF16" "$assertionsDisabled" "Z" (.int (1 : Int32))) (S_hi : Sta Z Z.heap "java/lang/StringUTF16" "HI_BYTE_SHIFT" "I" (.int (0 : Int32))) (S_lo : Sta Z Z.heap "java/lang/StringUTF16" "LO_BYTE_SHIFT" "I" (.int (8 : Int32))) (hC : CHv Z own_EL vm0 Z.heap) (hN : own_mk v4 c8_n) (h6 : v6 = c8_n) (r : Int32) (hr : f0_33 v0 v1 v2 v3 v4 v6 c8_n c8_xs = r) :
    EndsInW p e below s0 5 4005 (Q0 n0 r) (T0.setTop (mkF m 33 #[.val (.int v0), .val (.int v1), .val (.int v2), .val (.int v3), .val (.int v4), .val (.ref c8), .val (.int v6), .unset, .unset] [])) := by
  obtain ⟨hx, hZ, hw, hby, hml, hret, hown, hnm, hlk⟩ := B
  unfold f0_33 at hr
  refine EndsInW.by (B := T0.setTop (mkF m 36 #[.val (.int v0), .val (.int v1), .val (.int v2), .val (.int v3), .val (.int v4), .val (.ref c8), .val (.int v6), .unset, .unset] [(.int (2 : Int32)), (.int v6)])) (fun t k => ?_) ?_
  · show Steps p.tables e below (T0.setTop (mkF m 33 #[.val (.int v0), .val (.int v1), .val (.int v2), .val (.int v3), .val (.int v4), .val (.ref c8), .val (.int v6), .unset, .unset] [])) _
    refine XS.iload X0.here hx rfl (hb hby at_33) rfl  ?_
    show Steps p.tables e below (T0.setTop (mkF m 35 #[.val (.int v0), .val (.int v1), .val (.int v2), .val (.int v3), .val (.int v4), .val (.ref c8), .val (.int v6), .unset, .unset] [(.int v6)])) _
    refine XS.iconst X0.here hx rfl (hb hby at_35) ?_
    exact k
  by_cases hc36 : v6 < (2 : Int32)
  · rw [if_pos hc36] at hr
    refine EndsInW.by (B := T0.setTop (mkF m 63 #[.val (.int v0), .val (.int v1), .val (.int v2), .val (.int v3), .val (.int v4), .val (.ref c8), .val (.int v6), .unset, .unset] [])) (fun t k => ?_) ?_
    · show Steps p.tables e below (T0.setTop (mkF m 36 #[.val (.int v0), .val (.int v1), .val (.int v2), .val (.int v3), .val (.int v4), .val (.ref c8), .val (.int v6), .unset, .unset] [(.int (2 : Int32)), (.int v6)])) _
      exact XS.icmpYes X0.here hx rfl (pc0 := 36) (pc' := 63) rfl (hb hby at_36) rfl (tlt hc36).1 (by decide) (by decide) k
    have hC_j : CHv Z own_EL vm0 Z.heap := hC
    have hN_j : own_mk v4 c8_n := hN
    exact b0_63 ⟨hx, hZ, hw, hby, hml, hret, hown, hnm, hlk⟩ h0 n0 v0 v1 v2 v3 v4 c8 v6 c8_k c8_n c8_xs cs X0 e0 N0 Z0 hS hk V_c8 ln_c8 g_c8 O S_cs P5 S_as S_hi S_lo hC_j hN_j _ hr
  · rw [if_neg hc36] at hr
    refine EndsInW.by (B := T0.setTop (mkF m 39 #[.val (.int v0), .val (.int v1), .val (.int v2), .val (.int v3), .val (.int v4), .val (.ref c8), .val (.int v6), .unset, .unset] [])) (fun t k => ?_) ?_
    · show Steps p.tables e below (T0.setTop (mkF m 36 #[.val (.int v0), .val (.int v1), .val (.int v2), .val (.int v3), .val (.int v4), .val (.ref c8), .val (.int v6), .unset, .unset] [(.int (2 : Int32)), (.int v6)])) _
      exact XS.icmpNo X0.here hx rfl (hb hby at_36) rfl (flt hc36).1 k
    refine EndsInW.by (B := T0.setTop (mkF m 50 #[.val (.int v0), .val (.int v1), .val (.int v2), .val (.int v3), .val (.int v4), .val (.ref c8), .val (.int v6), .unset, .unset] [(.int ((v2 &&& (65535 : Int32)).toUInt32.toUInt16.toUInt32.toInt32)), (.int (v6 - (2 : Int32))), (.ref c8)])) (fun t k => ?_) ?_
    · show Steps p.tables e below (T0.setTop (mkF m 39 #[.val (.int v0), .val (.int v1), .val (.int v2), .val (.int v3), .val (.int v4), .val (.ref c8), .val (.int v6), .unset, .unset] [])) _
      refine XS.aload X0.here hx rfl (hb hby at_39) rfl rfl ?_
      show Steps p.tables e below (T0.setTop (mkF m 41 #[.val (.int v0), .val (.int v1), .val (.int v2), .val (.int v3), .val (.int v4), .val (.ref c8), .val (.int v6), .unset, .unset] [(.ref c8)])) _
      refine XS.iload X0.here hx rfl (hb hby at_41) rfl  ?_
      show Steps p.tables e below (T0.setTop (mkF m 43 #[.val (.int v0), .val (.int v1), .val (.int v2), .val (.int v3), .val (.int v4), .val (.ref c8), .val (.int v6), .unset, .unset] [(.int v6), (.ref c8)])) _
      refine XS.iconst X0.here hx rfl (hb hby at_43) ?_
      show Steps p.tables e below (T0.setTop (mkF m 44 #[.val (.int v0), .val (.int v1), .val (.int v2), .val (.int v3), .val (.int v4), .val (.ref c8), .val (.int v6), .unset, .unset] [(.int (2 : Int32)), (.int v6), (.ref c8)])) _
      refine XS.isub X0.here hx rfl (hb hby at_44) rfl ?_
      show Steps p.tables e below (T0.setTop (mkF m 45 #[.val (.int v0), .val (.int v1), .val (.int v2), .val (.int v3), .val (.int v4), .val (.ref c8), .val (.int v6), .unset, .unset] [(.int (v6 - (2 : Int32))), (.ref c8)])) _
      refine XS.iloadN X0.here hx rfl (hb hby at_45) rfl  ?_
      show Steps p.tables e below (T0.setTop (mkF m 46 #[.val (.int v0), .val (.int v1), .val (.int v2), .val (.int v3), .val (.int v4), .val (.ref c8), .val (.int v6), .unset, .unset] [(.int v2), (.int (v6 - (2 : Int32))), (.ref c8)])) _
      refine X0.ldcInt hx hown (mvT hZ (hw _ (List.mem_of_getElem? (i := 51) rfl))) (g := (mkF m 46 #[.val (.int v0), .val (.int v1), .val (.int v2), .val (.int v3), .val (.int v4), .val (.ref c8), .val (.int v6), .unset, .unset] [(.int v2), (.int (v6 - (2 : Int32))), (.ref c8)])) rfl (hb hby at_46) _ ?_
      show Steps p.tables e below (T0.setTop (mkF m 48 #[.val (.int v0), .val (.int v1), .val (.int v2), .val (.int v3), .val (.int v4), .val (.ref c8), .val (.int v6), .unset, .unset] [(.int (65535 : Int32)), (.int v2), (.int (v6 - (2 : Int32))), (.ref c8)])) _
      refine XS.iand X0.here hx rfl (hb hby at_48) rfl ?_
      show Steps p.tables e below (T0.setTop (mkF m 49 #[.val (.int v0), .val (.int v1), .val (.int v2), .val (.int v3), .val (.int v4), .val (.ref c8), .val (.int v6), .unset, .unset] [(.int (v2 &&& (65535 : Int32))), (.int (v6 - (2 : Int32))), (.ref c8)])) _
      refine XS.i2c X0.here hx rfl (hb hby at_49) rfl ?_
      exact k
    have hin8 : ¬ ((v6 - (2 : Int32)) < 0) ∧ (v6 - (2 : Int32)) < c8_n := own_n2 hN h6 hc36
    obtain ⟨cl8, Ar8, hi8, q8⟩ := own_open V_c8 hin8
    obtain ⟨T8, h8, X8, e8, W8, st8⟩ := stC X0 hx hZ e0 Ar8 (j := (v6 - (2 : Int32))) hi8 (g := (mkF m 50 #[.val (.int v0), .val (.int v1), .val (.int v2), .val (.int v3), .val (.int v4), .val (.ref c8), .val (.int v6), .unset, .unset] [(.int ((v2 &&& (65535 : Int32)).toUInt32.toUInt16.toUInt32.toInt32)), (.int (v6 - (2 : Int32))), (.ref c8)])) rfl rfl (hb hby at_50)
    obtain ⟨V_c8_8, ln_c8_8⟩ : Arv Z h8 c8 c8_k .char c8_n ((c8_xs.set ((v6 - (2 : Int32))).toNatClampNeg (nar .char ((v2 &&& (65535 : Int32)).toUInt32.toUInt16.toUInt32.toInt32))).map Value.int) (.int 0) ∧ (c8_xs.set ((v6 - (2 : Int32))).toNatClampNeg (nar .char ((v2 &&& (65535 : Int32)).toUInt32.toUInt16.toUInt32.toInt32))).length = c8_n.toNatClampNeg := own_setI V_c8 ln_c8 hin8 W8 (fits_nar_char _) ((v6 - (2 : Int32))).toNatClampNeg rfl
    have hk8 : _ ≤ h8.size := Nat.le_trans hk (Nat.le_of_eq W8.size.symm)
    have N8 := Fr.snoc X8 N0 g_c8
    have Z8 : n0 ≤ h8.size := Nat.le_trans Z0 (Nat.le_of_eq W8.size.symm)
    have O8 := O.wr W8 g_c8
    refine EndsInW.by (B := T8.setTop (mkF m 51 #[.val (.int v0), .val (.int v1), .val (.int v2), .val (.int v3), .val (.int v4), .val (.ref c8), .val (.int v6), .unset, .unset] [])) (fun t k => st8 t k) ?_
    refine EndsInW.by (B := T8.setTop (mkF m 62 #[.val (.int v0), .val (.int v1), .val (.int v2), .val (.int v3), .val (.int v4), .val (.ref c8), .val (.int v6), .unset, .unset] [(.int ((v3 &&& (65535 : Int32)).toUInt32.toUInt16.toUInt32.toInt32)), (.int (v6 - (1 : Int32))), (.ref c8)])) (fun t k => ?_) ?_
    · show Steps p.tables e below (T8.setTop (mkF m 51 #[.val (.int v0), .val (.int v1), .val (.int v2), .val (.int v3), .val (.int v4), .val (.ref c8), .val (.int v6), .unset, .unset] [])) _
      refine XS.aload X8.here hx rfl (hb hby at_51) rfl rfl ?_
      show Steps p.tables e below (T8.setTop (mkF m 53 #[.val (.int v0), .val (.int v1), .val (.int v2), .val (.int v3), .val (.int v4), .val (.ref c8), .val (.int v6), .unset, .unset] [(.ref c8)])) _
      refine XS.iload X8.here hx rfl (hb hby at_53) rfl  ?_
      show Steps p.tables e below (T8.setTop (mkF m 55 #[.val (.int v0), .val (.int v1), .val (.int v2), .val (.int v3), .val (.int v4), .val (.ref c8), .val (.int v6), .unset, .unset] [(.int v6), (.ref c8)])) _
      refine XS.iconst X8.here hx rfl (hb hby at_55) ?_
      show Steps p.tables e below (T8.setTop (mkF m 56 #[.val (.int v0), .val (.int v1), .val (.int v2), .val (.int v3), .val (.int v4), .val (.ref c8), .val (.int v6), .unset, .unset] [(.int (1 : Int32)), (.int v6), (.ref c8)])) _
      refine XS.isub X8.here hx rfl (hb hby at_56) rfl ?_
      show Steps p.tables e below (T8.setTop (mkF m 57 #[.val (.int v0), .val (.int v1), .val (.int v2), .val (.int v3), .val (.int v4), .val (.ref c8), .val (.int v6), .unset, .unset] [(.int (v6 - (1 : Int32))), (.ref c8)])) _
      refine XS.iloadN X8.here hx rfl (hb hby at_57) rfl  ?_
      show Steps p.tables e below (T8.setTop (mkF m 58 #[.val (.int v0), .val (.int v1), .val (.int v2), .val (.int v3), .val (.int v4), .val (.ref c8), .val (.int v6), .unset, .unset] [(.int v3), (.int (v6 - (1 : Int32))), (.ref c8)])) _
      refine X8.ldcInt hx hown (mvT hZ (hw _ (List.mem_of_getElem? (i := 51) rfl))) (g := (mkF m 58 #[.val (.int v0), .val (.int v1), .val (.int v2), .val (.int v3), .val (.int v4), .val (.ref c8), .val (.int v6), .unset, .unset] [(.int v3), (.int (v6 - (1 : Int32))), (.ref c8)])) rfl (hb hby at_58) _ ?_
      show Steps p.tables e below (T8.setTop (mkF m 60 #[.val (.int v0), .val (.int v1), .val (.int v2), .val (.int v3), .val (.int v4), .val (.ref c8), .val (.int v6), .unset, .unset] [(.int (65535 : Int32)), (.int v3), (.int (v6 - (1 : Int32))), (.ref c8)])) _
      refine XS.iand X8.here hx rfl (hb hby at_60) rfl ?_
      show Steps p.tables e below (T8.setTop (mkF m 61 #[.val (.int v0), .val (.int v1), .val (.int v2), .val (.int v3), .val (.int v4), .val (.ref c8), .val (.int v6), .unset, .unset] [(.int (v3 &&& (65535 : Int32))), (.int (v6 - (1 : Int32))), (.ref c8)])) _
      refine XS.i2c X8.here hx rfl (hb hby at_61) rfl ?_
      exact k
    have hin9 : ¬ ((v6 - (1 : Int32)) < 0) ∧ (v6 - (1 : Int32)) < c8_n := own_n3 hN h6 hc36
    obtain ⟨cl9, Ar9, hi9, q9⟩ := own_open V_c8_8 hin9
    obtain ⟨T9, h9, X9, e9, W9, st9⟩ := stC X8 hx hZ e8 Ar9 (j := (v6 - (1 : Int32))) hi9 (g := (mkF m 62 #[.val (.int v0), .val (.int v1), .val (.int v2), .val (.int v3), .val (.int v4), .val (.ref c8), .val (.int v6), .unset, .unset] [(.int ((v3 &&& (65535 : Int32)).toUInt32.toUInt16.toUInt32.toInt32)), (.int (v6 - (1 : Int32))), (.ref c8)])) rfl rfl (hb hby at_62)
    obtain ⟨V_c8_9, ln_c8_9⟩ : Arv Z h9 c8 c8_k .char c8_n (((c8_xs.set ((v6 - (2 : Int32))).toNatClampNeg (nar .char ((v2 &&& (65535 : Int32)).toUInt32.toUInt16.toUInt32.toInt32))).set ((v6 - (1 : Int32))).toNatClampNeg (nar .char ((v3 &&& (65535 : Int32)).toUInt32.toUInt16.toUInt32.toInt32))).map Value.int) (.int 0) ∧ ((c8_xs.set ((v6 - (2 : Int32))).toNatClampNeg (nar .char ((v2 &&& (65535 : Int32)).toUInt32.toUInt16.toUInt32.toInt32))).set ((v6 - (1 : Int32))).toNatClampNeg (nar .char ((v3 &&& (65535 : Int32)).toUInt32.toUInt16.toUInt32.toInt32))).length = c8_n.toNatClampNeg := own_setI V_c8_8 ln_c8_8 hin9 W9 (fits_nar_char _) ((v6 - (1 : Int32))).toNatClampNeg rfl
    have hk9 : _ ≤ h9.size := Nat.le_trans hk8 (Nat.le_of_eq W9.size.symm)
    have N9 := Fr.snoc X9 N8 g_c8
    have Z9 : n0 ≤ h9.size := Nat.le_trans Z8 (Nat.le_of_eq W9.size.symm)
    have O9 := O8.wr W9 g_c8
    refine EndsInW.by (B := T9.setTop (mkF m 63 #[.val (.int v0), .val (.int v1), .val (.int v2), .val (.int v3), .val (.int v4), .val (.ref c8), .val (.int v6), .unset, .unset] [])) (fun t k => st9 t k) ?_
    have hC_j : CHv Z own_EL vm0 Z.heap := hC
    have hN_j : own_mk v4 c8_n := hN
    exact b0_63 ⟨hx, hZ, hw, hby, hml, hret, hown, hnm, hlk⟩ h0 n0 v0 v1 v2 v3 v4 c8 v6 c8_k c8_n ((c8_xs.set ((v6 - (2 : Int32))).toNatClampNeg (nar .char ((v2 &&& (65535 : Int32)).toUInt32.toUInt16.toUInt32.toInt32))).set ((v6 - (1 : Int32))).toNatClampNeg (nar .char ((v3 &&& (65535 : Int32)).toUInt32.toUInt16.toUInt32.toInt32))) cs X9 e9 N9 Z9 hS hk9 V_c8_9 ln_c8_9 g_c8 O9 S_cs P5 S_as S_hi S_lo hC_j hN_j _ hr
def f0_11 (v0 : Int32) (v1 : Int32) (v2 : Int32) (v3 : Int32) (v4 : Int32) (c8_n : Int32) (c8_xs : List Int32) : Int32 := (if c8_n < (1 : Int32) then (f0_33 v0 v1 v2 v3 v4 c8_n c8_n c8_xs) else (f0_33 v0 v1 v2 v3 v4 c8_n c8_n (c8_xs.set 0 (nar .char ((v1 &&& (65535 : Int32)).toUInt32.toUInt16.toUInt32.toInt32)))))
set_option maxRecDepth 65536 in
set_option maxHeartbeats 40000000 in
theorem b0_11 {p : Program} {l : Launch} {e : Env} {s0 : State} {vm0 : Vm} {k0 : Nat} {m : MethodId} {args : Array Value} {below : List Frame} {meth : Method} {c : Code} {Z : State} {a0 : Array Value} (B : Ctx p Z (s0.setVm vm0) a0 m meth c "com/example/vestwright/vestwright/files/WrittenNumberIsTooLongPinLaw" "law" code 9 (some .boolean)) {T0 : State} {locs : List Loc} {h : Heap} (h0 : Heap) (n0 : Nat) (v0 : Int32) (v1 : Int32) (v2 : Int32) (v3 : Int32) (v4 : Int32) (c8 : Addr) (c8_k : ClassId) (c8_n : Int32) (c8_xs : List Int32) (cs : Int32) (X0 : Stand p l e room_1 (s0.setVm vm0) m args below meth c T0 locs 1 1000) (e0 : T0.heap = h) (N0 : Fr n0 locs) (Z0 : n0 ≤ h.size) (hS : s0.Since vm0 k0) (hk : k0 ≤ h.size) (V_c8 : Arv Z h c8 c8_k .char c8_n (c8_xs.map Value.int) (.int 0)) (ln_c8 : c8_xs.length = c8_n.toNatClampNeg) (g_c8 : n0 ≤ c8) (O : Old Z n0 h) (S_cs : Sta Z Z.heap "java/lang/String" "COMPACT_STRINGS" "Z" (.int cs)) (P5 : ¬ (cs = (0 : Int32))) (S_as : Sta Z Z.heap "java/lang/StringUTF16" "$assertionsDisabled" "Z" (.int (1 : Int32))) (S_hi : Sta Z Z.heap "java/lang/StringUTF16" "HI_BYTE_SHIFT" "I" (.int (0 : Int32))) (S_lo : Sta Z Z.heap "java/lang/StringUTF16" "LO_BYTE_SHIFT" "I" (.int (8 : Int32))) (hC : CHv Z own_EL vm0 Z.heap) (hN : own_mk v4 c8_n) (r : Int32) (hr : f0_11 v0 v1 v2 v3 v4 c8_n c8_xs = r) :
    EndsInW p e below s0 5 4005 (Q0 n0 r) (T0.setTop (mkF m 11 #[.val (.int v0), .val (.int v1), .val (.int v2), .val (.int v3), .val (.int v4), .unset, .unset, .unset, .unset] [(.ref c8)])) := by
  obtain ⟨hx, hZ, hw, hby, hml, hret, hown, hnm, hlk⟩ := B
  unfold f0_11 at hr
  refine EndsInW.by (B := T0.setTop (mkF m 15 #[.val (.int v0), .val (.int v1), .val (.int v2), .val (.int v3), .val (.int v4), .val (.ref c8), .unset, .unset, .unset] [(.ref c8)])) (fun t k => ?_) ?_
  · show Steps p.tables e below (T0.setTop (mkF m 11 #[.val (.int v0), .val (.int v1), .val (.int v2), .val (.int v3), .val (.int v4), .unset, .unset, .unset, .unset] [(.ref c8)])) _
    refine XS.astore X0.here hx rfl (hb hby at_11) rfl rfl (l' := #[.val (.int v0), .val (.int v1), .val (.int v2), .val (.int v3), .val (.int v4), .val (.ref c8), .unset, .unset, .unset]) rfl ?_
    show Steps p.tables e below (T0.setTop (mkF m 13 #[.val (.int v0), .val (.int v1), .val (.int v2), .val (.int v3), .val (.int v4), .val (.ref c8), .unset, .unset, .unset] [])) _
    refine XS.aload X0.here hx rfl (hb hby at_13) rfl rfl ?_
    exact k
  have V2 := V_c8
  obtain ⟨cl2, Ar2, -, S2, M2, -, -⟩ := V2
  refine EndsInW.by (B := T0.setTop (mkF m 16 #[.val (.int v0), .val (.int v1), .val (.int v2), .val (.int v3), .val (.int v4), .val (.ref c8), .unset, .unset, .unset] [(.int c8_n)])) (fun t k => ?_) ?_
  · show Steps p.tables e below (T0.setTop (mkF m 15 #[.val (.int v0), .val (.int v1), .val (.int v2), .val (.int v3), .val (.int v4), .val (.ref c8), .unset, .unset, .unset] [(.ref c8)])) _
    refine X0.arraylength hx (by rw [e0]; exact Ar2.1) (State.isArrayOf_alike hZ.alike Ar2.2.1) (g := (mkF m 15 #[.val (.int v0), .val (.int v1), .val (.int v2), .val (.int v3), .val (.int v4), .val (.ref c8), .unset, .unset, .unset] [(.ref c8)])) rfl rfl (hb hby at_15) _ ?_
    rw [len_of S2 M2]
    exact k
  refine EndsInW.by (B := T0.setTop (mkF m 21 #[.val (.int v0), .val (.int v1), .val (.int v2), .val (.int v3), .val (.int v4), .val (.ref c8), .val (.int c8_n), .unset, .unset] [(.int (1 : Int32)), (.int c8_n)])) (fun t k => ?_) ?_
  · show Steps p.tables e below (T0.setTop (mkF m 16 #[.val (.int v0), .val (.int v1), .val (.int v2), .val (.int v3), .val (.int v4), .val (.ref c8), .unset, .unset, .unset] [(.int c8_n)])) _
    refine XS.istore X0.here hx rfl (hb hby at_16) rfl (l' := #[.val (.int v0), .val (.int v1), .val (.int v2), .val (.int v3), .val (.int v4), .val (.ref c8), .val (.int c8_n), .unset, .unset]) rfl ?_
    show Steps p.tables e below (T0.setTop (mkF m 18 #[.val (.int v0), .val (.int v1), .val (.int v2), .val (.int v3), .val (.int v4), .val (.ref c8), .val (.int c8_n), .unset, .unset] [])) _
    refine XS.iload X0.here hx rfl (hb hby at_18) rfl  ?_
    show Steps p.tables e below (T0.setTop (mkF m 20 #[.val (.int v0), .val (.int v1), .val (.int v2), .val (.int v3), .val (.int v4), .val (.ref c8), .val (.int c8_n), .unset, .unset] [(.int c8_n)])) _
    refine XS.iconst X0.here hx rfl (hb hby at_20) ?_
    exact k
  by_cases hc21 : c8_n < (1 : Int32)
  · rw [if_pos hc21] at hr
    refine EndsInW.by (B := T0.setTop (mkF m 33 #[.val (.int v0), .val (.int v1), .val (.int v2), .val (.int v3), .val (.int v4), .val (.ref c8), .val (.int c8_n), .unset, .unset] [])) (fun t k => ?_) ?_
    · show Steps p.tables e below (T0.setTop (mkF m 21 #[.val (.int v0), .val (.int v1), .val (.int v2), .val (.int v3), .val (.int v4), .val (.ref c8), .val (.int c8_n), .unset, .unset] [(.int (1 : Int32)), (.int c8_n)])) _
      exact XS.icmpYes X0.here hx rfl (pc0 := 21) (pc' := 33) rfl (hb hby at_21) rfl (tlt hc21).1 (by decide) (by decide) k
    have hC_j : CHv Z own_EL vm0 Z.heap := hC
    have hN_j : own_mk v4 c8_n := hN
    have h6_j : c8_n = c8_n := rfl
    exact b0_33 ⟨hx, hZ, hw, hby, hml, hret, hown, hnm, hlk⟩ h0 n0 v0 v1 v2 v3 v4 c8 c8_n c8_k c8_n c8_xs cs X0 e0 N0 Z0 hS hk V_c8 ln_c8 g_c8 O S_cs P5 S_as S_hi S_lo hC_j hN_j h6_j _ hr
  · rw [if_neg hc21] at hr
    refine EndsInW.by (B := T0.setTop (mkF m 24 #[.val (.int v0), .val (.int v1), .val (.int v2), .val (.int v3), .val (.int v4), .val (.ref c8), .val (.int c8_n), .unset, .unset] [])) (fun t k => ?_) ?_
    · show Steps p.tables e below (T0.setTop (mkF m 21 #[.val (.int v0), .val (.int v1), .val (.int v2), .val (.int v3), .val (.int v4), .val (.ref c8), .val (.int c8_n), .unset, .unset] [(.int (1 : Int32)), (.int c8_n)])) _
      exact XS.icmpNo X0.here hx rfl (hb hby at_21) rfl (flt hc21).1 k
    refine EndsInW.by (B := T0.setTop (mkF m 32 #[.val (.int v0), .val (.int v1), .val (.int v2), .val (.int v3), .val (.int v4), .val (.ref c8), .val (.int c8_n), .unset, .unset] [(.int ((v1 &&& (65535 : Int32)).toUInt32.toUInt16.toUInt32.toInt32)), (.int (0 : Int32)), (.ref c8)])) (fun t k => ?_) ?_
    · show Steps p.tables e below (T0.setTop (mkF m 24 #[.val (.int v0), .val (.int v1), .val (.int v2), .val (.int v3), .val (.int v4), .val (.ref c8), .val (.int c8_n), .unset, .unset] [])) _
      refine XS.aload X0.here hx rfl (hb hby at_24) rfl rfl ?_
      show Steps p.tables e below (T0.setTop (mkF m 26 #[.val (.int v0), .val (.int v1), .val (.int v2), .val (.int v3), .val (.int v4), .val (.ref c8), .val (.int c8_n), .unset, .unset] [(.ref c8)])) _
      refine XS.iconst X0.here hx rfl (hb hby at_26) ?_
      show Steps p.tables e below (T0.setTop (mkF m 27 #[.val (.int v0), .val (.int v1), .val (.int v2), .val (.int v3), .val (.int v4), .val (.ref c8), .val (.int c8_n), .unset, .unset] [(.int (0 : Int32)), (.ref c8)])) _
      refine XS.iloadN X0.here hx rfl (hb hby at_27) rfl  ?_
      show Steps p.tables e below (T0.setTop (mkF m 28 #[.val (.int v0), .val (.int v1), .val (.int v2), .val (.int v3), .val (.int v4), .val (.ref c8), .val (.int c8_n), .unset, .unset] [(.int v1), (.int (0 : Int32)), (.ref c8)])) _
      refine X0.ldcInt hx hown (mvT hZ (hw _ (List.mem_of_getElem? (i := 51) rfl))) (g := (mkF m 28 #[.val (.int v0), .val (.int v1), .val (.int v2), .val (.int v3), .val (.int v4), .val (.ref c8), .val (.int c8_n), .unset, .unset] [(.int v1), (.int (0 : Int32)), (.ref c8)])) rfl (hb hby at_28) _ ?_
      show Steps p.tables e below (T0.setTop (mkF m 30 #[.val (.int v0), .val (.int v1), .val (.int v2), .val (.int v3), .val (.int v4), .val (.ref c8), .val (.int c8_n), .unset, .unset] [(.int (65535 : Int32)), (.int v1), (.int (0 : Int32)), (.ref c8)])) _
      refine XS.iand X0.here hx rfl (hb hby at_30) rfl ?_
      show Steps p.tables e below (T0.setTop (mkF m 31 #[.val (.int v0), .val (.int v1), .val (.int v2), .val (.int v3), .val (.int v4), .val (.ref c8), .val (.int c8_n), .unset, .unset] [(.int (v1 &&& (65535 : Int32))), (.int (0 : Int32)), (.ref c8)])) _
      refine XS.i2c X0.here hx rfl (hb hby at_31) rfl ?_
      exact k
    have hin10 : ¬ ((0 : Int32) < 0) ∧ (0 : Int32) < c8_n := own_n0 hc21
    obtain ⟨cl10, Ar10, hi10, q10⟩ := own_open V_c8 hin10
    obtain ⟨T10, h10, X10, e10, W10, st10⟩ := stC X0 hx hZ e0 Ar10 (j := (0 : Int32)) hi10 (g := (mkF m 32 #[.val (.int v0), .val (.int v1), .val (.int v2), .val (.int v3), .val (.int v4), .val (.ref c8), .val (.int c8_n), .unset, .unset] [(.int ((v1 &&& (65535 : Int32)).toUInt32.toUInt16.toUInt32.toInt32)), (.int (0 : Int32)), (.ref c8)])) rfl rfl (hb hby at_32)
    obtain ⟨V_c8_10, ln_c8_10⟩ : Arv Z h10 c8 c8_k .char c8_n ((c8_xs.set 0 (nar .char ((v1 &&& (65535 : Int32)).toUInt32.toUInt16.toUInt32.toInt32))).map Value.int) (.int 0) ∧ (c8_xs.set 0 (nar .char ((v1 &&& (65535 : Int32)).toUInt32.toUInt16.toUInt32.toInt32))).length = c8_n.toNatClampNeg := own_setI V_c8 ln_c8 hin10 W10 (fits_nar_char _) 0 (by decide)
    have hk10 : _ ≤ h10.size := Nat.le_trans hk (Nat.le_of_eq W10.size.symm)
    have N10 := Fr.snoc X10 N0 g_c8
    have Z10 : n0 ≤ h10.size := Nat.le_trans Z0 (Nat.le_of_eq W10.size.symm)
    have O10 := O.wr W10 g_c8
    refine EndsInW.by (B := T10.setTop (mkF m 33 #[.val (.int v0), .val (.int v1), .val (.int v2), .val (.int v3), .val (.int v4), .val (.ref c8), .val (.int c8_n), .unset, .unset] [])) (fun t k => st10 t k) ?_
    have hC_j : CHv Z own_EL vm0 Z.heap := hC
    have hN_j : own_mk v4 c8_n := hN
    have h6_j : c8_n = c8_n := rfl
    exact b0_33 ⟨hx, hZ, hw, hby, hml, hret, hown, hnm, hlk⟩ h0 n0 v0 v1 v2 v3 v4 c8 c8_n c8_k c8_n (c8_xs.set 0 (nar .char ((v1 &&& (65535 : Int32)).toUInt32.toUInt16.toUInt32.toInt32))) cs X10 e10 N10 Z10 hS hk10 V_c8_10 ln_c8_10 g_c8 O10 S_cs P5 S_as S_hi S_lo hC_j hN_j h6_j _ hr
def f0_0 (v0 : Int32) (v1 : Int32) (v2 : Int32) (v3 : Int32) : Int32 := (f0_11 v0 v1 v2 v3 (v0 &&& (7 : Int32)) ((f1_0 (v0 &&& (7 : Int32))).1) ((f1_0 (v0 &&& (7 : Int32))).2))
set_option maxRecDepth 65536 in
set_option maxHeartbeats 40000000 in
theorem b0_0 {p : Program} {l : Launch} {e : Env} {s0 : State} {vm0 : Vm} {k0 : Nat} {m : MethodId} {args : Array Value} {below : List Frame} {meth : Method} {c : Code} {Z : State} {a0 : Array Value} (B : Ctx p Z (s0.setVm vm0) a0 m meth c "com/example/vestwright/vestwright/files/WrittenNumberIsTooLongPinLaw" "law" code 9 (some .boolean)) {T0 : State} {locs : List Loc} {h : Heap} (h0 : Heap) (n0 : Nat) (v0 : Int32) (v1 : Int32) (v2 : Int32) (v3 : Int32) (cs : Int32) (X0 : Stand p l e room_1 (s0.setVm vm0) m args below meth c T0 locs 0 0) (e0 : T0.heap = h) (N0 : Fr n0 locs) (Z0 : n0 ≤ h.size) (hS : s0.Since vm0 k0) (hk : k0 ≤ h.size) (hC : CHv Z own_EL vm0 Z.heap) (O : Old Z n0 h) (S_cs : Sta Z Z.heap "java/lang/String" "COMPACT_STRINGS" "Z" (.int cs)) (P5 : ¬ (cs = (0 : Int32))) (S_as : Sta Z Z.heap "java/lang/StringUTF16" "$assertionsDisabled" "Z" (.int (1 : Int32))) (S_hi : Sta Z Z.heap "java/lang/StringUTF16" "HI_BYTE_SHIFT" "I" (.int (0 : Int32))) (S_lo : Sta Z Z.heap "java/lang/StringUTF16" "LO_BYTE_SHIFT" "I" (.int (8 : Int32))) (r : Int32) (hr : f0_0 v0 v1 v2 v3 = r) :
    EndsInW p e below s0 5 4005 (Q0 n0 r) (T0.setTop (mkF m 0 #[.val (.int v0), .val (.int v1), .val (.int v2), .val (.int v3), .unset, .unset, .unset, .unset, .unset] [])) := by
  obtain ⟨hx, hZ, hw, hby, hml, hret, hown, hnm, hlk⟩ := B
  unfold f0_0 at hr
  refine EndsInW.by (B := T0.setTop (mkF m 8 #[.val (.int v0), .val (.int v1), .val (.int v2), .val (.int v3), .val (.int (v0 &&& (7 : Int32))), .unset, .unset, .unset, .unset] [(.int (v0 &&& (7 : Int32)))])) (fun t k => ?_) ?_
  · show Steps p.tables e below (T0.setTop (mkF m 0 #[.val (.int v0), .val (.int v1), .val (.int v2), .val (.int v3), .unset, .unset, .unset, .unset, .unset] [])) _
    refine XS.iloadN X0.here hx rfl (hb hby at_0) rfl  ?_
    show Steps p.tables e below (T0.setTop (mkF m 1 #[.val (.int v0), .val (.int v1), .val (.int v2), .val (.int v3), .unset, .unset, .unset, .unset, .unset] [(.int v0)])) _
    refine XS.bipush X0.here hx rfl (hb hby at_1) ?_
    show Steps p.tables e below (T0.setTop (mkF m 3 #[.val (.int v0), .val (.int v1), .val (.int v2), .val (.int v3), .unset, .unset, .unset, .unset, .unset] [(.int (7 : Int32)), (.int v0)])) _
    refine XS.iand X0.here hx rfl (hb hby at_3) rfl ?_
    show Steps p.tables e below (T0.setTop (mkF m 4 #[.val (.int v0), .val (.int v1), .val (.int v2), .val (.int v3), .unset, .unset, .unset, .unset, .unset] [(.int (v0 &&& (7 : Int32)))])) _
    refine XS.istore X0.here hx rfl (hb hby at_4) rfl (l' := #[.val (.int v0), .val (.int v1), .val (.int v2), .val (.int v3), .val (.int (v0 &&& (7 : Int32))), .unset, .unset, .unset, .unset]) rfl ?_
    show Steps p.tables e below (T0.setTop (mkF m 6 #[.val (.int v0), .val (.int v1), .val (.int v2), .val (.int v3), .val (.int (v0 &&& (7 : Int32))), .unset, .unset, .unset, .unset] [])) _
    refine XS.iload X0.here hx rfl (hb hby at_6) rfl  ?_
    exact k
  -- pc 8: com/example/vestwright/vestwright/files/WrittenNumberIsTooLongPinLaw.make
  obtain ⟨_, _, ⟨T1, L1, k1, n1⟩, -, X1, ⟨Lc1, hQ1, l1, y1, z1⟩, st1⟩ := Jvm.LawKit.callS X0 hx (y := (⟨"com/example/vestwright/vestwright/files/WrittenNumberIsTooLongPinLaw", "make", "(I)[C"⟩ : MethodName)) hown (mvT hZ (hw _ (List.mem_of_getElem? (i := 0) rfl))) (mvT hZ (hw _ (List.mem_of_getElem? (i := 1) rfl))) (mvT hZ (hw _ (List.mem_of_getElem? (i := 2) rfl))) (mvT hZ (hw _ (List.mem_of_getElem? (i := 3) rfl))) (by decide) (backOf (W := 0) (rm1 l Z a0 hw [] (v0 &&& (7 : Int32)) h n0 Z0 ) hZ (hw _ (List.mem_of_getElem? (i := 3) rfl)) (hw _ (List.mem_of_getElem? (i := 2) rfl)) (by decide) (by decide)) (g := (mkF m 8 #[.val (.int v0), .val (.int v1), .val (.int v2), .val (.int v3), .val (.int (v0 &&& (7 : Int32))), .unset, .unset, .unset, .unset] [(.int (v0 &&& (7 : Int32)))])) rfl (by rw [hml]; rfl) (argsL := [(.int (v0 &&& (7 : Int32)))]) (rest := []) (lenOf pd_0 rfl) rfl (by show 2 * 0 + _ ≤ _; exact Nat.le_of_eq rfl) (hb hby at_8) (fun _ _ => ⟨rfl, e0, (by decide : 0 + R1.cells ≤ _), (by decide : 0 + R1.slots ≤ _)⟩)
  dsimp only [Pt.U, Pt.locs, Pt.cells, Pt.slots] at X1 l1 y1 z1 st1 hQ1
  subst l1 y1 z1
  obtain ⟨c8, kb_1, rfl, Nq1, g_c8, szq1, Kq1, Vb_1, lnb_1⟩ := hQ1
  obtain ⟨h1, e1⟩ : ∃ z, T1.heap = z := ⟨_, rfl⟩
  rw [e1] at Kq1 Vb_1
  have hk1 : _ ≤ h1.size := Nat.le_trans hk Kq1.1
  have N1 := Fr.app N0 Nq1
  have Z1 : n0 ≤ h1.size := Nat.le_trans Z0 Kq1.1
  have O1 := O.keep Kq1 all0
  refine EndsInW.by (B := T1.setTop (mkF m 11 #[.val (.int v0), .val (.int v1), .val (.int v2), .val (.int v3), .val (.int (v0 &&& (7 : Int32))), .unset, .unset, .unset, .unset] [(.ref c8)])) (fun t k => st1 t k) ?_
  have hC_j : CHv Z own_EL vm0 Z.heap := hC
  have hN_j : own_mk (v0 &&& (7 : Int32)) (f1_0 (v0 &&& (7 : Int32))).1 := own_mk0 _
  exact b0_11 ⟨hx, hZ, hw, hby, hml, hret, hown, hnm, hlk⟩ h0 n0 v0 v1 v2 v3 (v0 &&& (7 : Int32)) c8 kb_1 ((f1_0 (v0 &&& (7 : Int32))).1) ((f1_0 (v0 &&& (7 : Int32))).2) cs X1 e1 N1 Z1 hS hk1 Vb_1 lnb_1 g_c8 O1 S_cs P5 S_as S_hi S_lo hC_j hN_j _ hr
theorem ef_0 (m : MethodId) (v0 : Int32) (v1 : Int32) (v2 : Int32) (v3 : Int32) : entryFrame m #[(.int v0), (.int v1), (.int v2), (.int v3)] maxLocals = (mkF m 0 #[.val (.int v0), .val (.int v1), .val (.int v2), .val (.int v3), .unset, .unset, .unset, .unset, .unset] []) := by first | (simp [entryFrame, mkF, argsToLocals, Value.category, maxLocals]; done) | rfl
set_option maxRecDepth 65536 in
set_option maxHeartbeats 40000000 in
theorem rm0 (l : Launch) (Z : State) (a0 : Array Value) (hw : ∀ d ∈ tables_1, d.before a0 Z = true) (ws : List Jvm.Cond) (v0 : Int32) (v1 : Int32) (v2 : Int32) (v3 : Int32) (cs : Int32) (h0 : Heap) (n0 : Nat) (Z0 : n0 ≤ h0.size) (O : Old Z n0 h0) (S_cs : Sta Z Z.heap "java/lang/String" "COMPACT_STRINGS" "Z" (.int cs)) (P5 : ¬ (cs = (0 : Int32))) (S_as : Sta Z Z.heap "java/lang/StringUTF16" "$assertionsDisabled" "Z" (.int (1 : Int32))) (S_hi : Sta Z Z.heap "java/lang/StringUTF16" "HI_BYTE_SHIFT" "I" (.int (0 : Int32))) (S_lo : Sta Z Z.heap "java/lang/StringUTF16" "LO_BYTE_SHIFT" "I" (.int (8 : Int32))) :
    MetFree l x (head1 (Jvm.Cond.code x code maxLocals ret :: ws) room_1) (fun a U => a = #[(.int v0), (.int v1), (.int v2), (.int v3)] ∧ Z.Warmed39 U.vm ∧ U.heap = h0 ∧ CHv Z own_EL U.vm Z.heap) (fun _ _ _ _ _ => True) (fun _ U o U' => ∃ v L, o = .returned v ∧ (Q0 n0 (f0_0 v0 v1 v2 v3)) v U'.heap L ∧ ReturnedEndW U o U' L 5 4005) := by
  refine MetFree.of_bodySF (plainFor_of_name pn_0) hisR ?_
  intro p e s m args below meth c s₁ Bd hml0 hP hK
  obtain ⟨rfl, hZ, hh, hC⟩ := hP
  have B : Ctx p Z (s.setVm s.vm) a0 m meth c "com/example/vestwright/vestwright/files/WrittenNumberIsTooLongPinLaw" "law" code 9 (some .boolean) := ⟨Bd.exec, hZ, hw, Bd.bytes, hml0, Bd.returns, findClass_of_methodNamed Bd.named, (name_of_methodNamed Bd.named Bd.method).1, Bd.notSynchronized⟩
  have X0 : Stand p l e room_1 (s.setVm s.vm) m #[(.int v0), (.int v1), (.int v2), (.int v3)] below meth c s₁ [] 0 0 := Stand.of_body Bd
  have e0 : s₁.heap = h0 := by rw [← hh, Bd.state]; rfl
  have K := Keep.refl h0 []
  show EndsInW p e below s 5 4005 (Q0 n0 (f0_0 v0 v1 v2 v3)) (s₁.setTop (entryFrame m #[(.int v0), (.int v1), (.int v2), (.int v3)] maxLocals))
  refine EndsInW.by (fun t k => castTop (ef_0 m v0 v1 v2 v3) k) ?_
  exact b0_0 (s0 := s) (vm0 := s.vm) (k0 := 0) B h0 n0 v0 v1 v2 v3 cs X0 e0 (Fr.nil n0) Z0 ((State.WarmedH.refl s).since 0) (Nat.zero_le _) hC O S_cs P5 S_as S_hi S_lo _ rfl

/-- what length() answers of the String made of n chars -/
theorem own_slen {n : Int32} {xs : List Int32} (h : own_L n) : f7_0 (f2_0 0 n xs).1 (f2_0 0 n xs).2.1 (f2_0 0 n xs).2.2 = n := by
  have T := own_LT h
  unfold f7_0 f8_0 f2_0 f3_0
  by_cases q : n = (0 : Int32)
  · rw [if_pos q, q]; decide
  · rw [if_neg q]
    show (f9_0 0 n n xs).1 >>> ((nar .byte (nar .byte (f11_0 n (f9_0 0 n n xs).1 (f9_0 0 n n xs).2))) &&& 31) = n
    have pos : 0 < n.toInt := by
      have h1 := h.1
      have : n.toInt ≠ 0 := fun e => q (Int32.toInt_inj.mp e)
      omega
    have h2 := h.2
    unfold f9_0
    by_cases r : (f10_0 0 0 n n xs n (List.replicate n.toNatClampNeg (0 : Int32))).1 = n
    · rw [if_pos r]
      have e : f11_0 n n (f10_0 0 0 n n xs n (List.replicate n.toNatClampNeg (0 : Int32))).2 = 0 := by
        unfold f11_0; rw [Int32.sub_self]; decide
      show n >>> ((nar .byte (nar .byte (f11_0 n n (f10_0 0 0 n n xs n (List.replicate n.toNatClampNeg (0 : Int32))).2))) &&& 31) = n
      rw [e]
      have s := c_ishr n 0 0 (by decide)
      have z : (nar .byte (nar .byte (0 : Int32)) &&& 31) = ((0 : Int32) &&& 31) := by decide
      rw [z]; apply Int32.toInt_inj.mp; omega
    · rw [if_neg r]
      have e12 := (own_f12 (xs := xs) T).1
      show (f12_0 0 n n xs).1 >>> ((nar .byte (nar .byte (f11_0 n (f12_0 0 n n xs).1 (f12_0 0 n n xs).2))) &&& 31) = n
      generalize (f12_0 0 n n xs).1 = w at *
      have e : f11_0 n w (f12_0 0 n n xs).2 = 1 := by
        unfold f11_0
        have d := own_sub (a := n) (b := w) rfl e12 (by omega)
        have u := c_iushr (n - w) 31 31 (by decide) (by decide)
        have v : ((n - w).toUInt32 >>> ((31 : Int32) &&& 31).toUInt32).toInt32 = 1 := by apply Int32.toInt_inj.mp; rw [own_c1]; omega
        rw [v]; decide
      rw [e]
      have z : (nar .byte (nar .byte (1 : Int32)) &&& 31) = ((1 : Int32) &&& 31) := by decide
      rw [z]
      have s := c_ishr w 1 1 (by decide)
      apply Int32.toInt_inj.mp; omega
theorem own_l63 {v0 v1 v2 v3 v4 v6 n : Int32} {xs : List Int32} (h : own_mk v4 n) : f0_63 v0 v1 v2 v3 v4 v6 n xs = 1 := by
  unfold f0_63 f0_74 f0_89 f0_92 f6_0
  rw [own_slen (own_mkL h)]
  rcases h with ⟨rfl, rfl⟩ | ⟨rfl, rfl⟩ | ⟨rfl, rfl⟩ | ⟨rfl, rfl⟩ | ⟨rfl, rfl⟩ | ⟨rfl, rfl⟩ | ⟨rfl, rfl⟩ | ⟨rfl, rfl⟩ <;> decide
theorem own_law (v0 v1 v2 v3 : Int32) : f0_0 v0 v1 v2 v3 = 1 := by
  unfold f0_0 f0_11 f0_33
  have h := own_mk0 v0
  generalize v0 &&& (7 : Int32) = a at *
  generalize (f1_0 a).1 = n at *
  split <;> split <;> exact own_l63 h

set_option maxRecDepth 65536 in
set_option maxHeartbeats 40000000 in
theorem comes_1 {Post : Tables → Env → Array Value → State → Outcome → State → Prop} (hpost : ∀ tb e args s v u, (limb_1_1.after args s (.returned v) u = true ∧ limb_1_2.after args s (.returned v) u = true ∧ True) → ReturnedEndW s (.returned v) u (Jvm.fieldLocs frame_1_writes args s ++ Jvm.arrayLocs frame_1_arrays args s ++ Jvm.staticLocs frame_1_statics s) 24 9152 → Post tb e args s (.returned v) u) :
    ArmFor flags0 classFile x code maxLocals ret World_1 tables_1 room_1 Calls_1 rest_1 Pre_1 Post := by
  intro l hfl _ _ p e ha hc hk s m args below hf hA hF happ hP
  obtain ⟨hcalls, hrest, hpre⟩ := hP
  obtain ⟨-, -, -, hnamed, -, -, -, hat⟩ := (Spec.applies_iff hf).mp happ
  obtain ⟨hg, hn⟩ := and_e (Cond.before_iff.mp (show (Jvm.Cond.and given_1 narrow_1).before args s = true from hpre))
  obtain ⟨gg1, gg2⟩ := and_e hg
  obtain ⟨gg3, gg4⟩ := and_e gg2
  obtain ⟨gg5, gg6⟩ := and_e gg4
  obtain ⟨gg7, gg8⟩ := and_e gg6
  obtain ⟨w0, w1, w2, w3, rfl⟩ : ∃ w0 w1 w2 w3 : Value, args = #[w0, w1, w2, w3] := by
    have hs : args.size = 4 := by simpa [Cond.value, given_1] using gg1
    obtain ⟨L⟩ := args
    match L, hs with
    | [w0, w1, w2, w3], _ => exact ⟨w0, w1, w2, w3, rfl⟩
  have hw := fun d (hd : d ∈ tables_1) => atoms_spec (ws := Jvm.Cond.code x code maxLocals ret :: tables_1) hat d (List.mem_cons_of_mem _ hd)
  have hfit : Fit s := fun {y c} hc i hi => by
    obtain ⟨ha, rfl⟩ := Array.getElem?_eq_some_iff.mp hc
    have q := List.all_eq_true.mp ((Array.all_eq_true_iff_forall_mem.mp hF) _ (Array.getElem_mem ha)) i (List.mem_range.mpr hi)
    simpa [Array.getElem?_eq_getElem hi] using q
  obtain ⟨hsets, hown0⟩ := atoms_of _ (rest_1_c_eq ▸ (show rest_1_c.before _ s = true from hrest))
  obtain ⟨i0, ei0⟩ := is_v gg3
  obtain rfl : w0 = (.int i0) := Option.some.inj ei0
  obtain ⟨i1, ei1⟩ := is_v gg5
  obtain rfl : w1 = (.int i1) := Option.some.inj ei1
  obtain ⟨i2, ei2⟩ := is_v gg7
  obtain rfl : w2 = (.int i2) := Option.some.inj ei2
  obtain ⟨i3, ei3⟩ := is_v gg8
  obtain rfl : w3 = (.int i3) := Option.some.inj ei3
  have n5 := not_v (Cond.before_iff.mp (hsets _ (List.mem_of_getElem? (i := 2) rfl)))
  obtain ⟨cs, e10⟩ := is_v (Cond.before_iff.mp (hsets _ (List.mem_of_getElem? (i := 1) rfl)))
  have S12 : Sta s s.heap "java/lang/String" "COMPACT_STRINGS" "Z" (.int cs) := Sta.start e10 (Or.inl (hsets _ (List.mem_of_getElem? (i := 0) rfl)))
  have c17 : ¬ (cs = (0 : Int32)) := gotF (Cond.eq_ints e10 (Term.int_eval (0))) n5
  have sta11 : Sta s s.heap "java/lang/StringUTF16" "$assertionsDisabled" "Z" (.int (1 : Int32)) := Sta.start (Cond.eq_int (hsets _ (List.mem_of_getElem? (i := 12) rfl)) (Term.int_eval (1))) (Or.inl (hsets _ (List.mem_of_getElem? (i := 11) rfl)))
  have sta14 : Sta s s.heap "java/lang/StringUTF16" "HI_BYTE_SHIFT" "I" (.int (0 : Int32)) := Sta.start (Cond.eq_int (hsets _ (List.mem_of_getElem? (i := 15) rfl)) (Term.int_eval (0))) (Or.inl (hsets _ (List.mem_of_getElem? (i := 14) rfl)))
  have sta17 : Sta s s.heap "java/lang/StringUTF16" "LO_BYTE_SHIFT" "I" (.int (8 : Int32)) := Sta.start (Cond.eq_int (hsets _ (List.mem_of_getElem? (i := 18) rfl)) (Term.int_eval (8))) (Or.inl (hsets _ (List.mem_of_getElem? (i := 17) rfl)))
  have hCH : CHv s own_EL s.vm s.heap := CHv.start (own_EW hw) (fun q hq => hcalls.1 q hq) (hsets _ (List.mem_of_getElem? (i := 2) rfl)) (hw _ (List.mem_of_getElem? (i := 22) rfl)) (hw _ (List.mem_of_getElem? (i := 9) rfl))
  obtain ⟨n, o, h1, h2, h3, _, L, rfl, ⟨rfl, N⟩, hq⟩ := rm0 l s _ hw tables_1 i0 i1 i2 i3 cs s.heap s.heap.size (Nat.le_refl _) (Old.start s) S12 c17 sta11 sta14 sta17 p e ha hc hk s m _ below hf ((Spec.applies_iff_loose hf).mp happ).1 ⟨rfl, State.Warmed39.refl s, rfl, hCH⟩ trivial
  refine ⟨n, _, h1, h2, h3, hpost _ _ _ _ _ _ ⟨Cond.after_iff.mpr rfl, Cond.after_iff.mpr (eq_i res_at (Term.int_eval (1)) (congrArg Value.int (own_law i0 i1 i2 i3))), trivial⟩ ⟨hq.1, hq.2.1, hq.2.2.1, (hq.2.2.2.sift fun y hy => Or.inr (N y hy)).mono (by decide) (by decide)⟩⟩
theorem main_1_1 : Claimed_1_1 := comes_1 fun _ _ _ _ _ _ h hF => ⟨h.1, hF⟩
theorem main_1_2 : Claimed_1_2 := comes_1 fun _ _ _ _ _ _ h hF => ⟨h.2.1, hF⟩
end Jvm.Pilot.@@N@@
namespace Jvm.Pilot.@@N@@
open Jvm Jvm.ClassFile Sem Op Lib Jvm.Free Jvm.Stand Jvm.Pilot.@@N@@.Jvm.D
/-! MADE BY PROGRAM (witnessworld.py) out of the Statement's table words and the real class files: 20 classes; the members and pool entries that the words name. The judged class is class 1, her method 1. -/
namespace start1
open Jvm.ClassFile
def u (s : String) : CpInfo := .utf8 (stringToUtf16 s)
/-- a pool by its gaps: so many unusable entries, then the entry; so many at the end -/
def gap : Nat → List CpInfo → List CpInfo
  | 0, r => r
  | n + 1, r => .unusable :: gap n r
def poolList (es : List (Nat × CpInfo)) (last : Nat) : List CpInfo := es.foldr (fun e r => gap e.1 (e.2 :: r)) (gap last [])
def pool (es : List (Nat × CpInfo)) (last : Nat) : Array CpInfo := ⟨poolList es last⟩
def fileOf (pool : Array CpInfo) (this : Nat) (attrs : Array Attribute := #[]) (ms : Array MethodInfo := #[]) (fl : Nat := 33) (sup : Nat := 0) (ifs : Array Nat := #[]) (fds : Array FieldInfo := #[]) : ClassFile where
  minorVersion := 0
  majorVersion := 65
  constantPool := pool
  accessFlags := fl
  thisClass := this
  superClass := sup
  interfaces := ifs
  fields := fds
  methods := ms
  attributes := attrs
def plain (name : String) (sup : Option ClassId) : Class where
  name := name
  kind := .ordinary
  loader := none
  accessFlags := 33
  super := sup
  interfaces := #[]
  cf := none
  fields := #[]
  methods := #[]
  instanceTypes := #[]
  staticTypes := #[]
  resolved := #[]
  callSites := []
  init := .initialized
  statics := none
  mirror := none

def pool0 : Array CpInfo := pool [(5, u "<init>"), (0, u "()V"), (1, .class_ 10), (1, u "java/lang/Object")] 113

def k0c0 : Code := { maxStack := 0, maxLocals := 1, code := object_method_1_code, exceptionTable := #[], attributes := #[] }
def k0m0 : Method := { name := "<init>", desc := "()V", sig := { parameters := [], returnType := none }, accessFlags := 1, code := some k0c0 }
/-- java/lang/Object -/
def k0 : Class := { plain "java/lang/Object" none with
  accessFlags := 33
  interfaces := #[]
  cf := some (fileOf pool0 8 #[] #[{ accessFlags := 1, nameIndex := 5, descriptorIndex := 6, attributes := #[] }] 33 0 #[] #[])
  fields := #[]
  methods := #[k0m0]
  instanceTypes := #[]
  staticTypes := #[]
  resolved := Array.replicate 124 none
  statics := none }

def pool1 : Array CpInfo := pool [(2, .class_ 4), (1, u "java/lang/Object"), (0, u "<init>"), (0, u "()V"), (0, .methodref 8 9), (0, .class_ 10), (0, .nameAndType 11 12), (0, u "com/example/vestwright/vestwright/files/WrittenNumberIsTooLongPinLaw"), (0, u "make"), (0, u "(I)[C"), (0, .integer 65535), (0, .class_ 15), (0, u "com/example/vestwright/vestwright/files/WrittenNumber"), (0, .class_ 17), (0, u "java/lang/String"), (0, .methodref 16 19), (0, .nameAndType 5 20), (0, u "([C)V"), (0, .methodref 14 22), (0, .nameAndType 5 23), (0, u "(Ljava/lang/String;)V"), (0, .methodref 14 25), (0, .nameAndType 26 27), (0, u "isTooLong"), (0, u "()Z"), (2, u "law"), (0, u "(IIII)Z")] 5

def k1m0 : Method := { name := "<init>", desc := "()V", sig := { parameters := [], returnType := none }, accessFlags := 1, code := none }
def k1c1 : Code := { maxStack := 5, maxLocals := 9, code := code, exceptionTable := #[], attributes := #[] }
def k1m1 : Method := { name := "law", desc := "(IIII)Z", sig := { parameters := [.int, .int, .int, .int], returnType := some .boolean }, accessFlags := 9, code := some k1c1 }
def k1c2 : Code := { maxStack := 2, maxLocals := 1, code := method_3_code, exceptionTable := #[], attributes := #[] }
def k1m2 : Method := { name := "make", desc := "(I)[C", sig := { parameters := [.int], returnType := some (.array .char) }, accessFlags := 10, code := some k1c2 }
/-- com/example/vestwright/vestwright/files/WrittenNumberIsTooLongPinLaw -/
def k1 : Class := { plain "com/example/vestwright/vestwright/files/WrittenNumberIsTooLongPinLaw" (some 0) with
  accessFlags := 49
  interfaces := #[]
  cf := some (fileOf pool1 8 #[] #[{ accessFlags := 1, nameIndex := 5, descriptorIndex := 6, attributes := #[] }, { accessFlags := 9, nameIndex := 30, descriptorIndex := 31, attributes := #[] }, { accessFlags := 10, nameIndex := 11, descriptorIndex := 12, attributes := #[] }] 49 2 #[] #[])
  fields := #[]
  methods := #[k1m0, k1m1, k1m2]
  instanceTypes := #[]
  staticTypes := #[]
  resolved := Array.replicate 37 none
  statics := none }

def pool2 : Array CpInfo := pool [(1, .methodref 2 3), (0, .class_ 4), (0, .nameAndType 5 6), (0, u "java/lang/Object"), (0, u "<init>"), (0, u "()V"), (0, .fieldref 8 9), (0, .class_ 10), (0, .nameAndType 11 12), (0, u "com/example/vestwright/vestwright/files/WrittenNumber"), (0, u "text"), (0, u "Ljava/lang/String;"), (0, .methodref 14 15), (0, .class_ 16), (0, .nameAndType 17 18), (0, u "java/lang/String"), (0, u "length"), (0, u "()I"), (6, u "MOST_CHARACTERS"), (0, u "I"), (2, u "(Ljava/lang/String;)V"), (2, u "isTooLong"), (0, u "()Z")] 6

def k2c0 : Code := { maxStack := 2, maxLocals := 2, code := prog_50_method_1_code, exceptionTable := #[], attributes := #[] }
def k2m0 : Method := { name := "<init>", desc := "(Ljava/lang/String;)V", sig := { parameters := [(.object "java/lang/String")], returnType := none }, accessFlags := 0, code := some k2c0 }
def k2c1 : Code := { maxStack := 2, maxLocals := 1, code := prog_50_method_2_code, exceptionTable := #[], attributes := #[] }
def k2m1 : Method := { name := "isTooLong", desc := "()Z", sig := { parameters := [], returnType := some .boolean }, accessFlags := 0, code := some k2c1 }
/-- com/example/vestwright/vestwright/files/WrittenNumber -/
def k2 : Class := { plain "com/example/vestwright/vestwright/files/WrittenNumber" (some 0) with
  accessFlags := 48
  interfaces := #[]
  cf := some (fileOf pool2 8 #[] #[{ accessFlags := 0, nameIndex := 5, descriptorIndex := 29, attributes := #[] }, { accessFlags := 0, nameIndex := 32, descriptorIndex := 33, attributes := #[] }] 48 2 #[] #[{ accessFlags := 24, nameIndex := 25, descriptorIndex := 26, attributes := #[] }, { accessFlags := 18, nameIndex := 11, descriptorIndex := 12, attributes := #[] }])
  fields := #[{ name := "MOST_CHARACTERS", type := .int, accessFlags := 24, slot := 0, constantValue := 0 }, { name := "text", type := (.object "java/lang/String"), accessFlags := 18, slot := 0, constantValue := 0 }]
  methods := #[k2m0, k2m1]
  instanceTypes := #[(.object "java/lang/String")]
  staticTypes := #[.int]
  resolved := Array.replicate 40 none
  statics := none }

def pool3 : Array CpInfo := pool [(1, .class_ 2), (0, u "java/io/Serializable"), (0, .class_ 4), (0, u "java/lang/Object")] 2

/-- java/io/Serializable -/
def k3 : Class := { plain "java/io/Serializable" (some 0) with
  accessFlags := 1537
  interfaces := #[]
  cf := some (fileOf pool3 1 #[] #[] 1537 3 #[] #[])
  fields := #[]
  methods := #[]
  instanceTypes := #[]
  staticTypes := #[]
  resolved := Array.replicate 7 none
  statics := none }

def pool4 : Array CpInfo := pool [(1, .class_ 2), (0, u "java/lang/Comparable"), (0, .class_ 4), (0, u "java/lang/Object")] 7

/-- java/lang/Comparable -/
def k4 : Class := { plain "java/lang/Comparable" (some 0) with
  accessFlags := 1537
  interfaces := #[]
  cf := some (fileOf pool4 1 #[] #[] 1537 3 #[] #[])
  fields := #[]
  methods := #[]
  instanceTypes := #[]
  staticTypes := #[]
  resolved := Array.replicate 12 none
  statics := none }

def pool5 : Array CpInfo := pool [(2, .class_ 4), (1, u "java/lang/CharSequence"), (42, .class_ 48), (0, u "java/lang/CharSequence$1CodePointIterator"), (10, .class_ 60), (0, u "java/lang/CharSequence$1CharIterator"), (5, .class_ 67), (0, u "java/lang/Object")] 63

/-- java/lang/CharSequence -/
def k5 : Class := { plain "java/lang/CharSequence" (some 0) with
  accessFlags := 1537
  interfaces := #[]
  cf := some (fileOf pool5 2 #[.nestMembers #[47, 59]] #[] 1537 66 #[] #[])
  fields := #[]
  methods := #[]
  instanceTypes := #[]
  staticTypes := #[]
  resolved := Array.replicate 131 none
  statics := none }

def pool6 : Array CpInfo := pool [(1, .class_ 2), (0, u "java/lang/constant/Constable"), (0, .class_ 4), (0, u "java/lang/Object")] 6

/-- java/lang/constant/Constable -/
def k6 : Class := { plain "java/lang/constant/Constable" (some 0) with
  accessFlags := 1537
  interfaces := #[]
  cf := some (fileOf pool6 1 #[] #[] 1537 3 #[] #[])
  fields := #[]
  methods := #[]
  instanceTypes := #[]
  staticTypes := #[]
  resolved := Array.replicate 11 none
  statics := none }

def pool7 : Array CpInfo := pool [(1, .class_ 2), (0, u "java/lang/constant/ConstantDesc"), (0, .class_ 4), (0, u "java/lang/Object")] 32

/-- java/lang/constant/ConstantDesc -/
def k7 : Class := { plain "java/lang/constant/ConstantDesc" (some 0) with
  accessFlags := 1537
  interfaces := #[]
  cf := some (fileOf pool7 1 #[] #[] 1537 3 #[] #[])
  fields := #[]
  methods := #[]
  instanceTypes := #[]
  staticTypes := #[]
  resolved := Array.replicate 37 none
  statics := none }

def pool8 : Array CpInfo := pool [(1, .methodref 2 3), (0, .class_ 4), (0, .nameAndType 5 6), (0, u "java/lang/Object"), (0, u "<init>"), (0, u "()V"), (0, .string 8), (0, u ""), (0, .fieldref 10 11), (0, .class_ 12), (0, .nameAndType 13 14), (0, u "java/lang/String"), (0, u "value"), (0, u "[B"), (0, .fieldref 10 16), (0, .nameAndType 17 18), (0, u "coder"), (0, u "B"), (2, u "hash"), (0, u "I"), (2, u "hashIsZero"), (0, u "Z"), (0, .methodref 10 28), (0, .nameAndType 5 29), (0, u "([CIILjava/lang/Void;)V"), (8, .fieldref 10 39), (0, .nameAndType 40 26), (0, u "COMPACT_STRINGS"), (1, .class_ 44), (1, u "java/lang/StringUTF16"), (0, u "compress"), (1, .methodref 42 48), (0, .nameAndType 49 50), (0, u "coderFromArrayLen"), (0, u "([BI)B"), (126, .methodref 42 178), (0, .nameAndType 45 179), (0, u "([CII)[B"), (154, u "()I"), (0, .methodref 10 336), (0, .nameAndType 17 337), (0, u "()B"), (169, u "length"), (67, .class_ 576), (0, u "java/lang/CharSequence"), (22, u "CASE_INSENSITIVE_ORDER"), (0, u "Ljava/util/Comparator;"), (409, u "([C)V"), (90, u "serialPersistentFields"), (0, u "[Ljava/io/ObjectStreamField;"), (0, .class_ 1104), (0, u "java/lang/String$CaseInsensitiveComparator"), (1, .class_ 1107), (0, u "java/io/Serializable"), (0, .class_ 1109), (0, u "java/lang/Comparable"), (0, .class_ 1111), (0, u "java/lang/constant/Constable"), (0, .class_ 1113), (0, u "java/lang/constant/ConstantDesc"), (2, u "serialVersionUID"), (0, u "J"), (3, u "REPL"), (0, u "C"), (2, u "LATIN1"), (1, u "UTF16")] 323

def k8m0 : Method := { name := "<init>", desc := "()V", sig := { parameters := [], returnType := none }, accessFlags := 1, code := none }
def k8c1 : Code := { maxStack := 5, maxLocals := 2, code := jdk_42_method_3_code, exceptionTable := #[], attributes := #[] }
def k8m1 : Method := { name := "<init>", desc := "([C)V", sig := { parameters := [(.array .char)], returnType := none }, accessFlags := 1, code := some k8c1 }
def k8c2 : Code := { maxStack := 2, maxLocals := 1, code := jdk_42_method_54_code, exceptionTable := #[], attributes := #[] }
def k8m2 : Method := { name := "length", desc := "()I", sig := { parameters := [], returnType := some .int }, accessFlags := 1, code := some k8c2 }
def k8c3 : Code := { maxStack := 4, maxLocals := 6, code := jdk_42_method_149_code, exceptionTable := #[], attributes := #[] }
def k8m3 : Method := { name := "<init>", desc := "([CIILjava/lang/Void;)V", sig := { parameters := [(.array .char), .int, .int, (.object "java/lang/Void")], returnType := none }, accessFlags := 2, code := some k8c3 }
def k8c4 : Code := { maxStack := 1, maxLocals := 1, code := jdk_42_method_152_code, exceptionTable := #[], attributes := #[] }
def k8m4 : Method := { name := "coder", desc := "()B", sig := { parameters := [], returnType := some .byte }, accessFlags := 0, code := some k8c4 }
/-- java/lang/String -/
def k8 : Class := { plain "java/lang/String" (some 0) with
  accessFlags := 49
  interfaces := #[3, 4, 5, 6, 7]
  cf := some (fileOf pool8 10 #[.nestMembers #[1103]] #[{ accessFlags := 1, nameIndex := 5, descriptorIndex := 6, attributes := #[] }, { accessFlags := 1, nameIndex := 5, descriptorIndex := 1010, attributes := #[] }, { accessFlags := 1, nameIndex := 507, descriptorIndex := 334, attributes := #[] }, { accessFlags := 2, nameIndex := 5, descriptorIndex := 29, attributes := #[] }, { accessFlags := 0, nameIndex := 17, descriptorIndex := 337, attributes := #[] }] 49 2 #[1106, 1108, 575, 1110, 1112] #[{ accessFlags := 18, nameIndex := 13, descriptorIndex := 14, attributes := #[] }, { accessFlags := 18, nameIndex := 17, descriptorIndex := 18, attributes := #[] }, { accessFlags := 2, nameIndex := 21, descriptorIndex := 22, attributes := #[] }, { accessFlags := 2, nameIndex := 25, descriptorIndex := 26, attributes := #[] }, { accessFlags := 26, nameIndex := 1116, descriptorIndex := 1117, attributes := #[] }, { accessFlags := 24, nameIndex := 40, descriptorIndex := 26, attributes := #[] }, { accessFlags := 26, nameIndex := 1101, descriptorIndex := 1102, attributes := #[] }, { accessFlags := 26, nameIndex := 1121, descriptorIndex := 1122, attributes := #[] }, { accessFlags := 25, nameIndex := 599, descriptorIndex := 600, attributes := #[] }, { accessFlags := 24, nameIndex := 1125, descriptorIndex := 18, attributes := #[] }, { accessFlags := 24, nameIndex := 1127, descriptorIndex := 18, attributes := #[] }])
  fields := #[{ name := "value", type := (.array .byte), accessFlags := 18, slot := 0, constantValue := 0 }, { name := "coder", type := .byte, accessFlags := 18, slot := 1, constantValue := 0 }, { name := "hash", type := .int, accessFlags := 2, slot := 2, constantValue := 0 }, { name := "hashIsZero", type := .boolean, accessFlags := 2, slot := 3, constantValue := 0 }, { name := "serialVersionUID", type := .long, accessFlags := 26, slot := 0, constantValue := 0 }, { name := "COMPACT_STRINGS", type := .boolean, accessFlags := 24, slot := 1, constantValue := 0 }, { name := "serialPersistentFields", type := (.array (.object "java/io/ObjectStreamField")), accessFlags := 26, slot := 2, constantValue := 0 }, { name := "REPL", type := .char, accessFlags := 26, slot := 3, constantValue := 0 }, { name := "CASE_INSENSITIVE_ORDER", type := (.object "java/util/Comparator"), accessFlags := 25, slot := 4, constantValue := 0 }, { name := "LATIN1", type := .byte, accessFlags := 24, slot := 5, constantValue := 0 }, { name := "UTF16", type := .byte, accessFlags := 24, slot := 6, constantValue := 0 }]
  methods := #[k8m0, k8m1, k8m2, k8m3, k8m4]
  instanceTypes := #[(.array .byte), .byte, .int, .boolean]
  staticTypes := #[.long, .boolean, (.array (.object "java/io/ObjectStreamField")), .char, (.object "java/util/Comparator"), .byte, .byte]
  resolved := Array.replicate 1451 none
  statics := some 0 }

def pool9 : Array CpInfo := pool [(6, .class_ 8), (1, u "java/lang/Object"), (0, u "<init>"), (0, u "()V"), (0, .methodref 12 13), (0, .class_ 14), (0, .nameAndType 15 16), (0, u "java/lang/StringUTF16"), (0, u "newBytesLength"), (0, u "(I)I"), (3, .integer 1073741823), (23, .fieldref 12 45), (0, .nameAndType 46 47), (0, u "$assertionsDisabled"), (0, u "Z"), (11, .fieldref 12 60), (0, .nameAndType 61 62), (0, u "HI_BYTE_SHIFT"), (0, u "I"), (0, .fieldref 12 64), (0, .nameAndType 65 62), (0, u "LO_BYTE_SHIFT"), (5, .methodref 12 72), (0, .nameAndType 73 74), (0, u "getChar"), (0, u "([BI)C"), (32, .methodref 12 108), (0, .nameAndType 109 110), (0, u "newBytesFor"), (0, u "(I)[B"), (0, .methodref 12 112), (0, .nameAndType 113 114), (0, u "putChar"), (0, u "([BII)V"), (0, .methodref 12 116), (0, .nameAndType 117 118), (0, u "compress"), (0, u "([CI[BII)I"), (0, .methodref 12 120), (0, .nameAndType 121 122), (0, u "toBytes"), (0, u "([CII)[B"), (138, u "coderFromArrayLen"), (0, u "([BI)B"), (106, .class_ 371), (1, u "java/lang/StringUTF16$LinesSpliterator"), (58, u "MAX_LENGTH"), (196, .class_ 628), (0, u "java/lang/StringUTF16$CodePointsSpliterator"), (0, .class_ 630), (0, u "java/lang/StringUTF16$CharsSpliterator")] 4

def k9m0 : Method := { name := "<init>", desc := "()V", sig := { parameters := [], returnType := none }, accessFlags := 0, code := none }
def k9c1 : Code := { maxStack := 1, maxLocals := 1, code := jdk_52_method_2_code, exceptionTable := #[], attributes := #[] }
def k9m1 : Method := { name := "newBytesFor", desc := "(I)[B", sig := { parameters := [.int], returnType := some (.array .byte) }, accessFlags := 9, code := some k9c1 }
def k9c2 : Code := { maxStack := 4, maxLocals := 1, code := jdk_52_method_3_code, exceptionTable := #[], attributes := #[] }
def k9m2 : Method := { name := "newBytesLength", desc := "(I)I", sig := { parameters := [.int], returnType := some .int }, accessFlags := 9, code := some k9c2 }
def k9c3 : Code := { maxStack := 4, maxLocals := 3, code := jdk_52_method_4_code, exceptionTable := #[], attributes := #[] }
def k9m3 : Method := { name := "putChar", desc := "([BII)V", sig := { parameters := [(.array .byte), .int, .int], returnType := none }, accessFlags := 8, code := some k9c3 }
def k9c4 : Code := { maxStack := 3, maxLocals := 2, code := jdk_52_method_5_code, exceptionTable := #[], attributes := #[] }
def k9m4 : Method := { name := "getChar", desc := "([BI)C", sig := { parameters := [(.array .byte), .int], returnType := some .char }, accessFlags := 8, code := some k9c4 }
def k9c5 : Code := { maxStack := 4, maxLocals := 5, code := jdk_52_method_14_code, exceptionTable := #[], attributes := #[] }
def k9m5 : Method := { name := "toBytes", desc := "([CII)[B", sig := { parameters := [(.array .char), .int, .int], returnType := some (.array .byte) }, accessFlags := 9, code := some k9c5 }
def k9c6 : Code := { maxStack := 2, maxLocals := 2, code := jdk_52_method_15_code, exceptionTable := #[], attributes := #[] }
def k9m6 : Method := { name := "coderFromArrayLen", desc := "([BI)B", sig := { parameters := [(.array .byte), .int], returnType := some .byte }, accessFlags := 8, code := some k9c6 }
def k9c7 : Code := { maxStack := 5, maxLocals := 6, code := jdk_52_method_16_code, exceptionTable := #[], attributes := #[] }
def k9m7 : Method := { name := "compress", desc := "([CII)[B", sig := { parameters := [(.array .char), .int, .int], returnType := some (.array .byte) }, accessFlags := 9, code := some k9c7 }
def k9c8 : Code := { maxStack := 3, maxLocals := 7, code := jdk_52_method_21_code, exceptionTable := #[], attributes := #[] }
def k9m8 : Method := { name := "compress", desc := "([CI[BII)I", sig := { parameters := [(.array .char), .int, (.array .byte), .int, .int], returnType := some .int }, accessFlags := 9, code := some k9c8 }
/-- java/lang/StringUTF16 -/
def k9 : Class := { plain "java/lang/StringUTF16" (some 0) with
  accessFlags := 48
  interfaces := #[]
  cf := some (fileOf pool9 12 #[.nestMembers #[627, 629, 369]] #[{ accessFlags := 0, nameIndex := 9, descriptorIndex := 10, attributes := #[] }, { accessFlags := 9, nameIndex := 109, descriptorIndex := 110, attributes := #[] }, { accessFlags := 9, nameIndex := 15, descriptorIndex := 16, attributes := #[] }, { accessFlags := 8, nameIndex := 113, descriptorIndex := 114, attributes := #[] }, { accessFlags := 8, nameIndex := 73, descriptorIndex := 74, attributes := #[] }, { accessFlags := 9, nameIndex := 121, descriptorIndex := 122, attributes := #[] }, { accessFlags := 8, nameIndex := 261, descriptorIndex := 262, attributes := #[] }, { accessFlags := 9, nameIndex := 117, descriptorIndex := 122, attributes := #[] }, { accessFlags := 9, nameIndex := 117, descriptorIndex := 118, attributes := #[] }] 48 6 #[] #[{ accessFlags := 26, nameIndex := 61, descriptorIndex := 62, attributes := #[] }, { accessFlags := 26, nameIndex := 65, descriptorIndex := 62, attributes := #[] }, { accessFlags := 24, nameIndex := 430, descriptorIndex := 62, attributes := #[] }, { accessFlags := 4120, nameIndex := 46, descriptorIndex := 47, attributes := #[] }])
  fields := #[{ name := "HI_BYTE_SHIFT", type := .int, accessFlags := 26, slot := 0, constantValue := 0 }, { name := "LO_BYTE_SHIFT", type := .int, accessFlags := 26, slot := 1, constantValue := 0 }, { name := "MAX_LENGTH", type := .int, accessFlags := 24, slot := 2, constantValue := 0 }, { name := "$assertionsDisabled", type := .boolean, accessFlags := 4120, slot := 3, constantValue := 0 }]
  methods := #[k9m0, k9m1, k9m2, k9m3, k9m4, k9m5, k9m6, k9m7, k9m8]
  instanceTypes := #[]
  staticTypes := #[.int, .int, .int, .boolean]
  resolved := Array.replicate 635 none
  statics := some 1 }

def pool10 : Array CpInfo := pool [(4, .class_ 6), (1, u "java/lang/Object"), (0, u "<init>"), (0, u "()V"), (5, .class_ 16), (1, u "java/lang/StringLatin1"), (104, u "$assertionsDisabled"), (0, u "Z"), (98, .class_ 223), (1, u "java/lang/StringLatin1$LinesSpliterator"), (166, .class_ 391), (0, u "java/lang/StringLatin1$CharsSpliterator")] 3

def k10m0 : Method := { name := "<init>", desc := "()V", sig := { parameters := [], returnType := none }, accessFlags := 0, code := none }
/-- java/lang/StringLatin1 -/
def k10 : Class := { plain "java/lang/StringLatin1" (some 0) with
  accessFlags := 48
  interfaces := #[]
  cf := some (fileOf pool10 14 #[.nestMembers #[390, 221]] #[{ accessFlags := 0, nameIndex := 7, descriptorIndex := 8, attributes := #[] }] 48 4 #[] #[{ accessFlags := 4120, nameIndex := 121, descriptorIndex := 122, attributes := #[] }])
  fields := #[{ name := "$assertionsDisabled", type := .boolean, accessFlags := 4120, slot := 0, constantValue := 0 }]
  methods := #[k10m0]
  instanceTypes := #[]
  staticTypes := #[.boolean]
  resolved := Array.replicate 395 none
  statics := none }

def pool11 : Array CpInfo := pool [(2, .class_ 4), (1, u "java/lang/Object"), (0, u "<init>"), (0, u "()V"), (17, .class_ 26), (1, u "jdk/internal/util/Preconditions"), (28, .class_ 56), (0, u "jdk/internal/util/Preconditions$4"), (57, .class_ 115), (0, u "jdk/internal/util/Preconditions$1"), (7, u "SIOOBE_FORMATTER"), (0, u "Ljava/util/function/BiFunction;"), (0, .class_ 126), (0, u "jdk/internal/util/Preconditions$2"), (3, u "AIOOBE_FORMATTER"), (0, .class_ 132), (0, u "jdk/internal/util/Preconditions$3"), (3, u "IOOBE_FORMATTER")] 57

def k11m0 : Method := { name := "<init>", desc := "()V", sig := { parameters := [], returnType := none }, accessFlags := 1, code := none }
/-- jdk/internal/util/Preconditions -/
def k11 : Class := { plain "jdk/internal/util/Preconditions" (some 0) with
  accessFlags := 33
  interfaces := #[]
  cf := some (fileOf pool11 24 #[.nestMembers #[55, 131, 125, 114]] #[{ accessFlags := 1, nameIndex := 5, descriptorIndex := 6, attributes := #[] }] 33 2 #[] #[{ accessFlags := 25, nameIndex := 123, descriptorIndex := 124, attributes := #[] }, { accessFlags := 25, nameIndex := 130, descriptorIndex := 124, attributes := #[] }, { accessFlags := 25, nameIndex := 136, descriptorIndex := 124, attributes := #[] }])
  fields := #[{ name := "SIOOBE_FORMATTER", type := (.object "java/util/function/BiFunction"), accessFlags := 25, slot := 0, constantValue := 0 }, { name := "AIOOBE_FORMATTER", type := (.object "java/util/function/BiFunction"), accessFlags := 25, slot := 1, constantValue := 0 }, { name := "IOOBE_FORMATTER", type := (.object "java/util/function/BiFunction"), accessFlags := 25, slot := 2, constantValue := 0 }]
  methods := #[k11m0]
  instanceTypes := #[]
  staticTypes := #[(.object "java/util/function/BiFunction"), (.object "java/util/function/BiFunction"), (.object "java/util/function/BiFunction")]
  resolved := Array.replicate 194 none
  statics := some 2 }

def pool12 : Array CpInfo := pool [(9, u "<init>"), (6, .class_ 18), (1, u "java/lang/Object"), (0, u "()V"), (1, .class_ 23), (1, u "jdk/internal/util/ArraysSupport"), (0, u "LOG2_ARRAY_LONG_INDEX_SCALE"), (0, u "I"), (2, u "U"), (0, u "Ljdk/internal/misc/Unsafe;"), (8, u "BIG_ENDIAN"), (0, u "Z"), (8, u "LOG2_BYTE_BIT_SIZE"), (4, u "LOG2_ARRAY_INT_INDEX_SCALE"), (54, u "JLA"), (0, u "Ljdk/internal/access/JavaLangAccess;"), (11, u "LOG2_ARRAY_BOOLEAN_INDEX_SCALE"), (9, u "LOG2_ARRAY_BYTE_INDEX_SCALE"), (5, u "LOG2_ARRAY_CHAR_INDEX_SCALE"), (5, u "LOG2_ARRAY_SHORT_INDEX_SCALE"), (18, u "LOG2_ARRAY_FLOAT_INDEX_SCALE"), (24, u "LOG2_ARRAY_DOUBLE_INDEX_SCALE"), (89, u "T_BOOLEAN"), (2, u "T_CHAR"), (1, u "T_FLOAT"), (1, u "T_DOUBLE"), (1, u "T_BYTE"), (1, u "T_SHORT"), (1, u "T_INT"), (1, u "T_LONG"), (1, u "SOFT_MAX_ARRAY_LENGTH")] 83

def k12m0 : Method := { name := "<init>", desc := "()V", sig := { parameters := [], returnType := none }, accessFlags := 2, code := none }
/-- jdk/internal/util/ArraysSupport -/
def k12 : Class := { plain "jdk/internal/util/ArraysSupport" (some 0) with
  accessFlags := 33
  interfaces := #[]
  cf := some (fileOf pool12 21 #[] #[{ accessFlags := 2, nameIndex := 9, descriptorIndex := 19, attributes := #[] }] 33 16 #[] #[{ accessFlags := 24, nameIndex := 28, descriptorIndex := 29, attributes := #[] }, { accessFlags := 26, nameIndex := 38, descriptorIndex := 39, attributes := #[] }, { accessFlags := 25, nameIndex := 121, descriptorIndex := 25, attributes := #[] }, { accessFlags := 25, nameIndex := 131, descriptorIndex := 25, attributes := #[] }, { accessFlags := 25, nameIndex := 137, descriptorIndex := 25, attributes := #[] }, { accessFlags := 25, nameIndex := 143, descriptorIndex := 25, attributes := #[] }, { accessFlags := 25, nameIndex := 53, descriptorIndex := 25, attributes := #[] }, { accessFlags := 25, nameIndex := 24, descriptorIndex := 25, attributes := #[] }, { accessFlags := 25, nameIndex := 162, descriptorIndex := 25, attributes := #[] }, { accessFlags := 25, nameIndex := 187, descriptorIndex := 25, attributes := #[] }, { accessFlags := 26, nameIndex := 48, descriptorIndex := 25, attributes := #[] }, { accessFlags := 25, nameIndex := 277, descriptorIndex := 25, attributes := #[] }, { accessFlags := 25, nameIndex := 280, descriptorIndex := 25, attributes := #[] }, { accessFlags := 25, nameIndex := 282, descriptorIndex := 25, attributes := #[] }, { accessFlags := 25, nameIndex := 284, descriptorIndex := 25, attributes := #[] }, { accessFlags := 25, nameIndex := 286, descriptorIndex := 25, attributes := #[] }, { accessFlags := 25, nameIndex := 288, descriptorIndex := 25, attributes := #[] }, { accessFlags := 25, nameIndex := 290, descriptorIndex := 25, attributes := #[] }, { accessFlags := 25, nameIndex := 292, descriptorIndex := 25, attributes := #[] }, { accessFlags := 26, nameIndex := 108, descriptorIndex := 109, attributes := #[] }, { accessFlags := 25, nameIndex := 294, descriptorIndex := 25, attributes := #[] }])
  fields := #[{ name := "U", type := (.object "jdk/internal/misc/Unsafe"), accessFlags := 24, slot := 0, constantValue := 0 }, { name := "BIG_ENDIAN", type := .boolean, accessFlags := 26, slot := 1, constantValue := 0 }, { name := "LOG2_ARRAY_BOOLEAN_INDEX_SCALE", type := .int, accessFlags := 25, slot := 2, constantValue := 0 }, { name := "LOG2_ARRAY_BYTE_INDEX_SCALE", type := .int, accessFlags := 25, slot := 3, constantValue := 0 }, { name := "LOG2_ARRAY_CHAR_INDEX_SCALE", type := .int, accessFlags := 25, slot := 4, constantValue := 0 }, { name := "LOG2_ARRAY_SHORT_INDEX_SCALE", type := .int, accessFlags := 25, slot := 5, constantValue := 0 }, { name := "LOG2_ARRAY_INT_INDEX_SCALE", type := .int, accessFlags := 25, slot := 6, constantValue := 0 }, { name := "LOG2_ARRAY_LONG_INDEX_SCALE", type := .int, accessFlags := 25, slot := 7, constantValue := 0 }, { name := "LOG2_ARRAY_FLOAT_INDEX_SCALE", type := .int, accessFlags := 25, slot := 8, constantValue := 0 }, { name := "LOG2_ARRAY_DOUBLE_INDEX_SCALE", type := .int, accessFlags := 25, slot := 9, constantValue := 0 }, { name := "LOG2_BYTE_BIT_SIZE", type := .int, accessFlags := 26, slot := 10, constantValue := 0 }, { name := "T_BOOLEAN", type := .int, accessFlags := 25, slot := 11, constantValue := 0 }, { name := "T_CHAR", type := .int, accessFlags := 25, slot := 12, constantValue := 0 }, { name := "T_FLOAT", type := .int, accessFlags := 25, slot := 13, constantValue := 0 }, { name := "T_DOUBLE", type := .int, accessFlags := 25, slot := 14, constantValue := 0 }, { name := "T_BYTE", type := .int, accessFlags := 25, slot := 15, constantValue := 0 }, { name := "T_SHORT", type := .int, accessFlags := 25, slot := 16, constantValue := 0 }, { name := "T_INT", type := .int, accessFlags := 25, slot := 17, constantValue := 0 }, { name := "T_LONG", type := .int, accessFlags := 25, slot := 18, constantValue := 0 }, { name := "JLA", type := (.object "jdk/internal/access/JavaLangAccess"), accessFlags := 26, slot := 19, constantValue := 0 }, { name := "SOFT_MAX_ARRAY_LENGTH", type := .int, accessFlags := 25, slot := 20, constantValue := 0 }]
  methods := #[k12m0]
  instanceTypes := #[]
  staticTypes := #[(.object "jdk/internal/misc/Unsafe"), .boolean, .int, .int, .int, .int, .int, .int, .int, .int, .int, .int, .int, .int, .int, .int, .int, .int, .int, (.object "jdk/internal/access/JavaLangAccess"), .int]
  resolved := Array.replicate 378 none
  statics := none }

def pool13 : Array CpInfo := pool [(1, u "java/lang/Cloneable"), (0, .class_ 1), (0, u "java/lang/Object"), (0, .class_ 3)] 3

/-- java/lang/Cloneable -/
def k13 : Class := { plain "java/lang/Cloneable" (some 0) with
  accessFlags := 1537
  interfaces := #[]
  cf := some (fileOf pool13 2 #[] #[] 1537 4 #[] #[])
  fields := #[]
  methods := #[]
  instanceTypes := #[]
  staticTypes := #[]
  resolved := Array.replicate 8 none
  statics := none }

/-- the primitive byte -/
def k14 : Class := { plain "byte" none with kind := .primitive 'B', accessFlags := 0x411 }
/-- [B -/
def k15 : Class := { plain "[B" (some 0) with kind := .array 14 .byte, interfaces := #[13, 3], accessFlags := 1041 }

/-- the primitive char -/
def k16 : Class := { plain "char" none with kind := .primitive 'C', accessFlags := 0x411 }
/-- [C -/
def k17 : Class := { plain "[C" (some 0) with kind := .array 16 .char, interfaces := #[13, 3], accessFlags := 1041 }

/-- the primitive int -/
def k18 : Class := { plain "int" none with kind := .primitive 'I', accessFlags := 0x411 }
/-- [I -/
def k19 : Class := { plain "[I" (some 0) with kind := .array 18 .int, interfaces := #[13, 3], accessFlags := 1041 }

def heap : Heap := #[{ cls := 8, slots := #[.long 0, .int 1, .null, .int 0, .null, .int 0, .int 0], vm := .statics 8 },
  { cls := 9, slots := #[.int 0, .int 8, .int 0, .int 1], vm := .statics 9 },
  { cls := 11, slots := #[.null, .null, .null], vm := .statics 11 }]
def classes : Array Class := #[k0, k1, k2, k3, k4, k5, k6, k7, k8, k9, k10, k11, k12, k13, k14, k15, k16, k17, k18, k19]
def interned : List (Array UInt16 × Addr) := []
def slotsUsed : Nat := 14
def theMethod : MethodId := ⟨1, 1⟩
def args0 : Array Value := #[.int 5, .int 65, .int 300, .int 66]
def aboutOver (below : List Frame) : State where
  vm := { classes := classes, interned := interned.toArray }
  heap := heap
  slotsUsed := slotsUsed
  threads := #[{ frames := .invoking theMethod args0 :: below }]
def below0 : List Frame := [.native { method := ⟨0, 0⟩, args := #[] }]
def about1 : State := aboutOver below0
def p0 : Program := .bare "" "" ""
def e0 : Env := launch0.env 0 0 0
theorem w_frames : about1.frames = Frame.invoking theMethod args0 :: below0 := rfl
set_option maxRecDepth 65536 in
theorem w_args : argsFit about1.vm theMethod args0 = true := by decide +kernel
set_option maxRecDepth 65536 in
theorem w_heap : heapFits about1 = true := by decide +kernel
set_option maxRecDepth 65536 in
theorem w_runnable : about1.curStatus? = some .runnable := by decide +kernel
set_option maxRecDepth 65536 in
theorem w_alone : about1.alone = true := by decide +kernel
set_option maxRecDepth 65536 in
theorem w_named : about1.methodNamed? x = some theMethod := by decide +kernel
set_option maxRecDepth 65536 in
theorem w_hears : about1.hears theMethod below0 = true := by decide +kernel
set_option maxRecDepth 65536 in
theorem w_ripe : about1.ripe theMethod args0 below0 = true := by decide +kernel
theorem w_running : about1.status = .running := rfl
set_option maxRecDepth 65536 in
theorem w_room : about1.hasRoom e0.platform room_1 = true :=
  launch0.hasRoom_least _ room_1 (by decide +kernel) (by decide +kernel) (by decide +kernel) (by decide +kernel) (by decide +kernel) (by decide +kernel)
theorem allAtoms_all (ts : List Jvm.Cond) (a : Array Jvm.Value) (st : Jvm.State) : (allAtoms ts).before a st = ts.all (fun c => c.before a st) := by
  induction ts with
  | nil => rfl
  | cons c t ih =>
    show (Jvm.Cond.and c (allAtoms t)).before a st = _
    rw [Jvm.Cond.before_and, ih, List.all_cons]
def words1 : List Jvm.Cond := Jvm.Cond.code x code maxLocals ret :: tables_1
/-- a 'code' word, met by the world's own term for the bytes: nothing is compared byte by byte -/
theorem code_word {y : MethodName} {bytes : ByteArray} {mx : Nat} {rt : Option FieldType} {a : Array Value} {s : State} {m : MethodId} {meth : Method} {c : Code} (h1 : s.methodNamed? y = some m) (h2 : s.vm.method? m = some meth) (h3 : meth.code = some c) (h4 : c.code = bytes)
    (h5 : (c.maxLocals == mx && c.exceptionTable.isEmpty && decide (c.maxStack ≤ mostOperands) && decide (meth.sig.returnType = rt) && !meth.locks && decide (parseMethodDescriptor y.desc = some meth.sig)) = true) : (Jvm.Cond.code y bytes mx rt).before a s = true := by
  simp only [Bool.and_eq_true, beq_iff_eq, Bool.not_eq_true', decide_eq_true_eq] at h5
  obtain ⟨⟨⟨⟨⟨g1, g2⟩, g3⟩, g4⟩, g5⟩, g6⟩ := h5
  simp [Cond.before, Cond.holds, Cond.value, h1, h2, h3, h4, g1, g2, g3, g4, g5, g6]
def isCode : Jvm.Cond → Bool
  | .code _ _ _ _ => true
  | _ => false
theorem all_split {L : List Jvm.Cond} {P : Jvm.Cond → Bool} (h1 : L.all (fun c => isCode c || P c) = true) (h2 : ∀ c ∈ L.filter isCode, P c = true) : L.all P = true := by
  refine List.all_eq_true.mpr fun c hc => ?_
  have h := List.all_eq_true.mp h1 c hc
  rcases Bool.eq_false_or_eq_true (isCode c) with hi | hi
  · exact h2 c (List.mem_filter.mpr ⟨hc, hi⟩)
  · simpa [hi] using h
set_option maxRecDepth 65536 in
theorem w_c0 : (Jvm.Cond.code x code maxLocals ret).before args0 about1 = true := code_word (m := ⟨1, 1⟩) (meth := k1m1) (c := k1c1) (by decide +kernel) rfl rfl rfl (by decide +kernel)
set_option maxRecDepth 65536 in
theorem w_c1 : (Jvm.Cond.code ({ cls := "com/example/vestwright/vestwright/files/WrittenNumberIsTooLongPinLaw", name := "make", desc := "(I)[C" } : Jvm.MethodName) method_3_code (1 : Nat) (Option.some (Jvm.ClassFile.FieldType.array Jvm.ClassFile.FieldType.char))).before args0 about1 = true := code_word (m := ⟨1, 2⟩) (meth := k1m2) (c := k1c2) (by decide +kernel) rfl rfl rfl (by decide +kernel)
set_option maxRecDepth 65536 in
theorem w_c2 : (Jvm.Cond.code ({ cls := "java/lang/String", name := "<init>", desc := "([C)V" } : Jvm.MethodName) jdk_42_method_3_code (2 : Nat) (Option.none : Option Jvm.ClassFile.FieldType)).before args0 about1 = true := code_word (m := ⟨8, 1⟩) (meth := k8m1) (c := k8c1) (by decide +kernel) rfl rfl rfl (by decide +kernel)
set_option maxRecDepth 65536 in
theorem w_c3 : (Jvm.Cond.code ({ cls := "java/lang/String", name := "<init>", desc := "([CIILjava/lang/Void;)V" } : Jvm.MethodName) jdk_42_method_149_code (6 : Nat) (Option.none : Option Jvm.ClassFile.FieldType)).before args0 about1 = true := code_word (m := ⟨8, 3⟩) (meth := k8m3) (c := k8c3) (by decide +kernel) rfl rfl rfl (by decide +kernel)
set_option maxRecDepth 65536 in
theorem w_c4 : (Jvm.Cond.code ({ cls := "java/lang/Object", name := "<init>", desc := "()V" } : Jvm.MethodName) object_method_1_code (1 : Nat) (Option.none : Option Jvm.ClassFile.FieldType)).before args0 about1 = true := code_word (m := ⟨0, 0⟩) (meth := k0m0) (c := k0c0) (by decide +kernel) rfl rfl rfl (by decide +kernel)
set_option maxRecDepth 65536 in
theorem w_c5 : (Jvm.Cond.code ({ cls := "com/example/vestwright/vestwright/files/WrittenNumber", name := "<init>", desc := "(Ljava/lang/String;)V" } : Jvm.MethodName) prog_50_method_1_code (2 : Nat) (Option.none : Option Jvm.ClassFile.FieldType)).before args0 about1 = true := code_word (m := ⟨2, 0⟩) (meth := k2m0) (c := k2c0) (by decide +kernel) rfl rfl rfl (by decide +kernel)
set_option maxRecDepth 65536 in
theorem w_c6 : (Jvm.Cond.code ({ cls := "com/example/vestwright/vestwright/files/WrittenNumber", name := "isTooLong", desc := "()Z" } : Jvm.MethodName) prog_50_method_2_code (1 : Nat) (Option.some Jvm.ClassFile.FieldType.boolean)).before args0 about1 = true := code_word (m := ⟨2, 1⟩) (meth := k2m1) (c := k2c1) (by decide +kernel) rfl rfl rfl (by decide +kernel)
set_option maxRecDepth 65536 in
theorem w_c7 : (Jvm.Cond.code ({ cls := "java/lang/String", name := "length", desc := "()I" } : Jvm.MethodName) jdk_42_method_54_code (1 : Nat) (Option.some Jvm.ClassFile.FieldType.int)).before args0 about1 = true := code_word (m := ⟨8, 2⟩) (meth := k8m2) (c := k8c2) (by decide +kernel) rfl rfl rfl (by decide +kernel)
set_option maxRecDepth 65536 in
theorem w_c8 : (Jvm.Cond.code ({ cls := "java/lang/String", name := "coder", desc := "()B" } : Jvm.MethodName) jdk_42_method_152_code (1 : Nat) (Option.some Jvm.ClassFile.FieldType.byte)).before args0 about1 = true := code_word (m := ⟨8, 4⟩) (meth := k8m4) (c := k8c4) (by decide +kernel) rfl rfl rfl (by decide +kernel)
set_option maxRecDepth 65536 in
theorem w_c9 : (Jvm.Cond.code ({ cls := "java/lang/StringUTF16", name := "compress", desc := "([CII)[B" } : Jvm.MethodName) jdk_52_method_16_code (6 : Nat) (Option.some (Jvm.ClassFile.FieldType.array Jvm.ClassFile.FieldType.byte))).before args0 about1 = true := code_word (m := ⟨9, 7⟩) (meth := k9m7) (c := k9c7) (by decide +kernel) rfl rfl rfl (by decide +kernel)
set_option maxRecDepth 65536 in
theorem w_c10 : (Jvm.Cond.code ({ cls := "java/lang/StringUTF16", name := "compress", desc := "([CI[BII)I" } : Jvm.MethodName) jdk_52_method_21_code (7 : Nat) (Option.some Jvm.ClassFile.FieldType.int)).before args0 about1 = true := code_word (m := ⟨9, 8⟩) (meth := k9m8) (c := k9c8) (by decide +kernel) rfl rfl rfl (by decide +kernel)
set_option maxRecDepth 65536 in
theorem w_c11 : (Jvm.Cond.code ({ cls := "java/lang/StringUTF16", name := "coderFromArrayLen", desc := "([BI)B" } : Jvm.MethodName) jdk_52_method_15_code (2 : Nat) (Option.some Jvm.ClassFile.FieldType.byte)).before args0 about1 = true := code_word (m := ⟨9, 6⟩) (meth := k9m6) (c := k9c6) (by decide +kernel) rfl rfl rfl (by decide +kernel)
set_option maxRecDepth 65536 in
theorem w_c12 : (Jvm.Cond.code ({ cls := "java/lang/StringUTF16", name := "toBytes", desc := "([CII)[B" } : Jvm.MethodName) jdk_52_method_14_code (5 : Nat) (Option.some (Jvm.ClassFile.FieldType.array Jvm.ClassFile.FieldType.byte))).before args0 about1 = true := code_word (m := ⟨9, 5⟩) (meth := k9m5) (c := k9c5) (by decide +kernel) rfl rfl rfl (by decide +kernel)
set_option maxRecDepth 65536 in
theorem w_c13 : (Jvm.Cond.code ({ cls := "java/lang/StringUTF16", name := "newBytesFor", desc := "(I)[B" } : Jvm.MethodName) jdk_52_method_2_code (1 : Nat) (Option.some (Jvm.ClassFile.FieldType.array Jvm.ClassFile.FieldType.byte))).before args0 about1 = true := code_word (m := ⟨9, 1⟩) (meth := k9m1) (c := k9c1) (by decide +kernel) rfl rfl rfl (by decide +kernel)
set_option maxRecDepth 65536 in
theorem w_c14 : (Jvm.Cond.code ({ cls := "java/lang/StringUTF16", name := "newBytesLength", desc := "(I)I" } : Jvm.MethodName) jdk_52_method_3_code (1 : Nat) (Option.some Jvm.ClassFile.FieldType.int)).before args0 about1 = true := code_word (m := ⟨9, 2⟩) (meth := k9m2) (c := k9c2) (by decide +kernel) rfl rfl rfl (by decide +kernel)
set_option maxRecDepth 65536 in
theorem w_c15 : (Jvm.Cond.code ({ cls := "java/lang/StringUTF16", name := "putChar", desc := "([BII)V" } : Jvm.MethodName) jdk_52_method_4_code (3 : Nat) (Option.none : Option Jvm.ClassFile.FieldType)).before args0 about1 = true := code_word (m := ⟨9, 3⟩) (meth := k9m3) (c := k9c3) (by decide +kernel) rfl rfl rfl (by decide +kernel)
set_option maxRecDepth 65536 in
theorem w_c16 : (Jvm.Cond.code ({ cls := "java/lang/StringUTF16", name := "getChar", desc := "([BI)C" } : Jvm.MethodName) jdk_52_method_5_code (2 : Nat) (Option.some Jvm.ClassFile.FieldType.char)).before args0 about1 = true := code_word (m := ⟨9, 4⟩) (meth := k9m4) (c := k9c4) (by decide +kernel) rfl rfl rfl (by decide +kernel)
def codes1 : List Jvm.Cond := [Jvm.Cond.code x code maxLocals ret, Jvm.Cond.code ({ cls := "com/example/vestwright/vestwright/files/WrittenNumberIsTooLongPinLaw", name := "make", desc := "(I)[C" } : Jvm.MethodName) method_3_code (1 : Nat) (Option.some (Jvm.ClassFile.FieldType.array Jvm.ClassFile.FieldType.char)), Jvm.Cond.code ({ cls := "java/lang/String", name := "<init>", desc := "([C)V" } : Jvm.MethodName) jdk_42_method_3_code (2 : Nat) (Option.none : Option Jvm.ClassFile.FieldType), Jvm.Cond.code ({ cls := "java/lang/String", name := "<init>", desc := "([CIILjava/lang/Void;)V" } : Jvm.MethodName) jdk_42_method_149_code (6 : Nat) (Option.none : Option Jvm.ClassFile.FieldType), Jvm.Cond.code ({ cls := "java/lang/Object", name := "<init>", desc := "()V" } : Jvm.MethodName) object_method_1_code (1 : Nat) (Option.none : Option Jvm.ClassFile.FieldType), Jvm.Cond.code ({ cls := "com/example/vestwright/vestwright/files/WrittenNumber", name := "<init>", desc := "(Ljava/lang/String;)V" } : Jvm.MethodName) prog_50_method_1_code (2 : Nat) (Option.none : Option Jvm.ClassFile.FieldType), Jvm.Cond.code ({ cls := "com/example/vestwright/vestwright/files/WrittenNumber", name := "isTooLong", desc := "()Z" } : Jvm.MethodName) prog_50_method_2_code (1 : Nat) (Option.some Jvm.ClassFile.FieldType.boolean), Jvm.Cond.code ({ cls := "java/lang/String", name := "length", desc := "()I" } : Jvm.MethodName) jdk_42_method_54_code (1 : Nat) (Option.some Jvm.ClassFile.FieldType.int), Jvm.Cond.code ({ cls := "java/lang/String", name := "coder", desc := "()B" } : Jvm.MethodName) jdk_42_method_152_code (1 : Nat) (Option.some Jvm.ClassFile.FieldType.byte), Jvm.Cond.code ({ cls := "java/lang/StringUTF16", name := "compress", desc := "([CII)[B" } : Jvm.MethodName) jdk_52_method_16_code (6 : Nat) (Option.some (Jvm.ClassFile.FieldType.array Jvm.ClassFile.FieldType.byte)), Jvm.Cond.code ({ cls := "java/lang/StringUTF16", name := "compress", desc := "([CI[BII)I" } : Jvm.MethodName) jdk_52_method_21_code (7 : Nat) (Option.some Jvm.ClassFile.FieldType.int), Jvm.Cond.code ({ cls := "java/lang/StringUTF16", name := "coderFromArrayLen", desc := "([BI)B" } : Jvm.MethodName) jdk_52_method_15_code (2 : Nat) (Option.some Jvm.ClassFile.FieldType.byte), Jvm.Cond.code ({ cls := "java/lang/StringUTF16", name := "toBytes", desc := "([CII)[B" } : Jvm.MethodName) jdk_52_method_14_code (5 : Nat) (Option.some (Jvm.ClassFile.FieldType.array Jvm.ClassFile.FieldType.byte)), Jvm.Cond.code ({ cls := "java/lang/StringUTF16", name := "newBytesFor", desc := "(I)[B" } : Jvm.MethodName) jdk_52_method_2_code (1 : Nat) (Option.some (Jvm.ClassFile.FieldType.array Jvm.ClassFile.FieldType.byte)), Jvm.Cond.code ({ cls := "java/lang/StringUTF16", name := "newBytesLength", desc := "(I)I" } : Jvm.MethodName) jdk_52_method_3_code (1 : Nat) (Option.some Jvm.ClassFile.FieldType.int), Jvm.Cond.code ({ cls := "java/lang/StringUTF16", name := "putChar", desc := "([BII)V" } : Jvm.MethodName) jdk_52_method_4_code (3 : Nat) (Option.none : Option Jvm.ClassFile.FieldType), Jvm.Cond.code ({ cls := "java/lang/StringUTF16", name := "getChar", desc := "([BI)C" } : Jvm.MethodName) jdk_52_method_5_code (2 : Nat) (Option.some Jvm.ClassFile.FieldType.char)]
set_option maxRecDepth 65536 in
theorem codes_eq : words1.filter isCode = codes1 := rfl
theorem w_codes : ∀ c ∈ words1.filter isCode, c.before args0 about1 = true := by
  rw [codes_eq]
  intro c hc
  simp only [codes1, List.mem_cons, List.not_mem_nil, or_false] at hc
  rcases hc with rfl | rfl | rfl | rfl | rfl | rfl | rfl | rfl | rfl | rfl | rfl | rfl | rfl | rfl | rfl | rfl | rfl
  · exact w_c0
  · exact w_c1
  · exact w_c2
  · exact w_c3
  · exact w_c4
  · exact w_c5
  · exact w_c6
  · exact w_c7
  · exact w_c8
  · exact w_c9
  · exact w_c10
  · exact w_c11
  · exact w_c12
  · exact w_c13
  · exact w_c14
  · exact w_c15
  · exact w_c16
set_option maxRecDepth 65536 in
theorem w_t1 : (words1.take 24).all (fun c => isCode c || c.before args0 about1) = true := by decide +kernel
set_option maxRecDepth 65536 in
theorem w_t2 : ((words1.drop 24).take 24).all (fun c => isCode c || c.before args0 about1) = true := by decide +kernel
set_option maxRecDepth 65536 in
theorem w_t3 : (((words1.drop 24).drop 24).take 24).all (fun c => isCode c || c.before args0 about1) = true := by decide +kernel
set_option maxRecDepth 65536 in
theorem w_t4 : (((words1.drop 24).drop 24).drop 24).all (fun c => isCode c || c.before args0 about1) = true := by decide +kernel
theorem w_tables : (allAtoms (Jvm.Cond.code x code maxLocals ret :: tables_1)).before args0 about1 = true := by
  rw [allAtoms_all]
  show words1.all (fun c => c.before args0 about1) = true
  refine all_split ?_ w_codes
  rw [← List.take_append_drop 24 words1, List.all_append, w_t1, ← List.take_append_drop 24 (words1.drop 24), List.all_append, w_t2, ← List.take_append_drop 24 ((words1.drop 24).drop 24), List.all_append, w_t3, w_t4]
  rfl
set_option maxRecDepth 65536 in
theorem w_rest : rest_1_c.before args0 about1 = true := by decide +kernel
set_option maxRecDepth 65536 in
theorem w_case : (Jvm.Cond.and given_1 narrow_1).before args0 about1 = true := by decide +kernel
set_option maxRecDepth 65536 in
theorem w_consts : constsHeld consts_1 about1 := Jvm.Lit.constsHeldB_iff.mp (by decide +kernel)
theorem w_applies : (headSpec (Jvm.Cond.code x code maxLocals ret :: tables_1) room_1).applies x e0.platform about1 = true :=
  (Spec.applies_iff w_frames).mpr ⟨w_running, w_runnable, w_alone, w_named, w_hears, w_ripe, w_room, w_tables⟩
theorem atStart : AtStart classFile x code maxLocals ret World_1 tables_1 room_1 Calls_1 rest_1 Pre_1 launch0 p0 e0 about1 theMethod args0 below0 :=
  ⟨lists_1, trivial, launch0.admits_env _ _ _, launch0.least_env, fairChoices_fair.cas, fairChoices_fair.clock, w_frames, w_args, w_heap, w_applies, ⟨w_consts, trivial⟩, w_rest, w_case⟩
end start1
theorem witness_1 : WitnessClaimed_1 := ⟨start1.p0, start1.e0, start1.about1, start1.theMethod, start1.args0, start1.below0, start1.atStart⟩
end Jvm.Pilot.@@N@@
