import JvmDerived
import JvmDerived.Pilot.@@N@@Statement
import JvmDerived.Pilot.@@N@@Code
set_option linter.unusedVariables false
set_option linter.unusedSimpArgs false
namespace Jvm.RoadKit
open Sem ClassFile Op Lib Jvm.Stand Jvm.Free Jvm.LawKit
section New
variable {p : Program} {l : Launch} {e : Env} {R : Room} {s : State} {m : MethodId} {args : Array Value} {below : List Frame} {meth : Method} {c : Code} {T : State} {locs : List Loc} {cells slots : Nat}
theorem retI (X : Stand p l e R s m args below meth c T locs cells slots) (hx : p.tables.exec = Jvm.exec) {pc : Nat} {Ls : Array Slot} {z : Int32} {rest : List Value} (hret : meth.sig.returnType = some .int) (hd : decode c.code pc = .ok (.ireturn, 1)) {fs : List Frame}
    (hl : ∀ (f : JFrame) (acts : List Action), f.method = m → f.locked = none → f.entered = [] → (doReturn e (T.setTop f) acts (some (.int z))).1 = T.setFrames fs) : Steps p.tables e below (T.setTop (mkF m pc Ls (.int z :: rest))) (T.setFrames fs) := by
  have hm' : T.vm.method? m = some meth := X.method'
  have hn : narrow .int (.int z) = .int z := rfl
  show Steps p.tables e below (T.setTop { method := m, pc := pc, locals := Ls, stack := _ :: rest, locked := none }) _
  jvm_step X.here [X.here.top, hx, hd, hm', hret, hn]
  first | (intro acts; rw [hl _ acts rfl rfl rfl]) | rw [hl _ _ rfl rfl rfl]
  exact Steps.refl _
end New
end Jvm.RoadKit
namespace Jvm.Pilot.@@N@@
open Jvm Jvm.ClassFile Sem Op Lib Jvm.Free Jvm.Stand Jvm.LawKit Jvm.RoadKit Bundle Jvm.Pilot.@@N@@.Jvm.D
/-! what every block of a body's walk is given -/
def Ctx (p : Program) (Z s : State) (a0 : Array Value) (m : MethodId) (meth : Method) (c : Code) (own nm : String) (bytes : ByteArray) (maxl : Nat) (rt : Option FieldType) : Prop :=
  p.tables.exec = Jvm.exec ∧ Z.Warmed39 s.vm ∧ (∀ d ∈ tables_1, d.before a0 Z = true) ∧ c.code = bytes ∧ c.maxLocals = maxl ∧ meth.sig.returnType = rt ∧ s.vm.findClass own = some m.cls ∧ meth.name = nm ∧ meth.locks = false
/-- from the state A the body's run ends, returns, and leaves what Q says -/
def EndsIn (p : Program) (e : Env) (below : List Frame) (s : State) (cells slots : Nat) (Q : Option Value → Heap → List Loc → Prop) (A : State) : Prop :=
  ∃ s₂ o, Steps p.tables e below A s₂ ∧ s₂.status = .running ∧ Ended s₂ below o ∧ ∃ v L, o = .returned v ∧ Q v s₂.heap L ∧ FrameEnd s o s₂ L cells slots
section Ends
variable {p : Program} {l : Launch} {e : Env} {R : Room} {s : State} {m : MethodId} {args : Array Value} {below : List Frame} {meth : Method} {c : Code} {T : State} {locs : List Loc} {cells slots : Nat} {C S : Nat} {Q : Option Value → Heap → List Loc → Prop}
theorem EndsIn.by {A B : State} (h : ∀ t, Steps p.tables e below B t → Steps p.tables e below A t) (k : EndsIn p e below s C S Q B) : EndsIn p e below s C S Q A := by
  obtain ⟨s₂, o, h1, r⟩ := k
  exact ⟨s₂, o, h _ h1, r⟩
theorem own_retI (X : Stand p l e R s m args below meth c T locs cells slots) (hx : p.tables.exec = Jvm.exec) (hlk : meth.locks = false) {pc : Nat} {Ls : Array Slot} {z : Int32} {rest : List Value} (hret : meth.sig.returnType = some .int) (hd : decode c.code pc = .ok (.ireturn, 1)) (hc : cells ≤ C) (hs : slots ≤ S)
    (hq : Q (some (.int z)) T.heap locs) : EndsIn p e below s C S Q (T.setTop (mkF m pc Ls (.int z :: rest))) := by
  obtain ⟨fs, hr, hrun, hended, hW, hsame⟩ := X.leave (v := some (.int z)) (fun h => by rw [hret] at h; cases h) hlk
  exact ⟨_, _, retI X hx hret hd hr, hrun, hended, _, _, rfl, hq, ⟨_, rfl⟩, hW, hsame.mono hc hs⟩
theorem own_retN (X : Stand p l e R s m args below meth c T locs cells slots) (hx : p.tables.exec = Jvm.exec) (hlk : meth.locks = false) {pc : Nat} {Ls : Array Slot} {z : Int32} {rest : List Value} {t : FieldType} (hret : meth.sig.returnType = some t) (ht : t = .boolean ∨ t = .byte ∨ t = .char ∨ t = .short) (hd : decode c.code pc = .ok (.ireturn, 1)) (hc : cells ≤ C) (hs : slots ≤ S)
    (hq : Q (some (.int (nar t z))) T.heap locs) : EndsIn p e below s C S Q (T.setTop (mkF m pc Ls (.int z :: rest))) := by
  obtain ⟨fs, hr, hrun, hended, hW, hsame⟩ := X.leave (v := some (.int (nar t z))) (fun h => by rw [hret] at h; cases h) hlk
  exact ⟨_, _, retN X hx hret ht hd hr, hrun, hended, _, _, rfl, hq, ⟨_, rfl⟩, hW, hsame.mono hc hs⟩
theorem own_retJ (X : Stand p l e R s m args below meth c T locs cells slots) (hx : p.tables.exec = Jvm.exec) (hlk : meth.locks = false) {pc : Nat} {Ls : Array Slot} {z : Int64} (hret : meth.sig.returnType = some .long) (hd : decode c.code pc = .ok (.lreturn, 1)) (hc : cells ≤ C) (hs : slots ≤ S)
    (hq : Q (some (.long z)) T.heap locs) : EndsIn p e below s C S Q (T.setTop (mkF m pc Ls [.long z])) := by
  obtain ⟨fs, hr, hrun, hended, hW, hsame⟩ := X.leave (v := some (.long z)) (fun h => by rw [hret] at h; cases h) hlk
  exact ⟨_, _, X.lreturnOut hx hret hd hr, hrun, hended, _, _, rfl, hq, ⟨_, rfl⟩, hW, hsame.mono hc hs⟩
theorem own_retR (X : Stand p l e R s m args below meth c T locs cells slots) (hx : p.tables.exec = Jvm.exec) (hlk : meth.locks = false) {pc : Nat} {Ls : Array Slot} {z : Addr} {t : FieldType} (hret : meth.sig.returnType = some t) (ht : t.isReference = true) (hd : decode c.code pc = .ok (.areturn, 1)) (hc : cells ≤ C) (hs : slots ≤ S)
    (hq : Q (some (.ref z)) T.heap locs) : EndsIn p e below s C S Q (T.setTop (mkF m pc Ls [.ref z])) := by
  obtain ⟨fs, hr, hrun, hended, hW, hsame⟩ := X.leave (v := some (.ref z)) (fun h => by rw [hret] at h; cases h) hlk
  exact ⟨_, _, X.areturnOut hx rfl hret ht hd hr, hrun, hended, _, _, rfl, hq, ⟨_, rfl⟩, hW, hsame.mono hc hs⟩
theorem own_ret0 (X : Stand p l e R s m args below meth c T locs cells slots) (hx : p.tables.exec = Jvm.exec) (hlk : meth.locks = false) {pc : Nat} {Ls : Array Slot} (hret : meth.sig.returnType = none) (hd : decode c.code pc = .ok (.return_, 1)) (hc : cells ≤ C) (hs : slots ≤ S)
    (hq : Q none T.heap locs) : EndsIn p e below s C S Q (T.setTop (mkF m pc Ls [])) := by
  obtain ⟨fs, hr, hrun, hended, hW, hsame⟩ := X.leave (v := none) (fun _ => rfl) hlk
  exact ⟨_, _, X.returnOut hx hret hd hr, hrun, hended, _, _, rfl, hq, ⟨_, rfl⟩, hW, hsame.mono hc hs⟩
end Ends
section Arrays
variable {Z : State} {h h' : Heap} {a : Addr} {k : ClassId} {ty : FieldType} {n j : Int32} {vs : List Value} {d : Value}
/-- what an array of ints holds at the place j -/
def own_at (xs : List Int32) (j : Int32) : Int32 := xs.getD j.toNatClampNeg 0
def own_atJ (xs : List Int64) (j : Int32) : Int64 := xs.getD j.toNatClampNeg 0
theorem own_mapD (xs : List Int32) (i : Nat) : (xs.map Value.int).getD i (.int 0) = .int (xs.getD i 0) := by
  rw [List.getD_eq_getElem?_getD, List.getD_eq_getElem?_getD, List.getElem?_map]; cases xs[i]? <;> rfl
theorem own_mapDJ (xs : List Int64) (i : Nat) : (xs.map Value.long).getD i (.long 0) = .long (xs.getD i 0) := by
  rw [List.getD_eq_getElem?_getD, List.getD_eq_getElem?_getD, List.getElem?_map]; cases xs[i]? <;> rfl
theorem own_open (V : Arv Z h a k ty n vs d) (hj : ¬ (j < 0) ∧ j < n) : ∃ cl, Arr Z h a cl ty ∧ ¬ (j < 0 ∨ cl.slots.size ≤ j.toNatClampNeg) ∧ True := by
  obtain ⟨cl, Ar, -, S, -, -, -⟩ := V
  exact ⟨cl, Ar, inb_of S hj, trivial⟩
theorem own_readI {xs : List Int32} (V : Arv Z h a k ty n (xs.map Value.int) (.int 0)) (hj : ¬ (j < 0) ∧ j < n) (i : Nat) (hi : j.toNatClampNeg = i) : ∃ cl, Arr Z h a cl ty ∧ ¬ (j < 0 ∨ cl.slots.size ≤ j.toNatClampNeg) ∧ cl.slots[j.toNatClampNeg]? = some (.int (xs.getD i 0)) := by
  obtain ⟨cl, Ar, -, S, -, H, -⟩ := V
  have q := inb_of S hj
  refine ⟨cl, Ar, q, ?_⟩
  rw [H _ (Nat.lt_of_not_le fun y => q (Or.inr y)), own_mapD, hi]
theorem own_readJ {xs : List Int64} (V : Arv Z h a k ty n (xs.map Value.long) (.long 0)) (hj : ¬ (j < 0) ∧ j < n) (i : Nat) (hi : j.toNatClampNeg = i) : ∃ cl, Arr Z h a cl ty ∧ ¬ (j < 0 ∨ cl.slots.size ≤ j.toNatClampNeg) ∧ cl.slots[j.toNatClampNeg]? = some (.long (xs.getD i 0)) := by
  obtain ⟨cl, Ar, -, S, -, H, -⟩ := V
  have q := inb_of S hj
  refine ⟨cl, Ar, q, ?_⟩
  rw [H _ (Nat.lt_of_not_le fun y => q (Or.inr y)), own_mapDJ, hi]
theorem own_setI {xs : List Int32} {v : Int32} (V : Arv Z h a k ty n (xs.map Value.int) (.int 0)) (ln : xs.length = n.toNatClampNeg) (hj : ¬ (j < 0) ∧ j < n) (W : Wr h h' a j.toNatClampNeg (.int v)) (hf : fits ty (.int v) = true) (i : Nat) (hi : j.toNatClampNeg = i) :
    Arv Z h' a k ty n ((xs.set i v).map Value.int) (.int 0) ∧ (xs.set i v).length = n.toNatClampNeg := by
  subst hi
  obtain ⟨cl, Ar, q1, S, q3, H, G⟩ := V
  have q := inb_of S hj
  have W2 := Arv.set Ar q1 S q3 H G hf W j.toNatClampNeg rfl (by rw [List.length_map, ln, ← S]; exact Nat.lt_of_not_le fun y => q (Or.inr y))
  rw [List.map_set]
  exact ⟨W2, by rw [List.length_set]; exact ln⟩
theorem own_setJ {xs : List Int64} {v : Int64} (V : Arv Z h a k ty n (xs.map Value.long) (.long 0)) (ln : xs.length = n.toNatClampNeg) (hj : ¬ (j < 0) ∧ j < n) (W : Wr h h' a j.toNatClampNeg (.long v)) (hf : fits ty (.long v) = true) (i : Nat) (hi : j.toNatClampNeg = i) :
    Arv Z h' a k ty n ((xs.set i v).map Value.long) (.long 0) ∧ (xs.set i v).length = n.toNatClampNeg := by
  subst hi
  obtain ⟨cl, Ar, q1, S, q3, H, G⟩ := V
  have q := inb_of S hj
  have W2 := Arv.set Ar q1 S q3 H G hf W j.toNatClampNeg rfl (by rw [List.length_map, ln, ← S]; exact Nat.lt_of_not_le fun y => q (Or.inr y))
  rw [List.map_set]
  exact ⟨W2, by rw [List.length_set]; exact ln⟩
theorem own_newI (A : Arr Z h a (newA k ty n) ty) (hd : defaultValue ty = .int 0) (q : ¬ n < 0) {xs : List Int32} (hxs : xs = List.replicate n.toNatClampNeg 0) : Arv Z h a k ty n (xs.map Value.int) (.int 0) ∧ xs.length = n.toNatClampNeg := by
  subst hxs
  have V := Arv.new A q
  rw [hd] at V
  have V2 := V.pad (pad_rep [] (.int 0) n.toNatClampNeg)
  rw [List.map_replicate]
  exact ⟨V2, by rw [List.length_replicate]⟩
theorem own_newJ (A : Arr Z h a (newA k ty n) ty) (hd : defaultValue ty = .long 0) (q : ¬ n < 0) {xs : List Int64} (hxs : xs = List.replicate n.toNatClampNeg 0) : Arv Z h a k ty n (xs.map Value.long) (.long 0) ∧ xs.length = n.toNatClampNeg := by
  subst hxs
  have V := Arv.new A q
  rw [hd] at V
  have V2 := V.pad (pad_rep [] (.long 0) n.toNatClampNeg)
  rw [List.map_replicate]
  exact ⟨V2, by rw [List.length_replicate]⟩
end Arrays

section Ref
variable {p : Program} {l : Launch} {e : Env} {R : Room} {s : State} {m : MethodId} {args : Array Value} {below : List Frame} {meth : Method} {c : Code} {T : State} {locs : List Loc} {cells slots : Nat} {Z : State} {a0 : Array Value} {h : Heap}
/-- getfield where the entry has been resolved before the call (the word fieldRef) -/
theorem own_getFR (X : Stand p l e R s m args below meth c T locs cells slots) (hx : p.tables.exec = Jvm.exec) (hZ : Z.Warmed39 s.vm) {own O n d : String} {index : Nat} (hown : s.vm.findClass own = some m.cls) (w : (Cond.fieldRef own index O n d).before a0 Z = true)
    (eT : T.heap = h) {a : Addr} {v : Value} (F : Fld Z h a O n d v) {g : JFrame} (hg : g.method = m) {rest : List Value} (hs : g.stack = .ref a :: rest) (hd : decode c.code g.pc = .ok (.getfield index, 3)) :
    ∃ T', Stand p l e R s m args below meth c T' locs cells slots ∧ T'.heap = h ∧ ∀ target, Steps p.tables e below (T'.setTop { g with pc := g.pc + 3, stack := v :: rest }) target → Steps p.tables e below (T.setTop g) target := by
  obtain ⟨cell, cf, k, i, f, h1, h2, h3, h4, -, -, h7⟩ := F
  have hW : Z.Warmed39 T.vm := wtrans hZ X.warmed
  have w1 := Cond.fieldRef_warmed39 hW w
  have ho : (Z.setVm T.vm).vm.findClass own = some m.cls := by
    show T.vm.findClass own = _
    rw [X.warmed.alike.findClass]; exact hown
  obtain ⟨c', k', i', f', q1, q2⟩ := Cond.fieldRef_spec ho w1
  obtain ⟨k'', q3, -⟩ := State.fieldFound?_setVm hW.alike h2
  cases q3.symm.trans q1
  refine ⟨T, X, eT, fun target hrest => ?_⟩
  subst hg
  jvm_step X.here [hx, hd, getfield.wp_ready (e := e) (s := T) (f := g) X.here.top q2 h3 hs (show T.heap[a]? = some cell by rw [eT]; exact h1) h4 h7]
  exact hrest
/-- invokespecial of a constructor where the entry has been resolved before the call (the word methodRef) -/
theorem own_specialR (X : Stand p l e R s m args below meth c T locs cells slots) (hx : p.tables.exec = Jvm.exec) (hZ : Z.Warmed39 s.vm) {own : String} {index : Nat} {y : MethodName} (hy1 : y.name = "<init>")
    (hown : s.vm.findClass own = some m.cls) (w : (Cond.methodRef own index y).before a0 Z = true) (hinst : (Cond.instanceMethod y).before a0 Z = true)
    {bytes : ByteArray} {maxL : Nat} (hcode : (Cond.code y bytes maxL none).before a0 Z = true)
    (hy : y.cls ≠ "java/lang/invoke/MethodHandle" ∧ y.cls ≠ "java/lang/invoke/VarHandle")
    {W : Nat} {Pre : Pt → Array Value → Prop} {Post : Pt → Array Value → Option Value → Pt → Prop} (hK : Back l R p e below s args y 3 W Pre Post)
    {g : JFrame} (hg : g.method = m) (hsize : g.locals.size = c.maxLocals) {s₀ : State} (hcome : Steps p.tables e below s₀ (T.setTop g)) {a : Addr} {argsL rest : List Value}
    (hlen : ∀ sig, parseMethodDescriptor y.desc = some sig → argsL.length = sig.parameters.length) (hstack : g.stack = argsL.reverse ++ .ref a :: rest) (hW : 2 * g.monitorRoom + (rest.map fun v => v.category).sum ≤ W)
    (hdg : decode c.code g.pc = .ok (.invokespecial index, 3)) (hpre : ∀ vm₁, s.WarmedH vm₁ → Pre ⟨T.setVm vm₁, locs, cells, slots⟩ (.ref a :: argsL).toArray) :
    ∃ (v : Option Value) (vm₁ : Vm) (B : Pt), s.WarmedH vm₁ ∧ Stand p l e R s m args below meth c B.U B.locs B.cells B.slots ∧ Post ⟨T.setVm vm₁, locs, cells, slots⟩ (.ref a :: argsL).toArray v B ∧
      Steps p.tables e below s₀ (B.U.setTop { g with pc := g.pc + 3, stack := v.toList ++ rest }) := by
  obtain ⟨mz, methz, hnz, -, -, -⟩ := Cond.instanceMethod_spec hinst
  have hWT : Z.Warmed39 T.vm := wtrans hZ X.warmed
  have w1 := Cond.methodRef_warmed39 hWT hnz hy w
  have ho : (Z.setVm T.vm).vm.findClass own = some m.cls := by
    show T.vm.findClass own = _
    rw [X.warmed.alike.findClass]; exact hown
  obtain ⟨mr, c', q1, q2, q3, q4⟩ := Cond.methodRef_named e ho w1
  have i1 : (Cond.instanceMethod y).before args s = true := mvT hZ hinst
  have i2 : (Cond.code y bytes maxL none).before args s = true := mvT hZ hcode
  obtain ⟨mk, methM, hn, hm, hst, hab⟩ := Cond.instanceMethod_spec i1
  obtain ⟨methM', cM, hm', -, -, -, -, -, -, hsig⟩ := Cond.code_spec hn i2
  cases hm.symm.trans hm'
  have hnT : (Z.setVm T.vm).methodNamed? y = some mk := by
    have : (s.setVm T.vm).methodNamed? y = some mk := by rw [State.methodNamed?_setVm X.warmed.alike]; exact hn
    exact this
  obtain rfl : mr = mk := Option.some.inj (q1.symm.trans (State.methodFound?_of_named hnT hy))
  have hcl : T.vm.findClass y.cls = some mr.cls := findClass_of_methodNamed hnT
  obtain rfl : c' = mr.cls := Option.some.inj (q3.symm.trans hcl)
  obtain ⟨kO, hkO, -⟩ := className_of_methodNamed hnT
  obtain ⟨hnm, hds⟩ := name_of_methodNamed hn hm
  have hmT : T.vm.method? mr = some methM := by rw [X.warmed.alike.method?]; exact hm
  have hfound : lookupSpecial T.vm mr.cls "<init>" methM.desc = .method mr := by
    rw [X.warmed.alike.lookupSpecial, hds, ← hy1]; exact lookupSpecial_of_named hn hm hst
  have X₁ := X.noted X.warmed
  obtain ⟨v, B, X', hpost, hsteps⟩ := hK m meth c ⟨T.setVm T.vm, locs, cells, slots⟩ { g with stack := rest } (.invokespecial index) mr (.ref a :: argsL).toArray X₁ hg hsize hdg hW (X₁.named hn) (hpre _ X.warmed)
  refine ⟨v, T.vm, B, X.warmed, X', hpost, hcome.trans ?_⟩
  refine Steps.trans ?_ hsteps
  subst hg
  jvm_step X.here [hx, hdg, invokespecial.wp_init (e := e) (s := T) (k := kO) (meth := methM) (m := mr) (a := a) (args := argsL) (rest := rest) (f := g) X.here.top q4 q2 hkO hmT (by rw [hnm]; exact hy1) hst hab hfound (hlen _ hsig) hstack]
  intro acts
  rw [doInvoke_state]; exact Steps.refl _
/-- 'selects' of a private method, from the words privateMethod, instanceMethod, instantiable -/
theorem own_selP {y : MethodName} {kk : Nat} (hZ : Z.Warmed39 s.vm) (hi : (Cond.instantiable y.cls kk).before a0 Z = true) (hp : (Cond.privateMethod y).before a0 Z = true) (hinst : (Cond.instanceMethod y).before a0 Z = true) (hy : y.cls ≠ "java/lang/invoke/MethodHandle" ∧ y.cls ≠ "java/lang/invoke/VarHandle") :
    (Cond.selects y.cls y y).before args s = true := by
  have i1 : (Cond.instanceMethod y).before args s = true := mvT hZ hinst
  have i2 : (Cond.instantiable y.cls kk).before args s = true := mvT hZ hi
  have i3 : (Cond.privateMethod y).before args s = true := mvP hZ hp
  obtain ⟨a, k, h1, h2, -, h3, -⟩ := Cond.instantiable_spec i2
  exact selects_self_of_private h1 h2 (Bool.or_eq_false_iff.mp h3).1 (Cond.privateMethod_at i3) i1 hy
end Ref
/-- what an array holds behind System.arraycopy -/
def own_cp (xs ys : List Int32) (sp dp n : Nat) : List Int32 := ys.take dp ++ (List.range n).map (fun i => xs.getD (sp + i) 0) ++ ys.drop (dp + n)
theorem own_cpI {Z : State} {h : Heap} {b : Addr} {k : ClassId} {ty : FieldType} {z : Int32} {xs ys : List Int32} {sp dp n : Nat}
    (V : Arv Z h b k ty z ((ys.map Value.int).take dp ++ ((List.range n).map fun i => (xs.map Value.int).getD (sp + i) (.int 0)) ++ (ys.map Value.int).drop (dp + n)) (.int 0)) (ln : ys.length = z.toNatClampNeg) (hl : dp + n ≤ z.toNatClampNeg) :
    Arv Z h b k ty z ((own_cp xs ys sp dp n).map Value.int) (.int 0) ∧ (own_cp xs ys sp dp n).length = z.toNatClampNeg := by
  constructor
  · have e : ((ys.map Value.int).take dp ++ ((List.range n).map fun i => (xs.map Value.int).getD (sp + i) (.int 0)) ++ (ys.map Value.int).drop (dp + n)) = (own_cp xs ys sp dp n).map Value.int := by
      unfold own_cp
      rw [List.map_append, List.map_append, List.map_take, List.map_drop, List.map_map]
      congr 2
      apply List.map_congr_left
      intro i _
      exact own_mapD xs (sp + i)
    rw [← e]; exact V
  · unfold own_cp
    rw [List.length_append, List.length_append, List.length_take, List.length_drop, List.length_map, List.length_range]
    omega

def own_01 (x : Int32) : Prop := x = 0 ∨ x = 1
def own_02 (x : Int32) : Prop := x = 0 ∨ x = 1 ∨ x = 2
def own_A (a b c : Int32) : Prop := own_02 a ∧ own_02 b ∧ own_02 c
def own_n1 (a b : Int32) : Int32 := if a < (1 : Int32) then (0 : Int32) else ((2 : Int32) + b)
def own_n2 (a b : Int32) : Int32 := if a < (2 : Int32) then (0 : Int32) else ((2 : Int32) + b)
def own_B (v4 v5 v6 v7 v8 v9 : Int32) : Prop := own_A v4 v5 v6 ∧ own_01 v7 ∧ v8 = own_n1 v4 v5 ∧ v9 = own_n2 v4 v6
def own_G (v4 v5 v6 v7 v8 v9 n : Int32) : Prop := own_B v4 v5 v6 v7 v8 v9 ∧ n = v8 + v9 + v7
/-- a well-formed short object with a value of length L starts at p -/
def own_okL (xs : List Int32) (p L : Int32) : Prop := ¬ (((own_at xs p) &&& (255 : Int32)) &&& (31 : Int32) = (31 : Int32)) ∧ ((own_at xs (p + (1 : Int32))) &&& (255 : Int32)) = L
def own_D1 (v4 v5 : Int32) (xs : List Int32) : Prop := ¬ (v4 < (1 : Int32)) → own_okL xs 0 v5
def own_D (v4 v5 v6 v8 : Int32) (xs : List Int32) : Prop := own_D1 v4 v5 xs ∧ (¬ (v4 < (2 : Int32)) → own_okL xs v8 v6)
def own_ok (pos n : Int32) (xs : List Int32) : Prop :=
  0 ≤ pos.toInt ∧ n.toInt ≤ 9 ∧ ¬ (((own_at xs pos) &&& (255 : Int32)) &&& (31 : Int32) = (31 : Int32)) ∧ ((own_at xs (pos + (1 : Int32))) &&& (255 : Int32)).toInt ≤ 2 ∧
    pos.toInt + 2 + ((own_at xs (pos + (1 : Int32))) &&& (255 : Int32)).toInt ≤ n.toInt
def own_r (a b n : Int32) : Prop := 2 ≤ a.toInt ∧ a.toInt ≤ b.toInt ∧ b.toInt ≤ a.toInt + 2 ∧ b.toInt ≤ n.toInt ∧ n.toInt ≤ 9
theorem own_r3 (x : Int32) : own_02 ((x &&& (3 : Int32)) % (3 : Int32)) := by
  have h1 := c_mask x 3 2 (by decide) (by decide)
  have h2 := c_irem (x &&& 3) 3 3 (by decide)
  have h3 : ((x &&& 3) % 3).toInt = 0 ∨ ((x &&& 3) % 3).toInt = 1 ∨ ((x &&& 3) % 3).toInt = 2 := by omega
  rcases h3 with h | h | h
  · exact Or.inl (Int32.toInt_inj.mp h)
  · exact Or.inr (Or.inl (Int32.toInt_inj.mp h))
  · exact Or.inr (Or.inr (Int32.toInt_inj.mp h))
theorem own_t0 {a v7 : Int32} (h : v7 = 0) : a + (0 : Int32) = a + v7 := by rw [h]
theorem own_t1 {a v7 : Int32} (h : own_01 v7) (q : ¬ v7 = 0) : a + (1 : Int32) = a + v7 := by
  rcases h with h | h
  · exact absurd h q
  · rw [h]
/-- the scalars, as whole numbers -/
theorem own_GI {v4 v5 v6 v7 v8 v9 n : Int32} (h : own_G v4 v5 v6 v7 v8 v9 n) :
    0 ≤ v4.toInt ∧ v4.toInt ≤ 2 ∧ 0 ≤ v5.toInt ∧ v5.toInt ≤ 2 ∧ 0 ≤ v6.toInt ∧ v6.toInt ≤ 2 ∧ 0 ≤ v7.toInt ∧ v7.toInt ≤ 1 ∧ n.toInt = v8.toInt + v9.toInt + v7.toInt ∧
      (v4.toInt < 1 → v8.toInt = 0) ∧ (¬ v4.toInt < 1 → v8.toInt = 2 + v5.toInt) ∧ (v4.toInt < 2 → v9.toInt = 0) ∧ (¬ v4.toInt < 2 → v9.toInt = 2 + v6.toInt) := by
  obtain ⟨⟨⟨h4, h5, h6⟩, h7, h8, h9⟩, hn⟩ := h
  subst hn h8 h9
  rcases h4 with rfl | rfl | rfl <;> rcases h5 with rfl | rfl | rfl <;> rcases h6 with rfl | rfl | rfl <;> rcases h7 with rfl | rfl <;> decide
theorem own_lt {a b : Int32} (h : a.toInt < b.toInt) : a < b := Int32.lt_iff_toInt_lt.mpr h
theorem own_nlt {a b : Int32} (h : b.toInt ≤ a.toInt) : ¬ a < b := fun q => by have := Int32.lt_iff_toInt_lt.mp q; omega
theorem own_ltI {a b : Int32} (h : a < b) : a.toInt < b.toInt := Int32.lt_iff_toInt_lt.mp h
theorem own_nltI {a b : Int32} (h : ¬ a < b) : ¬ a.toInt < b.toInt := fun q => h (Int32.lt_iff_toInt_lt.mpr q)
theorem own_c0 : (0 : Int32).toInt = 0 := rfl
theorem own_c1 : (1 : Int32).toInt = 1 := rfl
theorem own_c2 : (2 : Int32).toInt = 2 := rfl
theorem own_add {a b : Int32} {x y : Int} (ha : a.toInt = x) (hb' : b.toInt = y) (h : -2147483648 ≤ x + y ∧ x + y < 2147483648) : (a + b).toInt = x + y := by
  have h1 := c_iadd a b; have r1 := rng32 (a + b); omega
theorem own_sub {a b : Int32} {x y : Int} (ha : a.toInt = x) (hb' : b.toInt = y) (h : -2147483648 ≤ x - y ∧ x - y < 2147483648) : (a - b).toInt = x - y := by
  have h1 := c_isub a b; have r1 := rng32 (a - b); omega
theorem own_nat (a : Int32) : (a.toNatClampNeg : Int) = if a.toInt < 0 then 0 else a.toInt := by
  have : a.toNatClampNeg = a.toInt.toNat := rfl
  rw [this]; split <;> omega
theorem own_neg {v4 v5 v6 v7 v8 v9 n : Int32} (hB : own_B v4 v5 v6 v7 v8 v9) (h : n = v8 + v9 + v7) : ¬ n < 0 := by
  have g := own_GI ⟨hB, h⟩; apply own_nlt; rw [own_c0]; omega
theorem own_cap {v4 v5 v6 v7 v8 v9 n : Int32} (hB : own_B v4 v5 v6 v7 v8 v9) (h : n = v8 + v9 + v7) : n.toNatClampNeg ≤ 9 := by
  have g := own_GI ⟨hB, h⟩; have q := own_nat n; split at q <;> omega
section
variable {v1 v4 v5 v6 v7 v8 v9 n : Int32} {xs : List Int32}
theorem own_b0 (g : own_G v4 v5 v6 v7 v8 v9 n) (h : ¬ v4 < 1) : ¬ ((0 : Int32) < 0) ∧ (0 : Int32) < n := by
  have g := own_GI g; have h := own_nltI h; rw [own_c1] at h
  exact ⟨by decide, own_lt (by rw [own_c0]; omega)⟩
theorem own_b1 (g : own_G v4 v5 v6 v7 v8 v9 n) (h : ¬ v4 < 1) : ¬ ((1 : Int32) < 0) ∧ (1 : Int32) < n := by
  have g := own_GI g; have h := own_nltI h; rw [own_c1] at h
  exact ⟨by decide, own_lt (by rw [own_c1]; omega)⟩
theorem own_b2 (g : own_G v4 v5 v6 v7 v8 v9 n) (h : ¬ v4 < 2) : ¬ (v8 < 0) ∧ v8 < n := by
  have g := own_GI g; have h := own_nltI h; rw [own_c2] at h
  exact ⟨own_nlt (by rw [own_c0]; omega), own_lt (by omega)⟩
theorem own_b3 (g : own_G v4 v5 v6 v7 v8 v9 n) (h : ¬ v4 < 2) : ¬ ((v8 + (1 : Int32)) < 0) ∧ (v8 + (1 : Int32)) < n := by
  have g := own_GI g; have h := own_nltI h; rw [own_c2] at h
  have e := own_add (a := v8) (b := 1) rfl own_c1 (by omega)
  exact ⟨own_nlt (by rw [own_c0]; omega), own_lt (by omega)⟩
theorem own_bb (x : Int32) : ((x.toInt8.toInt32).toInt8.toInt32 &&& (255 : Int32)) = x &&& (255 : Int32) := by
  apply Int32.toInt_inj.mp
  have h1 := c_mask ((x.toInt8.toInt32).toInt8.toInt32) 255 8 (by decide) (by decide)
  have h2 := c_mask x 255 8 (by decide) (by decide)
  have h3 := c_i2b x; have h4 := c_i2b x.toInt8.toInt32
  omega
theorem own_lb {x : Int32} (h : own_02 x) : ((x.toInt8.toInt32).toInt8.toInt32 &&& (255 : Int32)) = x := by
  rw [own_bb]; rcases h with rfl | rfl | rfl <;> decide
theorem own_d1a (h : v4 < (1 : Int32)) : own_D1 v4 v5 xs := fun q => absurd h q
theorem own_d2a (h : v4 < (2 : Int32)) : ¬ (v4 < (2 : Int32)) → own_okL xs v8 v6 := fun q => absurd h q
theorem own_h83 {x : Int32} (h : x.toInt ≤ 2) : ¬ (x = (128 : Int32)) := fun e => by subst e; exact absurd h (by decide)
theorem own_h90 {x : Int32} (h : x.toInt ≤ 2) : ¬ ((131 : Int32) < x) := own_nlt (by have : (131 : Int32).toInt = 131 := rfl; omega)
theorem own_h130 {x : Int32} (h : x.toInt ≤ 2) : ¬ ((128 : Int32) < x) := own_nlt (by have : (128 : Int32).toInt = 128 := rfl; omega)
theorem own_mM (x : Int32) : 0 ≤ (x &&& (255 : Int32)).toInt := by
  have h1 := c_mask x 255 8 (by decide) (by decide); omega
theorem own_i0 {pos : Int32} (h : own_ok pos n xs) : ¬ (pos < 0) ∧ pos < n := by
  obtain ⟨a, b, c, d, e⟩ := h; have m := own_mM (own_at xs (pos + 1))
  exact ⟨own_nlt (by rw [own_c0]; omega), own_lt (by omega)⟩
theorem own_i1 {pos : Int32} (h : own_ok pos n xs) : ¬ ((pos + (1 : Int32)) < 0) ∧ (pos + (1 : Int32)) < n := by
  obtain ⟨a, b, c, d, e⟩ := h; have m := own_mM (own_at xs (pos + 1))
  have q := own_add (a := pos) (b := 1) rfl own_c1 (by omega)
  exact ⟨own_nlt (by rw [own_c0]; omega), own_lt (by omega)⟩
theorem own_h1 {a b : Int32} (h : own_r a b n) : ¬ (a = (0 : Int32)) := fun e => by subst e; exact absurd h.1 (by decide)
theorem own_hl {a b : Int32} (h : own_r a b n) : ¬ (b < a) := own_nlt h.2.1
theorem own_bma {a b : Int32} (h : own_r a b n) : (b - a).toInt = b.toInt - a.toInt := by
  obtain ⟨h1, h2, h3, h4, h5⟩ := h
  exact own_sub rfl rfl (by omega)
theorem own_neg2 {a b : Int32} (h : own_r a b n) : ¬ ((b - a) < 0) := by
  have e := own_bma h; have h2 := h.2.1
  exact own_nlt (by rw [own_c0]; omega)
theorem own_cap2 {a b : Int32} (h : own_r a b n) : (b - a).toNatClampNeg ≤ 2 := by
  have e := own_bma h; have h2 := h.2.2.1; have q := own_nat (b - a); split at q <;> omega
end
theorem d1_0 : decode method_4_code 0 = .ok (.iload_n 1, 1) := by decide +kernel
theorem d1_1 : decode method_4_code 1 = .ok (.aload_n 0, 1) := by decide +kernel
theorem d1_2 : decode method_4_code 2 = .ok (.arraylength, 1) := by decide +kernel
theorem d1_3 : decode method_4_code 3 = .ok (.if_icmp .ge 8, 3) := by decide +kernel
theorem d1_6 : decode method_4_code 6 = .ok (.aload_n 0, 1) := by decide +kernel
theorem d1_7 : decode method_4_code 7 = .ok (.iload_n 1, 1) := by decide +kernel
theorem d1_8 : decode method_4_code 8 = .ok (.iload_n 2, 1) := by decide +kernel
theorem d1_9 : decode method_4_code 9 = .ok (.i2b, 1) := by decide +kernel
theorem d1_10 : decode method_4_code 10 = .ok (.bastore, 1) := by decide +kernel
theorem d1_11 : decode method_4_code 11 = .ok (.return_, 1) := by decide +kernel
theorem pn_1 : plainName "com/example/pure_mrtd/puremrtd/format/TlvReaderHasNextPinLaw" = true := by first | (simp [plainName, overriddenIn]; done) | decide +kernel
def R1 : Room := { frames := 0, cells := 0, slots := 0, locals := 0 }
def Q1 (Z : State) (o0 : Addr) (o0_k : ClassId) (o0_n : Int32) (h0 : Heap) (n0 : Nat) (r : List Int32) (v : Option Value) (h : Heap) (L : List Loc) : Prop := v = none ∧ Fr n0 L ∧ Keep h0 h [o0] ∧ Arv Z h o0 o0_k .byte o0_n ((r).map Value.int) (.int 0) ∧ (r).length = o0_n.toNatClampNeg
def f1_0 (v1 : Int32) (v2 : Int32) (o0_n : Int32) (o0_xs : List Int32) : List Int32 := (if v1 < o0_n then (o0_xs.set (v1).toNatClampNeg ((v2.toInt8.toInt32).toInt8.toInt32)) else o0_xs)
set_option maxRecDepth 65536 in
set_option maxHeartbeats 40000000 in
theorem b1_0 {p : Program} {l : Launch} {e : Env} {s : State} {m : MethodId} {args : Array Value} {below : List Frame} {meth : Method} {c : Code} {Z : State} {a0 : Array Value} (B : Ctx p Z s a0 m meth c "com/example/pure_mrtd/puremrtd/format/TlvReaderHasNextPinLaw" "put" method_4_code 3 none) {T0 : State} {locs : List Loc} {h : Heap} (h0 : Heap) (n0 : Nat) (o0 : Addr) (v1 : Int32) (v2 : Int32) (o0_k : ClassId) (o0_n : Int32) (o0_xs : List Int32) (X0 : Stand p l e R1 s m args below meth c T0 locs 0 0) (e0 : T0.heap = h) (N0 : Fr n0 locs) (Z0 : n0 ≤ h.size) (K : Keep h0 h [o0]) (V_o0 : Arv Z h o0 o0_k .byte o0_n (o0_xs.map Value.int) (.int 0)) (ln_o0 : o0_xs.length = o0_n.toNatClampNeg) (g_o0 : n0 ≤ o0) (hi : ¬ (v1 < 0)) (r : List Int32) (hr : f1_0 v1 v2 o0_n o0_xs = r) :
    EndsIn p e below s R1.cells R1.slots (Q1 Z o0 o0_k o0_n h0 n0 r) (T0.setTop (mkF m 0 #[.val (.ref o0), .val (.int v1), .val (.int v2)] [])) := by
  obtain ⟨hx, hZ, hw, hby, hml, hret, hown, hnm, hlk⟩ := B
  unfold f1_0 at hr
  refine EndsIn.by (B := T0.setTop (mkF m 2 #[.val (.ref o0), .val (.int v1), .val (.int v2)] [(.ref o0), (.int v1)])) (fun t k => ?_) ?_
  · show Steps p.tables e below (T0.setTop (mkF m 0 #[.val (.ref o0), .val (.int v1), .val (.int v2)] [])) _
    refine XS.iloadN X0.here hx rfl (hb hby d1_0) rfl  ?_
    show Steps p.tables e below (T0.setTop (mkF m 1 #[.val (.ref o0), .val (.int v1), .val (.int v2)] [(.int v1)])) _
    refine XS.aloadN X0.here hx rfl (hb hby d1_1) rfl rfl ?_
    exact k
  have V1 := V_o0
  obtain ⟨cl1, Ar1, -, S1, M1, -, -⟩ := V1
  refine EndsIn.by (B := T0.setTop (mkF m 3 #[.val (.ref o0), .val (.int v1), .val (.int v2)] [(.int o0_n), (.int v1)])) (fun t k => ?_) ?_
  · show Steps p.tables e below (T0.setTop (mkF m 2 #[.val (.ref o0), .val (.int v1), .val (.int v2)] [(.ref o0), (.int v1)])) _
    refine X0.arraylength hx (by rw [e0]; exact Ar1.1) (State.isArrayOf_alike hZ.alike Ar1.2.1) (g := (mkF m 2 #[.val (.ref o0), .val (.int v1), .val (.int v2)] [(.ref o0), (.int v1)])) rfl rfl (hb hby d1_2) _ ?_
    rw [len_of S1 M1]
    exact k
  by_cases hc3 : v1 < o0_n
  · rw [if_pos hc3] at hr
    refine EndsIn.by (B := T0.setTop (mkF m 6 #[.val (.ref o0), .val (.int v1), .val (.int v2)] [])) (fun t k => ?_) ?_
    · show Steps p.tables e below (T0.setTop (mkF m 3 #[.val (.ref o0), .val (.int v1), .val (.int v2)] [(.int o0_n), (.int v1)])) _
      exact XS.icmpNo X0.here hx rfl (hb hby d1_3) rfl (tlt hc3).2.1 k
    refine EndsIn.by (B := T0.setTop (mkF m 10 #[.val (.ref o0), .val (.int v1), .val (.int v2)] [(.int (v2.toInt8.toInt32)), (.int v1), (.ref o0)])) (fun t k => ?_) ?_
    · show Steps p.tables e below (T0.setTop (mkF m 6 #[.val (.ref o0), .val (.int v1), .val (.int v2)] [])) _
      refine XS.aloadN X0.here hx rfl (hb hby d1_6) rfl rfl ?_
      show Steps p.tables e below (T0.setTop (mkF m 7 #[.val (.ref o0), .val (.int v1), .val (.int v2)] [(.ref o0)])) _
      refine XS.iloadN X0.here hx rfl (hb hby d1_7) rfl  ?_
      show Steps p.tables e below (T0.setTop (mkF m 8 #[.val (.ref o0), .val (.int v1), .val (.int v2)] [(.int v1), (.ref o0)])) _
      refine XS.iloadN X0.here hx rfl (hb hby d1_8) rfl  ?_
      show Steps p.tables e below (T0.setTop (mkF m 9 #[.val (.ref o0), .val (.int v1), .val (.int v2)] [(.int v2), (.int v1), (.ref o0)])) _
      refine XS.i2b X0.here hx rfl (hb hby d1_9) rfl ?_
      exact k
    have hin2 : ¬ (v1 < 0) ∧ v1 < o0_n := ⟨hi, hc3⟩
    obtain ⟨cl2, Ar2, hi2, q2⟩ := own_open V_o0 hin2
    obtain ⟨T2, h2, X2, e2, W2, st2⟩ := stB X0 hx hZ e0 Ar2 (j := v1) hi2 (g := (mkF m 10 #[.val (.ref o0), .val (.int v1), .val (.int v2)] [(.int (v2.toInt8.toInt32)), (.int v1), (.ref o0)])) rfl rfl (hb hby d1_10)
    obtain ⟨V_o0_2, ln_o0_2⟩ : Arv Z h2 o0 o0_k .byte o0_n ((o0_xs.set (v1).toNatClampNeg ((v2.toInt8.toInt32).toInt8.toInt32)).map Value.int) (.int 0) ∧ (o0_xs.set (v1).toNatClampNeg ((v2.toInt8.toInt32).toInt8.toInt32)).length = o0_n.toNatClampNeg := own_setI V_o0 ln_o0 hin2 W2 (fits_nar_byte _) (v1).toNatClampNeg rfl
    have N2 := Fr.snoc X2 N0 g_o0
    have Z2 : n0 ≤ h2.size := Nat.le_trans Z0 (Nat.le_of_eq W2.size.symm)
    have K2 := K.wr W2 (Or.inl (by simp))
    refine EndsIn.by (B := T2.setTop (mkF m 11 #[.val (.ref o0), .val (.int v1), .val (.int v2)] [])) (fun t k => st2 t k) ?_
    subst hr
    exact own_ret0 X2 hx hlk hret (hb hby d1_11) (by decide) (by decide) ⟨rfl, N2, (by rw [e2]; exact K2), (by rw [e2]; exact V_o0_2), ln_o0_2⟩
  · rw [if_neg hc3] at hr
    refine EndsIn.by (B := T0.setTop (mkF m 11 #[.val (.ref o0), .val (.int v1), .val (.int v2)] [])) (fun t k => ?_) ?_
    · show Steps p.tables e below (T0.setTop (mkF m 3 #[.val (.ref o0), .val (.int v1), .val (.int v2)] [(.int o0_n), (.int v1)])) _
      exact XS.icmpYes X0.here hx rfl (pc0 := 3) (pc' := 11) rfl (hb hby d1_3) rfl (flt hc3).2.1 (by decide) (by decide) k
    subst hr
    exact own_ret0 X0 hx hlk hret (hb hby d1_11) (by decide) (by decide) ⟨rfl, N0, (by rw [e0]; exact K), (by rw [e0]; exact V_o0), ln_o0⟩
theorem ef_1 (m : MethodId) (o0 : Addr) (v1 : Int32) (v2 : Int32) : entryFrame m #[(.ref o0), (.int v1), (.int v2)] 3 = (mkF m 0 #[.val (.ref o0), .val (.int v1), .val (.int v2)] []) := by first | (simp [entryFrame, mkF, argsToLocals, Value.category]; done) | rfl
set_option maxRecDepth 65536 in
set_option maxHeartbeats 40000000 in
theorem rm1 (l : Launch) (Z : State) (a0 : Array Value) (hw : ∀ d ∈ tables_1, d.before a0 Z = true) (ws : List Jvm.Cond) (o0 : Addr) (v1 : Int32) (v2 : Int32) (o0_k : ClassId) (o0_n : Int32) (o0_xs : List Int32) (h0 : Heap) (n0 : Nat) (Z0 : n0 ≤ h0.size) (V_o0 : Arv Z h0 o0 o0_k .byte o0_n (o0_xs.map Value.int) (.int 0)) (ln_o0 : o0_xs.length = o0_n.toNatClampNeg) (g_o0 : n0 ≤ o0) (hi : ¬ (v1 < 0)) :
    MetFree l (⟨"com/example/pure_mrtd/puremrtd/format/TlvReaderHasNextPinLaw", "put", "([BII)V"⟩ : MethodName) (head1 (Jvm.Cond.code (⟨"com/example/pure_mrtd/puremrtd/format/TlvReaderHasNextPinLaw", "put", "([BII)V"⟩ : MethodName) method_4_code 3 none :: ws) R1) (fun a U => a = #[(.ref o0), (.int v1), (.int v2)] ∧ Z.Warmed39 U.vm ∧ U.heap = h0) (fun _ _ _ _ _ => True) (fun _ U o U' => ∃ v L, o = .returned v ∧ (Q1 Z o0 o0_k o0_n h0 n0 (f1_0 v1 v2 o0_n o0_xs)) v U'.heap L ∧ FrameEnd U o U' L R1.cells R1.slots) := by
  refine MetFree.of_bodySF (plainFor_of_name pn_1) hisR ?_
  intro p e s m args below meth c s₁ Bd hml0 hP hK
  obtain ⟨rfl, hZ, hh⟩ := hP
  have B : Ctx p Z s a0 m meth c "com/example/pure_mrtd/puremrtd/format/TlvReaderHasNextPinLaw" "put" method_4_code 3 none := ⟨Bd.exec, hZ, hw, Bd.bytes, hml0, Bd.returns, findClass_of_methodNamed Bd.named, (name_of_methodNamed Bd.named Bd.method).1, Bd.notSynchronized⟩
  have X0 : Stand p l e R1 s m #[(.ref o0), (.int v1), (.int v2)] below meth c s₁ [] 0 0 := Stand.of_body Bd
  have e0 : s₁.heap = h0 := by rw [← hh, Bd.state]; rfl
  have K := Keep.refl h0 [o0]
  show EndsIn p e below s R1.cells R1.slots (Q1 Z o0 o0_k o0_n h0 n0 (f1_0 v1 v2 o0_n o0_xs)) (s₁.setTop (entryFrame m #[(.ref o0), (.int v1), (.int v2)] 3))
  refine EndsIn.by (fun t k => castTop (ef_1 m o0 v1 v2) k) ?_
  exact b1_0 B h0 n0 o0 v1 v2 o0_k o0_n o0_xs X0 e0 (Fr.nil n0) Z0 K V_o0 ln_o0 g_o0 hi _ rfl
theorem pd_0 : parseMethodDescriptor "([BII)V" = some ⟨[(.array .byte), .int, .int], none⟩ := by decide +kernel
theorem d2_0 : decode prog_27_method_1_code 0 = .ok (.aload_n 0, 1) := by decide +kernel
theorem d2_1 : decode prog_27_method_1_code 1 = .ok (.invokespecial 1, 3) := by decide +kernel
theorem d2_4 : decode prog_27_method_1_code 4 = .ok (.aload_n 0, 1) := by decide +kernel
theorem d2_5 : decode prog_27_method_1_code 5 = .ok (.aload_n 1, 1) := by decide +kernel
theorem d2_6 : decode prog_27_method_1_code 6 = .ok (.putfield 7, 3) := by decide +kernel
theorem d2_9 : decode prog_27_method_1_code 9 = .ok (.return_, 1) := by decide +kernel
theorem pn_2 : plainName "com/example/pure_mrtd/puremrtd/format/TlvReader" = true := by first | (simp [plainName, overriddenIn]; done) | decide +kernel
def R2 : Room := { frames := 1, cells := 0, slots := 0, locals := 12 }
def Q2 (Z : State) (o0 : Addr) (o1 : Addr) (h0 : Heap) (n0 : Nat) (r : Int32) (v : Option Value) (h : Heap) (L : List Loc) : Prop := v = none ∧ Fr n0 L ∧ Keep h0 h [o0] ∧ Exa Z h o0 "com/example/pure_mrtd/puremrtd/format/TlvReader" ∧ Fld Z h o0 "com/example/pure_mrtd/puremrtd/format/TlvReader" "data" "[B" (.ref o1) ∧ Fld Z h o0 "com/example/pure_mrtd/puremrtd/format/TlvReader" "position" "I" (.int r)
def f2_0 (o0_position : Int32) : Int32 := o0_position
set_option maxRecDepth 65536 in
set_option maxHeartbeats 40000000 in
theorem b2_0 {p : Program} {l : Launch} {e : Env} {s : State} {m : MethodId} {args : Array Value} {below : List Frame} {meth : Method} {c : Code} {Z : State} {a0 : Array Value} (B : Ctx p Z s a0 m meth c "com/example/pure_mrtd/puremrtd/format/TlvReader" "<init>" prog_27_method_1_code 2 none) {T0 : State} {locs : List Loc} {h : Heap} (h0 : Heap) (n0 : Nat) (o0 : Addr) (o1 : Addr) (o0_data : Value) (o0_position : Int32) (X0 : Stand p l e R2 s m args below meth c T0 locs 0 0) (e0 : T0.heap = h) (N0 : Fr n0 locs) (Z0 : n0 ≤ h.size) (K : Keep h0 h [o0]) (E_o0 : Exa Z h o0 "com/example/pure_mrtd/puremrtd/format/TlvReader") (F_o0_data : Fld Z h o0 "com/example/pure_mrtd/puremrtd/format/TlvReader" "data" "[B" o0_data) (F_o0_position : Fld Z h o0 "com/example/pure_mrtd/puremrtd/format/TlvReader" "position" "I" (.int o0_position)) (g_o0 : n0 ≤ o0) (r : Int32) (hr : f2_0 o0_position = r) :
    EndsIn p e below s R2.cells R2.slots (Q2 Z o0 o1 h0 n0 r) (T0.setTop (mkF m 0 #[.val (.ref o0), .val (.ref o1)] [])) := by
  obtain ⟨hx, hZ, hw, hby, hml, hret, hown, hnm, hlk⟩ := B
  unfold f2_0 at hr
  refine EndsIn.by (B := T0.setTop (mkF m 1 #[.val (.ref o0), .val (.ref o1)] [(.ref o0)])) (fun t k => ?_) ?_
  · show Steps p.tables e below (T0.setTop (mkF m 0 #[.val (.ref o0), .val (.ref o1)] [])) _
    refine XS.aloadN X0.here hx rfl (hb hby d2_0) rfl rfl ?_
    exact k
  obtain ⟨T1, X1, e1, st1⟩ := initO X0 hx hZ hown (hw _ (List.mem_of_getElem? (i := 11) rfl)) (hw _ (List.mem_of_getElem? (i := 12) rfl)) (hw _ (List.mem_of_getElem? (i := 13) rfl)) e0 (g := (mkF m 1 #[.val (.ref o0), .val (.ref o1)] [(.ref o0)])) rfl (by rw [hml]; rfl) rfl (hb hby d2_1) (by decide) (W := 0) (by show 2 * 0 + _ ≤ _; exact Nat.le_of_eq rfl) (by decide)
  refine EndsIn.by (B := T1.setTop (mkF m 4 #[.val (.ref o0), .val (.ref o1)] [])) (fun t k => st1 t k) ?_
  refine EndsIn.by (B := T1.setTop (mkF m 6 #[.val (.ref o0), .val (.ref o1)] [(.ref o1), (.ref o0)])) (fun t k => ?_) ?_
  · show Steps p.tables e below (T1.setTop (mkF m 4 #[.val (.ref o0), .val (.ref o1)] [])) _
    refine XS.aloadN X1.here hx rfl (hb hby d2_4) rfl rfl ?_
    show Steps p.tables e below (T1.setTop (mkF m 5 #[.val (.ref o0), .val (.ref o1)] [(.ref o0)])) _
    refine XS.aloadN X1.here hx rfl (hb hby d2_5) rfl rfl ?_
    exact k
  obtain ⟨T2, h2, X2, e2, W2, st2⟩ := putF X1 hx hZ hown (host := "") (Or.inl (hw _ (List.mem_of_getElem? (i := 14) rfl))) Via.refl e1 F_o0_data E_o0 (Or.inr ⟨(hw _ (List.mem_of_getElem? (i := 15) rfl)), rfl, hnm⟩) (hw _ (List.mem_of_getElem? (i := 6) rfl)) (ty := (.array .byte)) (by decide) rfl rfl (g := (mkF m 6 #[.val (.ref o0), .val (.ref o1)] [(.ref o1), (.ref o0)])) rfl rfl (hb hby d2_6)
  have E_o0_2 := E_o0.wr W2
  have F_o0_data_2 := F_o0_data.same W2
  have F_o0_position_2 := F_o0_position.other W2 (Or.inr (slot_ne (Or.inl (hw _ (List.mem_of_getElem? (i := 22) rfl))) (Or.inr (hw _ (List.mem_of_getElem? (i := 15) rfl))) (by decide) (t := .int) (t' := (.array .byte)) (by decide) (by decide)))
  have N2 := Fr.snoc X2 N0 g_o0
  have Z2 : n0 ≤ h2.size := Nat.le_trans Z0 (Nat.le_of_eq W2.size.symm)
  have K2 := K.wr W2 (Or.inl (by simp))
  refine EndsIn.by (B := T2.setTop (mkF m 9 #[.val (.ref o0), .val (.ref o1)] [])) (fun t k => st2 t k) ?_
  subst hr
  exact own_ret0 X2 hx hlk hret (hb hby d2_9) (by decide) (by decide) ⟨rfl, N2, (by rw [e2]; exact K2), (by rw [e2]; exact E_o0_2), (by rw [e2]; exact F_o0_data_2), (by rw [e2]; exact F_o0_position_2)⟩
theorem ef_2 (m : MethodId) (o0 : Addr) (o1 : Addr) : entryFrame m #[(.ref o0), (.ref o1)] 2 = (mkF m 0 #[.val (.ref o0), .val (.ref o1)] []) := by first | (simp [entryFrame, mkF, argsToLocals, Value.category]; done) | rfl
set_option maxRecDepth 65536 in
set_option maxHeartbeats 40000000 in
theorem rm2 (l : Launch) (Z : State) (a0 : Array Value) (hw : ∀ d ∈ tables_1, d.before a0 Z = true) (ws : List Jvm.Cond) (o0 : Addr) (o1 : Addr) (o0_data : Value) (o0_position : Int32) (h0 : Heap) (n0 : Nat) (Z0 : n0 ≤ h0.size) (E_o0 : Exa Z h0 o0 "com/example/pure_mrtd/puremrtd/format/TlvReader") (F_o0_data : Fld Z h0 o0 "com/example/pure_mrtd/puremrtd/format/TlvReader" "data" "[B" o0_data) (F_o0_position : Fld Z h0 o0 "com/example/pure_mrtd/puremrtd/format/TlvReader" "position" "I" (.int o0_position)) (g_o0 : n0 ≤ o0) :
    MetFree l (⟨"com/example/pure_mrtd/puremrtd/format/TlvReader", "<init>", "([B)V"⟩ : MethodName) (head1 (Jvm.Cond.code (⟨"com/example/pure_mrtd/puremrtd/format/TlvReader", "<init>", "([B)V"⟩ : MethodName) prog_27_method_1_code 2 none :: ws) R2) (fun a U => a = #[(.ref o0), (.ref o1)] ∧ Z.Warmed39 U.vm ∧ U.heap = h0) (fun _ _ _ _ _ => True) (fun _ U o U' => ∃ v L, o = .returned v ∧ (Q2 Z o0 o1 h0 n0 (f2_0 o0_position)) v U'.heap L ∧ FrameEnd U o U' L R2.cells R2.slots) := by
  refine MetFree.of_bodySF (plainFor_of_name pn_2) hisR ?_
  intro p e s m args below meth c s₁ Bd hml0 hP hK
  obtain ⟨rfl, hZ, hh⟩ := hP
  have B : Ctx p Z s a0 m meth c "com/example/pure_mrtd/puremrtd/format/TlvReader" "<init>" prog_27_method_1_code 2 none := ⟨Bd.exec, hZ, hw, Bd.bytes, hml0, Bd.returns, findClass_of_methodNamed Bd.named, (name_of_methodNamed Bd.named Bd.method).1, Bd.notSynchronized⟩
  have X0 : Stand p l e R2 s m #[(.ref o0), (.ref o1)] below meth c s₁ [] 0 0 := Stand.of_body Bd
  have e0 : s₁.heap = h0 := by rw [← hh, Bd.state]; rfl
  have K := Keep.refl h0 [o0]
  show EndsIn p e below s R2.cells R2.slots (Q2 Z o0 o1 h0 n0 (f2_0 o0_position)) (s₁.setTop (entryFrame m #[(.ref o0), (.ref o1)] 2))
  refine EndsIn.by (fun t k => castTop (ef_2 m o0 o1) k) ?_
  exact b2_0 B h0 n0 o0 o1 o0_data o0_position X0 e0 (Fr.nil n0) Z0 K E_o0 F_o0_data F_o0_position g_o0 _ rfl
theorem pd_1 : parseMethodDescriptor "([B)V" = some ⟨[(.array .byte)], none⟩ := by decide +kernel
theorem d4_0 : decode prog_27_method_4_code 0 = .ok (.aload_n 0, 1) := by decide +kernel
theorem d4_1 : decode prog_27_method_4_code 1 = .ok (.getfield 65, 3) := by decide +kernel
theorem d4_4 : decode prog_27_method_4_code 4 = .ok (.aload_n 0, 1) := by decide +kernel
theorem d4_5 : decode prog_27_method_4_code 5 = .ok (.getfield 7, 3) := by decide +kernel
theorem d4_8 : decode prog_27_method_4_code 8 = .ok (.arraylength, 1) := by decide +kernel
theorem d4_9 : decode prog_27_method_4_code 9 = .ok (.if_icmp .ge 7, 3) := by decide +kernel
theorem d4_12 : decode prog_27_method_4_code 12 = .ok (.iconst 1, 1) := by decide +kernel
theorem d4_13 : decode prog_27_method_4_code 13 = .ok (.goto 4, 3) := by decide +kernel
theorem d4_16 : decode prog_27_method_4_code 16 = .ok (.iconst 0, 1) := by decide +kernel
theorem d4_17 : decode prog_27_method_4_code 17 = .ok (.ireturn, 1) := by decide +kernel
theorem pn_4 : plainName "com/example/pure_mrtd/puremrtd/format/TlvReader" = true := by first | (simp [plainName, overriddenIn]; done) | decide +kernel
def R4 : Room := { frames := 0, cells := 0, slots := 0, locals := 0 }
def Q4 (Z : State)  (h0 : Heap) (n0 : Nat) (r : Int32) (v : Option Value) (h : Heap) (L : List Loc) : Prop := v = some (.int r) ∧ Fr n0 L ∧ h = h0
def f4_0 (o0_position : Int32) (d_n : Int32) (d_xs : List Int32) : Int32 := (if o0_position < d_n then (1 : Int32) else (0 : Int32))
set_option maxRecDepth 65536 in
set_option maxHeartbeats 40000000 in
theorem b4_0 {p : Program} {l : Launch} {e : Env} {s : State} {m : MethodId} {args : Array Value} {below : List Frame} {meth : Method} {c : Code} {Z : State} {a0 : Array Value} (B : Ctx p Z s a0 m meth c "com/example/pure_mrtd/puremrtd/format/TlvReader" "hasNext" prog_27_method_4_code 1 (some .boolean)) {T0 : State} {locs : List Loc} {h : Heap} (h0 : Heap) (n0 : Nat) (o0 : Addr) (d : Addr) (o0_position : Int32) (d_k : ClassId) (d_n : Int32) (d_xs : List Int32) (X0 : Stand p l e R4 s m args below meth c T0 locs 0 0) (e0 : T0.heap = h) (N0 : Fr n0 locs) (Z0 : n0 ≤ h.size) (hh0 : h = h0) (E_o0 : Exa Z h o0 "com/example/pure_mrtd/puremrtd/format/TlvReader") (F_o0_data : Fld Z h o0 "com/example/pure_mrtd/puremrtd/format/TlvReader" "data" "[B" (.ref d)) (F_o0_position : Fld Z h o0 "com/example/pure_mrtd/puremrtd/format/TlvReader" "position" "I" (.int o0_position)) (V_d : Arv Z h d d_k .byte d_n (d_xs.map Value.int) (.int 0)) (ln_d : d_xs.length = d_n.toNatClampNeg) (r : Int32) (hr : f4_0 o0_position d_n d_xs = r) :
    EndsIn p e below s R4.cells R4.slots (Q4 Z  h0 n0 r) (T0.setTop (mkF m 0 #[.val (.ref o0)] [])) := by
  obtain ⟨hx, hZ, hw, hby, hml, hret, hown, hnm, hlk⟩ := B
  unfold f4_0 at hr
  refine EndsIn.by (B := T0.setTop (mkF m 1 #[.val (.ref o0)] [(.ref o0)])) (fun t k => ?_) ?_
  · show Steps p.tables e below (T0.setTop (mkF m 0 #[.val (.ref o0)] [])) _
    refine XS.aloadN X0.here hx rfl (hb hby d4_0) rfl rfl ?_
    exact k
  obtain ⟨T1, X1, e1, st1⟩ := getF X0 hx hZ hown (host := "") (Or.inl (hw _ (List.mem_of_getElem? (i := 21) rfl))) Via.refl e0 F_o0_position (g := (mkF m 1 #[.val (.ref o0)] [(.ref o0)])) rfl rfl (hb hby d4_1)
  refine EndsIn.by (B := T1.setTop (mkF m 4 #[.val (.ref o0)] [(.int o0_position)])) (fun t k => st1 t k) ?_
  refine EndsIn.by (B := T1.setTop (mkF m 5 #[.val (.ref o0)] [(.ref o0), (.int o0_position)])) (fun t k => ?_) ?_
  · show Steps p.tables e below (T1.setTop (mkF m 4 #[.val (.ref o0)] [(.int o0_position)])) _
    refine XS.aloadN X1.here hx rfl (hb hby d4_4) rfl rfl ?_
    exact k
  obtain ⟨T2, X2, e2, st2⟩ := getF X1 hx hZ hown (host := "") (Or.inl (hw _ (List.mem_of_getElem? (i := 14) rfl))) Via.refl e1 F_o0_data (g := (mkF m 5 #[.val (.ref o0)] [(.ref o0), (.int o0_position)])) rfl rfl (hb hby d4_5)
  refine EndsIn.by (B := T2.setTop (mkF m 8 #[.val (.ref o0)] [(.ref d), (.int o0_position)])) (fun t k => st2 t k) ?_
  have V3 := V_d
  obtain ⟨cl3, Ar3, -, S3, M3, -, -⟩ := V3
  refine EndsIn.by (B := T2.setTop (mkF m 9 #[.val (.ref o0)] [(.int d_n), (.int o0_position)])) (fun t k => ?_) ?_
  · show Steps p.tables e below (T2.setTop (mkF m 8 #[.val (.ref o0)] [(.ref d), (.int o0_position)])) _
    refine X2.arraylength hx (by rw [e2]; exact Ar3.1) (State.isArrayOf_alike hZ.alike Ar3.2.1) (g := (mkF m 8 #[.val (.ref o0)] [(.ref d), (.int o0_position)])) rfl rfl (hb hby d4_8) _ ?_
    rw [len_of S3 M3]
    exact k
  by_cases hc9 : o0_position < d_n
  · rw [if_pos hc9] at hr
    refine EndsIn.by (B := T2.setTop (mkF m 12 #[.val (.ref o0)] [])) (fun t k => ?_) ?_
    · show Steps p.tables e below (T2.setTop (mkF m 9 #[.val (.ref o0)] [(.int d_n), (.int o0_position)])) _
      exact XS.icmpNo X2.here hx rfl (hb hby d4_9) rfl (tlt hc9).2.1 k
    refine EndsIn.by (B := T2.setTop (mkF m 17 #[.val (.ref o0)] [(.int (1 : Int32))])) (fun t k => ?_) ?_
    · show Steps p.tables e below (T2.setTop (mkF m 12 #[.val (.ref o0)] [])) _
      refine XS.iconst X2.here hx rfl (hb hby d4_12) ?_
      show Steps p.tables e below (T2.setTop (mkF m 13 #[.val (.ref o0)] [(.int (1 : Int32))])) _
      refine XS.goto X2.here hx rfl (pc0 := 13) (pc' := 17) rfl (hb hby d4_13) (by decide) (by decide) ?_
      exact k
    subst hr
    exact own_retN X2 hx hlk (t := .boolean) hret (by simp) (hb hby d4_17) (by decide) (by decide) ⟨rfl, N0, (e2.trans hh0)⟩
  · rw [if_neg hc9] at hr
    refine EndsIn.by (B := T2.setTop (mkF m 16 #[.val (.ref o0)] [])) (fun t k => ?_) ?_
    · show Steps p.tables e below (T2.setTop (mkF m 9 #[.val (.ref o0)] [(.int d_n), (.int o0_position)])) _
      exact XS.icmpYes X2.here hx rfl (pc0 := 9) (pc' := 16) rfl (hb hby d4_9) rfl (flt hc9).2.1 (by decide) (by decide) k
    refine EndsIn.by (B := T2.setTop (mkF m 17 #[.val (.ref o0)] [(.int (0 : Int32))])) (fun t k => ?_) ?_
    · show Steps p.tables e below (T2.setTop (mkF m 16 #[.val (.ref o0)] [])) _
      refine XS.iconst X2.here hx rfl (hb hby d4_16) ?_
      exact k
    subst hr
    exact own_retN X2 hx hlk (t := .boolean) hret (by simp) (hb hby d4_17) (by decide) (by decide) ⟨rfl, N0, (e2.trans hh0)⟩
theorem ef_4 (m : MethodId) (o0 : Addr) : entryFrame m #[(.ref o0)] 1 = (mkF m 0 #[.val (.ref o0)] []) := by first | (simp [entryFrame, mkF, argsToLocals, Value.category]; done) | rfl
set_option maxRecDepth 65536 in
set_option maxHeartbeats 40000000 in
theorem rm4 (l : Launch) (Z : State) (a0 : Array Value) (hw : ∀ d ∈ tables_1, d.before a0 Z = true) (ws : List Jvm.Cond) (o0 : Addr) (d : Addr) (o0_position : Int32) (d_k : ClassId) (d_n : Int32) (d_xs : List Int32) (h0 : Heap) (n0 : Nat) (Z0 : n0 ≤ h0.size) (E_o0 : Exa Z h0 o0 "com/example/pure_mrtd/puremrtd/format/TlvReader") (F_o0_data : Fld Z h0 o0 "com/example/pure_mrtd/puremrtd/format/TlvReader" "data" "[B" (.ref d)) (F_o0_position : Fld Z h0 o0 "com/example/pure_mrtd/puremrtd/format/TlvReader" "position" "I" (.int o0_position)) (V_d : Arv Z h0 d d_k .byte d_n (d_xs.map Value.int) (.int 0)) (ln_d : d_xs.length = d_n.toNatClampNeg) :
    MetFree l (⟨"com/example/pure_mrtd/puremrtd/format/TlvReader", "hasNext", "()Z"⟩ : MethodName) (head1 (Jvm.Cond.code (⟨"com/example/pure_mrtd/puremrtd/format/TlvReader", "hasNext", "()Z"⟩ : MethodName) prog_27_method_4_code 1 (some .boolean) :: ws) R4) (fun a U => a = #[(.ref o0)] ∧ Z.Warmed39 U.vm ∧ U.heap = h0) (fun _ _ _ _ _ => True) (fun _ U o U' => ∃ v L, o = .returned v ∧ (Q4 Z  h0 n0 (f4_0 o0_position d_n d_xs)) v U'.heap L ∧ FrameEnd U o U' L R4.cells R4.slots) := by
  refine MetFree.of_bodySF (plainFor_of_name pn_4) hisR ?_
  intro p e s m args below meth c s₁ Bd hml0 hP hK
  obtain ⟨rfl, hZ, hh⟩ := hP
  have B : Ctx p Z s a0 m meth c "com/example/pure_mrtd/puremrtd/format/TlvReader" "hasNext" prog_27_method_4_code 1 (some .boolean) := ⟨Bd.exec, hZ, hw, Bd.bytes, hml0, Bd.returns, findClass_of_methodNamed Bd.named, (name_of_methodNamed Bd.named Bd.method).1, Bd.notSynchronized⟩
  have X0 : Stand p l e R4 s m #[(.ref o0)] below meth c s₁ [] 0 0 := Stand.of_body Bd
  have e0 : s₁.heap = h0 := by rw [← hh, Bd.state]; rfl
  have K := Keep.refl h0 []
  show EndsIn p e below s R4.cells R4.slots (Q4 Z  h0 n0 (f4_0 o0_position d_n d_xs)) (s₁.setTop (entryFrame m #[(.ref o0)] 1))
  refine EndsIn.by (fun t k => castTop (ef_4 m o0) k) ?_
  exact b4_0 B h0 n0 o0 d o0_position d_k d_n d_xs X0 e0 (Fr.nil n0) Z0 rfl E_o0 F_o0_data F_o0_position V_d ln_d _ rfl
theorem pd_2 : parseMethodDescriptor "()Z" = some ⟨[], some .boolean⟩ := by decide +kernel
theorem d8_0 : decode prog_27_method_9_code 0 = .ok (.iload_n 1, 1) := by decide +kernel
theorem d8_1 : decode prog_27_method_9_code 1 = .ok (.aload_n 0, 1) := by decide +kernel
theorem d8_2 : decode prog_27_method_9_code 2 = .ok (.getfield 7, 3) := by decide +kernel
theorem d8_5 : decode prog_27_method_9_code 5 = .ok (.arraylength, 1) := by decide +kernel
theorem d8_6 : decode prog_27_method_9_code 6 = .ok (.if_icmp .lt 20, 3) := by decide +kernel
theorem d8_26 : decode prog_27_method_9_code 26 = .ok (.aload_n 0, 1) := by decide +kernel
theorem d8_27 : decode prog_27_method_9_code 27 = .ok (.getfield 7, 3) := by decide +kernel
theorem d8_30 : decode prog_27_method_9_code 30 = .ok (.iload_n 1, 1) := by decide +kernel
theorem d8_31 : decode prog_27_method_9_code 31 = .ok (.baload, 1) := by decide +kernel
theorem d8_32 : decode prog_27_method_9_code 32 = .ok (.sipush 255, 3) := by decide +kernel
theorem d8_35 : decode prog_27_method_9_code 35 = .ok (.iand, 1) := by decide +kernel
theorem d8_36 : decode prog_27_method_9_code 36 = .ok (.ireturn, 1) := by decide +kernel
theorem pn_8 : plainName "com/example/pure_mrtd/puremrtd/format/TlvReader" = true := by first | (simp [plainName, overriddenIn]; done) | decide +kernel
def R8 : Room := { frames := 0, cells := 0, slots := 0, locals := 0 }
def Q8 (Z : State)  (h0 : Heap) (n0 : Nat) (r : Int32) (v : Option Value) (h : Heap) (L : List Loc) : Prop := v = some (.int r) ∧ Fr n0 L ∧ h = h0
def f8_0 (v1 : Int32) (o0_position : Int32) (d_n : Int32) (d_xs : List Int32) : Int32 := ((own_at d_xs v1) &&& (255 : Int32))
set_option maxRecDepth 65536 in
set_option maxHeartbeats 40000000 in
theorem b8_0 {p : Program} {l : Launch} {e : Env} {s : State} {m : MethodId} {args : Array Value} {below : List Frame} {meth : Method} {c : Code} {Z : State} {a0 : Array Value} (B : Ctx p Z s a0 m meth c "com/example/pure_mrtd/puremrtd/format/TlvReader" "byteAt" prog_27_method_9_code 2 (some .int)) {T0 : State} {locs : List Loc} {h : Heap} (h0 : Heap) (n0 : Nat) (o0 : Addr) (v1 : Int32) (d : Addr) (o0_position : Int32) (d_k : ClassId) (d_n : Int32) (d_xs : List Int32) (X0 : Stand p l e R8 s m args below meth c T0 locs 0 0) (e0 : T0.heap = h) (N0 : Fr n0 locs) (Z0 : n0 ≤ h.size) (hh0 : h = h0) (E_o0 : Exa Z h o0 "com/example/pure_mrtd/puremrtd/format/TlvReader") (F_o0_data : Fld Z h o0 "com/example/pure_mrtd/puremrtd/format/TlvReader" "data" "[B" (.ref d)) (F_o0_position : Fld Z h o0 "com/example/pure_mrtd/puremrtd/format/TlvReader" "position" "I" (.int o0_position)) (V_d : Arv Z h d d_k .byte d_n (d_xs.map Value.int) (.int 0)) (ln_d : d_xs.length = d_n.toNatClampNeg) (hi : ¬ (v1 < 0) ∧ v1 < d_n) (r : Int32) (hr : f8_0 v1 o0_position d_n d_xs = r) :
    EndsIn p e below s R8.cells R8.slots (Q8 Z  h0 n0 r) (T0.setTop (mkF m 0 #[.val (.ref o0), .val (.int v1)] [])) := by
  obtain ⟨hx, hZ, hw, hby, hml, hret, hown, hnm, hlk⟩ := B
  unfold f8_0 at hr
  refine EndsIn.by (B := T0.setTop (mkF m 2 #[.val (.ref o0), .val (.int v1)] [(.ref o0), (.int v1)])) (fun t k => ?_) ?_
  · show Steps p.tables e below (T0.setTop (mkF m 0 #[.val (.ref o0), .val (.int v1)] [])) _
    refine XS.iloadN X0.here hx rfl (hb hby d8_0) rfl  ?_
    show Steps p.tables e below (T0.setTop (mkF m 1 #[.val (.ref o0), .val (.int v1)] [(.int v1)])) _
    refine XS.aloadN X0.here hx rfl (hb hby d8_1) rfl rfl ?_
    exact k
  obtain ⟨T1, X1, e1, st1⟩ := getF X0 hx hZ hown (host := "") (Or.inl (hw _ (List.mem_of_getElem? (i := 14) rfl))) Via.refl e0 F_o0_data (g := (mkF m 2 #[.val (.ref o0), .val (.int v1)] [(.ref o0), (.int v1)])) rfl rfl (hb hby d8_2)
  refine EndsIn.by (B := T1.setTop (mkF m 5 #[.val (.ref o0), .val (.int v1)] [(.ref d), (.int v1)])) (fun t k => st1 t k) ?_
  have V2 := V_d
  obtain ⟨cl2, Ar2, -, S2, M2, -, -⟩ := V2
  refine EndsIn.by (B := T1.setTop (mkF m 6 #[.val (.ref o0), .val (.int v1)] [(.int d_n), (.int v1)])) (fun t k => ?_) ?_
  · show Steps p.tables e below (T1.setTop (mkF m 5 #[.val (.ref o0), .val (.int v1)] [(.ref d), (.int v1)])) _
    refine X1.arraylength hx (by rw [e1]; exact Ar2.1) (State.isArrayOf_alike hZ.alike Ar2.2.1) (g := (mkF m 5 #[.val (.ref o0), .val (.int v1)] [(.ref d), (.int v1)])) rfl rfl (hb hby d8_5) _ ?_
    rw [len_of S2 M2]
    exact k
  have hc6 : v1 < d_n := hi.2
  refine EndsIn.by (B := T1.setTop (mkF m 26 #[.val (.ref o0), .val (.int v1)] [])) (fun t k => ?_) ?_
  · show Steps p.tables e below (T1.setTop (mkF m 6 #[.val (.ref o0), .val (.int v1)] [(.int d_n), (.int v1)])) _
    exact XS.icmpYes X1.here hx rfl (pc0 := 6) (pc' := 26) rfl (hb hby d8_6) rfl (tlt hc6).1 (by decide) (by decide) k
  refine EndsIn.by (B := T1.setTop (mkF m 27 #[.val (.ref o0), .val (.int v1)] [(.ref o0)])) (fun t k => ?_) ?_
  · show Steps p.tables e below (T1.setTop (mkF m 26 #[.val (.ref o0), .val (.int v1)] [])) _
    refine XS.aloadN X1.here hx rfl (hb hby d8_26) rfl rfl ?_
    exact k
  obtain ⟨T3, X3, e3, st3⟩ := getF X1 hx hZ hown (host := "") (Or.inl (hw _ (List.mem_of_getElem? (i := 14) rfl))) Via.refl e1 F_o0_data (g := (mkF m 27 #[.val (.ref o0), .val (.int v1)] [(.ref o0)])) rfl rfl (hb hby d8_27)
  refine EndsIn.by (B := T3.setTop (mkF m 30 #[.val (.ref o0), .val (.int v1)] [(.ref d)])) (fun t k => st3 t k) ?_
  refine EndsIn.by (B := T3.setTop (mkF m 31 #[.val (.ref o0), .val (.int v1)] [(.int v1), (.ref d)])) (fun t k => ?_) ?_
  · show Steps p.tables e below (T3.setTop (mkF m 30 #[.val (.ref o0), .val (.int v1)] [(.ref d)])) _
    refine XS.iloadN X3.here hx rfl (hb hby d8_30) rfl  ?_
    exact k
  have hin4 : ¬ (v1 < 0) ∧ v1 < d_n := hi
  obtain ⟨cl4, Ar4, hi4, q4⟩ := own_readI V_d hin4 _ rfl
  refine EndsIn.by (B := T3.setTop (mkF m 32 #[.val (.ref o0), .val (.int v1)] [(.int (own_at d_xs v1))])) (fun t k => ?_) ?_
  · show Steps p.tables e below (T3.setTop (mkF m 31 #[.val (.ref o0), .val (.int v1)] [(.int v1), (.ref d)])) _
    exact X3.baloadBytes hx (j := v1) (v := (.int (own_at d_xs v1))) (by rw [e3]; exact Ar4.1) (State.isArrayOf_alike hZ.alike Ar4.2.1) Ar4.2.2 hi4 q4 (g := (mkF m 31 #[.val (.ref o0), .val (.int v1)] [(.int v1), (.ref d)])) rfl rfl (hb hby d8_31) _ k
  refine EndsIn.by (B := T3.setTop (mkF m 36 #[.val (.ref o0), .val (.int v1)] [(.int ((own_at d_xs v1) &&& (255 : Int32)))])) (fun t k => ?_) ?_
  · show Steps p.tables e below (T3.setTop (mkF m 32 #[.val (.ref o0), .val (.int v1)] [(.int (own_at d_xs v1))])) _
    refine XS.sipush X3.here hx rfl (hb hby d8_32) ?_
    show Steps p.tables e below (T3.setTop (mkF m 35 #[.val (.ref o0), .val (.int v1)] [(.int (255 : Int32)), (.int (own_at d_xs v1))])) _
    refine XS.iand X3.here hx rfl (hb hby d8_35) rfl ?_
    exact k
  subst hr
  exact own_retI X3 hx hlk hret (hb hby d8_36) (by decide) (by decide) ⟨rfl, N0, (e3.trans hh0)⟩
theorem ef_8 (m : MethodId) (o0 : Addr) (v1 : Int32) : entryFrame m #[(.ref o0), (.int v1)] 2 = (mkF m 0 #[.val (.ref o0), .val (.int v1)] []) := by first | (simp [entryFrame, mkF, argsToLocals, Value.category]; done) | rfl
set_option maxRecDepth 65536 in
set_option maxHeartbeats 40000000 in
theorem rm8 (l : Launch) (Z : State) (a0 : Array Value) (hw : ∀ d ∈ tables_1, d.before a0 Z = true) (ws : List Jvm.Cond) (o0 : Addr) (v1 : Int32) (d : Addr) (o0_position : Int32) (d_k : ClassId) (d_n : Int32) (d_xs : List Int32) (h0 : Heap) (n0 : Nat) (Z0 : n0 ≤ h0.size) (E_o0 : Exa Z h0 o0 "com/example/pure_mrtd/puremrtd/format/TlvReader") (F_o0_data : Fld Z h0 o0 "com/example/pure_mrtd/puremrtd/format/TlvReader" "data" "[B" (.ref d)) (F_o0_position : Fld Z h0 o0 "com/example/pure_mrtd/puremrtd/format/TlvReader" "position" "I" (.int o0_position)) (V_d : Arv Z h0 d d_k .byte d_n (d_xs.map Value.int) (.int 0)) (ln_d : d_xs.length = d_n.toNatClampNeg) (hi : ¬ (v1 < 0) ∧ v1 < d_n) :
    MetFree l (⟨"com/example/pure_mrtd/puremrtd/format/TlvReader", "byteAt", "(I)I"⟩ : MethodName) (head1 (Jvm.Cond.code (⟨"com/example/pure_mrtd/puremrtd/format/TlvReader", "byteAt", "(I)I"⟩ : MethodName) prog_27_method_9_code 2 (some .int) :: ws) R8) (fun a U => a = #[(.ref o0), (.int v1)] ∧ Z.Warmed39 U.vm ∧ U.heap = h0) (fun _ _ _ _ _ => True) (fun _ U o U' => ∃ v L, o = .returned v ∧ (Q8 Z  h0 n0 (f8_0 v1 o0_position d_n d_xs)) v U'.heap L ∧ FrameEnd U o U' L R8.cells R8.slots) := by
  refine MetFree.of_bodySF (plainFor_of_name pn_8) hisR ?_
  intro p e s m args below meth c s₁ Bd hml0 hP hK
  obtain ⟨rfl, hZ, hh⟩ := hP
  have B : Ctx p Z s a0 m meth c "com/example/pure_mrtd/puremrtd/format/TlvReader" "byteAt" prog_27_method_9_code 2 (some .int) := ⟨Bd.exec, hZ, hw, Bd.bytes, hml0, Bd.returns, findClass_of_methodNamed Bd.named, (name_of_methodNamed Bd.named Bd.method).1, Bd.notSynchronized⟩
  have X0 : Stand p l e R8 s m #[(.ref o0), (.int v1)] below meth c s₁ [] 0 0 := Stand.of_body Bd
  have e0 : s₁.heap = h0 := by rw [← hh, Bd.state]; rfl
  have K := Keep.refl h0 []
  show EndsIn p e below s R8.cells R8.slots (Q8 Z  h0 n0 (f8_0 v1 o0_position d_n d_xs)) (s₁.setTop (entryFrame m #[(.ref o0), (.int v1)] 2))
  refine EndsIn.by (fun t k => castTop (ef_8 m o0 v1) k) ?_
  exact b8_0 B h0 n0 o0 v1 d o0_position d_k d_n d_xs X0 e0 (Fr.nil n0) Z0 rfl E_o0 F_o0_data F_o0_position V_d ln_d hi _ rfl
theorem pd_3 : parseMethodDescriptor "(I)I" = some ⟨[.int], some .int⟩ := by decide +kernel
theorem d9_0 : decode prog_28_method_1_code 0 = .ok (.aload_n 0, 1) := by decide +kernel
theorem d9_1 : decode prog_28_method_1_code 1 = .ok (.invokespecial 1, 3) := by decide +kernel
theorem d9_4 : decode prog_28_method_1_code 4 = .ok (.aload_n 0, 1) := by decide +kernel
theorem d9_5 : decode prog_28_method_1_code 5 = .ok (.iload_n 1, 1) := by decide +kernel
theorem d9_6 : decode prog_28_method_1_code 6 = .ok (.putfield 7, 3) := by decide +kernel
theorem d9_9 : decode prog_28_method_1_code 9 = .ok (.aload_n 0, 1) := by decide +kernel
theorem d9_10 : decode prog_28_method_1_code 10 = .ok (.iload_n 2, 1) := by decide +kernel
theorem d9_11 : decode prog_28_method_1_code 11 = .ok (.putfield 13, 3) := by decide +kernel
theorem d9_14 : decode prog_28_method_1_code 14 = .ok (.aload_n 0, 1) := by decide +kernel
theorem d9_15 : decode prog_28_method_1_code 15 = .ok (.iload_n 3, 1) := by decide +kernel
theorem d9_16 : decode prog_28_method_1_code 16 = .ok (.putfield 16, 3) := by decide +kernel
theorem d9_19 : decode prog_28_method_1_code 19 = .ok (.return_, 1) := by decide +kernel
theorem pn_9 : plainName "com/example/pure_mrtd/puremrtd/format/TlvReader$Header" = true := by first | (simp [plainName, overriddenIn]; done) | decide +kernel
def R9 : Room := { frames := 1, cells := 0, slots := 0, locals := 12 }
def Q9 (Z : State) (o0 : Addr) (h0 : Heap) (n0 : Nat) (r : Int32 × Int32 × Int32) (v : Option Value) (h : Heap) (L : List Loc) : Prop := v = none ∧ Fr n0 L ∧ Keep h0 h [o0] ∧ Exa Z h o0 "com/example/pure_mrtd/puremrtd/format/TlvReader$Header" ∧ Fld Z h o0 "com/example/pure_mrtd/puremrtd/format/TlvReader$Header" "tag" "I" (.int r.1) ∧ Fld Z h o0 "com/example/pure_mrtd/puremrtd/format/TlvReader$Header" "valueStart" "I" (.int r.2.1) ∧ Fld Z h o0 "com/example/pure_mrtd/puremrtd/format/TlvReader$Header" "length" "I" (.int r.2.2)
def f9_0 (v1 : Int32) (v2 : Int32) (v3 : Int32) (o0_tag : Int32) (o0_valueStart : Int32) (o0_length : Int32) : Int32 × Int32 × Int32 := (v1, v2, v3)
set_option maxRecDepth 65536 in
set_option maxHeartbeats 40000000 in
theorem b9_0 {p : Program} {l : Launch} {e : Env} {s : State} {m : MethodId} {args : Array Value} {below : List Frame} {meth : Method} {c : Code} {Z : State} {a0 : Array Value} (B : Ctx p Z s a0 m meth c "com/example/pure_mrtd/puremrtd/format/TlvReader$Header" "<init>" prog_28_method_1_code 4 none) {T0 : State} {locs : List Loc} {h : Heap} (h0 : Heap) (n0 : Nat) (o0 : Addr) (v1 : Int32) (v2 : Int32) (v3 : Int32) (o0_tag : Int32) (o0_valueStart : Int32) (o0_length : Int32) (X0 : Stand p l e R9 s m args below meth c T0 locs 0 0) (e0 : T0.heap = h) (N0 : Fr n0 locs) (Z0 : n0 ≤ h.size) (K : Keep h0 h [o0]) (E_o0 : Exa Z h o0 "com/example/pure_mrtd/puremrtd/format/TlvReader$Header") (F_o0_tag : Fld Z h o0 "com/example/pure_mrtd/puremrtd/format/TlvReader$Header" "tag" "I" (.int o0_tag)) (F_o0_valueStart : Fld Z h o0 "com/example/pure_mrtd/puremrtd/format/TlvReader$Header" "valueStart" "I" (.int o0_valueStart)) (F_o0_length : Fld Z h o0 "com/example/pure_mrtd/puremrtd/format/TlvReader$Header" "length" "I" (.int o0_length)) (g_o0 : n0 ≤ o0) (r : Int32 × Int32 × Int32) (hr : f9_0 v1 v2 v3 o0_tag o0_valueStart o0_length = r) :
    EndsIn p e below s R9.cells R9.slots (Q9 Z o0 h0 n0 r) (T0.setTop (mkF m 0 #[.val (.ref o0), .val (.int v1), .val (.int v2), .val (.int v3)] [])) := by
  obtain ⟨hx, hZ, hw, hby, hml, hret, hown, hnm, hlk⟩ := B
  unfold f9_0 at hr
  refine EndsIn.by (B := T0.setTop (mkF m 1 #[.val (.ref o0), .val (.int v1), .val (.int v2), .val (.int v3)] [(.ref o0)])) (fun t k => ?_) ?_
  · show Steps p.tables e below (T0.setTop (mkF m 0 #[.val (.ref o0), .val (.int v1), .val (.int v2), .val (.int v3)] [])) _
    refine XS.aloadN X0.here hx rfl (hb hby d9_0) rfl rfl ?_
    exact k
  obtain ⟨T1, X1, e1, st1⟩ := initO X0 hx hZ hown (hw _ (List.mem_of_getElem? (i := 45) rfl)) (hw _ (List.mem_of_getElem? (i := 12) rfl)) (hw _ (List.mem_of_getElem? (i := 13) rfl)) e0 (g := (mkF m 1 #[.val (.ref o0), .val (.int v1), .val (.int v2), .val (.int v3)] [(.ref o0)])) rfl (by rw [hml]; rfl) rfl (hb hby d9_1) (by decide) (W := 0) (by show 2 * 0 + _ ≤ _; exact Nat.le_of_eq rfl) (by decide)
  refine EndsIn.by (B := T1.setTop (mkF m 4 #[.val (.ref o0), .val (.int v1), .val (.int v2), .val (.int v3)] [])) (fun t k => st1 t k) ?_
  refine EndsIn.by (B := T1.setTop (mkF m 6 #[.val (.ref o0), .val (.int v1), .val (.int v2), .val (.int v3)] [(.int v1), (.ref o0)])) (fun t k => ?_) ?_
  · show Steps p.tables e below (T1.setTop (mkF m 4 #[.val (.ref o0), .val (.int v1), .val (.int v2), .val (.int v3)] [])) _
    refine XS.aloadN X1.here hx rfl (hb hby d9_4) rfl rfl ?_
    show Steps p.tables e below (T1.setTop (mkF m 5 #[.val (.ref o0), .val (.int v1), .val (.int v2), .val (.int v3)] [(.ref o0)])) _
    refine XS.iloadN X1.here hx rfl (hb hby d9_5) rfl  ?_
    exact k
  obtain ⟨T2, h2, X2, e2, W2, st2⟩ := putF X1 hx hZ hown (host := "") (Or.inl (hw _ (List.mem_of_getElem? (i := 46) rfl))) Via.refl e1 F_o0_tag E_o0 (Or.inr ⟨(hw _ (List.mem_of_getElem? (i := 47) rfl)), rfl, hnm⟩) (hw _ (List.mem_of_getElem? (i := 40) rfl)) (ty := .int) (by decide) rfl rfl (g := (mkF m 6 #[.val (.ref o0), .val (.int v1), .val (.int v2), .val (.int v3)] [(.int v1), (.ref o0)])) rfl rfl (hb hby d9_6)
  have E_o0_2 := E_o0.wr W2
  have F_o0_tag_2 := F_o0_tag.same W2
  have F_o0_valueStart_2 := F_o0_valueStart.other W2 (Or.inr (slot_ne (Or.inr (hw _ (List.mem_of_getElem? (i := 49) rfl))) (Or.inr (hw _ (List.mem_of_getElem? (i := 47) rfl))) (by decide) (t := .int) (t' := .int) (by decide) (by decide)))
  have F_o0_length_2 := F_o0_length.other W2 (Or.inr (slot_ne (Or.inr (hw _ (List.mem_of_getElem? (i := 51) rfl))) (Or.inr (hw _ (List.mem_of_getElem? (i := 47) rfl))) (by decide) (t := .int) (t' := .int) (by decide) (by decide)))
  have N2 := Fr.snoc X2 N0 g_o0
  have Z2 : n0 ≤ h2.size := Nat.le_trans Z0 (Nat.le_of_eq W2.size.symm)
  have K2 := K.wr W2 (Or.inl (by simp))
  refine EndsIn.by (B := T2.setTop (mkF m 9 #[.val (.ref o0), .val (.int v1), .val (.int v2), .val (.int v3)] [])) (fun t k => st2 t k) ?_
  refine EndsIn.by (B := T2.setTop (mkF m 11 #[.val (.ref o0), .val (.int v1), .val (.int v2), .val (.int v3)] [(.int v2), (.ref o0)])) (fun t k => ?_) ?_
  · show Steps p.tables e below (T2.setTop (mkF m 9 #[.val (.ref o0), .val (.int v1), .val (.int v2), .val (.int v3)] [])) _
    refine XS.aloadN X2.here hx rfl (hb hby d9_9) rfl rfl ?_
    show Steps p.tables e below (T2.setTop (mkF m 10 #[.val (.ref o0), .val (.int v1), .val (.int v2), .val (.int v3)] [(.ref o0)])) _
    refine XS.iloadN X2.here hx rfl (hb hby d9_10) rfl  ?_
    exact k
  obtain ⟨T3, h3, X3, e3, W3, st3⟩ := putF X2 hx hZ hown (host := "") (Or.inl (hw _ (List.mem_of_getElem? (i := 48) rfl))) Via.refl e2 F_o0_valueStart_2 E_o0_2 (Or.inr ⟨(hw _ (List.mem_of_getElem? (i := 49) rfl)), rfl, hnm⟩) (hw _ (List.mem_of_getElem? (i := 40) rfl)) (ty := .int) (by decide) rfl rfl (g := (mkF m 11 #[.val (.ref o0), .val (.int v1), .val (.int v2), .val (.int v3)] [(.int v2), (.ref o0)])) rfl rfl (hb hby d9_11)
  have E_o0_3 := E_o0_2.wr W3
  have F_o0_tag_3 := F_o0_tag_2.other W3 (Or.inr (slot_ne (Or.inr (hw _ (List.mem_of_getElem? (i := 47) rfl))) (Or.inr (hw _ (List.mem_of_getElem? (i := 49) rfl))) (by decide) (t := .int) (t' := .int) (by decide) (by decide)))
  have F_o0_valueStart_3 := F_o0_valueStart_2.same W3
  have F_o0_length_3 := F_o0_length_2.other W3 (Or.inr (slot_ne (Or.inr (hw _ (List.mem_of_getElem? (i := 51) rfl))) (Or.inr (hw _ (List.mem_of_getElem? (i := 49) rfl))) (by decide) (t := .int) (t' := .int) (by decide) (by decide)))
  have N3 := Fr.snoc X3 N2 g_o0
  have Z3 : n0 ≤ h3.size := Nat.le_trans Z2 (Nat.le_of_eq W3.size.symm)
  have K3 := K2.wr W3 (Or.inl (by simp))
  refine EndsIn.by (B := T3.setTop (mkF m 14 #[.val (.ref o0), .val (.int v1), .val (.int v2), .val (.int v3)] [])) (fun t k => st3 t k) ?_
  refine EndsIn.by (B := T3.setTop (mkF m 16 #[.val (.ref o0), .val (.int v1), .val (.int v2), .val (.int v3)] [(.int v3), (.ref o0)])) (fun t k => ?_) ?_
  · show Steps p.tables e below (T3.setTop (mkF m 14 #[.val (.ref o0), .val (.int v1), .val (.int v2), .val (.int v3)] [])) _
    refine XS.aloadN X3.here hx rfl (hb hby d9_14) rfl rfl ?_
    show Steps p.tables e below (T3.setTop (mkF m 15 #[.val (.ref o0), .val (.int v1), .val (.int v2), .val (.int v3)] [(.ref o0)])) _
    refine XS.iloadN X3.here hx rfl (hb hby d9_15) rfl  ?_
    exact k
  obtain ⟨T4, h4, X4, e4, W4, st4⟩ := putF X3 hx hZ hown (host := "") (Or.inl (hw _ (List.mem_of_getElem? (i := 50) rfl))) Via.refl e3 F_o0_length_3 E_o0_3 (Or.inr ⟨(hw _ (List.mem_of_getElem? (i := 51) rfl)), rfl, hnm⟩) (hw _ (List.mem_of_getElem? (i := 40) rfl)) (ty := .int) (by decide) rfl rfl (g := (mkF m 16 #[.val (.ref o0), .val (.int v1), .val (.int v2), .val (.int v3)] [(.int v3), (.ref o0)])) rfl rfl (hb hby d9_16)
  have E_o0_4 := E_o0_3.wr W4
  have F_o0_tag_4 := F_o0_tag_3.other W4 (Or.inr (slot_ne (Or.inr (hw _ (List.mem_of_getElem? (i := 47) rfl))) (Or.inr (hw _ (List.mem_of_getElem? (i := 51) rfl))) (by decide) (t := .int) (t' := .int) (by decide) (by decide)))
  have F_o0_valueStart_4 := F_o0_valueStart_3.other W4 (Or.inr (slot_ne (Or.inr (hw _ (List.mem_of_getElem? (i := 49) rfl))) (Or.inr (hw _ (List.mem_of_getElem? (i := 51) rfl))) (by decide) (t := .int) (t' := .int) (by decide) (by decide)))
  have F_o0_length_4 := F_o0_length_3.same W4
  have N4 := Fr.snoc X4 N3 g_o0
  have Z4 : n0 ≤ h4.size := Nat.le_trans Z3 (Nat.le_of_eq W4.size.symm)
  have K4 := K3.wr W4 (Or.inl (by simp))
  refine EndsIn.by (B := T4.setTop (mkF m 19 #[.val (.ref o0), .val (.int v1), .val (.int v2), .val (.int v3)] [])) (fun t k => st4 t k) ?_
  subst hr
  exact own_ret0 X4 hx hlk hret (hb hby d9_19) (by decide) (by decide) ⟨rfl, N4, (by rw [e4]; exact K4), (by rw [e4]; exact E_o0_4), (by rw [e4]; exact F_o0_tag_4), (by rw [e4]; exact F_o0_valueStart_4), (by rw [e4]; exact F_o0_length_4)⟩
theorem ef_9 (m : MethodId) (o0 : Addr) (v1 : Int32) (v2 : Int32) (v3 : Int32) : entryFrame m #[(.ref o0), (.int v1), (.int v2), (.int v3)] 4 = (mkF m 0 #[.val (.ref o0), .val (.int v1), .val (.int v2), .val (.int v3)] []) := by first | (simp [entryFrame, mkF, argsToLocals, Value.category]; done) | rfl
set_option maxRecDepth 65536 in
set_option maxHeartbeats 40000000 in
theorem rm9 (l : Launch) (Z : State) (a0 : Array Value) (hw : ∀ d ∈ tables_1, d.before a0 Z = true) (ws : List Jvm.Cond) (o0 : Addr) (v1 : Int32) (v2 : Int32) (v3 : Int32) (o0_tag : Int32) (o0_valueStart : Int32) (o0_length : Int32) (h0 : Heap) (n0 : Nat) (Z0 : n0 ≤ h0.size) (E_o0 : Exa Z h0 o0 "com/example/pure_mrtd/puremrtd/format/TlvReader$Header") (F_o0_tag : Fld Z h0 o0 "com/example/pure_mrtd/puremrtd/format/TlvReader$Header" "tag" "I" (.int o0_tag)) (F_o0_valueStart : Fld Z h0 o0 "com/example/pure_mrtd/puremrtd/format/TlvReader$Header" "valueStart" "I" (.int o0_valueStart)) (F_o0_length : Fld Z h0 o0 "com/example/pure_mrtd/puremrtd/format/TlvReader$Header" "length" "I" (.int o0_length)) (g_o0 : n0 ≤ o0) :
    MetFree l (⟨"com/example/pure_mrtd/puremrtd/format/TlvReader$Header", "<init>", "(III)V"⟩ : MethodName) (head1 (Jvm.Cond.code (⟨"com/example/pure_mrtd/puremrtd/format/TlvReader$Header", "<init>", "(III)V"⟩ : MethodName) prog_28_method_1_code 4 none :: ws) R9) (fun a U => a = #[(.ref o0), (.int v1), (.int v2), (.int v3)] ∧ Z.Warmed39 U.vm ∧ U.heap = h0) (fun _ _ _ _ _ => True) (fun _ U o U' => ∃ v L, o = .returned v ∧ (Q9 Z o0 h0 n0 (f9_0 v1 v2 v3 o0_tag o0_valueStart o0_length)) v U'.heap L ∧ FrameEnd U o U' L R9.cells R9.slots) := by
  refine MetFree.of_bodySF (plainFor_of_name pn_9) hisR ?_
  intro p e s m args below meth c s₁ Bd hml0 hP hK
  obtain ⟨rfl, hZ, hh⟩ := hP
  have B : Ctx p Z s a0 m meth c "com/example/pure_mrtd/puremrtd/format/TlvReader$Header" "<init>" prog_28_method_1_code 4 none := ⟨Bd.exec, hZ, hw, Bd.bytes, hml0, Bd.returns, findClass_of_methodNamed Bd.named, (name_of_methodNamed Bd.named Bd.method).1, Bd.notSynchronized⟩
  have X0 : Stand p l e R9 s m #[(.ref o0), (.int v1), (.int v2), (.int v3)] below meth c s₁ [] 0 0 := Stand.of_body Bd
  have e0 : s₁.heap = h0 := by rw [← hh, Bd.state]; rfl
  have K := Keep.refl h0 [o0]
  show EndsIn p e below s R9.cells R9.slots (Q9 Z o0 h0 n0 (f9_0 v1 v2 v3 o0_tag o0_valueStart o0_length)) (s₁.setTop (entryFrame m #[(.ref o0), (.int v1), (.int v2), (.int v3)] 4))
  refine EndsIn.by (fun t k => castTop (ef_9 m o0 v1 v2 v3) k) ?_
  exact b9_0 B h0 n0 o0 v1 v2 v3 o0_tag o0_valueStart o0_length X0 e0 (Fr.nil n0) Z0 K E_o0 F_o0_tag F_o0_valueStart F_o0_length g_o0 _ rfl
theorem pd_4 : parseMethodDescriptor "(III)V" = some ⟨[.int, .int, .int], none⟩ := by decide +kernel
theorem d7_0 : decode prog_27_method_8_code 0 = .ok (.aload_n 0, 1) := by decide +kernel
theorem d7_1 : decode prog_27_method_8_code 1 = .ok (.getfield 65, 3) := by decide +kernel
theorem d7_4 : decode prog_27_method_8_code 4 = .ok (.istore_n 1, 1) := by decide +kernel
theorem d7_5 : decode prog_27_method_8_code 5 = .ok (.aload_n 0, 1) := by decide +kernel
theorem d7_6 : decode prog_27_method_8_code 6 = .ok (.iload_n 1, 1) := by decide +kernel
theorem d7_7 : decode prog_27_method_8_code 7 = .ok (.iinc 1 1, 3) := by decide +kernel
theorem d7_10 : decode prog_27_method_8_code 10 = .ok (.invokevirtual 107, 3) := by decide +kernel
theorem d7_13 : decode prog_27_method_8_code 13 = .ok (.istore_n 2, 1) := by decide +kernel
theorem d7_14 : decode prog_27_method_8_code 14 = .ok (.iload_n 2, 1) := by decide +kernel
theorem d7_15 : decode prog_27_method_8_code 15 = .ok (.bipush 31, 2) := by decide +kernel
theorem d7_17 : decode prog_27_method_8_code 17 = .ok (.iand, 1) := by decide +kernel
theorem d7_18 : decode prog_27_method_8_code 18 = .ok (.bipush 31, 2) := by decide +kernel
theorem d7_20 : decode prog_27_method_8_code 20 = .ok (.if_icmp .ne 50, 3) := by decide +kernel
theorem d7_70 : decode prog_27_method_8_code 70 = .ok (.aload_n 0, 1) := by decide +kernel
theorem d7_71 : decode prog_27_method_8_code 71 = .ok (.iload_n 1, 1) := by decide +kernel
theorem d7_72 : decode prog_27_method_8_code 72 = .ok (.iinc 1 1, 3) := by decide +kernel
theorem d7_75 : decode prog_27_method_8_code 75 = .ok (.invokevirtual 107, 3) := by decide +kernel
theorem d7_78 : decode prog_27_method_8_code 78 = .ok (.istore_n 3, 1) := by decide +kernel
theorem d7_79 : decode prog_27_method_8_code 79 = .ok (.iload_n 3, 1) := by decide +kernel
theorem d7_80 : decode prog_27_method_8_code 80 = .ok (.sipush 128, 3) := by decide +kernel
theorem d7_83 : decode prog_27_method_8_code 83 = .ok (.if_icmp .eq 10, 3) := by decide +kernel
theorem d7_86 : decode prog_27_method_8_code 86 = .ok (.iload_n 3, 1) := by decide +kernel
theorem d7_87 : decode prog_27_method_8_code 87 = .ok (.sipush 131, 3) := by decide +kernel
theorem d7_90 : decode prog_27_method_8_code 90 = .ok (.if_icmp .le 36, 3) := by decide +kernel
theorem d7_126 : decode prog_27_method_8_code 126 = .ok (.iload_n 3, 1) := by decide +kernel
theorem d7_127 : decode prog_27_method_8_code 127 = .ok (.sipush 128, 3) := by decide +kernel
theorem d7_130 : decode prog_27_method_8_code 130 = .ok (.if_icmp .le 42, 3) := by decide +kernel
theorem d7_172 : decode prog_27_method_8_code 172 = .ok (.new 74, 3) := by decide +kernel
theorem d7_175 : decode prog_27_method_8_code 175 = .ok (.dup, 1) := by decide +kernel
theorem d7_176 : decode prog_27_method_8_code 176 = .ok (.iload_n 2, 1) := by decide +kernel
theorem d7_177 : decode prog_27_method_8_code 177 = .ok (.iload_n 1, 1) := by decide +kernel
theorem d7_178 : decode prog_27_method_8_code 178 = .ok (.iload_n 3, 1) := by decide +kernel
theorem d7_179 : decode prog_27_method_8_code 179 = .ok (.invokespecial 121, 3) := by decide +kernel
theorem d7_182 : decode prog_27_method_8_code 182 = .ok (.areturn, 1) := by decide +kernel
theorem pn_7 : plainName "com/example/pure_mrtd/puremrtd/format/TlvReader" = true := by first | (simp [plainName, overriddenIn]; done) | decide +kernel
def R7 : Room := { frames := 2, cells := 1, slots := 3, locals := 28 }
def Q7 (Z : State)  (h0 : Heap) (n0 : Nat) (r : Int32 × Int32 × Int32) (v : Option Value) (h : Heap) (L : List Loc) : Prop := ∃ (b : Addr) , v = some (.ref b) ∧ Fr n0 L ∧ n0 ≤ b ∧ h0.size ≤ b ∧ Keep h0 h [] ∧ Exa Z h b "com/example/pure_mrtd/puremrtd/format/TlvReader$Header" ∧ Fld Z h b "com/example/pure_mrtd/puremrtd/format/TlvReader$Header" "tag" "I" (.int r.1) ∧ Fld Z h b "com/example/pure_mrtd/puremrtd/format/TlvReader$Header" "valueStart" "I" (.int r.2.1) ∧ Fld Z h b "com/example/pure_mrtd/puremrtd/format/TlvReader$Header" "length" "I" (.int r.2.2)
def f7_0 (o0_position : Int32) (d_n : Int32) (d_xs : List Int32) : Int32 × Int32 × Int32 := ((f9_0 (f8_0 o0_position o0_position d_n d_xs) ((o0_position + (1 : Int32)) + (1 : Int32)) (f8_0 (o0_position + (1 : Int32)) o0_position d_n d_xs) (0 : Int32) (0 : Int32) (0 : Int32)).1, (f9_0 (f8_0 o0_position o0_position d_n d_xs) ((o0_position + (1 : Int32)) + (1 : Int32)) (f8_0 (o0_position + (1 : Int32)) o0_position d_n d_xs) (0 : Int32) (0 : Int32) (0 : Int32)).2.1, (f9_0 (f8_0 o0_position o0_position d_n d_xs) ((o0_position + (1 : Int32)) + (1 : Int32)) (f8_0 (o0_position + (1 : Int32)) o0_position d_n d_xs) (0 : Int32) (0 : Int32) (0 : Int32)).2.2)
set_option maxRecDepth 65536 in
set_option maxHeartbeats 40000000 in
theorem b7_0 {p : Program} {l : Launch} {e : Env} {s : State} {m : MethodId} {args : Array Value} {below : List Frame} {meth : Method} {c : Code} {Z : State} {a0 : Array Value} (B : Ctx p Z s a0 m meth c "com/example/pure_mrtd/puremrtd/format/TlvReader" "header" prog_27_method_8_code 6 (some (.object "com/example/pure_mrtd/puremrtd/format/TlvReader$Header"))) {T0 : State} {locs : List Loc} {h : Heap} (h0 : Heap) (n0 : Nat) (o0 : Addr) (d : Addr) (o0_position : Int32) (d_k : ClassId) (d_n : Int32) (d_xs : List Int32) (X0 : Stand p l e R7 s m args below meth c T0 locs 0 0) (e0 : T0.heap = h) (N0 : Fr n0 locs) (Z0 : n0 ≤ h.size) (K : Keep h0 h []) (E_o0 : Exa Z h o0 "com/example/pure_mrtd/puremrtd/format/TlvReader") (F_o0_data : Fld Z h o0 "com/example/pure_mrtd/puremrtd/format/TlvReader" "data" "[B" (.ref d)) (F_o0_position : Fld Z h o0 "com/example/pure_mrtd/puremrtd/format/TlvReader" "position" "I" (.int o0_position)) (V_d : Arv Z h d d_k .byte d_n (d_xs.map Value.int) (.int 0)) (ln_d : d_xs.length = d_n.toNatClampNeg) (hk : own_ok o0_position d_n d_xs) (r : Int32 × Int32 × Int32) (hr : f7_0 o0_position d_n d_xs = r) :
    EndsIn p e below s R7.cells R7.slots (Q7 Z  h0 n0 r) (T0.setTop (mkF m 0 #[.val (.ref o0), .unset, .unset, .unset, .unset, .unset] [])) := by
  obtain ⟨hx, hZ, hw, hby, hml, hret, hown, hnm, hlk⟩ := B
  unfold f7_0 at hr
  refine EndsIn.by (B := T0.setTop (mkF m 1 #[.val (.ref o0), .unset, .unset, .unset, .unset, .unset] [(.ref o0)])) (fun t k => ?_) ?_
  · show Steps p.tables e below (T0.setTop (mkF m 0 #[.val (.ref o0), .unset, .unset, .unset, .unset, .unset] [])) _
    refine XS.aloadN X0.here hx rfl (hb hby d7_0) rfl rfl ?_
    exact k
  obtain ⟨T1, X1, e1, st1⟩ := getF X0 hx hZ hown (host := "") (Or.inl (hw _ (List.mem_of_getElem? (i := 21) rfl))) Via.refl e0 F_o0_position (g := (mkF m 1 #[.val (.ref o0), .unset, .unset, .unset, .unset, .unset] [(.ref o0)])) rfl rfl (hb hby d7_1)
  refine EndsIn.by (B := T1.setTop (mkF m 4 #[.val (.ref o0), .unset, .unset, .unset, .unset, .unset] [(.int o0_position)])) (fun t k => st1 t k) ?_
  refine EndsIn.by (B := T1.setTop (mkF m 10 #[.val (.ref o0), .val (.int (o0_position + (1 : Int32))), .unset, .unset, .unset, .unset] [(.int o0_position), (.ref o0)])) (fun t k => ?_) ?_
  · show Steps p.tables e below (T1.setTop (mkF m 4 #[.val (.ref o0), .unset, .unset, .unset, .unset, .unset] [(.int o0_position)])) _
    refine XS.istoreN X1.here hx rfl (hb hby d7_4) rfl (l' := #[.val (.ref o0), .val (.int o0_position), .unset, .unset, .unset, .unset]) rfl ?_
    show Steps p.tables e below (T1.setTop (mkF m 5 #[.val (.ref o0), .val (.int o0_position), .unset, .unset, .unset, .unset] [])) _
    refine XS.aloadN X1.here hx rfl (hb hby d7_5) rfl rfl ?_
    show Steps p.tables e below (T1.setTop (mkF m 6 #[.val (.ref o0), .val (.int o0_position), .unset, .unset, .unset, .unset] [(.ref o0)])) _
    refine XS.iloadN X1.here hx rfl (hb hby d7_6) rfl  ?_
    show Steps p.tables e below (T1.setTop (mkF m 7 #[.val (.ref o0), .val (.int o0_position), .unset, .unset, .unset, .unset] [(.int o0_position), (.ref o0)])) _
    refine XS.iinc X1.here hx rfl (hb hby d7_7) rfl (l' := #[.val (.ref o0), .val (.int (o0_position + (1 : Int32))), .unset, .unset, .unset, .unset]) rfl ?_
    exact k
  have hp2_hi : ¬ (o0_position < 0) ∧ o0_position < d_n := own_i0 hk
  -- pc 10: com/example/pure_mrtd/puremrtd/format/TlvReader.byteAt
  obtain ⟨cq2, q2, q2'⟩ := E_o0.cell
  obtain ⟨_, _, ⟨T2, L2, k2, n2⟩, -, X2, ⟨Lc2, hQ2, l2, y2, z2⟩, st2⟩ := X1.privateBack hx (y := (⟨"com/example/pure_mrtd/puremrtd/format/TlvReader", "byteAt", "(I)I"⟩ : MethodName)) hown (mvT hZ (hw _ (List.mem_of_getElem? (i := 35) rfl))) (mvT hZ (hw _ (List.mem_of_getElem? (i := 36) rfl))) (own_selP (y := (⟨"com/example/pure_mrtd/puremrtd/format/TlvReader", "byteAt", "(I)I"⟩ : MethodName)) hZ (hw _ (List.mem_of_getElem? (i := 6) rfl)) (hw _ (List.mem_of_getElem? (i := 37) rfl)) (hw _ (List.mem_of_getElem? (i := 36) rfl)) (by decide)) (Cond.privateMethod_at (mvP hZ (hw _ (List.mem_of_getElem? (i := 37) rfl)) (args := #[]))) (mvT hZ (hw _ (List.mem_of_getElem? (i := 38) rfl))) (by decide) (backOf (W := 0) (rm8 l Z a0 hw [] o0 o0_position d o0_position d_k d_n d_xs h n0 Z0 E_o0 F_o0_data F_o0_position V_d ln_d hp2_hi) hZ (hw _ (List.mem_of_getElem? (i := 38) rfl)) (hw _ (List.mem_of_getElem? (i := 7) rfl)) (by decide) (by decide)) (g := (mkF m 10 #[.val (.ref o0), .val (.int (o0_position + (1 : Int32))), .unset, .unset, .unset, .unset] [(.int o0_position), (.ref o0)])) rfl (by rw [hml]; rfl) (Steps.refl _) (a := o0) (by rw [e1]; exact q2) q2' (argsL := [(.int o0_position)]) (rest := []) (lenOf pd_3 rfl) rfl (by show 2 * 0 + _ ≤ _; exact Nat.le_of_eq rfl) (hb hby d7_10) (fun _ _ => ⟨rfl, e1, (by decide : 0 + R8.cells ≤ _), (by decide : 0 + R8.slots ≤ _)⟩)
  dsimp only [Pt.U, Pt.locs, Pt.cells, Pt.slots] at X2 l2 y2 z2 st2 hQ2
  subst l2 y2 z2
  obtain ⟨rfl, Nq2, e2⟩ := hQ2
  have N2 := Fr.app N0 Nq2
  refine EndsIn.by (B := T2.setTop (mkF m 13 #[.val (.ref o0), .val (.int (o0_position + (1 : Int32))), .unset, .unset, .unset, .unset] [(.int (f8_0 o0_position o0_position d_n d_xs))])) (fun t k => st2.trans k) ?_
  refine EndsIn.by (B := T2.setTop (mkF m 20 #[.val (.ref o0), .val (.int (o0_position + (1 : Int32))), .val (.int (f8_0 o0_position o0_position d_n d_xs)), .unset, .unset, .unset] [(.int (31 : Int32)), (.int ((f8_0 o0_position o0_position d_n d_xs) &&& (31 : Int32)))])) (fun t k => ?_) ?_
  · show Steps p.tables e below (T2.setTop (mkF m 13 #[.val (.ref o0), .val (.int (o0_position + (1 : Int32))), .unset, .unset, .unset, .unset] [(.int (f8_0 o0_position o0_position d_n d_xs))])) _
    refine XS.istoreN X2.here hx rfl (hb hby d7_13) rfl (l' := #[.val (.ref o0), .val (.int (o0_position + (1 : Int32))), .val (.int (f8_0 o0_position o0_position d_n d_xs)), .unset, .unset, .unset]) rfl ?_
    show Steps p.tables e below (T2.setTop (mkF m 14 #[.val (.ref o0), .val (.int (o0_position + (1 : Int32))), .val (.int (f8_0 o0_position o0_position d_n d_xs)), .unset, .unset, .unset] [])) _
    refine XS.iloadN X2.here hx rfl (hb hby d7_14) rfl  ?_
    show Steps p.tables e below (T2.setTop (mkF m 15 #[.val (.ref o0), .val (.int (o0_position + (1 : Int32))), .val (.int (f8_0 o0_position o0_position d_n d_xs)), .unset, .unset, .unset] [(.int (f8_0 o0_position o0_position d_n d_xs))])) _
    refine XS.bipush X2.here hx rfl (hb hby d7_15) ?_
    show Steps p.tables e below (T2.setTop (mkF m 17 #[.val (.ref o0), .val (.int (o0_position + (1 : Int32))), .val (.int (f8_0 o0_position o0_position d_n d_xs)), .unset, .unset, .unset] [(.int (31 : Int32)), (.int (f8_0 o0_position o0_position d_n d_xs))])) _
    refine XS.iand X2.here hx rfl (hb hby d7_17) rfl ?_
    show Steps p.tables e below (T2.setTop (mkF m 18 #[.val (.ref o0), .val (.int (o0_position + (1 : Int32))), .val (.int (f8_0 o0_position o0_position d_n d_xs)), .unset, .unset, .unset] [(.int ((f8_0 o0_position o0_position d_n d_xs) &&& (31 : Int32)))])) _
    refine XS.bipush X2.here hx rfl (hb hby d7_18) ?_
    exact k
  have hc20 : ¬ (((f8_0 o0_position o0_position d_n d_xs) &&& (31 : Int32)) = (31 : Int32)) := hk.2.2.1
  refine EndsIn.by (B := T2.setTop (mkF m 70 #[.val (.ref o0), .val (.int (o0_position + (1 : Int32))), .val (.int (f8_0 o0_position o0_position d_n d_xs)), .unset, .unset, .unset] [])) (fun t k => ?_) ?_
  · show Steps p.tables e below (T2.setTop (mkF m 20 #[.val (.ref o0), .val (.int (o0_position + (1 : Int32))), .val (.int (f8_0 o0_position o0_position d_n d_xs)), .unset, .unset, .unset] [(.int (31 : Int32)), (.int ((f8_0 o0_position o0_position d_n d_xs) &&& (31 : Int32)))])) _
    exact XS.icmpYes X2.here hx rfl (pc0 := 20) (pc' := 70) rfl (hb hby d7_20) rfl (feq hc20).2 (by decide) (by decide) k
  refine EndsIn.by (B := T2.setTop (mkF m 75 #[.val (.ref o0), .val (.int ((o0_position + (1 : Int32)) + (1 : Int32))), .val (.int (f8_0 o0_position o0_position d_n d_xs)), .unset, .unset, .unset] [(.int (o0_position + (1 : Int32))), (.ref o0)])) (fun t k => ?_) ?_
  · show Steps p.tables e below (T2.setTop (mkF m 70 #[.val (.ref o0), .val (.int (o0_position + (1 : Int32))), .val (.int (f8_0 o0_position o0_position d_n d_xs)), .unset, .unset, .unset] [])) _
    refine XS.aloadN X2.here hx rfl (hb hby d7_70) rfl rfl ?_
    show Steps p.tables e below (T2.setTop (mkF m 71 #[.val (.ref o0), .val (.int (o0_position + (1 : Int32))), .val (.int (f8_0 o0_position o0_position d_n d_xs)), .unset, .unset, .unset] [(.ref o0)])) _
    refine XS.iloadN X2.here hx rfl (hb hby d7_71) rfl  ?_
    show Steps p.tables e below (T2.setTop (mkF m 72 #[.val (.ref o0), .val (.int (o0_position + (1 : Int32))), .val (.int (f8_0 o0_position o0_position d_n d_xs)), .unset, .unset, .unset] [(.int (o0_position + (1 : Int32))), (.ref o0)])) _
    refine XS.iinc X2.here hx rfl (hb hby d7_72) rfl (l' := #[.val (.ref o0), .val (.int ((o0_position + (1 : Int32)) + (1 : Int32))), .val (.int (f8_0 o0_position o0_position d_n d_xs)), .unset, .unset, .unset]) rfl ?_
    exact k
  have hp3_hi : ¬ ((o0_position + (1 : Int32)) < 0) ∧ (o0_position + (1 : Int32)) < d_n := own_i1 hk
  -- pc 75: com/example/pure_mrtd/puremrtd/format/TlvReader.byteAt
  obtain ⟨cq3, q3, q3'⟩ := E_o0.cell
  obtain ⟨_, _, ⟨T3, L3, k3, n3⟩, -, X3, ⟨Lc3, hQ3, l3, y3, z3⟩, st3⟩ := X2.privateBack hx (y := (⟨"com/example/pure_mrtd/puremrtd/format/TlvReader", "byteAt", "(I)I"⟩ : MethodName)) hown (mvT hZ (hw _ (List.mem_of_getElem? (i := 35) rfl))) (mvT hZ (hw _ (List.mem_of_getElem? (i := 36) rfl))) (own_selP (y := (⟨"com/example/pure_mrtd/puremrtd/format/TlvReader", "byteAt", "(I)I"⟩ : MethodName)) hZ (hw _ (List.mem_of_getElem? (i := 6) rfl)) (hw _ (List.mem_of_getElem? (i := 37) rfl)) (hw _ (List.mem_of_getElem? (i := 36) rfl)) (by decide)) (Cond.privateMethod_at (mvP hZ (hw _ (List.mem_of_getElem? (i := 37) rfl)) (args := #[]))) (mvT hZ (hw _ (List.mem_of_getElem? (i := 38) rfl))) (by decide) (backOf (W := 0) (rm8 l Z a0 hw [] o0 (o0_position + (1 : Int32)) d o0_position d_k d_n d_xs h n0 Z0 E_o0 F_o0_data F_o0_position V_d ln_d hp3_hi) hZ (hw _ (List.mem_of_getElem? (i := 38) rfl)) (hw _ (List.mem_of_getElem? (i := 7) rfl)) (by decide) (by decide)) (g := (mkF m 75 #[.val (.ref o0), .val (.int ((o0_position + (1 : Int32)) + (1 : Int32))), .val (.int (f8_0 o0_position o0_position d_n d_xs)), .unset, .unset, .unset] [(.int (o0_position + (1 : Int32))), (.ref o0)])) rfl (by rw [hml]; rfl) (Steps.refl _) (a := o0) (by rw [e2]; exact q3) q3' (argsL := [(.int (o0_position + (1 : Int32)))]) (rest := []) (lenOf pd_3 rfl) rfl (by show 2 * 0 + _ ≤ _; exact Nat.le_of_eq rfl) (hb hby d7_75) (fun _ _ => ⟨rfl, e2, (by decide : 0 + R8.cells ≤ _), (by decide : 0 + R8.slots ≤ _)⟩)
  dsimp only [Pt.U, Pt.locs, Pt.cells, Pt.slots] at X3 l3 y3 z3 st3 hQ3
  subst l3 y3 z3
  obtain ⟨rfl, Nq3, e3⟩ := hQ3
  have N3 := Fr.app N2 Nq3
  refine EndsIn.by (B := T3.setTop (mkF m 78 #[.val (.ref o0), .val (.int ((o0_position + (1 : Int32)) + (1 : Int32))), .val (.int (f8_0 o0_position o0_position d_n d_xs)), .unset, .unset, .unset] [(.int (f8_0 (o0_position + (1 : Int32)) o0_position d_n d_xs))])) (fun t k => st3.trans k) ?_
  refine EndsIn.by (B := T3.setTop (mkF m 83 #[.val (.ref o0), .val (.int ((o0_position + (1 : Int32)) + (1 : Int32))), .val (.int (f8_0 o0_position o0_position d_n d_xs)), .val (.int (f8_0 (o0_position + (1 : Int32)) o0_position d_n d_xs)), .unset, .unset] [(.int (128 : Int32)), (.int (f8_0 (o0_position + (1 : Int32)) o0_position d_n d_xs))])) (fun t k => ?_) ?_
  · show Steps p.tables e below (T3.setTop (mkF m 78 #[.val (.ref o0), .val (.int ((o0_position + (1 : Int32)) + (1 : Int32))), .val (.int (f8_0 o0_position o0_position d_n d_xs)), .unset, .unset, .unset] [(.int (f8_0 (o0_position + (1 : Int32)) o0_position d_n d_xs))])) _
    refine XS.istoreN X3.here hx rfl (hb hby d7_78) rfl (l' := #[.val (.ref o0), .val (.int ((o0_position + (1 : Int32)) + (1 : Int32))), .val (.int (f8_0 o0_position o0_position d_n d_xs)), .val (.int (f8_0 (o0_position + (1 : Int32)) o0_position d_n d_xs)), .unset, .unset]) rfl ?_
    show Steps p.tables e below (T3.setTop (mkF m 79 #[.val (.ref o0), .val (.int ((o0_position + (1 : Int32)) + (1 : Int32))), .val (.int (f8_0 o0_position o0_position d_n d_xs)), .val (.int (f8_0 (o0_position + (1 : Int32)) o0_position d_n d_xs)), .unset, .unset] [])) _
    refine XS.iloadN X3.here hx rfl (hb hby d7_79) rfl  ?_
    show Steps p.tables e below (T3.setTop (mkF m 80 #[.val (.ref o0), .val (.int ((o0_position + (1 : Int32)) + (1 : Int32))), .val (.int (f8_0 o0_position o0_position d_n d_xs)), .val (.int (f8_0 (o0_position + (1 : Int32)) o0_position d_n d_xs)), .unset, .unset] [(.int (f8_0 (o0_position + (1 : Int32)) o0_position d_n d_xs))])) _
    refine XS.sipush X3.here hx rfl (hb hby d7_80) ?_
    exact k
  have hc83 : ¬ ((f8_0 (o0_position + (1 : Int32)) o0_position d_n d_xs) = (128 : Int32)) := own_h83 hk.2.2.2.1
  refine EndsIn.by (B := T3.setTop (mkF m 86 #[.val (.ref o0), .val (.int ((o0_position + (1 : Int32)) + (1 : Int32))), .val (.int (f8_0 o0_position o0_position d_n d_xs)), .val (.int (f8_0 (o0_position + (1 : Int32)) o0_position d_n d_xs)), .unset, .unset] [])) (fun t k => ?_) ?_
  · show Steps p.tables e below (T3.setTop (mkF m 83 #[.val (.ref o0), .val (.int ((o0_position + (1 : Int32)) + (1 : Int32))), .val (.int (f8_0 o0_position o0_position d_n d_xs)), .val (.int (f8_0 (o0_position + (1 : Int32)) o0_position d_n d_xs)), .unset, .unset] [(.int (128 : Int32)), (.int (f8_0 (o0_position + (1 : Int32)) o0_position d_n d_xs))])) _
    exact XS.icmpNo X3.here hx rfl (hb hby d7_83) rfl (feq hc83).1 k
  refine EndsIn.by (B := T3.setTop (mkF m 90 #[.val (.ref o0), .val (.int ((o0_position + (1 : Int32)) + (1 : Int32))), .val (.int (f8_0 o0_position o0_position d_n d_xs)), .val (.int (f8_0 (o0_position + (1 : Int32)) o0_position d_n d_xs)), .unset, .unset] [(.int (131 : Int32)), (.int (f8_0 (o0_position + (1 : Int32)) o0_position d_n d_xs))])) (fun t k => ?_) ?_
  · show Steps p.tables e below (T3.setTop (mkF m 86 #[.val (.ref o0), .val (.int ((o0_position + (1 : Int32)) + (1 : Int32))), .val (.int (f8_0 o0_position o0_position d_n d_xs)), .val (.int (f8_0 (o0_position + (1 : Int32)) o0_position d_n d_xs)), .unset, .unset] [])) _
    refine XS.iloadN X3.here hx rfl (hb hby d7_86) rfl  ?_
    show Steps p.tables e below (T3.setTop (mkF m 87 #[.val (.ref o0), .val (.int ((o0_position + (1 : Int32)) + (1 : Int32))), .val (.int (f8_0 o0_position o0_position d_n d_xs)), .val (.int (f8_0 (o0_position + (1 : Int32)) o0_position d_n d_xs)), .unset, .unset] [(.int (f8_0 (o0_position + (1 : Int32)) o0_position d_n d_xs))])) _
    refine XS.sipush X3.here hx rfl (hb hby d7_87) ?_
    exact k
  have hc90 : ¬ ((131 : Int32) < (f8_0 (o0_position + (1 : Int32)) o0_position d_n d_xs)) := own_h90 hk.2.2.2.1
  refine EndsIn.by (B := T3.setTop (mkF m 126 #[.val (.ref o0), .val (.int ((o0_position + (1 : Int32)) + (1 : Int32))), .val (.int (f8_0 o0_position o0_position d_n d_xs)), .val (.int (f8_0 (o0_position + (1 : Int32)) o0_position d_n d_xs)), .unset, .unset] [])) (fun t k => ?_) ?_
  · show Steps p.tables e below (T3.setTop (mkF m 90 #[.val (.ref o0), .val (.int ((o0_position + (1 : Int32)) + (1 : Int32))), .val (.int (f8_0 o0_position o0_position d_n d_xs)), .val (.int (f8_0 (o0_position + (1 : Int32)) o0_position d_n d_xs)), .unset, .unset] [(.int (131 : Int32)), (.int (f8_0 (o0_position + (1 : Int32)) o0_position d_n d_xs))])) _
    exact XS.icmpYes X3.here hx rfl (pc0 := 90) (pc' := 126) rfl (hb hby d7_90) rfl (flt hc90).2.2.2 (by decide) (by decide) k
  refine EndsIn.by (B := T3.setTop (mkF m 130 #[.val (.ref o0), .val (.int ((o0_position + (1 : Int32)) + (1 : Int32))), .val (.int (f8_0 o0_position o0_position d_n d_xs)), .val (.int (f8_0 (o0_position + (1 : Int32)) o0_position d_n d_xs)), .unset, .unset] [(.int (128 : Int32)), (.int (f8_0 (o0_position + (1 : Int32)) o0_position d_n d_xs))])) (fun t k => ?_) ?_
  · show Steps p.tables e below (T3.setTop (mkF m 126 #[.val (.ref o0), .val (.int ((o0_position + (1 : Int32)) + (1 : Int32))), .val (.int (f8_0 o0_position o0_position d_n d_xs)), .val (.int (f8_0 (o0_position + (1 : Int32)) o0_position d_n d_xs)), .unset, .unset] [])) _
    refine XS.iloadN X3.here hx rfl (hb hby d7_126) rfl  ?_
    show Steps p.tables e below (T3.setTop (mkF m 127 #[.val (.ref o0), .val (.int ((o0_position + (1 : Int32)) + (1 : Int32))), .val (.int (f8_0 o0_position o0_position d_n d_xs)), .val (.int (f8_0 (o0_position + (1 : Int32)) o0_position d_n d_xs)), .unset, .unset] [(.int (f8_0 (o0_position + (1 : Int32)) o0_position d_n d_xs))])) _
    refine XS.sipush X3.here hx rfl (hb hby d7_127) ?_
    exact k
  have hc130 : ¬ ((128 : Int32) < (f8_0 (o0_position + (1 : Int32)) o0_position d_n d_xs)) := own_h130 hk.2.2.2.1
  refine EndsIn.by (B := T3.setTop (mkF m 172 #[.val (.ref o0), .val (.int ((o0_position + (1 : Int32)) + (1 : Int32))), .val (.int (f8_0 o0_position o0_position d_n d_xs)), .val (.int (f8_0 (o0_position + (1 : Int32)) o0_position d_n d_xs)), .unset, .unset] [])) (fun t k => ?_) ?_
  · show Steps p.tables e below (T3.setTop (mkF m 130 #[.val (.ref o0), .val (.int ((o0_position + (1 : Int32)) + (1 : Int32))), .val (.int (f8_0 o0_position o0_position d_n d_xs)), .val (.int (f8_0 (o0_position + (1 : Int32)) o0_position d_n d_xs)), .unset, .unset] [(.int (128 : Int32)), (.int (f8_0 (o0_position + (1 : Int32)) o0_position d_n d_xs))])) _
    exact XS.icmpYes X3.here hx rfl (pc0 := 130) (pc' := 172) rfl (hb hby d7_130) rfl (flt hc130).2.2.2 (by decide) (by decide) k
  obtain ⟨T4, h4, X4, e4, X4e, A4, D4, -, st4⟩ := newO X3 hx hZ hown (hw _ (List.mem_of_getElem? (i := 39) rfl)) (hw _ (List.mem_of_getElem? (i := 40) rfl)) (hw _ (List.mem_of_getElem? (i := 41) rfl)) e3 (g := (mkF m 172 #[.val (.ref o0), .val (.int ((o0_position + (1 : Int32)) + (1 : Int32))), .val (.int (f8_0 o0_position o0_position d_n d_xs)), .val (.int (f8_0 (o0_position + (1 : Int32)) o0_position d_n d_xs)), .unset, .unset] [])) rfl (hb hby d7_172) (by decide) (by decide)
  obtain ⟨b172, g4⟩ : ∃ z, z = h.size := ⟨_, rfl⟩
  rw [← g4] at A4 D4 st4
  have g_b172 : n0 ≤ b172 := Nat.le_trans Z0 (Nat.le_of_eq g4.symm)
  have sz_b172 : h0.size ≤ b172 := Nat.le_trans K.1 (Nat.le_of_eq g4.symm)
  have ne_o0_b172 : o0 ≠ b172 := Nat.ne_of_lt (Nat.lt_of_lt_of_le E_o0.lt (Nat.le_of_eq g4.symm))
  have ne_d_b172 : d ≠ b172 := Nat.ne_of_lt (Nat.lt_of_lt_of_le V_d.lt (Nat.le_of_eq g4.symm))
  have E_o0_4 := E_o0.ext X4e
  have F_o0_data_4 := F_o0_data.ext X4e
  have F_o0_position_4 := F_o0_position.ext X4e
  have V_d_4 := V_d.ext X4e
  have Z4 : n0 ≤ h4.size := Nat.le_trans Z0 X4e.1
  have K4 := K.ext X4e
  have E_b172_4 := A4
  have F_b172_tag_4 : Fld Z h4 b172 "com/example/pure_mrtd/puremrtd/format/TlvReader$Header" "tag" "I" (.int (0 : Int32)) := D4 (Or.inr (hw _ (List.mem_of_getElem? (i := 47) rfl))) (ty := .int) (by decide)
  have F_b172_valueStart_4 : Fld Z h4 b172 "com/example/pure_mrtd/puremrtd/format/TlvReader$Header" "valueStart" "I" (.int (0 : Int32)) := D4 (Or.inr (hw _ (List.mem_of_getElem? (i := 49) rfl))) (ty := .int) (by decide)
  have F_b172_length_4 : Fld Z h4 b172 "com/example/pure_mrtd/puremrtd/format/TlvReader$Header" "length" "I" (.int (0 : Int32)) := D4 (Or.inr (hw _ (List.mem_of_getElem? (i := 51) rfl))) (ty := .int) (by decide)
  refine EndsIn.by (B := T4.setTop (mkF m 175 #[.val (.ref o0), .val (.int ((o0_position + (1 : Int32)) + (1 : Int32))), .val (.int (f8_0 o0_position o0_position d_n d_xs)), .val (.int (f8_0 (o0_position + (1 : Int32)) o0_position d_n d_xs)), .unset, .unset] [(.ref b172)])) (fun t k => st4 t k) ?_
  refine EndsIn.by (B := T4.setTop (mkF m 179 #[.val (.ref o0), .val (.int ((o0_position + (1 : Int32)) + (1 : Int32))), .val (.int (f8_0 o0_position o0_position d_n d_xs)), .val (.int (f8_0 (o0_position + (1 : Int32)) o0_position d_n d_xs)), .unset, .unset] [(.int (f8_0 (o0_position + (1 : Int32)) o0_position d_n d_xs)), (.int ((o0_position + (1 : Int32)) + (1 : Int32))), (.int (f8_0 o0_position o0_position d_n d_xs)), (.ref b172), (.ref b172)])) (fun t k => ?_) ?_
  · show Steps p.tables e below (T4.setTop (mkF m 175 #[.val (.ref o0), .val (.int ((o0_position + (1 : Int32)) + (1 : Int32))), .val (.int (f8_0 o0_position o0_position d_n d_xs)), .val (.int (f8_0 (o0_position + (1 : Int32)) o0_position d_n d_xs)), .unset, .unset] [(.ref b172)])) _
    refine XS.dup X4.here hx rfl (hb hby d7_175) rfl rfl ?_
    show Steps p.tables e below (T4.setTop (mkF m 176 #[.val (.ref o0), .val (.int ((o0_position + (1 : Int32)) + (1 : Int32))), .val (.int (f8_0 o0_position o0_position d_n d_xs)), .val (.int (f8_0 (o0_position + (1 : Int32)) o0_position d_n d_xs)), .unset, .unset] [(.ref b172), (.ref b172)])) _
    refine XS.iloadN X4.here hx rfl (hb hby d7_176) rfl  ?_
    show Steps p.tables e below (T4.setTop (mkF m 177 #[.val (.ref o0), .val (.int ((o0_position + (1 : Int32)) + (1 : Int32))), .val (.int (f8_0 o0_position o0_position d_n d_xs)), .val (.int (f8_0 (o0_position + (1 : Int32)) o0_position d_n d_xs)), .unset, .unset] [(.int (f8_0 o0_position o0_position d_n d_xs)), (.ref b172), (.ref b172)])) _
    refine XS.iloadN X4.here hx rfl (hb hby d7_177) rfl  ?_
    show Steps p.tables e below (T4.setTop (mkF m 178 #[.val (.ref o0), .val (.int ((o0_position + (1 : Int32)) + (1 : Int32))), .val (.int (f8_0 o0_position o0_position d_n d_xs)), .val (.int (f8_0 (o0_position + (1 : Int32)) o0_position d_n d_xs)), .unset, .unset] [(.int ((o0_position + (1 : Int32)) + (1 : Int32))), (.int (f8_0 o0_position o0_position d_n d_xs)), (.ref b172), (.ref b172)])) _
    refine XS.iloadN X4.here hx rfl (hb hby d7_178) rfl  ?_
    exact k
  -- pc 179: com/example/pure_mrtd/puremrtd/format/TlvReader$Header.<init>
  obtain ⟨_, _, ⟨T5, L5, k5, n5⟩, -, X5, ⟨Lc5, hQ5, l5, y5, z5⟩, st5⟩ := own_specialR X4 hx hZ (y := (⟨"com/example/pure_mrtd/puremrtd/format/TlvReader$Header", "<init>", "(III)V"⟩ : MethodName)) rfl hown (hw _ (List.mem_of_getElem? (i := 42) rfl)) (hw _ (List.mem_of_getElem? (i := 43) rfl)) (hw _ (List.mem_of_getElem? (i := 44) rfl)) (by decide) (backOf (W := 1) (rm9 l Z a0 hw [] b172 (f8_0 o0_position o0_position d_n d_xs) ((o0_position + (1 : Int32)) + (1 : Int32)) (f8_0 (o0_position + (1 : Int32)) o0_position d_n d_xs) (0 : Int32) (0 : Int32) (0 : Int32) h4 n0 Z4 E_b172_4 F_b172_tag_4 F_b172_valueStart_4 F_b172_length_4 g_b172) hZ (hw _ (List.mem_of_getElem? (i := 44) rfl)) (hw _ (List.mem_of_getElem? (i := 41) rfl)) (by decide) (by decide)) (g := (mkF m 179 #[.val (.ref o0), .val (.int ((o0_position + (1 : Int32)) + (1 : Int32))), .val (.int (f8_0 o0_position o0_position d_n d_xs)), .val (.int (f8_0 (o0_position + (1 : Int32)) o0_position d_n d_xs)), .unset, .unset] [(.int (f8_0 (o0_position + (1 : Int32)) o0_position d_n d_xs)), (.int ((o0_position + (1 : Int32)) + (1 : Int32))), (.int (f8_0 o0_position o0_position d_n d_xs)), (.ref b172), (.ref b172)])) rfl (by rw [hml]; rfl) (Steps.refl _) (a := b172) (argsL := [(.int (f8_0 o0_position o0_position d_n d_xs)), (.int ((o0_position + (1 : Int32)) + (1 : Int32))), (.int (f8_0 (o0_position + (1 : Int32)) o0_position d_n d_xs))]) (rest := [(.ref b172)]) (lenOf pd_4 rfl) rfl (by show 2 * 0 + _ ≤ _; exact Nat.le_of_eq rfl) (hb hby d7_179) (fun _ _ => ⟨rfl, e4, (by decide : 1 + R9.cells ≤ _), (by decide : 3 + R9.slots ≤ _)⟩)
  dsimp only [Pt.U, Pt.locs, Pt.cells, Pt.slots] at X5 l5 y5 z5 st5 hQ5
  subst l5 y5 z5
  obtain ⟨rfl, Nq5, Kq5, E_b172_5, F_b172_tag_5, F_b172_valueStart_5, F_b172_length_5⟩ := hQ5
  obtain ⟨h5, e5⟩ : ∃ z, T5.heap = z := ⟨_, rfl⟩
  rw [e5] at Kq5 E_b172_5 F_b172_tag_5 F_b172_valueStart_5 F_b172_length_5
  have N5 := Fr.app N3 Nq5
  have Z5 : n0 ≤ h5.size := Nat.le_trans Z4 Kq5.1
  have E_o0_5 := E_o0_4.keep Kq5
  have F_o0_data_5 := F_o0_data_4.keep Kq5 (ninS ne_o0_b172 nin0)
  have F_o0_position_5 := F_o0_position_4.keep Kq5 (ninS ne_o0_b172 nin0)
  have V_d_5 := V_d_4.keep Kq5 (ninS ne_d_b172 nin0)
  have K5 := K4.trans Kq5 (by intro z hz; simp only [List.mem_cons, List.not_mem_nil, or_false] at hz; first | exact absurd hz id | (rcases hz with rfl; exact Or.inr sz_b172))
  refine EndsIn.by (B := T5.setTop (mkF m 182 #[.val (.ref o0), .val (.int ((o0_position + (1 : Int32)) + (1 : Int32))), .val (.int (f8_0 o0_position o0_position d_n d_xs)), .val (.int (f8_0 (o0_position + (1 : Int32)) o0_position d_n d_xs)), .unset, .unset] [(.ref b172)])) (fun t k => st5.trans k) ?_
  subst hr
  exact own_retR X5 hx hlk hret rfl (hb hby d7_182) (by decide) (by decide) ⟨b172, rfl, N5, g_b172, sz_b172, (by rw [e5]; exact K5), (by rw [e5]; exact E_b172_5), (by rw [e5]; exact F_b172_tag_5), (by rw [e5]; exact F_b172_valueStart_5), (by rw [e5]; exact F_b172_length_5)⟩
theorem ef_7 (m : MethodId) (o0 : Addr) : entryFrame m #[(.ref o0)] 6 = (mkF m 0 #[.val (.ref o0), .unset, .unset, .unset, .unset, .unset] []) := by first | (simp [entryFrame, mkF, argsToLocals, Value.category]; done) | rfl
set_option maxRecDepth 65536 in
set_option maxHeartbeats 40000000 in
theorem rm7 (l : Launch) (Z : State) (a0 : Array Value) (hw : ∀ d ∈ tables_1, d.before a0 Z = true) (ws : List Jvm.Cond) (o0 : Addr) (d : Addr) (o0_position : Int32) (d_k : ClassId) (d_n : Int32) (d_xs : List Int32) (h0 : Heap) (n0 : Nat) (Z0 : n0 ≤ h0.size) (E_o0 : Exa Z h0 o0 "com/example/pure_mrtd/puremrtd/format/TlvReader") (F_o0_data : Fld Z h0 o0 "com/example/pure_mrtd/puremrtd/format/TlvReader" "data" "[B" (.ref d)) (F_o0_position : Fld Z h0 o0 "com/example/pure_mrtd/puremrtd/format/TlvReader" "position" "I" (.int o0_position)) (V_d : Arv Z h0 d d_k .byte d_n (d_xs.map Value.int) (.int 0)) (ln_d : d_xs.length = d_n.toNatClampNeg) (hk : own_ok o0_position d_n d_xs) :
    MetFree l (⟨"com/example/pure_mrtd/puremrtd/format/TlvReader", "header", "()Lcom/example/pure_mrtd/puremrtd/format/TlvReader$Header;"⟩ : MethodName) (head1 (Jvm.Cond.code (⟨"com/example/pure_mrtd/puremrtd/format/TlvReader", "header", "()Lcom/example/pure_mrtd/puremrtd/format/TlvReader$Header;"⟩ : MethodName) prog_27_method_8_code 6 (some (.object "com/example/pure_mrtd/puremrtd/format/TlvReader$Header")) :: ws) R7) (fun a U => a = #[(.ref o0)] ∧ Z.Warmed39 U.vm ∧ U.heap = h0) (fun _ _ _ _ _ => True) (fun _ U o U' => ∃ v L, o = .returned v ∧ (Q7 Z  h0 n0 (f7_0 o0_position d_n d_xs)) v U'.heap L ∧ FrameEnd U o U' L R7.cells R7.slots) := by
  refine MetFree.of_bodySF (plainFor_of_name pn_7) hisR ?_
  intro p e s m args below meth c s₁ Bd hml0 hP hK
  obtain ⟨rfl, hZ, hh⟩ := hP
  have B : Ctx p Z s a0 m meth c "com/example/pure_mrtd/puremrtd/format/TlvReader" "header" prog_27_method_8_code 6 (some (.object "com/example/pure_mrtd/puremrtd/format/TlvReader$Header")) := ⟨Bd.exec, hZ, hw, Bd.bytes, hml0, Bd.returns, findClass_of_methodNamed Bd.named, (name_of_methodNamed Bd.named Bd.method).1, Bd.notSynchronized⟩
  have X0 : Stand p l e R7 s m #[(.ref o0)] below meth c s₁ [] 0 0 := Stand.of_body Bd
  have e0 : s₁.heap = h0 := by rw [← hh, Bd.state]; rfl
  have K := Keep.refl h0 []
  show EndsIn p e below s R7.cells R7.slots (Q7 Z  h0 n0 (f7_0 o0_position d_n d_xs)) (s₁.setTop (entryFrame m #[(.ref o0)] 6))
  refine EndsIn.by (fun t k => castTop (ef_7 m o0) k) ?_
  exact b7_0 B h0 n0 o0 d o0_position d_k d_n d_xs X0 e0 (Fr.nil n0) Z0 K E_o0 F_o0_data F_o0_position V_d ln_d hk _ rfl
theorem pd_5 : parseMethodDescriptor "()Lcom/example/pure_mrtd/puremrtd/format/TlvReader$Header;" = some ⟨[], some (.object "com/example/pure_mrtd/puremrtd/format/TlvReader$Header")⟩ := by decide +kernel
theorem d12_0 : decode jdk_65_method_131_code 0 = .ok (.iload_n 1, 1) := by decide +kernel
theorem d12_1 : decode jdk_65_method_131_code 1 = .ok (.iload_n 0, 1) := by decide +kernel
theorem d12_2 : decode jdk_65_method_131_code 2 = .ok (.if_icmp .ge 35, 3) := by decide +kernel
theorem d12_37 : decode jdk_65_method_131_code 37 = .ok (.return_, 1) := by decide +kernel
theorem pn_12 : plainName "java/util/Arrays" = true := by first | (simp [plainName, overriddenIn]; done) | decide +kernel
def R12 : Room := { frames := 0, cells := 0, slots := 0, locals := 0 }
def Q12 (Z : State)  (h0 : Heap) (n0 : Nat) (r : Unit) (v : Option Value) (h : Heap) (L : List Loc) : Prop := v = none ∧ Fr n0 L ∧ h = h0
def f12_0 (v0 : Int32) (v1 : Int32) : Unit := ()
set_option maxRecDepth 65536 in
set_option maxHeartbeats 40000000 in
theorem b12_0 {p : Program} {l : Launch} {e : Env} {s : State} {m : MethodId} {args : Array Value} {below : List Frame} {meth : Method} {c : Code} {Z : State} {a0 : Array Value} (B : Ctx p Z s a0 m meth c "java/util/Arrays" "checkLength" jdk_65_method_131_code 2 none) {T0 : State} {locs : List Loc} {h : Heap} (h0 : Heap) (n0 : Nat) (v0 : Int32) (v1 : Int32) (X0 : Stand p l e R12 s m args below meth c T0 locs 0 0) (e0 : T0.heap = h) (N0 : Fr n0 locs) (Z0 : n0 ≤ h.size) (hh0 : h = h0) (hl : ¬ (v1 < v0)) (r : Unit) (hr : f12_0 v0 v1 = r) :
    EndsIn p e below s R12.cells R12.slots (Q12 Z  h0 n0 r) (T0.setTop (mkF m 0 #[.val (.int v0), .val (.int v1)] [])) := by
  obtain ⟨hx, hZ, hw, hby, hml, hret, hown, hnm, hlk⟩ := B
  unfold f12_0 at hr
  refine EndsIn.by (B := T0.setTop (mkF m 2 #[.val (.int v0), .val (.int v1)] [(.int v0), (.int v1)])) (fun t k => ?_) ?_
  · show Steps p.tables e below (T0.setTop (mkF m 0 #[.val (.int v0), .val (.int v1)] [])) _
    refine XS.iloadN X0.here hx rfl (hb hby d12_0) rfl  ?_
    show Steps p.tables e below (T0.setTop (mkF m 1 #[.val (.int v0), .val (.int v1)] [(.int v1)])) _
    refine XS.iloadN X0.here hx rfl (hb hby d12_1) rfl  ?_
    exact k
  have hc2 : ¬ (v1 < v0) := hl
  refine EndsIn.by (B := T0.setTop (mkF m 37 #[.val (.int v0), .val (.int v1)] [])) (fun t k => ?_) ?_
  · show Steps p.tables e below (T0.setTop (mkF m 2 #[.val (.int v0), .val (.int v1)] [(.int v0), (.int v1)])) _
    exact XS.icmpYes X0.here hx rfl (pc0 := 2) (pc' := 37) rfl (hb hby d12_2) rfl (flt hc2).2.1 (by decide) (by decide) k
  subst hr
  exact own_ret0 X0 hx hlk hret (hb hby d12_37) (by decide) (by decide) ⟨rfl, N0, (e0.trans hh0)⟩
theorem ef_12 (m : MethodId) (v0 : Int32) (v1 : Int32) : entryFrame m #[(.int v0), (.int v1)] 2 = (mkF m 0 #[.val (.int v0), .val (.int v1)] []) := by first | (simp [entryFrame, mkF, argsToLocals, Value.category]; done) | rfl
set_option maxRecDepth 65536 in
set_option maxHeartbeats 40000000 in
theorem rm12 (l : Launch) (Z : State) (a0 : Array Value) (hw : ∀ d ∈ tables_1, d.before a0 Z = true) (ws : List Jvm.Cond) (v0 : Int32) (v1 : Int32) (h0 : Heap) (n0 : Nat) (Z0 : n0 ≤ h0.size) (hl : ¬ (v1 < v0)) :
    MetFree l (⟨"java/util/Arrays", "checkLength", "(II)V"⟩ : MethodName) (head1 (Jvm.Cond.code (⟨"java/util/Arrays", "checkLength", "(II)V"⟩ : MethodName) jdk_65_method_131_code 2 none :: ws) R12) (fun a U => a = #[(.int v0), (.int v1)] ∧ Z.Warmed39 U.vm ∧ U.heap = h0) (fun _ _ _ _ _ => True) (fun _ U o U' => ∃ v L, o = .returned v ∧ (Q12 Z  h0 n0 (f12_0 v0 v1)) v U'.heap L ∧ FrameEnd U o U' L R12.cells R12.slots) := by
  refine MetFree.of_bodySF (plainFor_of_name pn_12) hisR ?_
  intro p e s m args below meth c s₁ Bd hml0 hP hK
  obtain ⟨rfl, hZ, hh⟩ := hP
  have B : Ctx p Z s a0 m meth c "java/util/Arrays" "checkLength" jdk_65_method_131_code 2 none := ⟨Bd.exec, hZ, hw, Bd.bytes, hml0, Bd.returns, findClass_of_methodNamed Bd.named, (name_of_methodNamed Bd.named Bd.method).1, Bd.notSynchronized⟩
  have X0 : Stand p l e R12 s m #[(.int v0), (.int v1)] below meth c s₁ [] 0 0 := Stand.of_body Bd
  have e0 : s₁.heap = h0 := by rw [← hh, Bd.state]; rfl
  have K := Keep.refl h0 []
  show EndsIn p e below s R12.cells R12.slots (Q12 Z  h0 n0 (f12_0 v0 v1)) (s₁.setTop (entryFrame m #[(.int v0), (.int v1)] 2))
  refine EndsIn.by (fun t k => castTop (ef_12 m v0 v1) k) ?_
  exact b12_0 B h0 n0 v0 v1 X0 e0 (Fr.nil n0) Z0 rfl hl _ rfl
theorem pd_6 : parseMethodDescriptor "(II)V" = some ⟨[.int, .int], none⟩ := by decide +kernel
theorem d13_0 : decode jdk_29_method_69_code 0 = .ok (.iload_n 0, 1) := by decide +kernel
theorem d13_1 : decode jdk_29_method_69_code 1 = .ok (.iload_n 1, 1) := by decide +kernel
theorem d13_2 : decode jdk_29_method_69_code 2 = .ok (.if_icmp .gt 7, 3) := by decide +kernel
theorem d13_5 : decode jdk_29_method_69_code 5 = .ok (.iload_n 0, 1) := by decide +kernel
theorem d13_6 : decode jdk_29_method_69_code 6 = .ok (.goto 4, 3) := by decide +kernel
theorem d13_9 : decode jdk_29_method_69_code 9 = .ok (.iload_n 1, 1) := by decide +kernel
theorem d13_10 : decode jdk_29_method_69_code 10 = .ok (.ireturn, 1) := by decide +kernel
def R13 : Room := { frames := 0, cells := 0, slots := 0, locals := 0 }
def Q13 (Z : State)  (h0 : Heap) (n0 : Nat) (r : Int32) (v : Option Value) (h : Heap) (L : List Loc) : Prop := v = some (.int r) ∧ Fr n0 L ∧ h = h0
def f13_0 (v0 : Int32) (v1 : Int32) : Int32 := (if v1 < v0 then v1 else v0)
set_option maxRecDepth 65536 in
set_option maxHeartbeats 40000000 in
theorem b13_0 {p : Program} {l : Launch} {e : Env} {s : State} {m : MethodId} {args : Array Value} {below : List Frame} {meth : Method} {c : Code} {Z : State} {a0 : Array Value} (B : Ctx p Z s a0 m meth c "java/lang/Math" "min" jdk_29_method_69_code 2 (some .int)) {T0 : State} {locs : List Loc} {h : Heap} (h0 : Heap) (n0 : Nat) (v0 : Int32) (v1 : Int32) (X0 : Stand p l e R13 s m args below meth c T0 locs 0 0) (e0 : T0.heap = h) (N0 : Fr n0 locs) (Z0 : n0 ≤ h.size) (hh0 : h = h0) (r : Int32) (hr : f13_0 v0 v1 = r) :
    EndsIn p e below s R13.cells R13.slots (Q13 Z  h0 n0 r) (T0.setTop (mkF m 0 #[.val (.int v0), .val (.int v1)] [])) := by
  obtain ⟨hx, hZ, hw, hby, hml, hret, hown, hnm, hlk⟩ := B
  unfold f13_0 at hr
  refine EndsIn.by (B := T0.setTop (mkF m 2 #[.val (.int v0), .val (.int v1)] [(.int v1), (.int v0)])) (fun t k => ?_) ?_
  · show Steps p.tables e below (T0.setTop (mkF m 0 #[.val (.int v0), .val (.int v1)] [])) _
    refine XS.iloadN X0.here hx rfl (hb hby d13_0) rfl  ?_
    show Steps p.tables e below (T0.setTop (mkF m 1 #[.val (.int v0), .val (.int v1)] [(.int v0)])) _
    refine XS.iloadN X0.here hx rfl (hb hby d13_1) rfl  ?_
    exact k
  by_cases hc2 : v1 < v0
  · rw [if_pos hc2] at hr
    refine EndsIn.by (B := T0.setTop (mkF m 9 #[.val (.int v0), .val (.int v1)] [])) (fun t k => ?_) ?_
    · show Steps p.tables e below (T0.setTop (mkF m 2 #[.val (.int v0), .val (.int v1)] [(.int v1), (.int v0)])) _
      exact XS.icmpYes X0.here hx rfl (pc0 := 2) (pc' := 9) rfl (hb hby d13_2) rfl (tlt hc2).2.2.1 (by decide) (by decide) k
    refine EndsIn.by (B := T0.setTop (mkF m 10 #[.val (.int v0), .val (.int v1)] [(.int v1)])) (fun t k => ?_) ?_
    · show Steps p.tables e below (T0.setTop (mkF m 9 #[.val (.int v0), .val (.int v1)] [])) _
      refine XS.iloadN X0.here hx rfl (hb hby d13_9) rfl  ?_
      exact k
    subst hr
    exact own_retI X0 hx hlk hret (hb hby d13_10) (by decide) (by decide) ⟨rfl, N0, (e0.trans hh0)⟩
  · rw [if_neg hc2] at hr
    refine EndsIn.by (B := T0.setTop (mkF m 5 #[.val (.int v0), .val (.int v1)] [])) (fun t k => ?_) ?_
    · show Steps p.tables e below (T0.setTop (mkF m 2 #[.val (.int v0), .val (.int v1)] [(.int v1), (.int v0)])) _
      exact XS.icmpNo X0.here hx rfl (hb hby d13_2) rfl (flt hc2).2.2.1 k
    refine EndsIn.by (B := T0.setTop (mkF m 10 #[.val (.int v0), .val (.int v1)] [(.int v0)])) (fun t k => ?_) ?_
    · show Steps p.tables e below (T0.setTop (mkF m 5 #[.val (.int v0), .val (.int v1)] [])) _
      refine XS.iloadN X0.here hx rfl (hb hby d13_5) rfl  ?_
      show Steps p.tables e below (T0.setTop (mkF m 6 #[.val (.int v0), .val (.int v1)] [(.int v0)])) _
      refine XS.goto X0.here hx rfl (pc0 := 6) (pc' := 10) rfl (hb hby d13_6) (by decide) (by decide) ?_
      exact k
    subst hr
    exact own_retI X0 hx hlk hret (hb hby d13_10) (by decide) (by decide) ⟨rfl, N0, (e0.trans hh0)⟩
theorem ef_13 (m : MethodId) (v0 : Int32) (v1 : Int32) : entryFrame m #[(.int v0), (.int v1)] 2 = (mkF m 0 #[.val (.int v0), .val (.int v1)] []) := by first | (simp [entryFrame, mkF, argsToLocals, Value.category]; done) | rfl
set_option maxRecDepth 65536 in
set_option maxHeartbeats 40000000 in
theorem rm13 (l : Launch) (Z : State) (a0 : Array Value) (hw : ∀ d ∈ tables_1, d.before a0 Z = true) (ws : List Jvm.Cond) (v0 : Int32) (v1 : Int32) (h0 : Heap) (n0 : Nat) (Z0 : n0 ≤ h0.size) :
    MetFree l (⟨"java/lang/Math", "min", "(II)I"⟩ : MethodName) (head1 (Jvm.Cond.code (⟨"java/lang/Math", "min", "(II)I"⟩ : MethodName) jdk_29_method_69_code 2 (some .int) :: ws) R13) (fun a U => a = #[(.int v0), (.int v1)] ∧ Z.Warmed39 U.vm ∧ U.heap = h0) (fun _ _ _ _ _ => True) (fun _ U o U' => ∃ v L, o = .returned v ∧ (Q13 Z  h0 n0 (f13_0 v0 v1)) v U'.heap L ∧ FrameEnd U o U' L R13.cells R13.slots) := by
  refine MetFree.of_bodySF (Jvm.Free.JP.mathPlain rfl (by decide +kernel)) hisR ?_
  intro p e s m args below meth c s₁ Bd hml0 hP hK
  obtain ⟨rfl, hZ, hh⟩ := hP
  have B : Ctx p Z s a0 m meth c "java/lang/Math" "min" jdk_29_method_69_code 2 (some .int) := ⟨Bd.exec, hZ, hw, Bd.bytes, hml0, Bd.returns, findClass_of_methodNamed Bd.named, (name_of_methodNamed Bd.named Bd.method).1, Bd.notSynchronized⟩
  have X0 : Stand p l e R13 s m #[(.int v0), (.int v1)] below meth c s₁ [] 0 0 := Stand.of_body Bd
  have e0 : s₁.heap = h0 := by rw [← hh, Bd.state]; rfl
  have K := Keep.refl h0 []
  show EndsIn p e below s R13.cells R13.slots (Q13 Z  h0 n0 (f13_0 v0 v1)) (s₁.setTop (entryFrame m #[(.int v0), (.int v1)] 2))
  refine EndsIn.by (fun t k => castTop (ef_13 m v0 v1) k) ?_
  exact b13_0 B h0 n0 v0 v1 X0 e0 (Fr.nil n0) Z0 rfl  _ rfl
theorem pd_7 : parseMethodDescriptor "(II)I" = some ⟨[.int, .int], some .int⟩ := by decide +kernel

theorem own_hcz {v1 v2 n : Int32} (h : own_r v1 v2 n) : ¬ (v1 < 0) ∧ ¬ ((0 : Int32) < 0) ∧ ¬ ((f13_0 (n - v1) (v2 - v1)) < 0) ∧ v1.toNatClampNeg + (f13_0 (n - v1) (v2 - v1)).toNatClampNeg ≤ n.toNatClampNeg ∧
    (0 : Int32).toNatClampNeg + (f13_0 (n - v1) (v2 - v1)).toNatClampNeg ≤ (v2 - v1).toNatClampNeg := by
  have e := own_bma h
  obtain ⟨h1, h2, h3, h4, h5⟩ := h
  have e2 := own_sub (a := n) (b := v1) rfl rfl (by omega)
  have em : f13_0 (n - v1) (v2 - v1) = v2 - v1 := by
    unfold f13_0
    split
    · rfl
    · rename_i q; have q := own_nltI q; apply Int32.toInt_inj.mp; omega
  rw [em]
  have q1 := own_nat v1; have q2 := own_nat (v2 - v1); have q3 := own_nat n
  have q0 : (0 : Int32).toNatClampNeg = 0 := rfl
  refine ⟨own_nlt (by rw [own_c0]; omega), by decide, own_nlt (by rw [own_c0]; omega), ?_, ?_⟩
  · split at q1 <;> split at q2 <;> split at q3 <;> omega
  · omega

theorem d11_0 : decode jdk_65_method_133_code 0 = .ok (.iload_n 1, 1) := by decide +kernel
theorem d11_1 : decode jdk_65_method_133_code 1 = .ok (.iload_n 2, 1) := by decide +kernel
theorem d11_2 : decode jdk_65_method_133_code 2 = .ok (.invokestatic 343, 3) := by decide +kernel
theorem d11_5 : decode jdk_65_method_133_code 5 = .ok (.iload_n 2, 1) := by decide +kernel
theorem d11_6 : decode jdk_65_method_133_code 6 = .ok (.iload_n 1, 1) := by decide +kernel
theorem d11_7 : decode jdk_65_method_133_code 7 = .ok (.isub, 1) := by decide +kernel
theorem d11_8 : decode jdk_65_method_133_code 8 = .ok (.istore_n 3, 1) := by decide +kernel
theorem d11_9 : decode jdk_65_method_133_code 9 = .ok (.iload_n 3, 1) := by decide +kernel
theorem d11_10 : decode jdk_65_method_133_code 10 = .ok (.newarray .byte, 2) := by decide +kernel
theorem d11_12 : decode jdk_65_method_133_code 12 = .ok (.astore 4, 2) := by decide +kernel
theorem d11_14 : decode jdk_65_method_133_code 14 = .ok (.aload_n 0, 1) := by decide +kernel
theorem d11_15 : decode jdk_65_method_133_code 15 = .ok (.iload_n 1, 1) := by decide +kernel
theorem d11_16 : decode jdk_65_method_133_code 16 = .ok (.aload 4, 2) := by decide +kernel
theorem d11_18 : decode jdk_65_method_133_code 18 = .ok (.iconst 0, 1) := by decide +kernel
theorem d11_19 : decode jdk_65_method_133_code 19 = .ok (.aload_n 0, 1) := by decide +kernel
theorem d11_20 : decode jdk_65_method_133_code 20 = .ok (.arraylength, 1) := by decide +kernel
theorem d11_21 : decode jdk_65_method_133_code 21 = .ok (.iload_n 1, 1) := by decide +kernel
theorem d11_22 : decode jdk_65_method_133_code 22 = .ok (.isub, 1) := by decide +kernel
theorem d11_23 : decode jdk_65_method_133_code 23 = .ok (.iload_n 3, 1) := by decide +kernel
theorem d11_24 : decode jdk_65_method_133_code 24 = .ok (.invokestatic 304, 3) := by decide +kernel
theorem d11_27 : decode jdk_65_method_133_code 27 = .ok (.invokestatic 150, 3) := by decide +kernel
theorem d11_30 : decode jdk_65_method_133_code 30 = .ok (.aload 4, 2) := by decide +kernel
theorem d11_32 : decode jdk_65_method_133_code 32 = .ok (.areturn, 1) := by decide +kernel
theorem pn_11 : plainName "java/util/Arrays" = true := by first | (simp [plainName, overriddenIn]; done) | decide +kernel
def R11 : Room := { frames := 1, cells := 1, slots := 2, locals := 18 }
def Q11 (Z : State)  (h0 : Heap) (n0 : Nat) (r : Unit) (v : Option Value) (h : Heap) (L : List Loc) : Prop := ∃ (b : Addr) , v = some (.ref b) ∧ Fr n0 L ∧ n0 ≤ b ∧ h0.size ≤ b ∧ Keep h0 h []
def f11_0 (v1 : Int32) (v2 : Int32) (o0_n : Int32) (o0_xs : List Int32) : Unit := ()
set_option maxRecDepth 65536 in
set_option maxHeartbeats 40000000 in
theorem b11_0 {p : Program} {l : Launch} {e : Env} {s : State} {m : MethodId} {args : Array Value} {below : List Frame} {meth : Method} {c : Code} {Z : State} {a0 : Array Value} (B : Ctx p Z s a0 m meth c "java/util/Arrays" "copyOfRangeByte" jdk_65_method_133_code 5 (some (.array .byte))) {T0 : State} {locs : List Loc} {h : Heap} (h0 : Heap) (n0 : Nat) (o0 : Addr) (v1 : Int32) (v2 : Int32) (o0_k : ClassId) (o0_n : Int32) (o0_xs : List Int32) (X0 : Stand p l e R11 s m args below meth c T0 locs 0 0) (e0 : T0.heap = h) (N0 : Fr n0 locs) (Z0 : n0 ≤ h.size) (K : Keep h0 h []) (V_o0 : Arv Z h o0 o0_k .byte o0_n (o0_xs.map Value.int) (.int 0)) (ln_o0 : o0_xs.length = o0_n.toNatClampNeg) (hrg : own_r v1 v2 o0_n) (r : Unit) (hr : f11_0 v1 v2 o0_n o0_xs = r) :
    EndsIn p e below s R11.cells R11.slots (Q11 Z  h0 n0 r) (T0.setTop (mkF m 0 #[.val (.ref o0), .val (.int v1), .val (.int v2), .unset, .unset] [])) := by
  obtain ⟨hx, hZ, hw, hby, hml, hret, hown, hnm, hlk⟩ := B
  unfold f11_0 at hr
  refine EndsIn.by (B := T0.setTop (mkF m 2 #[.val (.ref o0), .val (.int v1), .val (.int v2), .unset, .unset] [(.int v2), (.int v1)])) (fun t k => ?_) ?_
  · show Steps p.tables e below (T0.setTop (mkF m 0 #[.val (.ref o0), .val (.int v1), .val (.int v2), .unset, .unset] [])) _
    refine XS.iloadN X0.here hx rfl (hb hby d11_0) rfl  ?_
    show Steps p.tables e below (T0.setTop (mkF m 1 #[.val (.ref o0), .val (.int v1), .val (.int v2), .unset, .unset] [(.int v1)])) _
    refine XS.iloadN X0.here hx rfl (hb hby d11_1) rfl  ?_
    exact k
  have hp1_hl : ¬ (v2 < v1) := own_hl hrg
  -- pc 2: java/util/Arrays.checkLength
  obtain ⟨_, _, ⟨T1, L1, k1, n1⟩, -, X1, ⟨Lc1, hQ1, l1, y1, z1⟩, st1⟩ := Jvm.LawKit.callS X0 hx (y := (⟨"java/util/Arrays", "checkLength", "(II)V"⟩ : MethodName)) hown (mvT hZ (hw _ (List.mem_of_getElem? (i := 65) rfl))) (mvT hZ (hw _ (List.mem_of_getElem? (i := 66) rfl))) (mvT hZ (hw _ (List.mem_of_getElem? (i := 60) rfl))) (mvT hZ (hw _ (List.mem_of_getElem? (i := 67) rfl))) (by decide) (backOf (W := 0) (rm12 l Z a0 hw [] v1 v2 h n0 Z0 hp1_hl) hZ (hw _ (List.mem_of_getElem? (i := 67) rfl)) (hw _ (List.mem_of_getElem? (i := 60) rfl)) (by decide) (by decide)) (g := (mkF m 2 #[.val (.ref o0), .val (.int v1), .val (.int v2), .unset, .unset] [(.int v2), (.int v1)])) rfl (by rw [hml]; rfl) (argsL := [(.int v1), (.int v2)]) (rest := []) (lenOf pd_6 rfl) rfl (by show 2 * 0 + _ ≤ _; exact Nat.le_of_eq rfl) (hb hby d11_2) (fun _ _ => ⟨rfl, e0, (by decide : 0 + R12.cells ≤ _), (by decide : 0 + R12.slots ≤ _)⟩)
  dsimp only [Pt.U, Pt.locs, Pt.cells, Pt.slots] at X1 l1 y1 z1 st1 hQ1
  subst l1 y1 z1
  obtain ⟨rfl, Nq1, e1⟩ := hQ1
  have N1 := Fr.app N0 Nq1
  refine EndsIn.by (B := T1.setTop (mkF m 5 #[.val (.ref o0), .val (.int v1), .val (.int v2), .unset, .unset] [])) (fun t k => st1 t k) ?_
  refine EndsIn.by (B := T1.setTop (mkF m 10 #[.val (.ref o0), .val (.int v1), .val (.int v2), .val (.int (v2 - v1)), .unset] [(.int (v2 - v1))])) (fun t k => ?_) ?_
  · show Steps p.tables e below (T1.setTop (mkF m 5 #[.val (.ref o0), .val (.int v1), .val (.int v2), .unset, .unset] [])) _
    refine XS.iloadN X1.here hx rfl (hb hby d11_5) rfl  ?_
    show Steps p.tables e below (T1.setTop (mkF m 6 #[.val (.ref o0), .val (.int v1), .val (.int v2), .unset, .unset] [(.int v2)])) _
    refine XS.iloadN X1.here hx rfl (hb hby d11_6) rfl  ?_
    show Steps p.tables e below (T1.setTop (mkF m 7 #[.val (.ref o0), .val (.int v1), .val (.int v2), .unset, .unset] [(.int v1), (.int v2)])) _
    refine XS.isub X1.here hx rfl (hb hby d11_7) rfl ?_
    show Steps p.tables e below (T1.setTop (mkF m 8 #[.val (.ref o0), .val (.int v1), .val (.int v2), .unset, .unset] [(.int (v2 - v1))])) _
    refine XS.istoreN X1.here hx rfl (hb hby d11_8) rfl (l' := #[.val (.ref o0), .val (.int v1), .val (.int v2), .val (.int (v2 - v1)), .unset]) rfl ?_
    show Steps p.tables e below (T1.setTop (mkF m 9 #[.val (.ref o0), .val (.int v1), .val (.int v2), .val (.int (v2 - v1)), .unset] [])) _
    refine XS.iloadN X1.here hx rfl (hb hby d11_9) rfl  ?_
    exact k
  obtain ⟨T2, h2, k2, X2, e2, X2e, A2, st2⟩ := newP X1 hx hZ (hw _ (List.mem_of_getElem? (i := 0) rfl)) e1 (g := (mkF m 10 #[.val (.ref o0), .val (.int v1), .val (.int v2), .val (.int (v2 - v1)), .unset] [(.int (v2 - v1))])) rfl (hb hby d11_10) rfl (own_neg2 hrg) (cap := 2) (own_cap2 hrg) (by decide) (by decide) (by decide)
  obtain ⟨b10, g2⟩ : ∃ z, z = h.size := ⟨_, rfl⟩
  rw [← g2] at A2 st2
  have g_b10 : n0 ≤ b10 := Nat.le_trans Z0 (Nat.le_of_eq g2.symm)
  have sz_b10 : h0.size ≤ b10 := Nat.le_trans K.1 (Nat.le_of_eq g2.symm)
  have ne_o0_b10 : o0 ≠ b10 := Nat.ne_of_lt (Nat.lt_of_lt_of_le V_o0.lt (Nat.le_of_eq g2.symm))
  have V_o0_2 := V_o0.ext X2e
  have Z2 : n0 ≤ h2.size := Nat.le_trans Z0 X2e.1
  have K2 := K.ext X2e
  obtain ⟨V_b10_2, ln_b10_2⟩ : Arv Z h2 b10 k2 .byte (v2 - v1) ((List.replicate (v2 - v1).toNatClampNeg (0 : Int32)).map Value.int) (.int 0) ∧ (List.replicate (v2 - v1).toNatClampNeg (0 : Int32)).length = (v2 - v1).toNatClampNeg := own_newI A2 rfl (own_neg2 hrg) (xs := (List.replicate (v2 - v1).toNatClampNeg (0 : Int32))) rfl
  refine EndsIn.by (B := T2.setTop (mkF m 12 #[.val (.ref o0), .val (.int v1), .val (.int v2), .val (.int (v2 - v1)), .unset] [(.ref b10)])) (fun t k => st2 t k) ?_
  refine EndsIn.by (B := T2.setTop (mkF m 20 #[.val (.ref o0), .val (.int v1), .val (.int v2), .val (.int (v2 - v1)), .val (.ref b10)] [(.ref o0), (.int (0 : Int32)), (.ref b10), (.int v1), (.ref o0)])) (fun t k => ?_) ?_
  · show Steps p.tables e below (T2.setTop (mkF m 12 #[.val (.ref o0), .val (.int v1), .val (.int v2), .val (.int (v2 - v1)), .unset] [(.ref b10)])) _
    refine XS.astore X2.here hx rfl (hb hby d11_12) rfl rfl (l' := #[.val (.ref o0), .val (.int v1), .val (.int v2), .val (.int (v2 - v1)), .val (.ref b10)]) rfl ?_
    show Steps p.tables e below (T2.setTop (mkF m 14 #[.val (.ref o0), .val (.int v1), .val (.int v2), .val (.int (v2 - v1)), .val (.ref b10)] [])) _
    refine XS.aloadN X2.here hx rfl (hb hby d11_14) rfl rfl ?_
    show Steps p.tables e below (T2.setTop (mkF m 15 #[.val (.ref o0), .val (.int v1), .val (.int v2), .val (.int (v2 - v1)), .val (.ref b10)] [(.ref o0)])) _
    refine XS.iloadN X2.here hx rfl (hb hby d11_15) rfl  ?_
    show Steps p.tables e below (T2.setTop (mkF m 16 #[.val (.ref o0), .val (.int v1), .val (.int v2), .val (.int (v2 - v1)), .val (.ref b10)] [(.int v1), (.ref o0)])) _
    refine XS.aload X2.here hx rfl (hb hby d11_16) rfl rfl ?_
    show Steps p.tables e below (T2.setTop (mkF m 18 #[.val (.ref o0), .val (.int v1), .val (.int v2), .val (.int (v2 - v1)), .val (.ref b10)] [(.ref b10), (.int v1), (.ref o0)])) _
    refine XS.iconst X2.here hx rfl (hb hby d11_18) ?_
    show Steps p.tables e below (T2.setTop (mkF m 19 #[.val (.ref o0), .val (.int v1), .val (.int v2), .val (.int (v2 - v1)), .val (.ref b10)] [(.int (0 : Int32)), (.ref b10), (.int v1), (.ref o0)])) _
    refine XS.aloadN X2.here hx rfl (hb hby d11_19) rfl rfl ?_
    exact k
  have V3 := V_o0_2
  obtain ⟨cl3, Ar3, -, S3, M3, -, -⟩ := V3
  refine EndsIn.by (B := T2.setTop (mkF m 21 #[.val (.ref o0), .val (.int v1), .val (.int v2), .val (.int (v2 - v1)), .val (.ref b10)] [(.int o0_n), (.int (0 : Int32)), (.ref b10), (.int v1), (.ref o0)])) (fun t k => ?_) ?_
  · show Steps p.tables e below (T2.setTop (mkF m 20 #[.val (.ref o0), .val (.int v1), .val (.int v2), .val (.int (v2 - v1)), .val (.ref b10)] [(.ref o0), (.int (0 : Int32)), (.ref b10), (.int v1), (.ref o0)])) _
    refine X2.arraylength hx (by rw [e2]; exact Ar3.1) (State.isArrayOf_alike hZ.alike Ar3.2.1) (g := (mkF m 20 #[.val (.ref o0), .val (.int v1), .val (.int v2), .val (.int (v2 - v1)), .val (.ref b10)] [(.ref o0), (.int (0 : Int32)), (.ref b10), (.int v1), (.ref o0)])) rfl rfl (hb hby d11_20) _ ?_
    rw [len_of S3 M3]
    exact k
  refine EndsIn.by (B := T2.setTop (mkF m 24 #[.val (.ref o0), .val (.int v1), .val (.int v2), .val (.int (v2 - v1)), .val (.ref b10)] [(.int (v2 - v1)), (.int (o0_n - v1)), (.int (0 : Int32)), (.ref b10), (.int v1), (.ref o0)])) (fun t k => ?_) ?_
  · show Steps p.tables e below (T2.setTop (mkF m 21 #[.val (.ref o0), .val (.int v1), .val (.int v2), .val (.int (v2 - v1)), .val (.ref b10)] [(.int o0_n), (.int (0 : Int32)), (.ref b10), (.int v1), (.ref o0)])) _
    refine XS.iloadN X2.here hx rfl (hb hby d11_21) rfl  ?_
    show Steps p.tables e below (T2.setTop (mkF m 22 #[.val (.ref o0), .val (.int v1), .val (.int v2), .val (.int (v2 - v1)), .val (.ref b10)] [(.int v1), (.int o0_n), (.int (0 : Int32)), (.ref b10), (.int v1), (.ref o0)])) _
    refine XS.isub X2.here hx rfl (hb hby d11_22) rfl ?_
    show Steps p.tables e below (T2.setTop (mkF m 23 #[.val (.ref o0), .val (.int v1), .val (.int v2), .val (.int (v2 - v1)), .val (.ref b10)] [(.int (o0_n - v1)), (.int (0 : Int32)), (.ref b10), (.int v1), (.ref o0)])) _
    refine XS.iloadN X2.here hx rfl (hb hby d11_23) rfl  ?_
    exact k
  -- pc 24: java/lang/Math.min
  obtain ⟨_, _, ⟨T4, L4, k4, n4⟩, -, X4, ⟨Lc4, hQ4, l4, y4, z4⟩, st4⟩ := Jvm.LawKit.callS X2 hx (y := (⟨"java/lang/Math", "min", "(II)I"⟩ : MethodName)) hown (mvT hZ (hw _ (List.mem_of_getElem? (i := 68) rfl))) (mvT hZ (hw _ (List.mem_of_getElem? (i := 69) rfl))) (mvT hZ (hw _ (List.mem_of_getElem? (i := 70) rfl))) (mvT hZ (hw _ (List.mem_of_getElem? (i := 71) rfl))) (by decide) (backOf (W := 4) (rm13 l Z a0 hw [] (o0_n - v1) (v2 - v1) h2 n0 Z2 ) hZ (hw _ (List.mem_of_getElem? (i := 71) rfl)) (hw _ (List.mem_of_getElem? (i := 70) rfl)) (by decide) (by decide)) (g := (mkF m 24 #[.val (.ref o0), .val (.int v1), .val (.int v2), .val (.int (v2 - v1)), .val (.ref b10)] [(.int (v2 - v1)), (.int (o0_n - v1)), (.int (0 : Int32)), (.ref b10), (.int v1), (.ref o0)])) rfl (by rw [hml]; rfl) (argsL := [(.int (o0_n - v1)), (.int (v2 - v1))]) (rest := [(.int (0 : Int32)), (.ref b10), (.int v1), (.ref o0)]) (lenOf pd_7 rfl) rfl (by show 2 * 0 + _ ≤ _; exact Nat.le_of_eq rfl) (hb hby d11_24) (fun _ _ => ⟨rfl, e2, (by decide : 1 + R13.cells ≤ _), (by decide : 2 + R13.slots ≤ _)⟩)
  dsimp only [Pt.U, Pt.locs, Pt.cells, Pt.slots] at X4 l4 y4 z4 st4 hQ4
  subst l4 y4 z4
  obtain ⟨rfl, Nq4, e4⟩ := hQ4
  have N4 := Fr.app N1 Nq4
  refine EndsIn.by (B := T4.setTop (mkF m 27 #[.val (.ref o0), .val (.int v1), .val (.int v2), .val (.int (v2 - v1)), .val (.ref b10)] [(.int (f13_0 (o0_n - v1) (v2 - v1))), (.int (0 : Int32)), (.ref b10), (.int v1), (.ref o0)])) (fun t k => st4 t k) ?_
  have cz5 : ¬ (v1 < 0) ∧ ¬ ((0 : Int32) < 0) ∧ ¬ ((f13_0 (o0_n - v1) (v2 - v1)) < 0) ∧ v1.toNatClampNeg + (f13_0 (o0_n - v1) (v2 - v1)).toNatClampNeg ≤ o0_n.toNatClampNeg ∧ (0 : Int32).toNatClampNeg + (f13_0 (o0_n - v1) (v2 - v1)).toNatClampNeg ≤ (v2 - v1).toNatClampNeg := own_hcz hrg
  obtain ⟨T5, h5, L5, X5, e5, N5, Kq5, A5, st5⟩ := cpA X4 hx hZ hown (hw _ (List.mem_of_getElem? (i := 72) rfl)) (hw _ (List.mem_of_getElem? (i := 75) rfl)) (hw _ (List.mem_of_getElem? (i := 73) rfl)) (hw _ (List.mem_of_getElem? (i := 74) rfl)) e4 (sp := v1) (dp := (0 : Int32)) (nn := (f13_0 (o0_n - v1) (v2 - v1))) V_o0_2 V_b10_2 (Or.inl ⟨rfl, rfl⟩) cz5.1 cz5.2.1 cz5.2.2.1 cz5.2.2.2.1 cz5.2.2.2.2 rfl (by rw [List.length_map, ln_b10_2]; exact cz5.2.2.2.2) N4 g_b10 (g := (mkF m 27 #[.val (.ref o0), .val (.int v1), .val (.int v2), .val (.int (v2 - v1)), .val (.ref b10)] [(.int (f13_0 (o0_n - v1) (v2 - v1))), (.int (0 : Int32)), (.ref b10), (.int v1), (.ref o0)])) rfl (by rw [hml]; rfl) rfl (hb hby d11_27) (by decide) (W := 0) (by show 2 * 0 + _ ≤ _; exact Nat.le_of_eq rfl) (by decide)
  obtain ⟨V_b10_5, ln_b10_5⟩ : Arv Z h5 b10 k2 .byte (v2 - v1) ((own_cp o0_xs (List.replicate (v2 - v1).toNatClampNeg (0 : Int32)) v1.toNatClampNeg (0 : Int32).toNatClampNeg (f13_0 (o0_n - v1) (v2 - v1)).toNatClampNeg).map Value.int) (.int 0) ∧ (own_cp o0_xs (List.replicate (v2 - v1).toNatClampNeg (0 : Int32)) v1.toNatClampNeg (0 : Int32).toNatClampNeg (f13_0 (o0_n - v1) (v2 - v1)).toNatClampNeg).length = (v2 - v1).toNatClampNeg := own_cpI A5 ln_b10_2 cz5.2.2.2.2
  have Z5 : n0 ≤ h5.size := Nat.le_trans Z2 Kq5.1
  have V_o0_5 := V_o0_2.keep Kq5 (ninS ne_o0_b10 nin0)
  have K5 := K2.trans Kq5 (by intro z hz; simp only [List.mem_cons, List.not_mem_nil, or_false] at hz; rcases hz with rfl; exact Or.inr sz_b10)
  refine EndsIn.by (B := T5.setTop (mkF m 30 #[.val (.ref o0), .val (.int v1), .val (.int v2), .val (.int (v2 - v1)), .val (.ref b10)] [])) (fun t k => st5 t k) ?_
  refine EndsIn.by (B := T5.setTop (mkF m 32 #[.val (.ref o0), .val (.int v1), .val (.int v2), .val (.int (v2 - v1)), .val (.ref b10)] [(.ref b10)])) (fun t k => ?_) ?_
  · show Steps p.tables e below (T5.setTop (mkF m 30 #[.val (.ref o0), .val (.int v1), .val (.int v2), .val (.int (v2 - v1)), .val (.ref b10)] [])) _
    refine XS.aload X5.here hx rfl (hb hby d11_30) rfl rfl ?_
    exact k
  subst hr
  exact own_retR X5 hx hlk hret rfl (hb hby d11_32) (by decide) (by decide) ⟨b10, rfl, N5, g_b10, sz_b10, (by rw [e5]; exact K5)⟩
theorem ef_11 (m : MethodId) (o0 : Addr) (v1 : Int32) (v2 : Int32) : entryFrame m #[(.ref o0), (.int v1), (.int v2)] 5 = (mkF m 0 #[.val (.ref o0), .val (.int v1), .val (.int v2), .unset, .unset] []) := by first | (simp [entryFrame, mkF, argsToLocals, Value.category]; done) | rfl
set_option maxRecDepth 65536 in
set_option maxHeartbeats 40000000 in
theorem rm11 (l : Launch) (Z : State) (a0 : Array Value) (hw : ∀ d ∈ tables_1, d.before a0 Z = true) (ws : List Jvm.Cond) (o0 : Addr) (v1 : Int32) (v2 : Int32) (o0_k : ClassId) (o0_n : Int32) (o0_xs : List Int32) (h0 : Heap) (n0 : Nat) (Z0 : n0 ≤ h0.size) (V_o0 : Arv Z h0 o0 o0_k .byte o0_n (o0_xs.map Value.int) (.int 0)) (ln_o0 : o0_xs.length = o0_n.toNatClampNeg) (hrg : own_r v1 v2 o0_n) :
    MetFree l (⟨"java/util/Arrays", "copyOfRangeByte", "([BII)[B"⟩ : MethodName) (head1 (Jvm.Cond.code (⟨"java/util/Arrays", "copyOfRangeByte", "([BII)[B"⟩ : MethodName) jdk_65_method_133_code 5 (some (.array .byte)) :: ws) R11) (fun a U => a = #[(.ref o0), (.int v1), (.int v2)] ∧ Z.Warmed39 U.vm ∧ U.heap = h0) (fun _ _ _ _ _ => True) (fun _ U o U' => ∃ v L, o = .returned v ∧ (Q11 Z  h0 n0 (f11_0 v1 v2 o0_n o0_xs)) v U'.heap L ∧ FrameEnd U o U' L R11.cells R11.slots) := by
  refine MetFree.of_bodySF (plainFor_of_name pn_11) hisR ?_
  intro p e s m args below meth c s₁ Bd hml0 hP hK
  obtain ⟨rfl, hZ, hh⟩ := hP
  have B : Ctx p Z s a0 m meth c "java/util/Arrays" "copyOfRangeByte" jdk_65_method_133_code 5 (some (.array .byte)) := ⟨Bd.exec, hZ, hw, Bd.bytes, hml0, Bd.returns, findClass_of_methodNamed Bd.named, (name_of_methodNamed Bd.named Bd.method).1, Bd.notSynchronized⟩
  have X0 : Stand p l e R11 s m #[(.ref o0), (.int v1), (.int v2)] below meth c s₁ [] 0 0 := Stand.of_body Bd
  have e0 : s₁.heap = h0 := by rw [← hh, Bd.state]; rfl
  have K := Keep.refl h0 []
  show EndsIn p e below s R11.cells R11.slots (Q11 Z  h0 n0 (f11_0 v1 v2 o0_n o0_xs)) (s₁.setTop (entryFrame m #[(.ref o0), (.int v1), (.int v2)] 5))
  refine EndsIn.by (fun t k => castTop (ef_11 m o0 v1 v2) k) ?_
  exact b11_0 B h0 n0 o0 v1 v2 o0_k o0_n o0_xs X0 e0 (Fr.nil n0) Z0 K V_o0 ln_o0 hrg _ rfl
theorem pd_8 : parseMethodDescriptor "([BII)[B" = some ⟨[(.array .byte), .int, .int], some (.array .byte)⟩ := by decide +kernel
theorem d10_0 : decode jdk_65_method_132_code 0 = .ok (.iload_n 1, 1) := by decide +kernel
theorem d10_1 : decode jdk_65_method_132_code 1 = .ok (.ifCond .ne 9, 3) := by decide +kernel
theorem d10_10 : decode jdk_65_method_132_code 10 = .ok (.aload_n 0, 1) := by decide +kernel
theorem d10_11 : decode jdk_65_method_132_code 11 = .ok (.iload_n 1, 1) := by decide +kernel
theorem d10_12 : decode jdk_65_method_132_code 12 = .ok (.iload_n 2, 1) := by decide +kernel
theorem d10_13 : decode jdk_65_method_132_code 13 = .ok (.invokestatic 339, 3) := by decide +kernel
theorem d10_16 : decode jdk_65_method_132_code 16 = .ok (.areturn, 1) := by decide +kernel
theorem pn_10 : plainName "java/util/Arrays" = true := by first | (simp [plainName, overriddenIn]; done) | decide +kernel
def R10 : Room := { frames := 2, cells := 1, slots := 2, locals := 34 }
def Q10 (Z : State)  (h0 : Heap) (n0 : Nat) (r : Unit) (v : Option Value) (h : Heap) (L : List Loc) : Prop := ∃ (b : Addr) , v = some (.ref b) ∧ Fr n0 L ∧ n0 ≤ b ∧ h0.size ≤ b ∧ Keep h0 h []
def f10_0 (v1 : Int32) (v2 : Int32) (o0_n : Int32) (o0_xs : List Int32) : Unit := ()
set_option maxRecDepth 65536 in
set_option maxHeartbeats 40000000 in
theorem b10_0 {p : Program} {l : Launch} {e : Env} {s : State} {m : MethodId} {args : Array Value} {below : List Frame} {meth : Method} {c : Code} {Z : State} {a0 : Array Value} (B : Ctx p Z s a0 m meth c "java/util/Arrays" "copyOfRange" jdk_65_method_132_code 3 (some (.array .byte))) {T0 : State} {locs : List Loc} {h : Heap} (h0 : Heap) (n0 : Nat) (o0 : Addr) (v1 : Int32) (v2 : Int32) (o0_k : ClassId) (o0_n : Int32) (o0_xs : List Int32) (X0 : Stand p l e R10 s m args below meth c T0 locs 0 0) (e0 : T0.heap = h) (N0 : Fr n0 locs) (Z0 : n0 ≤ h.size) (K : Keep h0 h []) (V_o0 : Arv Z h o0 o0_k .byte o0_n (o0_xs.map Value.int) (.int 0)) (ln_o0 : o0_xs.length = o0_n.toNatClampNeg) (hrg : own_r v1 v2 o0_n) (r : Unit) (hr : f10_0 v1 v2 o0_n o0_xs = r) :
    EndsIn p e below s R10.cells R10.slots (Q10 Z  h0 n0 r) (T0.setTop (mkF m 0 #[.val (.ref o0), .val (.int v1), .val (.int v2)] [])) := by
  obtain ⟨hx, hZ, hw, hby, hml, hret, hown, hnm, hlk⟩ := B
  unfold f10_0 at hr
  refine EndsIn.by (B := T0.setTop (mkF m 1 #[.val (.ref o0), .val (.int v1), .val (.int v2)] [(.int v1)])) (fun t k => ?_) ?_
  · show Steps p.tables e below (T0.setTop (mkF m 0 #[.val (.ref o0), .val (.int v1), .val (.int v2)] [])) _
    refine XS.iloadN X0.here hx rfl (hb hby d10_0) rfl  ?_
    exact k
  have hc1 : ¬ (v1 = (0 : Int32)) := own_h1 hrg
  refine EndsIn.by (B := T0.setTop (mkF m 10 #[.val (.ref o0), .val (.int v1), .val (.int v2)] [])) (fun t k => ?_) ?_
  · show Steps p.tables e below (T0.setTop (mkF m 1 #[.val (.ref o0), .val (.int v1), .val (.int v2)] [(.int v1)])) _
    exact XS.ifYes X0.here hx rfl (pc0 := 1) (pc' := 10) rfl (hb hby d10_1) rfl ((if0 _ _).trans (feq hc1).2) (by decide) (by decide) k
  refine EndsIn.by (B := T0.setTop (mkF m 13 #[.val (.ref o0), .val (.int v1), .val (.int v2)] [(.int v2), (.int v1), (.ref o0)])) (fun t k => ?_) ?_
  · show Steps p.tables e below (T0.setTop (mkF m 10 #[.val (.ref o0), .val (.int v1), .val (.int v2)] [])) _
    refine XS.aloadN X0.here hx rfl (hb hby d10_10) rfl rfl ?_
    show Steps p.tables e below (T0.setTop (mkF m 11 #[.val (.ref o0), .val (.int v1), .val (.int v2)] [(.ref o0)])) _
    refine XS.iloadN X0.here hx rfl (hb hby d10_11) rfl  ?_
    show Steps p.tables e below (T0.setTop (mkF m 12 #[.val (.ref o0), .val (.int v1), .val (.int v2)] [(.int v1), (.ref o0)])) _
    refine XS.iloadN X0.here hx rfl (hb hby d10_12) rfl  ?_
    exact k
  have hp1_hrg : own_r v1 v2 o0_n := by assumption
  -- pc 13: java/util/Arrays.copyOfRangeByte
  obtain ⟨_, _, ⟨T1, L1, k1, n1⟩, -, X1, ⟨Lc1, hQ1, l1, y1, z1⟩, st1⟩ := Jvm.LawKit.callS X0 hx (y := (⟨"java/util/Arrays", "copyOfRangeByte", "([BII)[B"⟩ : MethodName)) hown (mvT hZ (hw _ (List.mem_of_getElem? (i := 62) rfl))) (mvT hZ (hw _ (List.mem_of_getElem? (i := 63) rfl))) (mvT hZ (hw _ (List.mem_of_getElem? (i := 60) rfl))) (mvT hZ (hw _ (List.mem_of_getElem? (i := 64) rfl))) (by decide) (backOf (W := 0) (rm11 l Z a0 hw [] o0 v1 v2 o0_k o0_n o0_xs h n0 Z0 V_o0 ln_o0 hp1_hrg) hZ (hw _ (List.mem_of_getElem? (i := 64) rfl)) (hw _ (List.mem_of_getElem? (i := 60) rfl)) (by decide) (by decide)) (g := (mkF m 13 #[.val (.ref o0), .val (.int v1), .val (.int v2)] [(.int v2), (.int v1), (.ref o0)])) rfl (by rw [hml]; rfl) (argsL := [(.ref o0), (.int v1), (.int v2)]) (rest := []) (lenOf pd_8 rfl) rfl (by show 2 * 0 + _ ≤ _; exact Nat.le_of_eq rfl) (hb hby d10_13) (fun _ _ => ⟨rfl, e0, (by decide : 0 + R11.cells ≤ _), (by decide : 0 + R11.slots ≤ _)⟩)
  dsimp only [Pt.U, Pt.locs, Pt.cells, Pt.slots] at X1 l1 y1 z1 st1 hQ1
  subst l1 y1 z1
  obtain ⟨c13, rfl, Nq1, g_c13, szq1, Kq1⟩ := hQ1
  obtain ⟨h1, e1⟩ : ∃ z, T1.heap = z := ⟨_, rfl⟩
  rw [e1] at Kq1
  have N1 := Fr.app N0 Nq1
  have Z1 : n0 ≤ h1.size := Nat.le_trans Z0 Kq1.1
  have ne_o0_c13 : o0 ≠ c13 := Nat.ne_of_lt (Nat.lt_of_lt_of_le V_o0.lt szq1)
  have V_o0_1 := V_o0.keep Kq1 (by simp)
  have K1 := K.trans Kq1 (fun _ q => nomatch q)
  have sz_c13 : h0.size ≤ c13 := Nat.le_trans K.1 szq1
  refine EndsIn.by (B := T1.setTop (mkF m 16 #[.val (.ref o0), .val (.int v1), .val (.int v2)] [(.ref c13)])) (fun t k => st1 t k) ?_
  subst hr
  exact own_retR X1 hx hlk hret rfl (hb hby d10_16) (by decide) (by decide) ⟨c13, rfl, N1, g_c13, sz_c13, (by rw [e1]; exact K1)⟩
theorem ef_10 (m : MethodId) (o0 : Addr) (v1 : Int32) (v2 : Int32) : entryFrame m #[(.ref o0), (.int v1), (.int v2)] 3 = (mkF m 0 #[.val (.ref o0), .val (.int v1), .val (.int v2)] []) := by first | (simp [entryFrame, mkF, argsToLocals, Value.category]; done) | rfl
set_option maxRecDepth 65536 in
set_option maxHeartbeats 40000000 in
theorem rm10 (l : Launch) (Z : State) (a0 : Array Value) (hw : ∀ d ∈ tables_1, d.before a0 Z = true) (ws : List Jvm.Cond) (o0 : Addr) (v1 : Int32) (v2 : Int32) (o0_k : ClassId) (o0_n : Int32) (o0_xs : List Int32) (h0 : Heap) (n0 : Nat) (Z0 : n0 ≤ h0.size) (V_o0 : Arv Z h0 o0 o0_k .byte o0_n (o0_xs.map Value.int) (.int 0)) (ln_o0 : o0_xs.length = o0_n.toNatClampNeg) (hrg : own_r v1 v2 o0_n) :
    MetFree l (⟨"java/util/Arrays", "copyOfRange", "([BII)[B"⟩ : MethodName) (head1 (Jvm.Cond.code (⟨"java/util/Arrays", "copyOfRange", "([BII)[B"⟩ : MethodName) jdk_65_method_132_code 3 (some (.array .byte)) :: ws) R10) (fun a U => a = #[(.ref o0), (.int v1), (.int v2)] ∧ Z.Warmed39 U.vm ∧ U.heap = h0) (fun _ _ _ _ _ => True) (fun _ U o U' => ∃ v L, o = .returned v ∧ (Q10 Z  h0 n0 (f10_0 v1 v2 o0_n o0_xs)) v U'.heap L ∧ FrameEnd U o U' L R10.cells R10.slots) := by
  refine MetFree.of_bodySF (plainFor_of_name pn_10) hisR ?_
  intro p e s m args below meth c s₁ Bd hml0 hP hK
  obtain ⟨rfl, hZ, hh⟩ := hP
  have B : Ctx p Z s a0 m meth c "java/util/Arrays" "copyOfRange" jdk_65_method_132_code 3 (some (.array .byte)) := ⟨Bd.exec, hZ, hw, Bd.bytes, hml0, Bd.returns, findClass_of_methodNamed Bd.named, (name_of_methodNamed Bd.named Bd.method).1, Bd.notSynchronized⟩
  have X0 : Stand p l e R10 s m #[(.ref o0), (.int v1), (.int v2)] below meth c s₁ [] 0 0 := Stand.of_body Bd
  have e0 : s₁.heap = h0 := by rw [← hh, Bd.state]; rfl
  have K := Keep.refl h0 []
  show EndsIn p e below s R10.cells R10.slots (Q10 Z  h0 n0 (f10_0 v1 v2 o0_n o0_xs)) (s₁.setTop (entryFrame m #[(.ref o0), (.int v1), (.int v2)] 3))
  refine EndsIn.by (fun t k => castTop (ef_10 m o0 v1 v2) k) ?_
  exact b10_0 B h0 n0 o0 v1 v2 o0_k o0_n o0_xs X0 e0 (Fr.nil n0) Z0 K V_o0 ln_o0 hrg _ rfl
theorem d14_0 : decode prog_26_method_1_code 0 = .ok (.aload_n 0, 1) := by decide +kernel
theorem d14_1 : decode prog_26_method_1_code 1 = .ok (.invokespecial 1, 3) := by decide +kernel
theorem d14_4 : decode prog_26_method_1_code 4 = .ok (.aload_n 0, 1) := by decide +kernel
theorem d14_5 : decode prog_26_method_1_code 5 = .ok (.iload_n 1, 1) := by decide +kernel
theorem d14_6 : decode prog_26_method_1_code 6 = .ok (.putfield 7, 3) := by decide +kernel
theorem d14_9 : decode prog_26_method_1_code 9 = .ok (.aload_n 0, 1) := by decide +kernel
theorem d14_10 : decode prog_26_method_1_code 10 = .ok (.aload_n 2, 1) := by decide +kernel
theorem d14_11 : decode prog_26_method_1_code 11 = .ok (.putfield 13, 3) := by decide +kernel
theorem d14_14 : decode prog_26_method_1_code 14 = .ok (.return_, 1) := by decide +kernel
theorem pn_14 : plainName "com/example/pure_mrtd/puremrtd/format/Tlv" = true := by first | (simp [plainName, overriddenIn]; done) | decide +kernel
def R14 : Room := { frames := 1, cells := 0, slots := 0, locals := 12 }
def Q14 (Z : State) (o0 : Addr) (o2 : Addr) (h0 : Heap) (n0 : Nat) (r : Int32) (v : Option Value) (h : Heap) (L : List Loc) : Prop := v = none ∧ Fr n0 L ∧ Keep h0 h [o0] ∧ Exa Z h o0 "com/example/pure_mrtd/puremrtd/format/Tlv" ∧ Fld Z h o0 "com/example/pure_mrtd/puremrtd/format/Tlv" "tag" "I" (.int r) ∧ Fld Z h o0 "com/example/pure_mrtd/puremrtd/format/Tlv" "value" "[B" (.ref o2)
def f14_0 (v1 : Int32) (o0_tag : Int32) : Int32 := v1
set_option maxRecDepth 65536 in
set_option maxHeartbeats 40000000 in
theorem b14_0 {p : Program} {l : Launch} {e : Env} {s : State} {m : MethodId} {args : Array Value} {below : List Frame} {meth : Method} {c : Code} {Z : State} {a0 : Array Value} (B : Ctx p Z s a0 m meth c "com/example/pure_mrtd/puremrtd/format/Tlv" "<init>" prog_26_method_1_code 3 none) {T0 : State} {locs : List Loc} {h : Heap} (h0 : Heap) (n0 : Nat) (o0 : Addr) (v1 : Int32) (o2 : Addr) (o0_tag : Int32) (o0_value : Value) (X0 : Stand p l e R14 s m args below meth c T0 locs 0 0) (e0 : T0.heap = h) (N0 : Fr n0 locs) (Z0 : n0 ≤ h.size) (K : Keep h0 h [o0]) (E_o0 : Exa Z h o0 "com/example/pure_mrtd/puremrtd/format/Tlv") (F_o0_tag : Fld Z h o0 "com/example/pure_mrtd/puremrtd/format/Tlv" "tag" "I" (.int o0_tag)) (F_o0_value : Fld Z h o0 "com/example/pure_mrtd/puremrtd/format/Tlv" "value" "[B" o0_value) (g_o0 : n0 ≤ o0) (r : Int32) (hr : f14_0 v1 o0_tag = r) :
    EndsIn p e below s R14.cells R14.slots (Q14 Z o0 o2 h0 n0 r) (T0.setTop (mkF m 0 #[.val (.ref o0), .val (.int v1), .val (.ref o2)] [])) := by
  obtain ⟨hx, hZ, hw, hby, hml, hret, hown, hnm, hlk⟩ := B
  unfold f14_0 at hr
  refine EndsIn.by (B := T0.setTop (mkF m 1 #[.val (.ref o0), .val (.int v1), .val (.ref o2)] [(.ref o0)])) (fun t k => ?_) ?_
  · show Steps p.tables e below (T0.setTop (mkF m 0 #[.val (.ref o0), .val (.int v1), .val (.ref o2)] [])) _
    refine XS.aloadN X0.here hx rfl (hb hby d14_0) rfl rfl ?_
    exact k
  obtain ⟨T1, X1, e1, st1⟩ := initO X0 hx hZ hown (hw _ (List.mem_of_getElem? (i := 79) rfl)) (hw _ (List.mem_of_getElem? (i := 12) rfl)) (hw _ (List.mem_of_getElem? (i := 13) rfl)) e0 (g := (mkF m 1 #[.val (.ref o0), .val (.int v1), .val (.ref o2)] [(.ref o0)])) rfl (by rw [hml]; rfl) rfl (hb hby d14_1) (by decide) (W := 0) (by show 2 * 0 + _ ≤ _; exact Nat.le_of_eq rfl) (by decide)
  refine EndsIn.by (B := T1.setTop (mkF m 4 #[.val (.ref o0), .val (.int v1), .val (.ref o2)] [])) (fun t k => st1 t k) ?_
  refine EndsIn.by (B := T1.setTop (mkF m 6 #[.val (.ref o0), .val (.int v1), .val (.ref o2)] [(.int v1), (.ref o0)])) (fun t k => ?_) ?_
  · show Steps p.tables e below (T1.setTop (mkF m 4 #[.val (.ref o0), .val (.int v1), .val (.ref o2)] [])) _
    refine XS.aloadN X1.here hx rfl (hb hby d14_4) rfl rfl ?_
    show Steps p.tables e below (T1.setTop (mkF m 5 #[.val (.ref o0), .val (.int v1), .val (.ref o2)] [(.ref o0)])) _
    refine XS.iloadN X1.here hx rfl (hb hby d14_5) rfl  ?_
    exact k
  obtain ⟨T2, h2, X2, e2, W2, st2⟩ := putF X1 hx hZ hown (host := "") (Or.inl (hw _ (List.mem_of_getElem? (i := 80) rfl))) Via.refl e1 F_o0_tag E_o0 (Or.inr ⟨(hw _ (List.mem_of_getElem? (i := 81) rfl)), rfl, hnm⟩) (hw _ (List.mem_of_getElem? (i := 55) rfl)) (ty := .int) (by decide) rfl rfl (g := (mkF m 6 #[.val (.ref o0), .val (.int v1), .val (.ref o2)] [(.int v1), (.ref o0)])) rfl rfl (hb hby d14_6)
  have E_o0_2 := E_o0.wr W2
  have F_o0_tag_2 := F_o0_tag.same W2
  have F_o0_value_2 := F_o0_value.other W2 (Or.inr (slot_ne (Or.inr (hw _ (List.mem_of_getElem? (i := 83) rfl))) (Or.inr (hw _ (List.mem_of_getElem? (i := 81) rfl))) (by decide) (t := (.array .byte)) (t' := .int) (by decide) (by decide)))
  have N2 := Fr.snoc X2 N0 g_o0
  have Z2 : n0 ≤ h2.size := Nat.le_trans Z0 (Nat.le_of_eq W2.size.symm)
  have K2 := K.wr W2 (Or.inl (by simp))
  refine EndsIn.by (B := T2.setTop (mkF m 9 #[.val (.ref o0), .val (.int v1), .val (.ref o2)] [])) (fun t k => st2 t k) ?_
  refine EndsIn.by (B := T2.setTop (mkF m 11 #[.val (.ref o0), .val (.int v1), .val (.ref o2)] [(.ref o2), (.ref o0)])) (fun t k => ?_) ?_
  · show Steps p.tables e below (T2.setTop (mkF m 9 #[.val (.ref o0), .val (.int v1), .val (.ref o2)] [])) _
    refine XS.aloadN X2.here hx rfl (hb hby d14_9) rfl rfl ?_
    show Steps p.tables e below (T2.setTop (mkF m 10 #[.val (.ref o0), .val (.int v1), .val (.ref o2)] [(.ref o0)])) _
    refine XS.aloadN X2.here hx rfl (hb hby d14_10) rfl rfl ?_
    exact k
  obtain ⟨T3, h3, X3, e3, W3, st3⟩ := putF X2 hx hZ hown (host := "") (Or.inl (hw _ (List.mem_of_getElem? (i := 82) rfl))) Via.refl e2 F_o0_value_2 E_o0_2 (Or.inr ⟨(hw _ (List.mem_of_getElem? (i := 83) rfl)), rfl, hnm⟩) (hw _ (List.mem_of_getElem? (i := 55) rfl)) (ty := (.array .byte)) (by decide) rfl rfl (g := (mkF m 11 #[.val (.ref o0), .val (.int v1), .val (.ref o2)] [(.ref o2), (.ref o0)])) rfl rfl (hb hby d14_11)
  have E_o0_3 := E_o0_2.wr W3
  have F_o0_tag_3 := F_o0_tag_2.other W3 (Or.inr (slot_ne (Or.inr (hw _ (List.mem_of_getElem? (i := 81) rfl))) (Or.inr (hw _ (List.mem_of_getElem? (i := 83) rfl))) (by decide) (t := .int) (t' := (.array .byte)) (by decide) (by decide)))
  have F_o0_value_3 := F_o0_value_2.same W3
  have N3 := Fr.snoc X3 N2 g_o0
  have Z3 : n0 ≤ h3.size := Nat.le_trans Z2 (Nat.le_of_eq W3.size.symm)
  have K3 := K2.wr W3 (Or.inl (by simp))
  refine EndsIn.by (B := T3.setTop (mkF m 14 #[.val (.ref o0), .val (.int v1), .val (.ref o2)] [])) (fun t k => st3 t k) ?_
  subst hr
  exact own_ret0 X3 hx hlk hret (hb hby d14_14) (by decide) (by decide) ⟨rfl, N3, (by rw [e3]; exact K3), (by rw [e3]; exact E_o0_3), (by rw [e3]; exact F_o0_tag_3), (by rw [e3]; exact F_o0_value_3)⟩
theorem ef_14 (m : MethodId) (o0 : Addr) (v1 : Int32) (o2 : Addr) : entryFrame m #[(.ref o0), (.int v1), (.ref o2)] 3 = (mkF m 0 #[.val (.ref o0), .val (.int v1), .val (.ref o2)] []) := by first | (simp [entryFrame, mkF, argsToLocals, Value.category]; done) | rfl
set_option maxRecDepth 65536 in
set_option maxHeartbeats 40000000 in
theorem rm14 (l : Launch) (Z : State) (a0 : Array Value) (hw : ∀ d ∈ tables_1, d.before a0 Z = true) (ws : List Jvm.Cond) (o0 : Addr) (v1 : Int32) (o2 : Addr) (o0_tag : Int32) (o0_value : Value) (h0 : Heap) (n0 : Nat) (Z0 : n0 ≤ h0.size) (E_o0 : Exa Z h0 o0 "com/example/pure_mrtd/puremrtd/format/Tlv") (F_o0_tag : Fld Z h0 o0 "com/example/pure_mrtd/puremrtd/format/Tlv" "tag" "I" (.int o0_tag)) (F_o0_value : Fld Z h0 o0 "com/example/pure_mrtd/puremrtd/format/Tlv" "value" "[B" o0_value) (g_o0 : n0 ≤ o0) :
    MetFree l (⟨"com/example/pure_mrtd/puremrtd/format/Tlv", "<init>", "(I[B)V"⟩ : MethodName) (head1 (Jvm.Cond.code (⟨"com/example/pure_mrtd/puremrtd/format/Tlv", "<init>", "(I[B)V"⟩ : MethodName) prog_26_method_1_code 3 none :: ws) R14) (fun a U => a = #[(.ref o0), (.int v1), (.ref o2)] ∧ Z.Warmed39 U.vm ∧ U.heap = h0) (fun _ _ _ _ _ => True) (fun _ U o U' => ∃ v L, o = .returned v ∧ (Q14 Z o0 o2 h0 n0 (f14_0 v1 o0_tag)) v U'.heap L ∧ FrameEnd U o U' L R14.cells R14.slots) := by
  refine MetFree.of_bodySF (plainFor_of_name pn_14) hisR ?_
  intro p e s m args below meth c s₁ Bd hml0 hP hK
  obtain ⟨rfl, hZ, hh⟩ := hP
  have B : Ctx p Z s a0 m meth c "com/example/pure_mrtd/puremrtd/format/Tlv" "<init>" prog_26_method_1_code 3 none := ⟨Bd.exec, hZ, hw, Bd.bytes, hml0, Bd.returns, findClass_of_methodNamed Bd.named, (name_of_methodNamed Bd.named Bd.method).1, Bd.notSynchronized⟩
  have X0 : Stand p l e R14 s m #[(.ref o0), (.int v1), (.ref o2)] below meth c s₁ [] 0 0 := Stand.of_body Bd
  have e0 : s₁.heap = h0 := by rw [← hh, Bd.state]; rfl
  have K := Keep.refl h0 [o0]
  show EndsIn p e below s R14.cells R14.slots (Q14 Z o0 o2 h0 n0 (f14_0 v1 o0_tag)) (s₁.setTop (entryFrame m #[(.ref o0), (.int v1), (.ref o2)] 3))
  refine EndsIn.by (fun t k => castTop (ef_14 m o0 v1 o2) k) ?_
  exact b14_0 B h0 n0 o0 v1 o2 o0_tag o0_value X0 e0 (Fr.nil n0) Z0 K E_o0 F_o0_tag F_o0_value g_o0 _ rfl
theorem pd_9 : parseMethodDescriptor "(I[B)V" = some ⟨[.int, (.array .byte)], none⟩ := by decide +kernel

theorem own_f72 (pos n : Int32) (xs : List Int32) : (f7_0 pos n xs).2.1 = (pos + (1 : Int32)) + (1 : Int32) := rfl
theorem own_f73 (pos n : Int32) (xs : List Int32) : (f7_0 pos n xs).2.2 = ((own_at xs (pos + (1 : Int32))) &&& (255 : Int32)) := rfl
theorem own_vs {pos n : Int32} {xs : List Int32} (h : own_ok pos n xs) : (f7_0 pos n xs).2.1.toInt = pos.toInt + 2 := by
  obtain ⟨a, b, c, d, e⟩ := h; have m := own_mM (own_at xs (pos + 1))
  rw [own_f72]
  have q := own_add (a := pos) (b := 1) rfl own_c1 (by omega)
  have q2 := own_add q own_c1 (by omega)
  omega
theorem own_ve {pos n : Int32} {xs : List Int32} (h : own_ok pos n xs) : ((f7_0 pos n xs).2.1 + (f7_0 pos n xs).2.2).toInt = pos.toInt + 2 + ((own_at xs (pos + (1 : Int32))) &&& (255 : Int32)).toInt := by
  have v := own_vs h
  obtain ⟨a, b, c, d, e⟩ := h; have m := own_mM (own_at xs (pos + 1))
  rw [own_f73]
  exact own_add v rfl (by omega)
theorem own_h21 {pos n : Int32} {xs : List Int32} (h : own_ok pos n xs) : ¬ ((n - (f7_0 pos n xs).2.1) < (f7_0 pos n xs).2.2) := by
  have v := own_vs h
  obtain ⟨a, b, c, d, e⟩ := h; have m := own_mM (own_at xs (pos + 1))
  have q := own_sub (a := n) rfl v (by omega)
  rw [own_f73]
  exact own_nlt (by omega)
theorem own_h60 {pos n : Int32} {xs : List Int32} (h : own_ok pos n xs) : own_r (f7_0 pos n xs).2.1 ((f7_0 pos n xs).2.1 + (f7_0 pos n xs).2.2) n := by
  have v := own_vs h; have w := own_ve h
  obtain ⟨a, b, c, d, e⟩ := h; have m := own_mM (own_at xs (pos + 1))
  exact ⟨by omega, by omega, by omega, by omega, by omega⟩

theorem d6_0 : decode prog_27_method_7_code 0 = .ok (.aload_n 0, 1) := by decide +kernel
theorem d6_1 : decode prog_27_method_7_code 1 = .ok (.invokevirtual 69, 3) := by decide +kernel
theorem d6_4 : decode prog_27_method_7_code 4 = .ok (.astore_n 1, 1) := by decide +kernel
theorem d6_5 : decode prog_27_method_7_code 5 = .ok (.aload_n 1, 1) := by decide +kernel
theorem d6_6 : decode prog_27_method_7_code 6 = .ok (.getfield 73, 3) := by decide +kernel
theorem d6_9 : decode prog_27_method_7_code 9 = .ok (.istore_n 2, 1) := by decide +kernel
theorem d6_10 : decode prog_27_method_7_code 10 = .ok (.aload_n 1, 1) := by decide +kernel
theorem d6_11 : decode prog_27_method_7_code 11 = .ok (.getfield 78, 3) := by decide +kernel
theorem d6_14 : decode prog_27_method_7_code 14 = .ok (.aload_n 0, 1) := by decide +kernel
theorem d6_15 : decode prog_27_method_7_code 15 = .ok (.getfield 7, 3) := by decide +kernel
theorem d6_18 : decode prog_27_method_7_code 18 = .ok (.arraylength, 1) := by decide +kernel
theorem d6_19 : decode prog_27_method_7_code 19 = .ok (.iload_n 2, 1) := by decide +kernel
theorem d6_20 : decode prog_27_method_7_code 20 = .ok (.isub, 1) := by decide +kernel
theorem d6_21 : decode prog_27_method_7_code 21 = .ok (.if_icmp .le 20, 3) := by decide +kernel
theorem d6_41 : decode prog_27_method_7_code 41 = .ok (.new 21, 3) := by decide +kernel
theorem d6_44 : decode prog_27_method_7_code 44 = .ok (.dup, 1) := by decide +kernel
theorem d6_45 : decode prog_27_method_7_code 45 = .ok (.aload_n 1, 1) := by decide +kernel
theorem d6_46 : decode prog_27_method_7_code 46 = .ok (.getfield 96, 3) := by decide +kernel
theorem d6_49 : decode prog_27_method_7_code 49 = .ok (.aload_n 0, 1) := by decide +kernel
theorem d6_50 : decode prog_27_method_7_code 50 = .ok (.getfield 7, 3) := by decide +kernel
theorem d6_53 : decode prog_27_method_7_code 53 = .ok (.iload_n 2, 1) := by decide +kernel
theorem d6_54 : decode prog_27_method_7_code 54 = .ok (.iload_n 2, 1) := by decide +kernel
theorem d6_55 : decode prog_27_method_7_code 55 = .ok (.aload_n 1, 1) := by decide +kernel
theorem d6_56 : decode prog_27_method_7_code 56 = .ok (.getfield 78, 3) := by decide +kernel
theorem d6_59 : decode prog_27_method_7_code 59 = .ok (.iadd, 1) := by decide +kernel
theorem d6_60 : decode prog_27_method_7_code 60 = .ok (.invokestatic 98, 3) := by decide +kernel
theorem d6_63 : decode prog_27_method_7_code 63 = .ok (.invokespecial 104, 3) := by decide +kernel
theorem d6_66 : decode prog_27_method_7_code 66 = .ok (.astore_n 3, 1) := by decide +kernel
theorem d6_67 : decode prog_27_method_7_code 67 = .ok (.aload_n 0, 1) := by decide +kernel
theorem d6_68 : decode prog_27_method_7_code 68 = .ok (.iload_n 2, 1) := by decide +kernel
theorem d6_69 : decode prog_27_method_7_code 69 = .ok (.aload_n 1, 1) := by decide +kernel
theorem d6_70 : decode prog_27_method_7_code 70 = .ok (.getfield 78, 3) := by decide +kernel
theorem d6_73 : decode prog_27_method_7_code 73 = .ok (.iadd, 1) := by decide +kernel
theorem d6_74 : decode prog_27_method_7_code 74 = .ok (.putfield 65, 3) := by decide +kernel
theorem d6_77 : decode prog_27_method_7_code 77 = .ok (.aload_n 3, 1) := by decide +kernel
theorem d6_78 : decode prog_27_method_7_code 78 = .ok (.areturn, 1) := by decide +kernel
theorem pn_6 : plainName "com/example/pure_mrtd/puremrtd/format/TlvReader" = true := by first | (simp [plainName, overriddenIn]; done) | decide +kernel
def R6 : Room := { frames := 3, cells := 3, slots := 7, locals := 51 }
def Q6 (Z : State) (o0 : Addr) (d : Addr) (h0 : Heap) (n0 : Nat) (r : Int32) (v : Option Value) (h : Heap) (L : List Loc) : Prop := ∃ (b : Addr) , v = some (.ref b) ∧ Fr n0 L ∧ n0 ≤ b ∧ h0.size ≤ b ∧ Keep h0 h [o0] ∧ Exa Z h o0 "com/example/pure_mrtd/puremrtd/format/TlvReader" ∧ Fld Z h o0 "com/example/pure_mrtd/puremrtd/format/TlvReader" "data" "[B" (.ref d) ∧ Fld Z h o0 "com/example/pure_mrtd/puremrtd/format/TlvReader" "position" "I" (.int r)
def f6_0 (o0_position : Int32) (d_n : Int32) (d_xs : List Int32) : Int32 := ((f7_0 o0_position d_n d_xs).2.1 + (f7_0 o0_position d_n d_xs).2.2)
set_option maxRecDepth 65536 in
set_option maxHeartbeats 40000000 in
theorem b6_0 {p : Program} {l : Launch} {e : Env} {s : State} {m : MethodId} {args : Array Value} {below : List Frame} {meth : Method} {c : Code} {Z : State} {a0 : Array Value} (B : Ctx p Z s a0 m meth c "com/example/pure_mrtd/puremrtd/format/TlvReader" "next" prog_27_method_7_code 4 (some (.object "com/example/pure_mrtd/puremrtd/format/Tlv"))) {T0 : State} {locs : List Loc} {h : Heap} (h0 : Heap) (n0 : Nat) (o0 : Addr) (d : Addr) (o0_position : Int32) (d_k : ClassId) (d_n : Int32) (d_xs : List Int32) (X0 : Stand p l e R6 s m args below meth c T0 locs 0 0) (e0 : T0.heap = h) (N0 : Fr n0 locs) (Z0 : n0 ≤ h.size) (K : Keep h0 h [o0]) (E_o0 : Exa Z h o0 "com/example/pure_mrtd/puremrtd/format/TlvReader") (F_o0_data : Fld Z h o0 "com/example/pure_mrtd/puremrtd/format/TlvReader" "data" "[B" (.ref d)) (F_o0_position : Fld Z h o0 "com/example/pure_mrtd/puremrtd/format/TlvReader" "position" "I" (.int o0_position)) (g_o0 : n0 ≤ o0) (V_d : Arv Z h d d_k .byte d_n (d_xs.map Value.int) (.int 0)) (ln_d : d_xs.length = d_n.toNatClampNeg) (ne_o0_d : o0 ≠ d) (hk : own_ok o0_position d_n d_xs) (r : Int32) (hr : f6_0 o0_position d_n d_xs = r) :
    EndsIn p e below s R6.cells R6.slots (Q6 Z o0 d h0 n0 r) (T0.setTop (mkF m 0 #[.val (.ref o0), .unset, .unset, .unset] [])) := by
  obtain ⟨hx, hZ, hw, hby, hml, hret, hown, hnm, hlk⟩ := B
  unfold f6_0 at hr
  refine EndsIn.by (B := T0.setTop (mkF m 1 #[.val (.ref o0), .unset, .unset, .unset] [(.ref o0)])) (fun t k => ?_) ?_
  · show Steps p.tables e below (T0.setTop (mkF m 0 #[.val (.ref o0), .unset, .unset, .unset] [])) _
    refine XS.aloadN X0.here hx rfl (hb hby d6_0) rfl rfl ?_
    exact k
  have hp1_hk : own_ok o0_position d_n d_xs := by assumption
  -- pc 1: com/example/pure_mrtd/puremrtd/format/TlvReader.header
  obtain ⟨cq1, q1, q1'⟩ := E_o0.cell
  obtain ⟨_, _, ⟨T1, L1, k1, n1⟩, -, X1, ⟨Lc1, hQ1, l1, y1, z1⟩, st1⟩ := X0.privateBack hx (y := (⟨"com/example/pure_mrtd/puremrtd/format/TlvReader", "header", "()Lcom/example/pure_mrtd/puremrtd/format/TlvReader$Header;"⟩ : MethodName)) hown (mvT hZ (hw _ (List.mem_of_getElem? (i := 31) rfl))) (mvT hZ (hw _ (List.mem_of_getElem? (i := 32) rfl))) (own_selP (y := (⟨"com/example/pure_mrtd/puremrtd/format/TlvReader", "header", "()Lcom/example/pure_mrtd/puremrtd/format/TlvReader$Header;"⟩ : MethodName)) hZ (hw _ (List.mem_of_getElem? (i := 6) rfl)) (hw _ (List.mem_of_getElem? (i := 33) rfl)) (hw _ (List.mem_of_getElem? (i := 32) rfl)) (by decide)) (Cond.privateMethod_at (mvP hZ (hw _ (List.mem_of_getElem? (i := 33) rfl)) (args := #[]))) (mvT hZ (hw _ (List.mem_of_getElem? (i := 34) rfl))) (by decide) (backOf (W := 0) (rm7 l Z a0 hw [] o0 d o0_position d_k d_n d_xs h n0 Z0 E_o0 F_o0_data F_o0_position V_d ln_d hp1_hk) hZ (hw _ (List.mem_of_getElem? (i := 34) rfl)) (hw _ (List.mem_of_getElem? (i := 7) rfl)) (by decide) (by decide)) (g := (mkF m 1 #[.val (.ref o0), .unset, .unset, .unset] [(.ref o0)])) rfl (by rw [hml]; rfl) (Steps.refl _) (a := o0) (by rw [e0]; exact q1) q1' (argsL := []) (rest := []) (lenOf pd_5 rfl) rfl (by show 2 * 0 + _ ≤ _; exact Nat.le_of_eq rfl) (hb hby d6_1) (fun _ _ => ⟨rfl, e0, (by decide : 0 + R7.cells ≤ _), (by decide : 0 + R7.slots ≤ _)⟩)
  dsimp only [Pt.U, Pt.locs, Pt.cells, Pt.slots] at X1 l1 y1 z1 st1 hQ1
  subst l1 y1 z1
  obtain ⟨c1, rfl, Nq1, g_c1, szq1, Kq1, Eb_1, Fbtag_1, FbvalueStart_1, Fblength_1⟩ := hQ1
  obtain ⟨h1, e1⟩ : ∃ z, T1.heap = z := ⟨_, rfl⟩
  rw [e1] at Kq1 Eb_1 Fbtag_1 FbvalueStart_1 Fblength_1
  have N1 := Fr.app N0 Nq1
  have Z1 : n0 ≤ h1.size := Nat.le_trans Z0 Kq1.1
  have ne_o0_c1 : o0 ≠ c1 := Nat.ne_of_lt (Nat.lt_of_lt_of_le E_o0.lt szq1)
  have ne_d_c1 : d ≠ c1 := Nat.ne_of_lt (Nat.lt_of_lt_of_le V_d.lt szq1)
  have E_o0_1 := E_o0.keep Kq1
  have F_o0_data_1 := F_o0_data.keep Kq1 (by simp)
  have F_o0_position_1 := F_o0_position.keep Kq1 (by simp)
  have V_d_1 := V_d.keep Kq1 (by simp)
  have K1 := K.trans Kq1 (fun _ q => nomatch q)
  have sz_c1 : h0.size ≤ c1 := Nat.le_trans K.1 szq1
  refine EndsIn.by (B := T1.setTop (mkF m 4 #[.val (.ref o0), .unset, .unset, .unset] [(.ref c1)])) (fun t k => st1.trans k) ?_
  refine EndsIn.by (B := T1.setTop (mkF m 6 #[.val (.ref o0), .val (.ref c1), .unset, .unset] [(.ref c1)])) (fun t k => ?_) ?_
  · show Steps p.tables e below (T1.setTop (mkF m 4 #[.val (.ref o0), .unset, .unset, .unset] [(.ref c1)])) _
    refine XS.astoreN X1.here hx rfl (hb hby d6_4) rfl rfl (l' := #[.val (.ref o0), .val (.ref c1), .unset, .unset]) rfl ?_
    show Steps p.tables e below (T1.setTop (mkF m 5 #[.val (.ref o0), .val (.ref c1), .unset, .unset] [])) _
    refine XS.aloadN X1.here hx rfl (hb hby d6_5) rfl rfl ?_
    exact k
  obtain ⟨T2, X2, e2, st2⟩ := own_getFR X1 hx hZ hown (hw _ (List.mem_of_getElem? (i := 52) rfl)) e1 FbvalueStart_1 (g := (mkF m 6 #[.val (.ref o0), .val (.ref c1), .unset, .unset] [(.ref c1)])) rfl rfl (hb hby d6_6)
  refine EndsIn.by (B := T2.setTop (mkF m 9 #[.val (.ref o0), .val (.ref c1), .unset, .unset] [(.int (f7_0 o0_position d_n d_xs).2.1)])) (fun t k => st2 t k) ?_
  refine EndsIn.by (B := T2.setTop (mkF m 11 #[.val (.ref o0), .val (.ref c1), .val (.int (f7_0 o0_position d_n d_xs).2.1), .unset] [(.ref c1)])) (fun t k => ?_) ?_
  · show Steps p.tables e below (T2.setTop (mkF m 9 #[.val (.ref o0), .val (.ref c1), .unset, .unset] [(.int (f7_0 o0_position d_n d_xs).2.1)])) _
    refine XS.istoreN X2.here hx rfl (hb hby d6_9) rfl (l' := #[.val (.ref o0), .val (.ref c1), .val (.int (f7_0 o0_position d_n d_xs).2.1), .unset]) rfl ?_
    show Steps p.tables e below (T2.setTop (mkF m 10 #[.val (.ref o0), .val (.ref c1), .val (.int (f7_0 o0_position d_n d_xs).2.1), .unset] [])) _
    refine XS.aloadN X2.here hx rfl (hb hby d6_10) rfl rfl ?_
    exact k
  obtain ⟨T3, X3, e3, st3⟩ := own_getFR X2 hx hZ hown (hw _ (List.mem_of_getElem? (i := 53) rfl)) e2 Fblength_1 (g := (mkF m 11 #[.val (.ref o0), .val (.ref c1), .val (.int (f7_0 o0_position d_n d_xs).2.1), .unset] [(.ref c1)])) rfl rfl (hb hby d6_11)
  refine EndsIn.by (B := T3.setTop (mkF m 14 #[.val (.ref o0), .val (.ref c1), .val (.int (f7_0 o0_position d_n d_xs).2.1), .unset] [(.int (f7_0 o0_position d_n d_xs).2.2)])) (fun t k => st3 t k) ?_
  refine EndsIn.by (B := T3.setTop (mkF m 15 #[.val (.ref o0), .val (.ref c1), .val (.int (f7_0 o0_position d_n d_xs).2.1), .unset] [(.ref o0), (.int (f7_0 o0_position d_n d_xs).2.2)])) (fun t k => ?_) ?_
  · show Steps p.tables e below (T3.setTop (mkF m 14 #[.val (.ref o0), .val (.ref c1), .val (.int (f7_0 o0_position d_n d_xs).2.1), .unset] [(.int (f7_0 o0_position d_n d_xs).2.2)])) _
    refine XS.aloadN X3.here hx rfl (hb hby d6_14) rfl rfl ?_
    exact k
  obtain ⟨T4, X4, e4, st4⟩ := getF X3 hx hZ hown (host := "") (Or.inl (hw _ (List.mem_of_getElem? (i := 14) rfl))) Via.refl e3 F_o0_data_1 (g := (mkF m 15 #[.val (.ref o0), .val (.ref c1), .val (.int (f7_0 o0_position d_n d_xs).2.1), .unset] [(.ref o0), (.int (f7_0 o0_position d_n d_xs).2.2)])) rfl rfl (hb hby d6_15)
  refine EndsIn.by (B := T4.setTop (mkF m 18 #[.val (.ref o0), .val (.ref c1), .val (.int (f7_0 o0_position d_n d_xs).2.1), .unset] [(.ref d), (.int (f7_0 o0_position d_n d_xs).2.2)])) (fun t k => st4 t k) ?_
  have V5 := V_d_1
  obtain ⟨cl5, Ar5, -, S5, M5, -, -⟩ := V5
  refine EndsIn.by (B := T4.setTop (mkF m 19 #[.val (.ref o0), .val (.ref c1), .val (.int (f7_0 o0_position d_n d_xs).2.1), .unset] [(.int d_n), (.int (f7_0 o0_position d_n d_xs).2.2)])) (fun t k => ?_) ?_
  · show Steps p.tables e below (T4.setTop (mkF m 18 #[.val (.ref o0), .val (.ref c1), .val (.int (f7_0 o0_position d_n d_xs).2.1), .unset] [(.ref d), (.int (f7_0 o0_position d_n d_xs).2.2)])) _
    refine X4.arraylength hx (by rw [e4]; exact Ar5.1) (State.isArrayOf_alike hZ.alike Ar5.2.1) (g := (mkF m 18 #[.val (.ref o0), .val (.ref c1), .val (.int (f7_0 o0_position d_n d_xs).2.1), .unset] [(.ref d), (.int (f7_0 o0_position d_n d_xs).2.2)])) rfl rfl (hb hby d6_18) _ ?_
    rw [len_of S5 M5]
    exact k
  refine EndsIn.by (B := T4.setTop (mkF m 21 #[.val (.ref o0), .val (.ref c1), .val (.int (f7_0 o0_position d_n d_xs).2.1), .unset] [(.int (d_n - (f7_0 o0_position d_n d_xs).2.1)), (.int (f7_0 o0_position d_n d_xs).2.2)])) (fun t k => ?_) ?_
  · show Steps p.tables e below (T4.setTop (mkF m 19 #[.val (.ref o0), .val (.ref c1), .val (.int (f7_0 o0_position d_n d_xs).2.1), .unset] [(.int d_n), (.int (f7_0 o0_position d_n d_xs).2.2)])) _
    refine XS.iloadN X4.here hx rfl (hb hby d6_19) rfl  ?_
    show Steps p.tables e below (T4.setTop (mkF m 20 #[.val (.ref o0), .val (.ref c1), .val (.int (f7_0 o0_position d_n d_xs).2.1), .unset] [(.int (f7_0 o0_position d_n d_xs).2.1), (.int d_n), (.int (f7_0 o0_position d_n d_xs).2.2)])) _
    refine XS.isub X4.here hx rfl (hb hby d6_20) rfl ?_
    exact k
  have hc21 : ¬ ((d_n - (f7_0 o0_position d_n d_xs).2.1) < (f7_0 o0_position d_n d_xs).2.2) := own_h21 hk
  refine EndsIn.by (B := T4.setTop (mkF m 41 #[.val (.ref o0), .val (.ref c1), .val (.int (f7_0 o0_position d_n d_xs).2.1), .unset] [])) (fun t k => ?_) ?_
  · show Steps p.tables e below (T4.setTop (mkF m 21 #[.val (.ref o0), .val (.ref c1), .val (.int (f7_0 o0_position d_n d_xs).2.1), .unset] [(.int (d_n - (f7_0 o0_position d_n d_xs).2.1)), (.int (f7_0 o0_position d_n d_xs).2.2)])) _
    exact XS.icmpYes X4.here hx rfl (pc0 := 21) (pc' := 41) rfl (hb hby d6_21) rfl (flt hc21).2.2.2 (by decide) (by decide) k
  obtain ⟨T6, h6, X6, e6, X6e, A6, D6, -, st6⟩ := newO X4 hx hZ hown (hw _ (List.mem_of_getElem? (i := 54) rfl)) (hw _ (List.mem_of_getElem? (i := 55) rfl)) (hw _ (List.mem_of_getElem? (i := 56) rfl)) e4 (g := (mkF m 41 #[.val (.ref o0), .val (.ref c1), .val (.int (f7_0 o0_position d_n d_xs).2.1), .unset] [])) rfl (hb hby d6_41) (by decide) (by decide)
  obtain ⟨b41, g6⟩ : ∃ z, z = h1.size := ⟨_, rfl⟩
  rw [← g6] at A6 D6 st6
  have g_b41 : n0 ≤ b41 := Nat.le_trans Z1 (Nat.le_of_eq g6.symm)
  have sz_b41 : h0.size ≤ b41 := Nat.le_trans K1.1 (Nat.le_of_eq g6.symm)
  have ne_o0_b41 : o0 ≠ b41 := Nat.ne_of_lt (Nat.lt_of_lt_of_le E_o0_1.lt (Nat.le_of_eq g6.symm))
  have ne_c1_b41 : c1 ≠ b41 := Nat.ne_of_lt (Nat.lt_of_lt_of_le Eb_1.lt (Nat.le_of_eq g6.symm))
  have ne_d_b41 : d ≠ b41 := Nat.ne_of_lt (Nat.lt_of_lt_of_le V_d_1.lt (Nat.le_of_eq g6.symm))
  have E_o0_6 := E_o0_1.ext X6e
  have F_o0_data_6 := F_o0_data_1.ext X6e
  have F_o0_position_6 := F_o0_position_1.ext X6e
  have E_c1_6 := Eb_1.ext X6e
  have F_c1_tag_6 := Fbtag_1.ext X6e
  have F_c1_valueStart_6 := FbvalueStart_1.ext X6e
  have F_c1_length_6 := Fblength_1.ext X6e
  have V_d_6 := V_d_1.ext X6e
  have Z6 : n0 ≤ h6.size := Nat.le_trans Z1 X6e.1
  have K6 := K1.ext X6e
  have E_b41_6 := A6
  have F_b41_tag_6 : Fld Z h6 b41 "com/example/pure_mrtd/puremrtd/format/Tlv" "tag" "I" (.int (0 : Int32)) := D6 (Or.inr (hw _ (List.mem_of_getElem? (i := 81) rfl))) (ty := .int) (by decide)
  have F_b41_value_6 : Fld Z h6 b41 "com/example/pure_mrtd/puremrtd/format/Tlv" "value" "[B" .null := D6 (Or.inr (hw _ (List.mem_of_getElem? (i := 83) rfl))) (ty := (.array .byte)) (by decide)
  refine EndsIn.by (B := T6.setTop (mkF m 44 #[.val (.ref o0), .val (.ref c1), .val (.int (f7_0 o0_position d_n d_xs).2.1), .unset] [(.ref b41)])) (fun t k => st6 t k) ?_
  refine EndsIn.by (B := T6.setTop (mkF m 46 #[.val (.ref o0), .val (.ref c1), .val (.int (f7_0 o0_position d_n d_xs).2.1), .unset] [(.ref c1), (.ref b41), (.ref b41)])) (fun t k => ?_) ?_
  · show Steps p.tables e below (T6.setTop (mkF m 44 #[.val (.ref o0), .val (.ref c1), .val (.int (f7_0 o0_position d_n d_xs).2.1), .unset] [(.ref b41)])) _
    refine XS.dup X6.here hx rfl (hb hby d6_44) rfl rfl ?_
    show Steps p.tables e below (T6.setTop (mkF m 45 #[.val (.ref o0), .val (.ref c1), .val (.int (f7_0 o0_position d_n d_xs).2.1), .unset] [(.ref b41), (.ref b41)])) _
    refine XS.aloadN X6.here hx rfl (hb hby d6_45) rfl rfl ?_
    exact k
  obtain ⟨T7, X7, e7, st7⟩ := own_getFR X6 hx hZ hown (hw _ (List.mem_of_getElem? (i := 57) rfl)) e6 F_c1_tag_6 (g := (mkF m 46 #[.val (.ref o0), .val (.ref c1), .val (.int (f7_0 o0_position d_n d_xs).2.1), .unset] [(.ref c1), (.ref b41), (.ref b41)])) rfl rfl (hb hby d6_46)
  refine EndsIn.by (B := T7.setTop (mkF m 49 #[.val (.ref o0), .val (.ref c1), .val (.int (f7_0 o0_position d_n d_xs).2.1), .unset] [(.int (f7_0 o0_position d_n d_xs).1), (.ref b41), (.ref b41)])) (fun t k => st7 t k) ?_
  refine EndsIn.by (B := T7.setTop (mkF m 50 #[.val (.ref o0), .val (.ref c1), .val (.int (f7_0 o0_position d_n d_xs).2.1), .unset] [(.ref o0), (.int (f7_0 o0_position d_n d_xs).1), (.ref b41), (.ref b41)])) (fun t k => ?_) ?_
  · show Steps p.tables e below (T7.setTop (mkF m 49 #[.val (.ref o0), .val (.ref c1), .val (.int (f7_0 o0_position d_n d_xs).2.1), .unset] [(.int (f7_0 o0_position d_n d_xs).1), (.ref b41), (.ref b41)])) _
    refine XS.aloadN X7.here hx rfl (hb hby d6_49) rfl rfl ?_
    exact k
  obtain ⟨T8, X8, e8, st8⟩ := getF X7 hx hZ hown (host := "") (Or.inl (hw _ (List.mem_of_getElem? (i := 14) rfl))) Via.refl e7 F_o0_data_6 (g := (mkF m 50 #[.val (.ref o0), .val (.ref c1), .val (.int (f7_0 o0_position d_n d_xs).2.1), .unset] [(.ref o0), (.int (f7_0 o0_position d_n d_xs).1), (.ref b41), (.ref b41)])) rfl rfl (hb hby d6_50)
  refine EndsIn.by (B := T8.setTop (mkF m 53 #[.val (.ref o0), .val (.ref c1), .val (.int (f7_0 o0_position d_n d_xs).2.1), .unset] [(.ref d), (.int (f7_0 o0_position d_n d_xs).1), (.ref b41), (.ref b41)])) (fun t k => st8 t k) ?_
  refine EndsIn.by (B := T8.setTop (mkF m 56 #[.val (.ref o0), .val (.ref c1), .val (.int (f7_0 o0_position d_n d_xs).2.1), .unset] [(.ref c1), (.int (f7_0 o0_position d_n d_xs).2.1), (.int (f7_0 o0_position d_n d_xs).2.1), (.ref d), (.int (f7_0 o0_position d_n d_xs).1), (.ref b41), (.ref b41)])) (fun t k => ?_) ?_
  · show Steps p.tables e below (T8.setTop (mkF m 53 #[.val (.ref o0), .val (.ref c1), .val (.int (f7_0 o0_position d_n d_xs).2.1), .unset] [(.ref d), (.int (f7_0 o0_position d_n d_xs).1), (.ref b41), (.ref b41)])) _
    refine XS.iloadN X8.here hx rfl (hb hby d6_53) rfl  ?_
    show Steps p.tables e below (T8.setTop (mkF m 54 #[.val (.ref o0), .val (.ref c1), .val (.int (f7_0 o0_position d_n d_xs).2.1), .unset] [(.int (f7_0 o0_position d_n d_xs).2.1), (.ref d), (.int (f7_0 o0_position d_n d_xs).1), (.ref b41), (.ref b41)])) _
    refine XS.iloadN X8.here hx rfl (hb hby d6_54) rfl  ?_
    show Steps p.tables e below (T8.setTop (mkF m 55 #[.val (.ref o0), .val (.ref c1), .val (.int (f7_0 o0_position d_n d_xs).2.1), .unset] [(.int (f7_0 o0_position d_n d_xs).2.1), (.int (f7_0 o0_position d_n d_xs).2.1), (.ref d), (.int (f7_0 o0_position d_n d_xs).1), (.ref b41), (.ref b41)])) _
    refine XS.aloadN X8.here hx rfl (hb hby d6_55) rfl rfl ?_
    exact k
  obtain ⟨T9, X9, e9, st9⟩ := own_getFR X8 hx hZ hown (hw _ (List.mem_of_getElem? (i := 53) rfl)) e8 F_c1_length_6 (g := (mkF m 56 #[.val (.ref o0), .val (.ref c1), .val (.int (f7_0 o0_position d_n d_xs).2.1), .unset] [(.ref c1), (.int (f7_0 o0_position d_n d_xs).2.1), (.int (f7_0 o0_position d_n d_xs).2.1), (.ref d), (.int (f7_0 o0_position d_n d_xs).1), (.ref b41), (.ref b41)])) rfl rfl (hb hby d6_56)
  refine EndsIn.by (B := T9.setTop (mkF m 59 #[.val (.ref o0), .val (.ref c1), .val (.int (f7_0 o0_position d_n d_xs).2.1), .unset] [(.int (f7_0 o0_position d_n d_xs).2.2), (.int (f7_0 o0_position d_n d_xs).2.1), (.int (f7_0 o0_position d_n d_xs).2.1), (.ref d), (.int (f7_0 o0_position d_n d_xs).1), (.ref b41), (.ref b41)])) (fun t k => st9 t k) ?_
  refine EndsIn.by (B := T9.setTop (mkF m 60 #[.val (.ref o0), .val (.ref c1), .val (.int (f7_0 o0_position d_n d_xs).2.1), .unset] [(.int ((f7_0 o0_position d_n d_xs).2.1 + (f7_0 o0_position d_n d_xs).2.2)), (.int (f7_0 o0_position d_n d_xs).2.1), (.ref d), (.int (f7_0 o0_position d_n d_xs).1), (.ref b41), (.ref b41)])) (fun t k => ?_) ?_
  · show Steps p.tables e below (T9.setTop (mkF m 59 #[.val (.ref o0), .val (.ref c1), .val (.int (f7_0 o0_position d_n d_xs).2.1), .unset] [(.int (f7_0 o0_position d_n d_xs).2.2), (.int (f7_0 o0_position d_n d_xs).2.1), (.int (f7_0 o0_position d_n d_xs).2.1), (.ref d), (.int (f7_0 o0_position d_n d_xs).1), (.ref b41), (.ref b41)])) _
    refine XS.iadd X9.here hx rfl (hb hby d6_59) rfl ?_
    exact k
  have hp10_hrg : own_r (f7_0 o0_position d_n d_xs).2.1 ((f7_0 o0_position d_n d_xs).2.1 + (f7_0 o0_position d_n d_xs).2.2) d_n := own_h60 hk
  -- pc 60: java/util/Arrays.copyOfRange
  obtain ⟨_, _, ⟨T10, L10, k10, n10⟩, -, X10, ⟨Lc10, hQ10, l10, y10, z10⟩, st10⟩ := Jvm.LawKit.callS X9 hx (y := (⟨"java/util/Arrays", "copyOfRange", "([BII)[B"⟩ : MethodName)) hown (mvT hZ (hw _ (List.mem_of_getElem? (i := 58) rfl))) (mvT hZ (hw _ (List.mem_of_getElem? (i := 59) rfl))) (mvT hZ (hw _ (List.mem_of_getElem? (i := 60) rfl))) (mvT hZ (hw _ (List.mem_of_getElem? (i := 61) rfl))) (by decide) (backOf (W := 3) (rm10 l Z a0 hw [] d ((f7_0 o0_position d_n d_xs).2.1) ((f7_0 o0_position d_n d_xs).2.1 + (f7_0 o0_position d_n d_xs).2.2) d_k d_n d_xs h6 n0 Z6 V_d_6 ln_d hp10_hrg) hZ (hw _ (List.mem_of_getElem? (i := 61) rfl)) (hw _ (List.mem_of_getElem? (i := 60) rfl)) (by decide) (by decide)) (g := (mkF m 60 #[.val (.ref o0), .val (.ref c1), .val (.int (f7_0 o0_position d_n d_xs).2.1), .unset] [(.int ((f7_0 o0_position d_n d_xs).2.1 + (f7_0 o0_position d_n d_xs).2.2)), (.int (f7_0 o0_position d_n d_xs).2.1), (.ref d), (.int (f7_0 o0_position d_n d_xs).1), (.ref b41), (.ref b41)])) rfl (by rw [hml]; rfl) (argsL := [(.ref d), (.int (f7_0 o0_position d_n d_xs).2.1), (.int ((f7_0 o0_position d_n d_xs).2.1 + (f7_0 o0_position d_n d_xs).2.2))]) (rest := [(.int (f7_0 o0_position d_n d_xs).1), (.ref b41), (.ref b41)]) (lenOf pd_8 rfl) rfl (by show 2 * 0 + _ ≤ _; exact Nat.le_of_eq rfl) (hb hby d6_60) (fun _ _ => ⟨rfl, e9, (by decide : 2 + R10.cells ≤ _), (by decide : 5 + R10.slots ≤ _)⟩)
  dsimp only [Pt.U, Pt.locs, Pt.cells, Pt.slots] at X10 l10 y10 z10 st10 hQ10
  subst l10 y10 z10
  obtain ⟨c60, rfl, Nq10, g_c60, szq10, Kq10⟩ := hQ10
  obtain ⟨h10, e10⟩ : ∃ z, T10.heap = z := ⟨_, rfl⟩
  rw [e10] at Kq10
  have N10 := Fr.app N1 Nq10
  have Z10 : n0 ≤ h10.size := Nat.le_trans Z6 Kq10.1
  have ne_o0_c60 : o0 ≠ c60 := Nat.ne_of_lt (Nat.lt_of_lt_of_le E_o0_6.lt szq10)
  have ne_c1_c60 : c1 ≠ c60 := Nat.ne_of_lt (Nat.lt_of_lt_of_le E_c1_6.lt szq10)
  have ne_b41_c60 : b41 ≠ c60 := Nat.ne_of_lt (Nat.lt_of_lt_of_le E_b41_6.lt szq10)
  have ne_d_c60 : d ≠ c60 := Nat.ne_of_lt (Nat.lt_of_lt_of_le V_d_6.lt szq10)
  have E_o0_10 := E_o0_6.keep Kq10
  have F_o0_data_10 := F_o0_data_6.keep Kq10 (by simp)
  have F_o0_position_10 := F_o0_position_6.keep Kq10 (by simp)
  have E_c1_10 := E_c1_6.keep Kq10
  have F_c1_tag_10 := F_c1_tag_6.keep Kq10 (by simp)
  have F_c1_valueStart_10 := F_c1_valueStart_6.keep Kq10 (by simp)
  have F_c1_length_10 := F_c1_length_6.keep Kq10 (by simp)
  have E_b41_10 := E_b41_6.keep Kq10
  have F_b41_tag_10 := F_b41_tag_6.keep Kq10 (by simp)
  have F_b41_value_10 := F_b41_value_6.keep Kq10 (by simp)
  have V_d_10 := V_d_6.keep Kq10 (by simp)
  have K10 := K6.trans Kq10 (fun _ q => nomatch q)
  have sz_c60 : h0.size ≤ c60 := Nat.le_trans K6.1 szq10
  refine EndsIn.by (B := T10.setTop (mkF m 63 #[.val (.ref o0), .val (.ref c1), .val (.int (f7_0 o0_position d_n d_xs).2.1), .unset] [(.ref c60), (.int (f7_0 o0_position d_n d_xs).1), (.ref b41), (.ref b41)])) (fun t k => st10 t k) ?_
  -- pc 63: com/example/pure_mrtd/puremrtd/format/Tlv.<init>
  obtain ⟨_, _, ⟨T11, L11, k11, n11⟩, -, X11, ⟨Lc11, hQ11, l11, y11, z11⟩, st11⟩ := X10.specialBack hx (y := (⟨"com/example/pure_mrtd/puremrtd/format/Tlv", "<init>", "(I[B)V"⟩ : MethodName)) rfl hown (mvT hZ (hw _ (List.mem_of_getElem? (i := 76) rfl))) (mvT hZ (hw _ (List.mem_of_getElem? (i := 77) rfl))) (mvT hZ (hw _ (List.mem_of_getElem? (i := 78) rfl))) (by decide) (backOf (W := 1) (rm14 l Z a0 hw [] b41 ((f7_0 o0_position d_n d_xs).1) c60 (0 : Int32) .null h10 n0 Z10 E_b41_10 F_b41_tag_10 F_b41_value_10 g_b41) hZ (hw _ (List.mem_of_getElem? (i := 78) rfl)) (hw _ (List.mem_of_getElem? (i := 56) rfl)) (by decide) (by decide)) (g := (mkF m 63 #[.val (.ref o0), .val (.ref c1), .val (.int (f7_0 o0_position d_n d_xs).2.1), .unset] [(.ref c60), (.int (f7_0 o0_position d_n d_xs).1), (.ref b41), (.ref b41)])) rfl (by rw [hml]; rfl) (Steps.refl _) (a := b41) (argsL := [(.int (f7_0 o0_position d_n d_xs).1), (.ref c60)]) (rest := [(.ref b41)]) (lenOf pd_9 rfl) rfl (by show 2 * 0 + _ ≤ _; exact Nat.le_of_eq rfl) (hb hby d6_63) (fun _ _ => ⟨rfl, e10, (by decide : 3 + R14.cells ≤ _), (by decide : 7 + R14.slots ≤ _)⟩)
  dsimp only [Pt.U, Pt.locs, Pt.cells, Pt.slots] at X11 l11 y11 z11 st11 hQ11
  subst l11 y11 z11
  obtain ⟨rfl, Nq11, Kq11, E_b41_11, F_b41_tag_11, F_b41_value_11⟩ := hQ11
  obtain ⟨h11, e11⟩ : ∃ z, T11.heap = z := ⟨_, rfl⟩
  rw [e11] at Kq11 E_b41_11 F_b41_tag_11 F_b41_value_11
  have N11 := Fr.app N10 Nq11
  have Z11 : n0 ≤ h11.size := Nat.le_trans Z10 Kq11.1
  have E_o0_11 := E_o0_10.keep Kq11
  have F_o0_data_11 := F_o0_data_10.keep Kq11 (ninS ne_o0_b41 nin0)
  have F_o0_position_11 := F_o0_position_10.keep Kq11 (ninS ne_o0_b41 nin0)
  have E_c1_11 := E_c1_10.keep Kq11
  have F_c1_tag_11 := F_c1_tag_10.keep Kq11 (ninS ne_c1_b41 nin0)
  have F_c1_valueStart_11 := F_c1_valueStart_10.keep Kq11 (ninS ne_c1_b41 nin0)
  have F_c1_length_11 := F_c1_length_10.keep Kq11 (ninS ne_c1_b41 nin0)
  have V_d_11 := V_d_10.keep Kq11 (ninS ne_d_b41 nin0)
  have K11 := K10.trans Kq11 (by intro z hz; simp only [List.mem_cons, List.not_mem_nil, or_false] at hz; first | exact absurd hz id | (rcases hz with rfl; exact Or.inr sz_b41))
  refine EndsIn.by (B := T11.setTop (mkF m 66 #[.val (.ref o0), .val (.ref c1), .val (.int (f7_0 o0_position d_n d_xs).2.1), .unset] [(.ref b41)])) (fun t k => st11.trans k) ?_
  refine EndsIn.by (B := T11.setTop (mkF m 70 #[.val (.ref o0), .val (.ref c1), .val (.int (f7_0 o0_position d_n d_xs).2.1), .val (.ref b41)] [(.ref c1), (.int (f7_0 o0_position d_n d_xs).2.1), (.ref o0)])) (fun t k => ?_) ?_
  · show Steps p.tables e below (T11.setTop (mkF m 66 #[.val (.ref o0), .val (.ref c1), .val (.int (f7_0 o0_position d_n d_xs).2.1), .unset] [(.ref b41)])) _
    refine XS.astoreN X11.here hx rfl (hb hby d6_66) rfl rfl (l' := #[.val (.ref o0), .val (.ref c1), .val (.int (f7_0 o0_position d_n d_xs).2.1), .val (.ref b41)]) rfl ?_
    show Steps p.tables e below (T11.setTop (mkF m 67 #[.val (.ref o0), .val (.ref c1), .val (.int (f7_0 o0_position d_n d_xs).2.1), .val (.ref b41)] [])) _
    refine XS.aloadN X11.here hx rfl (hb hby d6_67) rfl rfl ?_
    show Steps p.tables e below (T11.setTop (mkF m 68 #[.val (.ref o0), .val (.ref c1), .val (.int (f7_0 o0_position d_n d_xs).2.1), .val (.ref b41)] [(.ref o0)])) _
    refine XS.iloadN X11.here hx rfl (hb hby d6_68) rfl  ?_
    show Steps p.tables e below (T11.setTop (mkF m 69 #[.val (.ref o0), .val (.ref c1), .val (.int (f7_0 o0_position d_n d_xs).2.1), .val (.ref b41)] [(.int (f7_0 o0_position d_n d_xs).2.1), (.ref o0)])) _
    refine XS.aloadN X11.here hx rfl (hb hby d6_69) rfl rfl ?_
    exact k
  obtain ⟨T12, X12, e12, st12⟩ := own_getFR X11 hx hZ hown (hw _ (List.mem_of_getElem? (i := 53) rfl)) e11 F_c1_length_11 (g := (mkF m 70 #[.val (.ref o0), .val (.ref c1), .val (.int (f7_0 o0_position d_n d_xs).2.1), .val (.ref b41)] [(.ref c1), (.int (f7_0 o0_position d_n d_xs).2.1), (.ref o0)])) rfl rfl (hb hby d6_70)
  refine EndsIn.by (B := T12.setTop (mkF m 73 #[.val (.ref o0), .val (.ref c1), .val (.int (f7_0 o0_position d_n d_xs).2.1), .val (.ref b41)] [(.int (f7_0 o0_position d_n d_xs).2.2), (.int (f7_0 o0_position d_n d_xs).2.1), (.ref o0)])) (fun t k => st12 t k) ?_
  refine EndsIn.by (B := T12.setTop (mkF m 74 #[.val (.ref o0), .val (.ref c1), .val (.int (f7_0 o0_position d_n d_xs).2.1), .val (.ref b41)] [(.int ((f7_0 o0_position d_n d_xs).2.1 + (f7_0 o0_position d_n d_xs).2.2)), (.ref o0)])) (fun t k => ?_) ?_
  · show Steps p.tables e below (T12.setTop (mkF m 73 #[.val (.ref o0), .val (.ref c1), .val (.int (f7_0 o0_position d_n d_xs).2.1), .val (.ref b41)] [(.int (f7_0 o0_position d_n d_xs).2.2), (.int (f7_0 o0_position d_n d_xs).2.1), (.ref o0)])) _
    refine XS.iadd X12.here hx rfl (hb hby d6_73) rfl ?_
    exact k
  obtain ⟨T13, h13, X13, e13, W13, st13⟩ := putF X12 hx hZ hown (host := "") (Or.inl (hw _ (List.mem_of_getElem? (i := 21) rfl))) Via.refl e12 F_o0_position_11 E_o0_11 (Or.inl (hw _ (List.mem_of_getElem? (i := 22) rfl))) (hw _ (List.mem_of_getElem? (i := 6) rfl)) (ty := .int) (by decide) rfl rfl (g := (mkF m 74 #[.val (.ref o0), .val (.ref c1), .val (.int (f7_0 o0_position d_n d_xs).2.1), .val (.ref b41)] [(.int ((f7_0 o0_position d_n d_xs).2.1 + (f7_0 o0_position d_n d_xs).2.2)), (.ref o0)])) rfl rfl (hb hby d6_74)
  have E_o0_13 := E_o0_11.wr W13
  have F_o0_data_13 := F_o0_data_11.other W13 (Or.inr (slot_ne (Or.inr (hw _ (List.mem_of_getElem? (i := 15) rfl))) (Or.inl (hw _ (List.mem_of_getElem? (i := 22) rfl))) (by decide) (t := (.array .byte)) (t' := .int) (by decide) (by decide)))
  have F_o0_position_13 := F_o0_position_11.same W13
  have E_c1_13 := E_c1_11.wr W13
  have F_c1_tag_13 := F_c1_tag_11.other W13 (Or.inl (Ne.symm ne_o0_c1))
  have F_c1_valueStart_13 := F_c1_valueStart_11.other W13 (Or.inl (Ne.symm ne_o0_c1))
  have F_c1_length_13 := F_c1_length_11.other W13 (Or.inl (Ne.symm ne_o0_c1))
  have E_b41_13 := E_b41_11.wr W13
  have F_b41_tag_13 := F_b41_tag_11.other W13 (Or.inl (Ne.symm ne_o0_b41))
  have F_b41_value_13 := F_b41_value_11.other W13 (Or.inl (Ne.symm ne_o0_b41))
  have V_d_13 := V_d_11.other W13 (Ne.symm ne_o0_d)
  have N13 := Fr.snoc X13 N11 g_o0
  have Z13 : n0 ≤ h13.size := Nat.le_trans Z11 (Nat.le_of_eq W13.size.symm)
  have K13 := K11.wr W13 (Or.inl (by simp))
  refine EndsIn.by (B := T13.setTop (mkF m 77 #[.val (.ref o0), .val (.ref c1), .val (.int (f7_0 o0_position d_n d_xs).2.1), .val (.ref b41)] [])) (fun t k => st13 t k) ?_
  refine EndsIn.by (B := T13.setTop (mkF m 78 #[.val (.ref o0), .val (.ref c1), .val (.int (f7_0 o0_position d_n d_xs).2.1), .val (.ref b41)] [(.ref b41)])) (fun t k => ?_) ?_
  · show Steps p.tables e below (T13.setTop (mkF m 77 #[.val (.ref o0), .val (.ref c1), .val (.int (f7_0 o0_position d_n d_xs).2.1), .val (.ref b41)] [])) _
    refine XS.aloadN X13.here hx rfl (hb hby d6_77) rfl rfl ?_
    exact k
  subst hr
  exact own_retR X13 hx hlk hret rfl (hb hby d6_78) (by decide) (by decide) ⟨b41, rfl, N13, g_b41, sz_b41, (by rw [e13]; exact K13), (by rw [e13]; exact E_o0_13), (by rw [e13]; exact F_o0_data_13), (by rw [e13]; exact F_o0_position_13)⟩
theorem ef_6 (m : MethodId) (o0 : Addr) : entryFrame m #[(.ref o0)] 4 = (mkF m 0 #[.val (.ref o0), .unset, .unset, .unset] []) := by first | (simp [entryFrame, mkF, argsToLocals, Value.category]; done) | rfl
set_option maxRecDepth 65536 in
set_option maxHeartbeats 40000000 in
theorem rm6 (l : Launch) (Z : State) (a0 : Array Value) (hw : ∀ d ∈ tables_1, d.before a0 Z = true) (ws : List Jvm.Cond) (o0 : Addr) (d : Addr) (o0_position : Int32) (d_k : ClassId) (d_n : Int32) (d_xs : List Int32) (h0 : Heap) (n0 : Nat) (Z0 : n0 ≤ h0.size) (E_o0 : Exa Z h0 o0 "com/example/pure_mrtd/puremrtd/format/TlvReader") (F_o0_data : Fld Z h0 o0 "com/example/pure_mrtd/puremrtd/format/TlvReader" "data" "[B" (.ref d)) (F_o0_position : Fld Z h0 o0 "com/example/pure_mrtd/puremrtd/format/TlvReader" "position" "I" (.int o0_position)) (g_o0 : n0 ≤ o0) (V_d : Arv Z h0 d d_k .byte d_n (d_xs.map Value.int) (.int 0)) (ln_d : d_xs.length = d_n.toNatClampNeg) (ne_o0_d : o0 ≠ d) (hk : own_ok o0_position d_n d_xs) :
    MetFree l (⟨"com/example/pure_mrtd/puremrtd/format/TlvReader", "next", "()Lcom/example/pure_mrtd/puremrtd/format/Tlv;"⟩ : MethodName) (head1 (Jvm.Cond.code (⟨"com/example/pure_mrtd/puremrtd/format/TlvReader", "next", "()Lcom/example/pure_mrtd/puremrtd/format/Tlv;"⟩ : MethodName) prog_27_method_7_code 4 (some (.object "com/example/pure_mrtd/puremrtd/format/Tlv")) :: ws) R6) (fun a U => a = #[(.ref o0)] ∧ Z.Warmed39 U.vm ∧ U.heap = h0) (fun _ _ _ _ _ => True) (fun _ U o U' => ∃ v L, o = .returned v ∧ (Q6 Z o0 d h0 n0 (f6_0 o0_position d_n d_xs)) v U'.heap L ∧ FrameEnd U o U' L R6.cells R6.slots) := by
  refine MetFree.of_bodySF (plainFor_of_name pn_6) hisR ?_
  intro p e s m args below meth c s₁ Bd hml0 hP hK
  obtain ⟨rfl, hZ, hh⟩ := hP
  have B : Ctx p Z s a0 m meth c "com/example/pure_mrtd/puremrtd/format/TlvReader" "next" prog_27_method_7_code 4 (some (.object "com/example/pure_mrtd/puremrtd/format/Tlv")) := ⟨Bd.exec, hZ, hw, Bd.bytes, hml0, Bd.returns, findClass_of_methodNamed Bd.named, (name_of_methodNamed Bd.named Bd.method).1, Bd.notSynchronized⟩
  have X0 : Stand p l e R6 s m #[(.ref o0)] below meth c s₁ [] 0 0 := Stand.of_body Bd
  have e0 : s₁.heap = h0 := by rw [← hh, Bd.state]; rfl
  have K := Keep.refl h0 [o0]
  show EndsIn p e below s R6.cells R6.slots (Q6 Z o0 d h0 n0 (f6_0 o0_position d_n d_xs)) (s₁.setTop (entryFrame m #[(.ref o0)] 4))
  refine EndsIn.by (fun t k => castTop (ef_6 m o0) k) ?_
  exact b6_0 B h0 n0 o0 d o0_position d_k d_n d_xs X0 e0 (Fr.nil n0) Z0 K E_o0 F_o0_data F_o0_position g_o0 V_d ln_d ne_o0_d hk _ rfl
theorem pd_10 : parseMethodDescriptor "()Lcom/example/pure_mrtd/puremrtd/format/Tlv;" = some ⟨[], some (.object "com/example/pure_mrtd/puremrtd/format/Tlv")⟩ := by decide +kernel
theorem d5_0 : decode method_3_code 0 = .ok (.iload_n 0, 1) := by decide +kernel
theorem d5_1 : decode method_3_code 1 = .ok (.bipush 31, 2) := by decide +kernel
theorem d5_3 : decode method_3_code 3 = .ok (.iand, 1) := by decide +kernel
theorem d5_4 : decode method_3_code 4 = .ok (.bipush 31, 2) := by decide +kernel
theorem d5_6 : decode method_3_code 6 = .ok (.if_icmp .ne 7, 3) := by decide +kernel
theorem d5_9 : decode method_3_code 9 = .ok (.iload_n 0, 1) := by decide +kernel
theorem d5_10 : decode method_3_code 10 = .ok (.iconst 1, 1) := by decide +kernel
theorem d5_11 : decode method_3_code 11 = .ok (.ixor, 1) := by decide +kernel
theorem d5_12 : decode method_3_code 12 = .ok (.ireturn, 1) := by decide +kernel
theorem d5_13 : decode method_3_code 13 = .ok (.iload_n 0, 1) := by decide +kernel
theorem d5_14 : decode method_3_code 14 = .ok (.ireturn, 1) := by decide +kernel
theorem pn_5 : plainName "com/example/pure_mrtd/puremrtd/format/TlvReaderHasNextPinLaw" = true := by first | (simp [plainName, overriddenIn]; done) | decide +kernel
def R5 : Room := { frames := 0, cells := 0, slots := 0, locals := 0 }
def Q5 (Z : State)  (h0 : Heap) (n0 : Nat) (r : Int32) (v : Option Value) (h : Heap) (L : List Loc) : Prop := v = some (.int r) ∧ Fr n0 L ∧ h = h0
def f5_0 (v0 : Int32) : Int32 := (if (v0 &&& (31 : Int32)) = (31 : Int32) then (v0 ^^^ (1 : Int32)) else v0)
set_option maxRecDepth 65536 in
set_option maxHeartbeats 40000000 in
theorem b5_0 {p : Program} {l : Launch} {e : Env} {s : State} {m : MethodId} {args : Array Value} {below : List Frame} {meth : Method} {c : Code} {Z : State} {a0 : Array Value} (B : Ctx p Z s a0 m meth c "com/example/pure_mrtd/puremrtd/format/TlvReaderHasNextPinLaw" "oneByteTag" method_3_code 1 (some .int)) {T0 : State} {locs : List Loc} {h : Heap} (h0 : Heap) (n0 : Nat) (v0 : Int32) (X0 : Stand p l e R5 s m args below meth c T0 locs 0 0) (e0 : T0.heap = h) (N0 : Fr n0 locs) (Z0 : n0 ≤ h.size) (hh0 : h = h0) (r : Int32) (hr : f5_0 v0 = r) :
    EndsIn p e below s R5.cells R5.slots (Q5 Z  h0 n0 r) (T0.setTop (mkF m 0 #[.val (.int v0)] [])) := by
  obtain ⟨hx, hZ, hw, hby, hml, hret, hown, hnm, hlk⟩ := B
  unfold f5_0 at hr
  refine EndsIn.by (B := T0.setTop (mkF m 6 #[.val (.int v0)] [(.int (31 : Int32)), (.int (v0 &&& (31 : Int32)))])) (fun t k => ?_) ?_
  · show Steps p.tables e below (T0.setTop (mkF m 0 #[.val (.int v0)] [])) _
    refine XS.iloadN X0.here hx rfl (hb hby d5_0) rfl  ?_
    show Steps p.tables e below (T0.setTop (mkF m 1 #[.val (.int v0)] [(.int v0)])) _
    refine XS.bipush X0.here hx rfl (hb hby d5_1) ?_
    show Steps p.tables e below (T0.setTop (mkF m 3 #[.val (.int v0)] [(.int (31 : Int32)), (.int v0)])) _
    refine XS.iand X0.here hx rfl (hb hby d5_3) rfl ?_
    show Steps p.tables e below (T0.setTop (mkF m 4 #[.val (.int v0)] [(.int (v0 &&& (31 : Int32)))])) _
    refine XS.bipush X0.here hx rfl (hb hby d5_4) ?_
    exact k
  by_cases hc6 : (v0 &&& (31 : Int32)) = (31 : Int32)
  · rw [if_pos hc6] at hr
    refine EndsIn.by (B := T0.setTop (mkF m 9 #[.val (.int v0)] [])) (fun t k => ?_) ?_
    · show Steps p.tables e below (T0.setTop (mkF m 6 #[.val (.int v0)] [(.int (31 : Int32)), (.int (v0 &&& (31 : Int32)))])) _
      exact XS.icmpNo X0.here hx rfl (hb hby d5_6) rfl (teq hc6).2 k
    refine EndsIn.by (B := T0.setTop (mkF m 12 #[.val (.int v0)] [(.int (v0 ^^^ (1 : Int32)))])) (fun t k => ?_) ?_
    · show Steps p.tables e below (T0.setTop (mkF m 9 #[.val (.int v0)] [])) _
      refine XS.iloadN X0.here hx rfl (hb hby d5_9) rfl  ?_
      show Steps p.tables e below (T0.setTop (mkF m 10 #[.val (.int v0)] [(.int v0)])) _
      refine XS.iconst X0.here hx rfl (hb hby d5_10) ?_
      show Steps p.tables e below (T0.setTop (mkF m 11 #[.val (.int v0)] [(.int (1 : Int32)), (.int v0)])) _
      refine XS.ixor X0.here hx rfl (hb hby d5_11) rfl ?_
      exact k
    subst hr
    exact own_retI X0 hx hlk hret (hb hby d5_12) (by decide) (by decide) ⟨rfl, N0, (e0.trans hh0)⟩
  · rw [if_neg hc6] at hr
    refine EndsIn.by (B := T0.setTop (mkF m 13 #[.val (.int v0)] [])) (fun t k => ?_) ?_
    · show Steps p.tables e below (T0.setTop (mkF m 6 #[.val (.int v0)] [(.int (31 : Int32)), (.int (v0 &&& (31 : Int32)))])) _
      exact XS.icmpYes X0.here hx rfl (pc0 := 6) (pc' := 13) rfl (hb hby d5_6) rfl (feq hc6).2 (by decide) (by decide) k
    refine EndsIn.by (B := T0.setTop (mkF m 14 #[.val (.int v0)] [(.int v0)])) (fun t k => ?_) ?_
    · show Steps p.tables e below (T0.setTop (mkF m 13 #[.val (.int v0)] [])) _
      refine XS.iloadN X0.here hx rfl (hb hby d5_13) rfl  ?_
      exact k
    subst hr
    exact own_retI X0 hx hlk hret (hb hby d5_14) (by decide) (by decide) ⟨rfl, N0, (e0.trans hh0)⟩
theorem ef_5 (m : MethodId) (v0 : Int32) : entryFrame m #[(.int v0)] 1 = (mkF m 0 #[.val (.int v0)] []) := by first | (simp [entryFrame, mkF, argsToLocals, Value.category]; done) | rfl
set_option maxRecDepth 65536 in
set_option maxHeartbeats 40000000 in
theorem rm5 (l : Launch) (Z : State) (a0 : Array Value) (hw : ∀ d ∈ tables_1, d.before a0 Z = true) (ws : List Jvm.Cond) (v0 : Int32) (h0 : Heap) (n0 : Nat) (Z0 : n0 ≤ h0.size) :
    MetFree l (⟨"com/example/pure_mrtd/puremrtd/format/TlvReaderHasNextPinLaw", "oneByteTag", "(I)I"⟩ : MethodName) (head1 (Jvm.Cond.code (⟨"com/example/pure_mrtd/puremrtd/format/TlvReaderHasNextPinLaw", "oneByteTag", "(I)I"⟩ : MethodName) method_3_code 1 (some .int) :: ws) R5) (fun a U => a = #[(.int v0)] ∧ Z.Warmed39 U.vm ∧ U.heap = h0) (fun _ _ _ _ _ => True) (fun _ U o U' => ∃ v L, o = .returned v ∧ (Q5 Z  h0 n0 (f5_0 v0)) v U'.heap L ∧ FrameEnd U o U' L R5.cells R5.slots) := by
  refine MetFree.of_bodySF (plainFor_of_name pn_5) hisR ?_
  intro p e s m args below meth c s₁ Bd hml0 hP hK
  obtain ⟨rfl, hZ, hh⟩ := hP
  have B : Ctx p Z s a0 m meth c "com/example/pure_mrtd/puremrtd/format/TlvReaderHasNextPinLaw" "oneByteTag" method_3_code 1 (some .int) := ⟨Bd.exec, hZ, hw, Bd.bytes, hml0, Bd.returns, findClass_of_methodNamed Bd.named, (name_of_methodNamed Bd.named Bd.method).1, Bd.notSynchronized⟩
  have X0 : Stand p l e R5 s m #[(.int v0)] below meth c s₁ [] 0 0 := Stand.of_body Bd
  have e0 : s₁.heap = h0 := by rw [← hh, Bd.state]; rfl
  have K := Keep.refl h0 []
  show EndsIn p e below s R5.cells R5.slots (Q5 Z  h0 n0 (f5_0 v0)) (s₁.setTop (entryFrame m #[(.int v0)] 1))
  refine EndsIn.by (fun t k => castTop (ef_5 m v0) k) ?_
  exact b5_0 B h0 n0 v0 X0 e0 (Fr.nil n0) Z0 rfl  _ rfl

section
variable {v1 v4 v5 v6 v7 v8 v9 n pos : Int32} {xs : List Int32}
theorem own_tag (x : Int32) : ¬ ((((f5_0 x).toInt8.toInt32).toInt8.toInt32 &&& (255 : Int32)) &&& (31 : Int32) = (31 : Int32)) := by
  rw [own_bb]
  have e : ∀ y : Int32, (y &&& (255 : Int32)) &&& (31 : Int32) = y &&& (31 : Int32) := fun y => by
    rw [Int32.and_assoc]; rfl
  rw [e]
  unfold f5_0
  split
  · rename_i h
    have e2 : (x ^^^ (1 : Int32)) &&& (31 : Int32) = (x &&& (31 : Int32)) ^^^ (1 : Int32) := by
      have e3 : (1 : Int32) = (1 : Int32) &&& (31 : Int32) := by decide
      have e4 : ∀ a b c : Int32, (a ^^^ b) &&& c = (a &&& c) ^^^ (b &&& c) := fun a b c => by
        apply Int32.toBitVec_inj.mp
        rw [Int32.toBitVec_and, Int32.toBitVec_xor, Int32.toBitVec_xor, Int32.toBitVec_and, Int32.toBitVec_and]
        apply BitVec.eq_of_getElem_eq
        intro i hi
        rw [BitVec.getElem_and, BitVec.getElem_xor, BitVec.getElem_xor, BitVec.getElem_and, BitVec.getElem_and]
        cases a.toBitVec[i] <;> cases b.toBitVec[i] <;> cases c.toBitVec[i] <;> rfl
      rw [e4, ← e3]
    rw [e2, h]; decide
  · rename_i h; exact h
theorem own_set {ys : List Int32} {p : Int32} {a b : Int32} {i : Nat} (hi : p.toNatClampNeg = i) (hi2 : (p + (1 : Int32)).toNatClampNeg = i + 1) (hl : i + 1 < ys.length) : own_at ((ys.set i a).set (i + 1) b) p = a ∧ own_at ((ys.set i a).set (i + 1) b) (p + (1 : Int32)) = b := by
  unfold own_at
  rw [hi, hi2, List.getD_eq_getElem?_getD, List.getD_eq_getElem?_getD, List.getElem?_set_ne (by omega), List.getElem?_set_self (by omega), List.getElem?_set_self (by rw [List.length_set]; omega)]
  exact ⟨rfl, rfl⟩
theorem own_len (g : own_G v4 v5 v6 v7 v8 v9 n) (ln : xs.length = n.toNatClampNeg) : (xs.length : Int) = n.toInt := by
  have g := own_GI g; have q := own_nat n; rw [ln]; split at q <;> omega
theorem own_d1b (g : own_G v4 v5 v6 v7 v8 v9 n) (ln : xs.length = n.toNatClampNeg) (h : ¬ v4 < (1 : Int32)) : own_D1 v4 v5 ((xs.set 0 (((f5_0 (v1 &&& (255 : Int32))).toInt8.toInt32).toInt8.toInt32)).set 1 ((v5.toInt8.toInt32).toInt8.toInt32)) := by
  intro _
  have l := own_len g ln; have gi := own_GI g; have h := own_nltI h; rw [own_c1] at h
  obtain ⟨e1, e2⟩ := own_set (ys := xs) (p := 0) (a := (((f5_0 (v1 &&& (255 : Int32))).toInt8.toInt32).toInt8.toInt32)) (b := ((v5.toInt8.toInt32).toInt8.toInt32)) (i := 0) rfl rfl (by omega)
  unfold own_okL
  rw [show (1 : Nat) = 0 + 1 from rfl, e1, e2]
  exact ⟨own_tag _, own_lb g.1.1.2.1⟩
theorem own_d2b {y : Int32} (g : own_G v4 v5 v6 v7 v8 v9 n) (ln : xs.length = n.toNatClampNeg) (d : own_D1 v4 v5 xs) (h : ¬ v4 < (2 : Int32)) :
    own_D v4 v5 v6 v8 ((xs.set (v8).toNatClampNeg (((f5_0 y).toInt8.toInt32).toInt8.toInt32)).set ((v8 + (1 : Int32))).toNatClampNeg ((v6.toInt8.toInt32).toInt8.toInt32)) := by
  have l := own_len g ln; have gi := own_GI g; have h := own_nltI h; rw [own_c2] at h
  have e := own_add (a := v8) (b := 1) rfl own_c1 (by omega)
  have q1 := own_nat v8; have q2 := own_nat (v8 + 1)
  have i2 : (v8 + (1 : Int32)).toNatClampNeg = v8.toNatClampNeg + 1 := by split at q1 <;> split at q2 <;> omega
  have i3 : 2 ≤ v8.toNatClampNeg := by split at q1 <;> omega
  have i4 : v8.toNatClampNeg + 1 < xs.length := by split at q1 <;> omega
  rw [i2]
  constructor
  · intro q
    have d := d q
    unfold own_okL at d ⊢
    have k : ∀ p : Int32, p.toNatClampNeg < 2 → own_at ((xs.set v8.toNatClampNeg (((f5_0 y).toInt8.toInt32).toInt8.toInt32)).set (v8.toNatClampNeg + 1) ((v6.toInt8.toInt32).toInt8.toInt32)) p = own_at xs p := fun p hp => by
      unfold own_at
      rw [List.getD_eq_getElem?_getD, List.getD_eq_getElem?_getD, List.getElem?_set_ne (by omega), List.getElem?_set_ne (by omega)]
    rw [k 0 (by decide), k (0 + 1) (by decide)]
    exact d
  · intro _
    obtain ⟨e1, e2⟩ := own_set (ys := xs) (p := v8) (a := (((f5_0 y).toInt8.toInt32).toInt8.toInt32)) (b := ((v6.toInt8.toInt32).toInt8.toInt32)) rfl i2 i4
    unfold own_okL
    rw [e1, e2]
    exact ⟨own_tag _, own_lb g.1.1.2.2⟩
theorem own_k1 (g : own_G v4 v5 v6 v7 v8 v9 n) (d : own_D v4 v5 v6 v8 xs) (hp : pos = 0) (h : ¬ v4 < (1 : Int32)) : own_ok pos n xs := by
  subst hp
  have o := d.1 h; have gi := own_GI g; have h := own_nltI h; rw [own_c1] at h
  obtain ⟨o1, o2⟩ := o
  have z := own_c0
  exact ⟨by decide, by omega, o1, by rw [o2]; omega, by rw [o2]; omega⟩
theorem own_k2 (g : own_G v4 v5 v6 v7 v8 v9 n) (d : own_D v4 v5 v6 v8 xs) (hp : pos = v8) (h : ¬ v4 < (2 : Int32)) : own_ok pos n xs := by
  subst hp
  have o := d.2 h; have gi := own_GI g; have h := own_nltI h; rw [own_c2] at h
  obtain ⟨o1, o2⟩ := o
  exact ⟨by omega, by omega, o1, by rw [o2]; omega, by rw [o2]; omega⟩
theorem own_p1 (g : own_G v4 v5 v6 v7 v8 v9 n) (d : own_D v4 v5 v6 v8 xs) (hp : pos = 0) (h : ¬ v4 < (1 : Int32)) : f6_0 pos n xs = v8 := by
  have k := own_ve (own_k1 g d hp h)
  subst hp
  have o := (d.1 h).2
  rw [o] at k
  have gi := own_GI g; have h := own_nltI h; rw [own_c1] at h
  have z := own_c0
  apply Int32.toInt_inj.mp
  show ((f7_0 0 n xs).2.1 + (f7_0 0 n xs).2.2).toInt = _
  omega
theorem own_p2 (g : own_G v4 v5 v6 v7 v8 v9 n) (d : own_D v4 v5 v6 v8 xs) (hp : pos = v8) (h : ¬ v4 < (2 : Int32)) : (f6_0 pos n xs).toInt = v8.toInt + v9.toInt := by
  have k := own_ve (own_k2 g d hp h)
  subst hp
  have o := (d.2 h).2
  rw [o] at k
  have gi := own_GI g; have h := own_nltI h; rw [own_c2] at h
  show ((f7_0 pos n xs).2.1 + (f7_0 pos n xs).2.2).toInt = _
  omega
theorem own_p0 (g : own_G v4 v5 v6 v7 v8 v9 n) (hp : pos = 0) (h : v4 < (1 : Int32)) : pos = v8 := by
  have gi := own_GI g; have h := own_ltI h; rw [own_c1] at h
  subst hp; apply Int32.toInt_inj.mp; rw [own_c0]; omega
end

theorem pn_0 : plainName "com/example/pure_mrtd/puremrtd/format/TlvReaderHasNextPinLaw" = true := by first | (simp [plainName, overriddenIn]; done) | decide +kernel
def Q0 (n0 : Nat) (r : Int32) (v : Option Value) (h : Heap) (L : List Loc) : Prop := v = some (.int r) ∧ Fr n0 L
def f0_378 (v0 : Int32) (v1 : Int32) (v2 : Int64) (v4 : Int32) (v5 : Int32) (v6 : Int32) (v7 : Int32) (v8 : Int32) (v9 : Int32) (v10 : Int32) (v13 : Int32) (b254_position : Int32) (b93_n : Int32) (b93_xs : List Int32) : Int32 := (if v13 = (0 : Int32) then (0 : Int32) else (if (f4_0 b254_position b93_n b93_xs) = v7 then (1 : Int32) else (0 : Int32)))
set_option maxRecDepth 65536 in
set_option maxHeartbeats 40000000 in
theorem b0_378 {p : Program} {l : Launch} {e : Env} {s : State} {m : MethodId} {args : Array Value} {below : List Frame} {meth : Method} {c : Code} {Z : State} {a0 : Array Value} (B : Ctx p Z s a0 m meth c "com/example/pure_mrtd/puremrtd/format/TlvReaderHasNextPinLaw" "law" code 14 (some .boolean)) {T0 : State} {locs : List Loc} {h : Heap} (h0 : Heap) (n0 : Nat) (v0 : Int32) (v1 : Int32) (v2 : Int64) (v4 : Int32) (v5 : Int32) (v6 : Int32) (v7 : Int32) (v8 : Int32) (v9 : Int32) (v10 : Int32) (b93 : Addr) (b254 : Addr) (v13 : Int32) (b254_position : Int32) (b93_k : ClassId) (b93_n : Int32) (b93_xs : List Int32) (X0 : Stand p l e room_1 s m args below meth c T0 locs 8 25) (e0 : T0.heap = h) (N0 : Fr n0 locs) (Z0 : n0 ≤ h.size) (E_b254 : Exa Z h b254 "com/example/pure_mrtd/puremrtd/format/TlvReader") (F_b254_data : Fld Z h b254 "com/example/pure_mrtd/puremrtd/format/TlvReader" "data" "[B" (.ref b93)) (F_b254_position : Fld Z h b254 "com/example/pure_mrtd/puremrtd/format/TlvReader" "position" "I" (.int b254_position)) (g_b254 : n0 ≤ b254) (V_b93 : Arv Z h b93 b93_k .byte b93_n (b93_xs.map Value.int) (.int 0)) (ln_b93 : b93_xs.length = b93_n.toNatClampNeg) (g_b93 : n0 ≤ b93) (ne_b93_b254 : b93 ≠ b254) (r : Int32) (hr : f0_378 v0 v1 v2 v4 v5 v6 v7 v8 v9 v10 v13 b254_position b93_n b93_xs = r) :
    EndsIn p e below s 8 25 (Q0 n0 r) (T0.setTop (mkF m 378 #[.val (.int v0), .val (.int v1), .val (.long v2), .second, .val (.int v4), .val (.int v5), .val (.int v6), .val (.int v7), .val (.int v8), .val (.int v9), .val (.int v10), .val (.ref b93), .val (.ref b254), .val (.int v13)] [])) := by
  obtain ⟨hx, hZ, hw, hby, hml, hret, hown, hnm, hlk⟩ := B
  unfold f0_378 at hr
  refine EndsIn.by (B := T0.setTop (mkF m 380 #[.val (.int v0), .val (.int v1), .val (.long v2), .second, .val (.int v4), .val (.int v5), .val (.int v6), .val (.int v7), .val (.int v8), .val (.int v9), .val (.int v10), .val (.ref b93), .val (.ref b254), .val (.int v13)] [(.int v13)])) (fun t k => ?_) ?_
  · show Steps p.tables e below (T0.setTop (mkF m 378 #[.val (.int v0), .val (.int v1), .val (.long v2), .second, .val (.int v4), .val (.int v5), .val (.int v6), .val (.int v7), .val (.int v8), .val (.int v9), .val (.int v10), .val (.ref b93), .val (.ref b254), .val (.int v13)] [])) _
    refine XS.iload X0.here hx rfl (hb hby at_378) rfl  ?_
    exact k
  by_cases hc380 : v13 = (0 : Int32)
  · rw [if_pos hc380] at hr
    refine EndsIn.by (B := T0.setTop (mkF m 397 #[.val (.int v0), .val (.int v1), .val (.long v2), .second, .val (.int v4), .val (.int v5), .val (.int v6), .val (.int v7), .val (.int v8), .val (.int v9), .val (.int v10), .val (.ref b93), .val (.ref b254), .val (.int v13)] [])) (fun t k => ?_) ?_
    · show Steps p.tables e below (T0.setTop (mkF m 380 #[.val (.int v0), .val (.int v1), .val (.long v2), .second, .val (.int v4), .val (.int v5), .val (.int v6), .val (.int v7), .val (.int v8), .val (.int v9), .val (.int v10), .val (.ref b93), .val (.ref b254), .val (.int v13)] [(.int v13)])) _
      exact XS.ifYes X0.here hx rfl (pc0 := 380) (pc' := 397) rfl (hb hby at_380) rfl ((if0 _ _).trans (teq hc380).1) (by decide) (by decide) k
    refine EndsIn.by (B := T0.setTop (mkF m 402 #[.val (.int v0), .val (.int v1), .val (.long v2), .second, .val (.int v4), .val (.int v5), .val (.int v6), .val (.int v7), .val (.int v8), .val (.int v9), .val (.int v10), .val (.ref b93), .val (.ref b254), .val (.int (0 : Int32))] [(.int (0 : Int32))])) (fun t k => ?_) ?_
    · show Steps p.tables e below (T0.setTop (mkF m 397 #[.val (.int v0), .val (.int v1), .val (.long v2), .second, .val (.int v4), .val (.int v5), .val (.int v6), .val (.int v7), .val (.int v8), .val (.int v9), .val (.int v10), .val (.ref b93), .val (.ref b254), .val (.int v13)] [])) _
      refine XS.iconst X0.here hx rfl (hb hby at_397) ?_
      show Steps p.tables e below (T0.setTop (mkF m 398 #[.val (.int v0), .val (.int v1), .val (.long v2), .second, .val (.int v4), .val (.int v5), .val (.int v6), .val (.int v7), .val (.int v8), .val (.int v9), .val (.int v10), .val (.ref b93), .val (.ref b254), .val (.int v13)] [(.int (0 : Int32))])) _
      refine XS.istore X0.here hx rfl (hb hby at_398) rfl (l' := #[.val (.int v0), .val (.int v1), .val (.long v2), .second, .val (.int v4), .val (.int v5), .val (.int v6), .val (.int v7), .val (.int v8), .val (.int v9), .val (.int v10), .val (.ref b93), .val (.ref b254), .val (.int (0 : Int32))]) rfl ?_
      show Steps p.tables e below (T0.setTop (mkF m 400 #[.val (.int v0), .val (.int v1), .val (.long v2), .second, .val (.int v4), .val (.int v5), .val (.int v6), .val (.int v7), .val (.int v8), .val (.int v9), .val (.int v10), .val (.ref b93), .val (.ref b254), .val (.int (0 : Int32))] [])) _
      refine XS.iload X0.here hx rfl (hb hby at_400) rfl  ?_
      exact k
    subst hr
    exact own_retN X0 hx hlk (t := .boolean) hret (by simp) (hb hby at_402) (by decide) (by decide) ⟨rfl, N0⟩
  · rw [if_neg hc380] at hr
    refine EndsIn.by (B := T0.setTop (mkF m 383 #[.val (.int v0), .val (.int v1), .val (.long v2), .second, .val (.int v4), .val (.int v5), .val (.int v6), .val (.int v7), .val (.int v8), .val (.int v9), .val (.int v10), .val (.ref b93), .val (.ref b254), .val (.int v13)] [])) (fun t k => ?_) ?_
    · show Steps p.tables e below (T0.setTop (mkF m 380 #[.val (.int v0), .val (.int v1), .val (.long v2), .second, .val (.int v4), .val (.int v5), .val (.int v6), .val (.int v7), .val (.int v8), .val (.int v9), .val (.int v10), .val (.ref b93), .val (.ref b254), .val (.int v13)] [(.int v13)])) _
      exact XS.ifNo X0.here hx rfl (hb hby at_380) rfl ((if0 _ _).trans (feq hc380).1) k
    refine EndsIn.by (B := T0.setTop (mkF m 385 #[.val (.int v0), .val (.int v1), .val (.long v2), .second, .val (.int v4), .val (.int v5), .val (.int v6), .val (.int v7), .val (.int v8), .val (.int v9), .val (.int v10), .val (.ref b93), .val (.ref b254), .val (.int v13)] [(.ref b254)])) (fun t k => ?_) ?_
    · show Steps p.tables e below (T0.setTop (mkF m 383 #[.val (.int v0), .val (.int v1), .val (.long v2), .second, .val (.int v4), .val (.int v5), .val (.int v6), .val (.int v7), .val (.int v8), .val (.int v9), .val (.int v10), .val (.ref b93), .val (.ref b254), .val (.int v13)] [])) _
      refine XS.aload X0.here hx rfl (hb hby at_383) rfl rfl ?_
      exact k
    -- pc 385: com/example/pure_mrtd/puremrtd/format/TlvReader.hasNext
    obtain ⟨cq14, kq14, q14a, q14b, q14c⟩ := isOf hZ e0 E_b254
    obtain ⟨_, _, ⟨T14, L14, k14, n14⟩, -, X14, ⟨Lc14, hQ14, l14, y14, z14⟩, st14⟩ := X0.virtualBack hx (y := (⟨"com/example/pure_mrtd/puremrtd/format/TlvReader", "hasNext", "()Z"⟩ : MethodName)) (z := (⟨"com/example/pure_mrtd/puremrtd/format/TlvReader", "hasNext", "()Z"⟩ : MethodName)) hown (mvT hZ (hw _ (List.mem_of_getElem? (i := 16) rfl))) (mvT hZ (hw _ (List.mem_of_getElem? (i := 17) rfl))) (notFace_of_selects (args := #[]) (mvT hZ (hw _ (List.mem_of_getElem? (i := 19) rfl)))) (mvT hZ (hw _ (List.mem_of_getElem? (i := 19) rfl))) (mvT hZ (hw _ (List.mem_of_getElem? (i := 18) rfl))) (by decide) (backOf (W := 0) (rm4 l Z a0 hw [] b254 b93 b254_position b93_k b93_n b93_xs h n0 Z0 E_b254 F_b254_data F_b254_position V_b93 ln_b93) hZ (hw _ (List.mem_of_getElem? (i := 20) rfl)) (hw _ (List.mem_of_getElem? (i := 7) rfl)) (by decide) (by decide)) q14a q14c (g := (mkF m 385 #[.val (.int v0), .val (.int v1), .val (.long v2), .second, .val (.int v4), .val (.int v5), .val (.int v6), .val (.int v7), .val (.int v8), .val (.int v9), .val (.int v10), .val (.ref b93), .val (.ref b254), .val (.int v13)] [(.ref b254)])) rfl (by rw [hml]; rfl) (Steps.refl _) (argsL := []) (rest := []) (lenOf pd_2 rfl) rfl (by show 2 * 0 + _ ≤ _; exact Nat.le_of_eq rfl) (hb hby at_385) (fun _ _ => ⟨rfl, e0, (by decide : 8 + R4.cells ≤ _), (by decide : 25 + R4.slots ≤ _)⟩)
    dsimp only [Pt.U, Pt.locs, Pt.cells, Pt.slots] at X14 l14 y14 z14 st14 hQ14
    subst l14 y14 z14
    obtain ⟨rfl, Nq14, e14⟩ := hQ14
    have N14 := Fr.app N0 Nq14
    refine EndsIn.by (B := T14.setTop (mkF m 388 #[.val (.int v0), .val (.int v1), .val (.long v2), .second, .val (.int v4), .val (.int v5), .val (.int v6), .val (.int v7), .val (.int v8), .val (.int v9), .val (.int v10), .val (.ref b93), .val (.ref b254), .val (.int v13)] [(.int (f4_0 b254_position b93_n b93_xs))])) (fun t k => st14.trans k) ?_
    refine EndsIn.by (B := T14.setTop (mkF m 390 #[.val (.int v0), .val (.int v1), .val (.long v2), .second, .val (.int v4), .val (.int v5), .val (.int v6), .val (.int v7), .val (.int v8), .val (.int v9), .val (.int v10), .val (.ref b93), .val (.ref b254), .val (.int v13)] [(.int v7), (.int (f4_0 b254_position b93_n b93_xs))])) (fun t k => ?_) ?_
    · show Steps p.tables e below (T14.setTop (mkF m 388 #[.val (.int v0), .val (.int v1), .val (.long v2), .second, .val (.int v4), .val (.int v5), .val (.int v6), .val (.int v7), .val (.int v8), .val (.int v9), .val (.int v10), .val (.ref b93), .val (.ref b254), .val (.int v13)] [(.int (f4_0 b254_position b93_n b93_xs))])) _
      refine XS.iload X14.here hx rfl (hb hby at_388) rfl  ?_
      exact k
    by_cases hc390 : (f4_0 b254_position b93_n b93_xs) = v7
    · rw [if_pos hc390] at hr
      refine EndsIn.by (B := T14.setTop (mkF m 393 #[.val (.int v0), .val (.int v1), .val (.long v2), .second, .val (.int v4), .val (.int v5), .val (.int v6), .val (.int v7), .val (.int v8), .val (.int v9), .val (.int v10), .val (.ref b93), .val (.ref b254), .val (.int v13)] [])) (fun t k => ?_) ?_
      · show Steps p.tables e below (T14.setTop (mkF m 390 #[.val (.int v0), .val (.int v1), .val (.long v2), .second, .val (.int v4), .val (.int v5), .val (.int v6), .val (.int v7), .val (.int v8), .val (.int v9), .val (.int v10), .val (.ref b93), .val (.ref b254), .val (.int v13)] [(.int v7), (.int (f4_0 b254_position b93_n b93_xs))])) _
        exact XS.icmpNo X14.here hx rfl (hb hby at_390) rfl (teq hc390).2 k
      refine EndsIn.by (B := T14.setTop (mkF m 402 #[.val (.int v0), .val (.int v1), .val (.long v2), .second, .val (.int v4), .val (.int v5), .val (.int v6), .val (.int v7), .val (.int v8), .val (.int v9), .val (.int v10), .val (.ref b93), .val (.ref b254), .val (.int (1 : Int32))] [(.int (1 : Int32))])) (fun t k => ?_) ?_
      · show Steps p.tables e below (T14.setTop (mkF m 393 #[.val (.int v0), .val (.int v1), .val (.long v2), .second, .val (.int v4), .val (.int v5), .val (.int v6), .val (.int v7), .val (.int v8), .val (.int v9), .val (.int v10), .val (.ref b93), .val (.ref b254), .val (.int v13)] [])) _
        refine XS.iconst X14.here hx rfl (hb hby at_393) ?_
        show Steps p.tables e below (T14.setTop (mkF m 394 #[.val (.int v0), .val (.int v1), .val (.long v2), .second, .val (.int v4), .val (.int v5), .val (.int v6), .val (.int v7), .val (.int v8), .val (.int v9), .val (.int v10), .val (.ref b93), .val (.ref b254), .val (.int v13)] [(.int (1 : Int32))])) _
        refine XS.goto X14.here hx rfl (pc0 := 394) (pc' := 398) rfl (hb hby at_394) (by decide) (by decide) ?_
        show Steps p.tables e below (T14.setTop (mkF m 398 #[.val (.int v0), .val (.int v1), .val (.long v2), .second, .val (.int v4), .val (.int v5), .val (.int v6), .val (.int v7), .val (.int v8), .val (.int v9), .val (.int v10), .val (.ref b93), .val (.ref b254), .val (.int v13)] [(.int (1 : Int32))])) _
        refine XS.istore X14.here hx rfl (hb hby at_398) rfl (l' := #[.val (.int v0), .val (.int v1), .val (.long v2), .second, .val (.int v4), .val (.int v5), .val (.int v6), .val (.int v7), .val (.int v8), .val (.int v9), .val (.int v10), .val (.ref b93), .val (.ref b254), .val (.int (1 : Int32))]) rfl ?_
        show Steps p.tables e below (T14.setTop (mkF m 400 #[.val (.int v0), .val (.int v1), .val (.long v2), .second, .val (.int v4), .val (.int v5), .val (.int v6), .val (.int v7), .val (.int v8), .val (.int v9), .val (.int v10), .val (.ref b93), .val (.ref b254), .val (.int (1 : Int32))] [])) _
        refine XS.iload X14.here hx rfl (hb hby at_400) rfl  ?_
        exact k
      subst hr
      exact own_retN X14 hx hlk (t := .boolean) hret (by simp) (hb hby at_402) (by decide) (by decide) ⟨rfl, N14⟩
    · rw [if_neg hc390] at hr
      refine EndsIn.by (B := T14.setTop (mkF m 397 #[.val (.int v0), .val (.int v1), .val (.long v2), .second, .val (.int v4), .val (.int v5), .val (.int v6), .val (.int v7), .val (.int v8), .val (.int v9), .val (.int v10), .val (.ref b93), .val (.ref b254), .val (.int v13)] [])) (fun t k => ?_) ?_
      · show Steps p.tables e below (T14.setTop (mkF m 390 #[.val (.int v0), .val (.int v1), .val (.long v2), .second, .val (.int v4), .val (.int v5), .val (.int v6), .val (.int v7), .val (.int v8), .val (.int v9), .val (.int v10), .val (.ref b93), .val (.ref b254), .val (.int v13)] [(.int v7), (.int (f4_0 b254_position b93_n b93_xs))])) _
        exact XS.icmpYes X14.here hx rfl (pc0 := 390) (pc' := 397) rfl (hb hby at_390) rfl (feq hc390).2 (by decide) (by decide) k
      refine EndsIn.by (B := T14.setTop (mkF m 402 #[.val (.int v0), .val (.int v1), .val (.long v2), .second, .val (.int v4), .val (.int v5), .val (.int v6), .val (.int v7), .val (.int v8), .val (.int v9), .val (.int v10), .val (.ref b93), .val (.ref b254), .val (.int (0 : Int32))] [(.int (0 : Int32))])) (fun t k => ?_) ?_
      · show Steps p.tables e below (T14.setTop (mkF m 397 #[.val (.int v0), .val (.int v1), .val (.long v2), .second, .val (.int v4), .val (.int v5), .val (.int v6), .val (.int v7), .val (.int v8), .val (.int v9), .val (.int v10), .val (.ref b93), .val (.ref b254), .val (.int v13)] [])) _
        refine XS.iconst X14.here hx rfl (hb hby at_397) ?_
        show Steps p.tables e below (T14.setTop (mkF m 398 #[.val (.int v0), .val (.int v1), .val (.long v2), .second, .val (.int v4), .val (.int v5), .val (.int v6), .val (.int v7), .val (.int v8), .val (.int v9), .val (.int v10), .val (.ref b93), .val (.ref b254), .val (.int v13)] [(.int (0 : Int32))])) _
        refine XS.istore X14.here hx rfl (hb hby at_398) rfl (l' := #[.val (.int v0), .val (.int v1), .val (.long v2), .second, .val (.int v4), .val (.int v5), .val (.int v6), .val (.int v7), .val (.int v8), .val (.int v9), .val (.int v10), .val (.ref b93), .val (.ref b254), .val (.int (0 : Int32))]) rfl ?_
        show Steps p.tables e below (T14.setTop (mkF m 400 #[.val (.int v0), .val (.int v1), .val (.long v2), .second, .val (.int v4), .val (.int v5), .val (.int v6), .val (.int v7), .val (.int v8), .val (.int v9), .val (.int v10), .val (.ref b93), .val (.ref b254), .val (.int (0 : Int32))] [])) _
        refine XS.iload X14.here hx rfl (hb hby at_400) rfl  ?_
        exact k
      subst hr
      exact own_retN X14 hx hlk (t := .boolean) hret (by simp) (hb hby at_402) (by decide) (by decide) ⟨rfl, N14⟩
def f0_376 (v0 : Int32) (v1 : Int32) (v2 : Int64) (v4 : Int32) (v5 : Int32) (v6 : Int32) (v7 : Int32) (v8 : Int32) (v9 : Int32) (v10 : Int32) (v13 : Int32) (t0 : Int32) (b254_position : Int32) (b93_n : Int32) (b93_xs : List Int32) : Int32 := (f0_378 v0 v1 v2 v4 v5 v6 v7 v8 v9 v10 t0 b254_position b93_n b93_xs)
set_option maxRecDepth 65536 in
set_option maxHeartbeats 40000000 in
theorem b0_376 {p : Program} {l : Launch} {e : Env} {s : State} {m : MethodId} {args : Array Value} {below : List Frame} {meth : Method} {c : Code} {Z : State} {a0 : Array Value} (B : Ctx p Z s a0 m meth c "com/example/pure_mrtd/puremrtd/format/TlvReaderHasNextPinLaw" "law" code 14 (some .boolean)) {T0 : State} {locs : List Loc} {h : Heap} (h0 : Heap) (n0 : Nat) (v0 : Int32) (v1 : Int32) (v2 : Int64) (v4 : Int32) (v5 : Int32) (v6 : Int32) (v7 : Int32) (v8 : Int32) (v9 : Int32) (v10 : Int32) (b93 : Addr) (b254 : Addr) (v13 : Int32) (t0 : Int32) (b254_position : Int32) (b93_k : ClassId) (b93_n : Int32) (b93_xs : List Int32) (X0 : Stand p l e room_1 s m args below meth c T0 locs 8 25) (e0 : T0.heap = h) (N0 : Fr n0 locs) (Z0 : n0 ≤ h.size) (E_b254 : Exa Z h b254 "com/example/pure_mrtd/puremrtd/format/TlvReader") (F_b254_data : Fld Z h b254 "com/example/pure_mrtd/puremrtd/format/TlvReader" "data" "[B" (.ref b93)) (F_b254_position : Fld Z h b254 "com/example/pure_mrtd/puremrtd/format/TlvReader" "position" "I" (.int b254_position)) (g_b254 : n0 ≤ b254) (V_b93 : Arv Z h b93 b93_k .byte b93_n (b93_xs.map Value.int) (.int 0)) (ln_b93 : b93_xs.length = b93_n.toNatClampNeg) (g_b93 : n0 ≤ b93) (ne_b93_b254 : b93 ≠ b254) (r : Int32) (hr : f0_376 v0 v1 v2 v4 v5 v6 v7 v8 v9 v10 v13 t0 b254_position b93_n b93_xs = r) :
    EndsIn p e below s 8 25 (Q0 n0 r) (T0.setTop (mkF m 376 #[.val (.int v0), .val (.int v1), .val (.long v2), .second, .val (.int v4), .val (.int v5), .val (.int v6), .val (.int v7), .val (.int v8), .val (.int v9), .val (.int v10), .val (.ref b93), .val (.ref b254), .val (.int v13)] [(.int t0)])) := by
  obtain ⟨hx, hZ, hw, hby, hml, hret, hown, hnm, hlk⟩ := B
  unfold f0_376 at hr
  refine EndsIn.by (B := T0.setTop (mkF m 378 #[.val (.int v0), .val (.int v1), .val (.long v2), .second, .val (.int v4), .val (.int v5), .val (.int v6), .val (.int v7), .val (.int v8), .val (.int v9), .val (.int v10), .val (.ref b93), .val (.ref b254), .val (.int t0)] [])) (fun t k => ?_) ?_
  · show Steps p.tables e below (T0.setTop (mkF m 376 #[.val (.int v0), .val (.int v1), .val (.long v2), .second, .val (.int v4), .val (.int v5), .val (.int v6), .val (.int v7), .val (.int v8), .val (.int v9), .val (.int v10), .val (.ref b93), .val (.ref b254), .val (.int v13)] [(.int t0)])) _
    refine XS.istore X0.here hx rfl (hb hby at_376) rfl (l' := #[.val (.int v0), .val (.int v1), .val (.long v2), .second, .val (.int v4), .val (.int v5), .val (.int v6), .val (.int v7), .val (.int v8), .val (.int v9), .val (.int v10), .val (.ref b93), .val (.ref b254), .val (.int t0)]) rfl ?_
    exact k
  exact b0_378 ⟨hx, hZ, hw, hby, hml, hret, hown, hnm, hlk⟩ h0 n0 v0 v1 v2 v4 v5 v6 v7 v8 v9 v10 b93 b254 t0 b254_position b93_k b93_n b93_xs (X0.more (by decide) (by decide)) e0 N0 Z0 E_b254 F_b254_data F_b254_position g_b254 V_b93 ln_b93 g_b93 ne_b93_b254 _ hr
def f0_375 (v0 : Int32) (v1 : Int32) (v2 : Int64) (v4 : Int32) (v5 : Int32) (v6 : Int32) (v7 : Int32) (v8 : Int32) (v9 : Int32) (v10 : Int32) (v13 : Int32) (b254_position : Int32) (b93_n : Int32) (b93_xs : List Int32) : Int32 := (f0_376 v0 v1 v2 v4 v5 v6 v7 v8 v9 v10 v13 (0 : Int32) b254_position b93_n b93_xs)
set_option maxRecDepth 65536 in
set_option maxHeartbeats 40000000 in
theorem b0_375 {p : Program} {l : Launch} {e : Env} {s : State} {m : MethodId} {args : Array Value} {below : List Frame} {meth : Method} {c : Code} {Z : State} {a0 : Array Value} (B : Ctx p Z s a0 m meth c "com/example/pure_mrtd/puremrtd/format/TlvReaderHasNextPinLaw" "law" code 14 (some .boolean)) {T0 : State} {locs : List Loc} {h : Heap} (h0 : Heap) (n0 : Nat) (v0 : Int32) (v1 : Int32) (v2 : Int64) (v4 : Int32) (v5 : Int32) (v6 : Int32) (v7 : Int32) (v8 : Int32) (v9 : Int32) (v10 : Int32) (b93 : Addr) (b254 : Addr) (v13 : Int32) (b254_position : Int32) (b93_k : ClassId) (b93_n : Int32) (b93_xs : List Int32) (X0 : Stand p l e room_1 s m args below meth c T0 locs 8 25) (e0 : T0.heap = h) (N0 : Fr n0 locs) (Z0 : n0 ≤ h.size) (E_b254 : Exa Z h b254 "com/example/pure_mrtd/puremrtd/format/TlvReader") (F_b254_data : Fld Z h b254 "com/example/pure_mrtd/puremrtd/format/TlvReader" "data" "[B" (.ref b93)) (F_b254_position : Fld Z h b254 "com/example/pure_mrtd/puremrtd/format/TlvReader" "position" "I" (.int b254_position)) (g_b254 : n0 ≤ b254) (V_b93 : Arv Z h b93 b93_k .byte b93_n (b93_xs.map Value.int) (.int 0)) (ln_b93 : b93_xs.length = b93_n.toNatClampNeg) (g_b93 : n0 ≤ b93) (ne_b93_b254 : b93 ≠ b254) (r : Int32) (hr : f0_375 v0 v1 v2 v4 v5 v6 v7 v8 v9 v10 v13 b254_position b93_n b93_xs = r) :
    EndsIn p e below s 8 25 (Q0 n0 r) (T0.setTop (mkF m 375 #[.val (.int v0), .val (.int v1), .val (.long v2), .second, .val (.int v4), .val (.int v5), .val (.int v6), .val (.int v7), .val (.int v8), .val (.int v9), .val (.int v10), .val (.ref b93), .val (.ref b254), .val (.int v13)] [])) := by
  obtain ⟨hx, hZ, hw, hby, hml, hret, hown, hnm, hlk⟩ := B
  unfold f0_375 at hr
  refine EndsIn.by (B := T0.setTop (mkF m 376 #[.val (.int v0), .val (.int v1), .val (.long v2), .second, .val (.int v4), .val (.int v5), .val (.int v6), .val (.int v7), .val (.int v8), .val (.int v9), .val (.int v10), .val (.ref b93), .val (.ref b254), .val (.int v13)] [(.int (0 : Int32))])) (fun t k => ?_) ?_
  · show Steps p.tables e below (T0.setTop (mkF m 375 #[.val (.int v0), .val (.int v1), .val (.long v2), .second, .val (.int v4), .val (.int v5), .val (.int v6), .val (.int v7), .val (.int v8), .val (.int v9), .val (.int v10), .val (.ref b93), .val (.ref b254), .val (.int v13)] [])) _
    refine XS.iconst X0.here hx rfl (hb hby at_375) ?_
    exact k
  exact b0_376 ⟨hx, hZ, hw, hby, hml, hret, hown, hnm, hlk⟩ h0 n0 v0 v1 v2 v4 v5 v6 v7 v8 v9 v10 b93 b254 v13 (0 : Int32) b254_position b93_k b93_n b93_xs X0 e0 N0 Z0 E_b254 F_b254_data F_b254_position g_b254 V_b93 ln_b93 g_b93 ne_b93_b254 _ hr
def f0_355 (v0 : Int32) (v1 : Int32) (v2 : Int64) (v4 : Int32) (v5 : Int32) (v6 : Int32) (v7 : Int32) (v8 : Int32) (v9 : Int32) (v10 : Int32) (v13 : Int32) (b254_position : Int32) (b93_n : Int32) (b93_xs : List Int32) : Int32 := (if v13 = (0 : Int32) then (f0_375 v0 v1 v2 v4 v5 v6 v7 v8 v9 v10 v13 b254_position b93_n b93_xs) else (if (f4_0 b254_position b93_n b93_xs) = v7 then (f0_376 v0 v1 v2 v4 v5 v6 v7 v8 v9 v10 v13 (1 : Int32) b254_position b93_n b93_xs) else (f0_375 v0 v1 v2 v4 v5 v6 v7 v8 v9 v10 v13 b254_position b93_n b93_xs)))
set_option maxRecDepth 65536 in
set_option maxHeartbeats 40000000 in
theorem b0_355 {p : Program} {l : Launch} {e : Env} {s : State} {m : MethodId} {args : Array Value} {below : List Frame} {meth : Method} {c : Code} {Z : State} {a0 : Array Value} (B : Ctx p Z s a0 m meth c "com/example/pure_mrtd/puremrtd/format/TlvReaderHasNextPinLaw" "law" code 14 (some .boolean)) {T0 : State} {locs : List Loc} {h : Heap} (h0 : Heap) (n0 : Nat) (v0 : Int32) (v1 : Int32) (v2 : Int64) (v4 : Int32) (v5 : Int32) (v6 : Int32) (v7 : Int32) (v8 : Int32) (v9 : Int32) (v10 : Int32) (b93 : Addr) (b254 : Addr) (v13 : Int32) (c352 : Addr) (b254_position : Int32) (b93_k : ClassId) (b93_n : Int32) (b93_xs : List Int32) (X0 : Stand p l e room_1 s m args below meth c T0 locs 8 25) (e0 : T0.heap = h) (N0 : Fr n0 locs) (Z0 : n0 ≤ h.size) (E_b254 : Exa Z h b254 "com/example/pure_mrtd/puremrtd/format/TlvReader") (F_b254_data : Fld Z h b254 "com/example/pure_mrtd/puremrtd/format/TlvReader" "data" "[B" (.ref b93)) (F_b254_position : Fld Z h b254 "com/example/pure_mrtd/puremrtd/format/TlvReader" "position" "I" (.int b254_position)) (g_b254 : n0 ≤ b254) (V_b93 : Arv Z h b93 b93_k .byte b93_n (b93_xs.map Value.int) (.int 0)) (ln_b93 : b93_xs.length = b93_n.toNatClampNeg) (g_b93 : n0 ≤ b93) (ne_b93_b254 : b93 ≠ b254) (r : Int32) (hr : f0_355 v0 v1 v2 v4 v5 v6 v7 v8 v9 v10 v13 b254_position b93_n b93_xs = r) :
    EndsIn p e below s 8 25 (Q0 n0 r) (T0.setTop (mkF m 355 #[.val (.int v0), .val (.int v1), .val (.long v2), .second, .val (.int v4), .val (.int v5), .val (.int v6), .val (.int v7), .val (.int v8), .val (.int v9), .val (.int v10), .val (.ref b93), .val (.ref b254), .val (.int v13)] [(.ref c352)])) := by
  obtain ⟨hx, hZ, hw, hby, hml, hret, hown, hnm, hlk⟩ := B
  unfold f0_355 at hr
  refine EndsIn.by (B := T0.setTop (mkF m 358 #[.val (.int v0), .val (.int v1), .val (.long v2), .second, .val (.int v4), .val (.int v5), .val (.int v6), .val (.int v7), .val (.int v8), .val (.int v9), .val (.int v10), .val (.ref b93), .val (.ref b254), .val (.int v13)] [(.int v13)])) (fun t k => ?_) ?_
  · show Steps p.tables e below (T0.setTop (mkF m 355 #[.val (.int v0), .val (.int v1), .val (.long v2), .second, .val (.int v4), .val (.int v5), .val (.int v6), .val (.int v7), .val (.int v8), .val (.int v9), .val (.int v10), .val (.ref b93), .val (.ref b254), .val (.int v13)] [(.ref c352)])) _
    refine XS.pop X0.here hx rfl (hb hby at_355) rfl rfl ?_
    show Steps p.tables e below (T0.setTop (mkF m 356 #[.val (.int v0), .val (.int v1), .val (.long v2), .second, .val (.int v4), .val (.int v5), .val (.int v6), .val (.int v7), .val (.int v8), .val (.int v9), .val (.int v10), .val (.ref b93), .val (.ref b254), .val (.int v13)] [])) _
    refine XS.iload X0.here hx rfl (hb hby at_356) rfl  ?_
    exact k
  by_cases hc358 : v13 = (0 : Int32)
  · rw [if_pos hc358] at hr
    refine EndsIn.by (B := T0.setTop (mkF m 375 #[.val (.int v0), .val (.int v1), .val (.long v2), .second, .val (.int v4), .val (.int v5), .val (.int v6), .val (.int v7), .val (.int v8), .val (.int v9), .val (.int v10), .val (.ref b93), .val (.ref b254), .val (.int v13)] [])) (fun t k => ?_) ?_
    · show Steps p.tables e below (T0.setTop (mkF m 358 #[.val (.int v0), .val (.int v1), .val (.long v2), .second, .val (.int v4), .val (.int v5), .val (.int v6), .val (.int v7), .val (.int v8), .val (.int v9), .val (.int v10), .val (.ref b93), .val (.ref b254), .val (.int v13)] [(.int v13)])) _
      exact XS.ifYes X0.here hx rfl (pc0 := 358) (pc' := 375) rfl (hb hby at_358) rfl ((if0 _ _).trans (teq hc358).1) (by decide) (by decide) k
    exact b0_375 ⟨hx, hZ, hw, hby, hml, hret, hown, hnm, hlk⟩ h0 n0 v0 v1 v2 v4 v5 v6 v7 v8 v9 v10 b93 b254 v13 b254_position b93_k b93_n b93_xs X0 e0 N0 Z0 E_b254 F_b254_data F_b254_position g_b254 V_b93 ln_b93 g_b93 ne_b93_b254 _ hr
  · rw [if_neg hc358] at hr
    refine EndsIn.by (B := T0.setTop (mkF m 361 #[.val (.int v0), .val (.int v1), .val (.long v2), .second, .val (.int v4), .val (.int v5), .val (.int v6), .val (.int v7), .val (.int v8), .val (.int v9), .val (.int v10), .val (.ref b93), .val (.ref b254), .val (.int v13)] [])) (fun t k => ?_) ?_
    · show Steps p.tables e below (T0.setTop (mkF m 358 #[.val (.int v0), .val (.int v1), .val (.long v2), .second, .val (.int v4), .val (.int v5), .val (.int v6), .val (.int v7), .val (.int v8), .val (.int v9), .val (.int v10), .val (.ref b93), .val (.ref b254), .val (.int v13)] [(.int v13)])) _
      exact XS.ifNo X0.here hx rfl (hb hby at_358) rfl ((if0 _ _).trans (feq hc358).1) k
    refine EndsIn.by (B := T0.setTop (mkF m 363 #[.val (.int v0), .val (.int v1), .val (.long v2), .second, .val (.int v4), .val (.int v5), .val (.int v6), .val (.int v7), .val (.int v8), .val (.int v9), .val (.int v10), .val (.ref b93), .val (.ref b254), .val (.int v13)] [(.ref b254)])) (fun t k => ?_) ?_
    · show Steps p.tables e below (T0.setTop (mkF m 361 #[.val (.int v0), .val (.int v1), .val (.long v2), .second, .val (.int v4), .val (.int v5), .val (.int v6), .val (.int v7), .val (.int v8), .val (.int v9), .val (.int v10), .val (.ref b93), .val (.ref b254), .val (.int v13)] [])) _
      refine XS.aload X0.here hx rfl (hb hby at_361) rfl rfl ?_
      exact k
    -- pc 363: com/example/pure_mrtd/puremrtd/format/TlvReader.hasNext
    obtain ⟨cq16, kq16, q16a, q16b, q16c⟩ := isOf hZ e0 E_b254
    obtain ⟨_, _, ⟨T16, L16, k16, n16⟩, -, X16, ⟨Lc16, hQ16, l16, y16, z16⟩, st16⟩ := X0.virtualBack hx (y := (⟨"com/example/pure_mrtd/puremrtd/format/TlvReader", "hasNext", "()Z"⟩ : MethodName)) (z := (⟨"com/example/pure_mrtd/puremrtd/format/TlvReader", "hasNext", "()Z"⟩ : MethodName)) hown (mvT hZ (hw _ (List.mem_of_getElem? (i := 16) rfl))) (mvT hZ (hw _ (List.mem_of_getElem? (i := 17) rfl))) (notFace_of_selects (args := #[]) (mvT hZ (hw _ (List.mem_of_getElem? (i := 19) rfl)))) (mvT hZ (hw _ (List.mem_of_getElem? (i := 19) rfl))) (mvT hZ (hw _ (List.mem_of_getElem? (i := 18) rfl))) (by decide) (backOf (W := 0) (rm4 l Z a0 hw [] b254 b93 b254_position b93_k b93_n b93_xs h n0 Z0 E_b254 F_b254_data F_b254_position V_b93 ln_b93) hZ (hw _ (List.mem_of_getElem? (i := 20) rfl)) (hw _ (List.mem_of_getElem? (i := 7) rfl)) (by decide) (by decide)) q16a q16c (g := (mkF m 363 #[.val (.int v0), .val (.int v1), .val (.long v2), .second, .val (.int v4), .val (.int v5), .val (.int v6), .val (.int v7), .val (.int v8), .val (.int v9), .val (.int v10), .val (.ref b93), .val (.ref b254), .val (.int v13)] [(.ref b254)])) rfl (by rw [hml]; rfl) (Steps.refl _) (argsL := []) (rest := []) (lenOf pd_2 rfl) rfl (by show 2 * 0 + _ ≤ _; exact Nat.le_of_eq rfl) (hb hby at_363) (fun _ _ => ⟨rfl, e0, (by decide : 8 + R4.cells ≤ _), (by decide : 25 + R4.slots ≤ _)⟩)
    dsimp only [Pt.U, Pt.locs, Pt.cells, Pt.slots] at X16 l16 y16 z16 st16 hQ16
    subst l16 y16 z16
    obtain ⟨rfl, Nq16, e16⟩ := hQ16
    have N16 := Fr.app N0 Nq16
    refine EndsIn.by (B := T16.setTop (mkF m 366 #[.val (.int v0), .val (.int v1), .val (.long v2), .second, .val (.int v4), .val (.int v5), .val (.int v6), .val (.int v7), .val (.int v8), .val (.int v9), .val (.int v10), .val (.ref b93), .val (.ref b254), .val (.int v13)] [(.int (f4_0 b254_position b93_n b93_xs))])) (fun t k => st16.trans k) ?_
    refine EndsIn.by (B := T16.setTop (mkF m 368 #[.val (.int v0), .val (.int v1), .val (.long v2), .second, .val (.int v4), .val (.int v5), .val (.int v6), .val (.int v7), .val (.int v8), .val (.int v9), .val (.int v10), .val (.ref b93), .val (.ref b254), .val (.int v13)] [(.int v7), (.int (f4_0 b254_position b93_n b93_xs))])) (fun t k => ?_) ?_
    · show Steps p.tables e below (T16.setTop (mkF m 366 #[.val (.int v0), .val (.int v1), .val (.long v2), .second, .val (.int v4), .val (.int v5), .val (.int v6), .val (.int v7), .val (.int v8), .val (.int v9), .val (.int v10), .val (.ref b93), .val (.ref b254), .val (.int v13)] [(.int (f4_0 b254_position b93_n b93_xs))])) _
      refine XS.iload X16.here hx rfl (hb hby at_366) rfl  ?_
      exact k
    by_cases hc368 : (f4_0 b254_position b93_n b93_xs) = v7
    · rw [if_pos hc368] at hr
      refine EndsIn.by (B := T16.setTop (mkF m 371 #[.val (.int v0), .val (.int v1), .val (.long v2), .second, .val (.int v4), .val (.int v5), .val (.int v6), .val (.int v7), .val (.int v8), .val (.int v9), .val (.int v10), .val (.ref b93), .val (.ref b254), .val (.int v13)] [])) (fun t k => ?_) ?_
      · show Steps p.tables e below (T16.setTop (mkF m 368 #[.val (.int v0), .val (.int v1), .val (.long v2), .second, .val (.int v4), .val (.int v5), .val (.int v6), .val (.int v7), .val (.int v8), .val (.int v9), .val (.int v10), .val (.ref b93), .val (.ref b254), .val (.int v13)] [(.int v7), (.int (f4_0 b254_position b93_n b93_xs))])) _
        exact XS.icmpNo X16.here hx rfl (hb hby at_368) rfl (teq hc368).2 k
      refine EndsIn.by (B := T16.setTop (mkF m 376 #[.val (.int v0), .val (.int v1), .val (.long v2), .second, .val (.int v4), .val (.int v5), .val (.int v6), .val (.int v7), .val (.int v8), .val (.int v9), .val (.int v10), .val (.ref b93), .val (.ref b254), .val (.int v13)] [(.int (1 : Int32))])) (fun t k => ?_) ?_
      · show Steps p.tables e below (T16.setTop (mkF m 371 #[.val (.int v0), .val (.int v1), .val (.long v2), .second, .val (.int v4), .val (.int v5), .val (.int v6), .val (.int v7), .val (.int v8), .val (.int v9), .val (.int v10), .val (.ref b93), .val (.ref b254), .val (.int v13)] [])) _
        refine XS.iconst X16.here hx rfl (hb hby at_371) ?_
        show Steps p.tables e below (T16.setTop (mkF m 372 #[.val (.int v0), .val (.int v1), .val (.long v2), .second, .val (.int v4), .val (.int v5), .val (.int v6), .val (.int v7), .val (.int v8), .val (.int v9), .val (.int v10), .val (.ref b93), .val (.ref b254), .val (.int v13)] [(.int (1 : Int32))])) _
        refine XS.goto X16.here hx rfl (pc0 := 372) (pc' := 376) rfl (hb hby at_372) (by decide) (by decide) ?_
        exact k
      exact b0_376 ⟨hx, hZ, hw, hby, hml, hret, hown, hnm, hlk⟩ h0 n0 v0 v1 v2 v4 v5 v6 v7 v8 v9 v10 b93 b254 v13 (1 : Int32) b254_position b93_k b93_n b93_xs X16 e16 N16 Z0 E_b254 F_b254_data F_b254_position g_b254 V_b93 ln_b93 g_b93 ne_b93_b254 _ hr
    · rw [if_neg hc368] at hr
      refine EndsIn.by (B := T16.setTop (mkF m 375 #[.val (.int v0), .val (.int v1), .val (.long v2), .second, .val (.int v4), .val (.int v5), .val (.int v6), .val (.int v7), .val (.int v8), .val (.int v9), .val (.int v10), .val (.ref b93), .val (.ref b254), .val (.int v13)] [])) (fun t k => ?_) ?_
      · show Steps p.tables e below (T16.setTop (mkF m 368 #[.val (.int v0), .val (.int v1), .val (.long v2), .second, .val (.int v4), .val (.int v5), .val (.int v6), .val (.int v7), .val (.int v8), .val (.int v9), .val (.int v10), .val (.ref b93), .val (.ref b254), .val (.int v13)] [(.int v7), (.int (f4_0 b254_position b93_n b93_xs))])) _
        exact XS.icmpYes X16.here hx rfl (pc0 := 368) (pc' := 375) rfl (hb hby at_368) rfl (feq hc368).2 (by decide) (by decide) k
      exact b0_375 ⟨hx, hZ, hw, hby, hml, hret, hown, hnm, hlk⟩ h0 n0 v0 v1 v2 v4 v5 v6 v7 v8 v9 v10 b93 b254 v13 b254_position b93_k b93_n b93_xs X16 e16 N16 Z0 E_b254 F_b254_data F_b254_position g_b254 V_b93 ln_b93 g_b93 ne_b93_b254 _ hr
def f0_344 (v0 : Int32) (v1 : Int32) (v2 : Int64) (v4 : Int32) (v5 : Int32) (v6 : Int32) (v7 : Int32) (v8 : Int32) (v9 : Int32) (v10 : Int32) (v13 : Int32) (b254_position : Int32) (b93_n : Int32) (b93_xs : List Int32) : Int32 := (if v4 < (2 : Int32) then (f0_378 v0 v1 v2 v4 v5 v6 v7 v8 v9 v10 v13 b254_position b93_n b93_xs) else (f0_355 v0 v1 v2 v4 v5 v6 v7 v8 v9 v10 v13 (f6_0 b254_position b93_n b93_xs) b93_n b93_xs))
set_option maxRecDepth 65536 in
set_option maxHeartbeats 40000000 in
theorem b0_344 {p : Program} {l : Launch} {e : Env} {s : State} {m : MethodId} {args : Array Value} {below : List Frame} {meth : Method} {c : Code} {Z : State} {a0 : Array Value} (B : Ctx p Z s a0 m meth c "com/example/pure_mrtd/puremrtd/format/TlvReaderHasNextPinLaw" "law" code 14 (some .boolean)) {T0 : State} {locs : List Loc} {h : Heap} (h0 : Heap) (n0 : Nat) (v0 : Int32) (v1 : Int32) (v2 : Int64) (v4 : Int32) (v5 : Int32) (v6 : Int32) (v7 : Int32) (v8 : Int32) (v9 : Int32) (v10 : Int32) (b93 : Addr) (b254 : Addr) (v13 : Int32) (b254_position : Int32) (b93_k : ClassId) (b93_n : Int32) (b93_xs : List Int32) (X0 : Stand p l e room_1 s m args below meth c T0 locs 5 18) (e0 : T0.heap = h) (N0 : Fr n0 locs) (Z0 : n0 ≤ h.size) (E_b254 : Exa Z h b254 "com/example/pure_mrtd/puremrtd/format/TlvReader") (F_b254_data : Fld Z h b254 "com/example/pure_mrtd/puremrtd/format/TlvReader" "data" "[B" (.ref b93)) (F_b254_position : Fld Z h b254 "com/example/pure_mrtd/puremrtd/format/TlvReader" "position" "I" (.int b254_position)) (g_b254 : n0 ≤ b254) (V_b93 : Arv Z h b93 b93_k .byte b93_n (b93_xs.map Value.int) (.int 0)) (ln_b93 : b93_xs.length = b93_n.toNatClampNeg) (g_b93 : n0 ≤ b93) (ne_b93_b254 : b93 ≠ b254) (hG : own_G v4 v5 v6 v7 v8 v9 b93_n) (hD : own_D v4 v5 v6 v8 b93_xs) (hP : b254_position = v8) (r : Int32) (hr : f0_344 v0 v1 v2 v4 v5 v6 v7 v8 v9 v10 v13 b254_position b93_n b93_xs = r) :
    EndsIn p e below s 8 25 (Q0 n0 r) (T0.setTop (mkF m 344 #[.val (.int v0), .val (.int v1), .val (.long v2), .second, .val (.int v4), .val (.int v5), .val (.int v6), .val (.int v7), .val (.int v8), .val (.int v9), .val (.int v10), .val (.ref b93), .val (.ref b254), .val (.int v13)] [])) := by
  obtain ⟨hx, hZ, hw, hby, hml, hret, hown, hnm, hlk⟩ := B
  unfold f0_344 at hr
  refine EndsIn.by (B := T0.setTop (mkF m 347 #[.val (.int v0), .val (.int v1), .val (.long v2), .second, .val (.int v4), .val (.int v5), .val (.int v6), .val (.int v7), .val (.int v8), .val (.int v9), .val (.int v10), .val (.ref b93), .val (.ref b254), .val (.int v13)] [(.int (2 : Int32)), (.int v4)])) (fun t k => ?_) ?_
  · show Steps p.tables e below (T0.setTop (mkF m 344 #[.val (.int v0), .val (.int v1), .val (.long v2), .second, .val (.int v4), .val (.int v5), .val (.int v6), .val (.int v7), .val (.int v8), .val (.int v9), .val (.int v10), .val (.ref b93), .val (.ref b254), .val (.int v13)] [])) _
    refine XS.iload X0.here hx rfl (hb hby at_344) rfl  ?_
    show Steps p.tables e below (T0.setTop (mkF m 346 #[.val (.int v0), .val (.int v1), .val (.long v2), .second, .val (.int v4), .val (.int v5), .val (.int v6), .val (.int v7), .val (.int v8), .val (.int v9), .val (.int v10), .val (.ref b93), .val (.ref b254), .val (.int v13)] [(.int v4)])) _
    refine XS.iconst X0.here hx rfl (hb hby at_346) ?_
    exact k
  by_cases hc347 : v4 < (2 : Int32)
  · rw [if_pos hc347] at hr
    refine EndsIn.by (B := T0.setTop (mkF m 378 #[.val (.int v0), .val (.int v1), .val (.long v2), .second, .val (.int v4), .val (.int v5), .val (.int v6), .val (.int v7), .val (.int v8), .val (.int v9), .val (.int v10), .val (.ref b93), .val (.ref b254), .val (.int v13)] [])) (fun t k => ?_) ?_
    · show Steps p.tables e below (T0.setTop (mkF m 347 #[.val (.int v0), .val (.int v1), .val (.long v2), .second, .val (.int v4), .val (.int v5), .val (.int v6), .val (.int v7), .val (.int v8), .val (.int v9), .val (.int v10), .val (.ref b93), .val (.ref b254), .val (.int v13)] [(.int (2 : Int32)), (.int v4)])) _
      exact XS.icmpYes X0.here hx rfl (pc0 := 347) (pc' := 378) rfl (hb hby at_347) rfl (tlt hc347).1 (by decide) (by decide) k
    exact b0_378 ⟨hx, hZ, hw, hby, hml, hret, hown, hnm, hlk⟩ h0 n0 v0 v1 v2 v4 v5 v6 v7 v8 v9 v10 b93 b254 v13 b254_position b93_k b93_n b93_xs (X0.more (by decide) (by decide)) e0 N0 Z0 E_b254 F_b254_data F_b254_position g_b254 V_b93 ln_b93 g_b93 ne_b93_b254 _ hr
  · rw [if_neg hc347] at hr
    refine EndsIn.by (B := T0.setTop (mkF m 350 #[.val (.int v0), .val (.int v1), .val (.long v2), .second, .val (.int v4), .val (.int v5), .val (.int v6), .val (.int v7), .val (.int v8), .val (.int v9), .val (.int v10), .val (.ref b93), .val (.ref b254), .val (.int v13)] [])) (fun t k => ?_) ?_
    · show Steps p.tables e below (T0.setTop (mkF m 347 #[.val (.int v0), .val (.int v1), .val (.long v2), .second, .val (.int v4), .val (.int v5), .val (.int v6), .val (.int v7), .val (.int v8), .val (.int v9), .val (.int v10), .val (.ref b93), .val (.ref b254), .val (.int v13)] [(.int (2 : Int32)), (.int v4)])) _
      exact XS.icmpNo X0.here hx rfl (hb hby at_347) rfl (flt hc347).1 k
    refine EndsIn.by (B := T0.setTop (mkF m 352 #[.val (.int v0), .val (.int v1), .val (.long v2), .second, .val (.int v4), .val (.int v5), .val (.int v6), .val (.int v7), .val (.int v8), .val (.int v9), .val (.int v10), .val (.ref b93), .val (.ref b254), .val (.int v13)] [(.ref b254)])) (fun t k => ?_) ?_
    · show Steps p.tables e below (T0.setTop (mkF m 350 #[.val (.int v0), .val (.int v1), .val (.long v2), .second, .val (.int v4), .val (.int v5), .val (.int v6), .val (.int v7), .val (.int v8), .val (.int v9), .val (.int v10), .val (.ref b93), .val (.ref b254), .val (.int v13)] [])) _
      refine XS.aload X0.here hx rfl (hb hby at_350) rfl rfl ?_
      exact k
    have hp15_hk : own_ok b254_position b93_n b93_xs := own_k2 hG hD hP hc347
    -- pc 352: com/example/pure_mrtd/puremrtd/format/TlvReader.next
    obtain ⟨cq15, kq15, q15a, q15b, q15c⟩ := isOf hZ e0 E_b254
    obtain ⟨_, _, ⟨T15, L15, k15, n15⟩, -, X15, ⟨Lc15, hQ15, l15, y15, z15⟩, st15⟩ := X0.virtualBack hx (y := (⟨"com/example/pure_mrtd/puremrtd/format/TlvReader", "next", "()Lcom/example/pure_mrtd/puremrtd/format/Tlv;"⟩ : MethodName)) (z := (⟨"com/example/pure_mrtd/puremrtd/format/TlvReader", "next", "()Lcom/example/pure_mrtd/puremrtd/format/Tlv;"⟩ : MethodName)) hown (mvT hZ (hw _ (List.mem_of_getElem? (i := 26) rfl))) (mvT hZ (hw _ (List.mem_of_getElem? (i := 27) rfl))) (notFace_of_selects (args := #[]) (mvT hZ (hw _ (List.mem_of_getElem? (i := 29) rfl)))) (mvT hZ (hw _ (List.mem_of_getElem? (i := 29) rfl))) (mvT hZ (hw _ (List.mem_of_getElem? (i := 28) rfl))) (by decide) (backOf (W := 0) (rm6 l Z a0 hw [] b254 b93 b254_position b93_k b93_n b93_xs h n0 Z0 E_b254 F_b254_data F_b254_position g_b254 V_b93 ln_b93 (Ne.symm ne_b93_b254) hp15_hk) hZ (hw _ (List.mem_of_getElem? (i := 30) rfl)) (hw _ (List.mem_of_getElem? (i := 7) rfl)) (by decide) (by decide)) q15a q15c (g := (mkF m 352 #[.val (.int v0), .val (.int v1), .val (.long v2), .second, .val (.int v4), .val (.int v5), .val (.int v6), .val (.int v7), .val (.int v8), .val (.int v9), .val (.int v10), .val (.ref b93), .val (.ref b254), .val (.int v13)] [(.ref b254)])) rfl (by rw [hml]; rfl) (Steps.refl _) (argsL := []) (rest := []) (lenOf pd_10 rfl) rfl (by show 2 * 0 + _ ≤ _; exact Nat.le_of_eq rfl) (hb hby at_352) (fun _ _ => ⟨rfl, e0, (by decide : 5 + R6.cells ≤ _), (by decide : 18 + R6.slots ≤ _)⟩)
    dsimp only [Pt.U, Pt.locs, Pt.cells, Pt.slots] at X15 l15 y15 z15 st15 hQ15
    subst l15 y15 z15
    obtain ⟨c352, rfl, Nq15, g_c352, szq15, Kq15, E_b254_15, F_b254_data_15, F_b254_position_15⟩ := hQ15
    obtain ⟨h15, e15⟩ : ∃ z, T15.heap = z := ⟨_, rfl⟩
    rw [e15] at Kq15 E_b254_15 F_b254_data_15 F_b254_position_15
    have N15 := Fr.app N0 Nq15
    have Z15 : n0 ≤ h15.size := Nat.le_trans Z0 Kq15.1
    have ne_b254_c352 : b254 ≠ c352 := Nat.ne_of_lt (Nat.lt_of_lt_of_le E_b254.lt szq15)
    have ne_b93_c352 : b93 ≠ c352 := Nat.ne_of_lt (Nat.lt_of_lt_of_le V_b93.lt szq15)
    have V_b93_15 := V_b93.keep Kq15 (ninS ne_b93_b254 nin0)
    refine EndsIn.by (B := T15.setTop (mkF m 355 #[.val (.int v0), .val (.int v1), .val (.long v2), .second, .val (.int v4), .val (.int v5), .val (.int v6), .val (.int v7), .val (.int v8), .val (.int v9), .val (.int v10), .val (.ref b93), .val (.ref b254), .val (.int v13)] [(.ref c352)])) (fun t k => st15.trans k) ?_
    exact b0_355 ⟨hx, hZ, hw, hby, hml, hret, hown, hnm, hlk⟩ h0 n0 v0 v1 v2 v4 v5 v6 v7 v8 v9 v10 b93 b254 v13 c352 (f6_0 b254_position b93_n b93_xs) b93_k b93_n b93_xs (X15.more (by decide) (by decide)) e15 N15 Z15 E_b254_15 F_b254_data_15 F_b254_position_15 g_b254 V_b93_15 ln_b93 g_b93 ne_b93_b254 _ hr
def f0_342 (v0 : Int32) (v1 : Int32) (v2 : Int64) (v4 : Int32) (v5 : Int32) (v6 : Int32) (v7 : Int32) (v8 : Int32) (v9 : Int32) (v10 : Int32) (v13 : Int32) (t0 : Int32) (b254_position : Int32) (b93_n : Int32) (b93_xs : List Int32) : Int32 := (f0_344 v0 v1 v2 v4 v5 v6 v7 v8 v9 v10 t0 b254_position b93_n b93_xs)
set_option maxRecDepth 65536 in
set_option maxHeartbeats 40000000 in
theorem b0_342 {p : Program} {l : Launch} {e : Env} {s : State} {m : MethodId} {args : Array Value} {below : List Frame} {meth : Method} {c : Code} {Z : State} {a0 : Array Value} (B : Ctx p Z s a0 m meth c "com/example/pure_mrtd/puremrtd/format/TlvReaderHasNextPinLaw" "law" code 14 (some .boolean)) {T0 : State} {locs : List Loc} {h : Heap} (h0 : Heap) (n0 : Nat) (v0 : Int32) (v1 : Int32) (v2 : Int64) (v4 : Int32) (v5 : Int32) (v6 : Int32) (v7 : Int32) (v8 : Int32) (v9 : Int32) (v10 : Int32) (b93 : Addr) (b254 : Addr) (v13 : Int32) (t0 : Int32) (b254_position : Int32) (b93_k : ClassId) (b93_n : Int32) (b93_xs : List Int32) (X0 : Stand p l e room_1 s m args below meth c T0 locs 5 18) (e0 : T0.heap = h) (N0 : Fr n0 locs) (Z0 : n0 ≤ h.size) (E_b254 : Exa Z h b254 "com/example/pure_mrtd/puremrtd/format/TlvReader") (F_b254_data : Fld Z h b254 "com/example/pure_mrtd/puremrtd/format/TlvReader" "data" "[B" (.ref b93)) (F_b254_position : Fld Z h b254 "com/example/pure_mrtd/puremrtd/format/TlvReader" "position" "I" (.int b254_position)) (g_b254 : n0 ≤ b254) (V_b93 : Arv Z h b93 b93_k .byte b93_n (b93_xs.map Value.int) (.int 0)) (ln_b93 : b93_xs.length = b93_n.toNatClampNeg) (g_b93 : n0 ≤ b93) (ne_b93_b254 : b93 ≠ b254) (hG : own_G v4 v5 v6 v7 v8 v9 b93_n) (hD : own_D v4 v5 v6 v8 b93_xs) (hP : b254_position = v8) (r : Int32) (hr : f0_342 v0 v1 v2 v4 v5 v6 v7 v8 v9 v10 v13 t0 b254_position b93_n b93_xs = r) :
    EndsIn p e below s 8 25 (Q0 n0 r) (T0.setTop (mkF m 342 #[.val (.int v0), .val (.int v1), .val (.long v2), .second, .val (.int v4), .val (.int v5), .val (.int v6), .val (.int v7), .val (.int v8), .val (.int v9), .val (.int v10), .val (.ref b93), .val (.ref b254), .val (.int v13)] [(.int t0)])) := by
  obtain ⟨hx, hZ, hw, hby, hml, hret, hown, hnm, hlk⟩ := B
  unfold f0_342 at hr
  refine EndsIn.by (B := T0.setTop (mkF m 344 #[.val (.int v0), .val (.int v1), .val (.long v2), .second, .val (.int v4), .val (.int v5), .val (.int v6), .val (.int v7), .val (.int v8), .val (.int v9), .val (.int v10), .val (.ref b93), .val (.ref b254), .val (.int t0)] [])) (fun t k => ?_) ?_
  · show Steps p.tables e below (T0.setTop (mkF m 342 #[.val (.int v0), .val (.int v1), .val (.long v2), .second, .val (.int v4), .val (.int v5), .val (.int v6), .val (.int v7), .val (.int v8), .val (.int v9), .val (.int v10), .val (.ref b93), .val (.ref b254), .val (.int v13)] [(.int t0)])) _
    refine XS.istore X0.here hx rfl (hb hby at_342) rfl (l' := #[.val (.int v0), .val (.int v1), .val (.long v2), .second, .val (.int v4), .val (.int v5), .val (.int v6), .val (.int v7), .val (.int v8), .val (.int v9), .val (.int v10), .val (.ref b93), .val (.ref b254), .val (.int t0)]) rfl ?_
    exact k
  have hG_j : own_G v4 v5 v6 v7 v8 v9 b93_n := hG
  have hD_j : own_D v4 v5 v6 v8 b93_xs := hD
  have hP_j : b254_position = v8 := (by first | exact own_p0 hG hP hc299 | exact hP)
  exact b0_344 ⟨hx, hZ, hw, hby, hml, hret, hown, hnm, hlk⟩ h0 n0 v0 v1 v2 v4 v5 v6 v7 v8 v9 v10 b93 b254 t0 b254_position b93_k b93_n b93_xs (X0.more (by decide) (by decide)) e0 N0 Z0 E_b254 F_b254_data F_b254_position g_b254 V_b93 ln_b93 g_b93 ne_b93_b254 hG_j hD_j hP_j _ hr
def f0_341 (v0 : Int32) (v1 : Int32) (v2 : Int64) (v4 : Int32) (v5 : Int32) (v6 : Int32) (v7 : Int32) (v8 : Int32) (v9 : Int32) (v10 : Int32) (v13 : Int32) (b254_position : Int32) (b93_n : Int32) (b93_xs : List Int32) : Int32 := (f0_342 v0 v1 v2 v4 v5 v6 v7 v8 v9 v10 v13 (0 : Int32) b254_position b93_n b93_xs)
set_option maxRecDepth 65536 in
set_option maxHeartbeats 40000000 in
theorem b0_341 {p : Program} {l : Launch} {e : Env} {s : State} {m : MethodId} {args : Array Value} {below : List Frame} {meth : Method} {c : Code} {Z : State} {a0 : Array Value} (B : Ctx p Z s a0 m meth c "com/example/pure_mrtd/puremrtd/format/TlvReaderHasNextPinLaw" "law" code 14 (some .boolean)) {T0 : State} {locs : List Loc} {h : Heap} (h0 : Heap) (n0 : Nat) (v0 : Int32) (v1 : Int32) (v2 : Int64) (v4 : Int32) (v5 : Int32) (v6 : Int32) (v7 : Int32) (v8 : Int32) (v9 : Int32) (v10 : Int32) (b93 : Addr) (b254 : Addr) (v13 : Int32) (b254_position : Int32) (b93_k : ClassId) (b93_n : Int32) (b93_xs : List Int32) (X0 : Stand p l e room_1 s m args below meth c T0 locs 5 18) (e0 : T0.heap = h) (N0 : Fr n0 locs) (Z0 : n0 ≤ h.size) (E_b254 : Exa Z h b254 "com/example/pure_mrtd/puremrtd/format/TlvReader") (F_b254_data : Fld Z h b254 "com/example/pure_mrtd/puremrtd/format/TlvReader" "data" "[B" (.ref b93)) (F_b254_position : Fld Z h b254 "com/example/pure_mrtd/puremrtd/format/TlvReader" "position" "I" (.int b254_position)) (g_b254 : n0 ≤ b254) (V_b93 : Arv Z h b93 b93_k .byte b93_n (b93_xs.map Value.int) (.int 0)) (ln_b93 : b93_xs.length = b93_n.toNatClampNeg) (g_b93 : n0 ≤ b93) (ne_b93_b254 : b93 ≠ b254) (hG : own_G v4 v5 v6 v7 v8 v9 b93_n) (hD : own_D v4 v5 v6 v8 b93_xs) (hP : b254_position = v8) (r : Int32) (hr : f0_341 v0 v1 v2 v4 v5 v6 v7 v8 v9 v10 v13 b254_position b93_n b93_xs = r) :
    EndsIn p e below s 8 25 (Q0 n0 r) (T0.setTop (mkF m 341 #[.val (.int v0), .val (.int v1), .val (.long v2), .second, .val (.int v4), .val (.int v5), .val (.int v6), .val (.int v7), .val (.int v8), .val (.int v9), .val (.int v10), .val (.ref b93), .val (.ref b254), .val (.int v13)] [])) := by
  obtain ⟨hx, hZ, hw, hby, hml, hret, hown, hnm, hlk⟩ := B
  unfold f0_341 at hr
  refine EndsIn.by (B := T0.setTop (mkF m 342 #[.val (.int v0), .val (.int v1), .val (.long v2), .second, .val (.int v4), .val (.int v5), .val (.int v6), .val (.int v7), .val (.int v8), .val (.int v9), .val (.int v10), .val (.ref b93), .val (.ref b254), .val (.int v13)] [(.int (0 : Int32))])) (fun t k => ?_) ?_
  · show Steps p.tables e below (T0.setTop (mkF m 341 #[.val (.int v0), .val (.int v1), .val (.long v2), .second, .val (.int v4), .val (.int v5), .val (.int v6), .val (.int v7), .val (.int v8), .val (.int v9), .val (.int v10), .val (.ref b93), .val (.ref b254), .val (.int v13)] [])) _
    refine XS.iconst X0.here hx rfl (hb hby at_341) ?_
    exact k
  have hG_j : own_G v4 v5 v6 v7 v8 v9 b93_n := hG
  have hD_j : own_D v4 v5 v6 v8 b93_xs := hD
  have hP_j : b254_position = v8 := hP
  exact b0_342 ⟨hx, hZ, hw, hby, hml, hret, hown, hnm, hlk⟩ h0 n0 v0 v1 v2 v4 v5 v6 v7 v8 v9 v10 b93 b254 v13 (0 : Int32) b254_position b93_k b93_n b93_xs X0 e0 N0 Z0 E_b254 F_b254_data F_b254_position g_b254 V_b93 ln_b93 g_b93 ne_b93_b254 hG_j hD_j hP_j _ hr
def f0_334 (v0 : Int32) (v1 : Int32) (v2 : Int64) (v4 : Int32) (v5 : Int32) (v6 : Int32) (v7 : Int32) (v8 : Int32) (v9 : Int32) (v10 : Int32) (v13 : Int32) (t0 : Int32) (t1 : Int32) (b254_position : Int32) (b93_n : Int32) (b93_xs : List Int32) : Int32 := (if t1 = t0 then (f0_342 v0 v1 v2 v4 v5 v6 v7 v8 v9 v10 v13 (1 : Int32) b254_position b93_n b93_xs) else (f0_341 v0 v1 v2 v4 v5 v6 v7 v8 v9 v10 v13 b254_position b93_n b93_xs))
set_option maxRecDepth 65536 in
set_option maxHeartbeats 40000000 in
theorem b0_334 {p : Program} {l : Launch} {e : Env} {s : State} {m : MethodId} {args : Array Value} {below : List Frame} {meth : Method} {c : Code} {Z : State} {a0 : Array Value} (B : Ctx p Z s a0 m meth c "com/example/pure_mrtd/puremrtd/format/TlvReaderHasNextPinLaw" "law" code 14 (some .boolean)) {T0 : State} {locs : List Loc} {h : Heap} (h0 : Heap) (n0 : Nat) (v0 : Int32) (v1 : Int32) (v2 : Int64) (v4 : Int32) (v5 : Int32) (v6 : Int32) (v7 : Int32) (v8 : Int32) (v9 : Int32) (v10 : Int32) (b93 : Addr) (b254 : Addr) (v13 : Int32) (t0 : Int32) (t1 : Int32) (b254_position : Int32) (b93_k : ClassId) (b93_n : Int32) (b93_xs : List Int32) (X0 : Stand p l e room_1 s m args below meth c T0 locs 5 18) (e0 : T0.heap = h) (N0 : Fr n0 locs) (Z0 : n0 ≤ h.size) (E_b254 : Exa Z h b254 "com/example/pure_mrtd/puremrtd/format/TlvReader") (F_b254_data : Fld Z h b254 "com/example/pure_mrtd/puremrtd/format/TlvReader" "data" "[B" (.ref b93)) (F_b254_position : Fld Z h b254 "com/example/pure_mrtd/puremrtd/format/TlvReader" "position" "I" (.int b254_position)) (g_b254 : n0 ≤ b254) (V_b93 : Arv Z h b93 b93_k .byte b93_n (b93_xs.map Value.int) (.int 0)) (ln_b93 : b93_xs.length = b93_n.toNatClampNeg) (g_b93 : n0 ≤ b93) (ne_b93_b254 : b93 ≠ b254) (hG : own_G v4 v5 v6 v7 v8 v9 b93_n) (hD : own_D v4 v5 v6 v8 b93_xs) (hP : b254_position = v8) (r : Int32) (hr : f0_334 v0 v1 v2 v4 v5 v6 v7 v8 v9 v10 v13 t0 t1 b254_position b93_n b93_xs = r) :
    EndsIn p e below s 8 25 (Q0 n0 r) (T0.setTop (mkF m 334 #[.val (.int v0), .val (.int v1), .val (.long v2), .second, .val (.int v4), .val (.int v5), .val (.int v6), .val (.int v7), .val (.int v8), .val (.int v9), .val (.int v10), .val (.ref b93), .val (.ref b254), .val (.int v13)] [(.int t0), (.int t1)])) := by
  obtain ⟨hx, hZ, hw, hby, hml, hret, hown, hnm, hlk⟩ := B
  unfold f0_334 at hr
  by_cases hc334 : t1 = t0
  · rw [if_pos hc334] at hr
    refine EndsIn.by (B := T0.setTop (mkF m 337 #[.val (.int v0), .val (.int v1), .val (.long v2), .second, .val (.int v4), .val (.int v5), .val (.int v6), .val (.int v7), .val (.int v8), .val (.int v9), .val (.int v10), .val (.ref b93), .val (.ref b254), .val (.int v13)] [])) (fun t k => ?_) ?_
    · show Steps p.tables e below (T0.setTop (mkF m 334 #[.val (.int v0), .val (.int v1), .val (.long v2), .second, .val (.int v4), .val (.int v5), .val (.int v6), .val (.int v7), .val (.int v8), .val (.int v9), .val (.int v10), .val (.ref b93), .val (.ref b254), .val (.int v13)] [(.int t0), (.int t1)])) _
      exact XS.icmpNo X0.here hx rfl (hb hby at_334) rfl (teq hc334).2 k
    refine EndsIn.by (B := T0.setTop (mkF m 342 #[.val (.int v0), .val (.int v1), .val (.long v2), .second, .val (.int v4), .val (.int v5), .val (.int v6), .val (.int v7), .val (.int v8), .val (.int v9), .val (.int v10), .val (.ref b93), .val (.ref b254), .val (.int v13)] [(.int (1 : Int32))])) (fun t k => ?_) ?_
    · show Steps p.tables e below (T0.setTop (mkF m 337 #[.val (.int v0), .val (.int v1), .val (.long v2), .second, .val (.int v4), .val (.int v5), .val (.int v6), .val (.int v7), .val (.int v8), .val (.int v9), .val (.int v10), .val (.ref b93), .val (.ref b254), .val (.int v13)] [])) _
      refine XS.iconst X0.here hx rfl (hb hby at_337) ?_
      show Steps p.tables e below (T0.setTop (mkF m 338 #[.val (.int v0), .val (.int v1), .val (.long v2), .second, .val (.int v4), .val (.int v5), .val (.int v6), .val (.int v7), .val (.int v8), .val (.int v9), .val (.int v10), .val (.ref b93), .val (.ref b254), .val (.int v13)] [(.int (1 : Int32))])) _
      refine XS.goto X0.here hx rfl (pc0 := 338) (pc' := 342) rfl (hb hby at_338) (by decide) (by decide) ?_
      exact k
    have hG_j : own_G v4 v5 v6 v7 v8 v9 b93_n := hG
    have hD_j : own_D v4 v5 v6 v8 b93_xs := hD
    have hP_j : b254_position = v8 := hP
    exact b0_342 ⟨hx, hZ, hw, hby, hml, hret, hown, hnm, hlk⟩ h0 n0 v0 v1 v2 v4 v5 v6 v7 v8 v9 v10 b93 b254 v13 (1 : Int32) b254_position b93_k b93_n b93_xs X0 e0 N0 Z0 E_b254 F_b254_data F_b254_position g_b254 V_b93 ln_b93 g_b93 ne_b93_b254 hG_j hD_j hP_j _ hr
  · rw [if_neg hc334] at hr
    refine EndsIn.by (B := T0.setTop (mkF m 341 #[.val (.int v0), .val (.int v1), .val (.long v2), .second, .val (.int v4), .val (.int v5), .val (.int v6), .val (.int v7), .val (.int v8), .val (.int v9), .val (.int v10), .val (.ref b93), .val (.ref b254), .val (.int v13)] [])) (fun t k => ?_) ?_
    · show Steps p.tables e below (T0.setTop (mkF m 334 #[.val (.int v0), .val (.int v1), .val (.long v2), .second, .val (.int v4), .val (.int v5), .val (.int v6), .val (.int v7), .val (.int v8), .val (.int v9), .val (.int v10), .val (.ref b93), .val (.ref b254), .val (.int v13)] [(.int t0), (.int t1)])) _
      exact XS.icmpYes X0.here hx rfl (pc0 := 334) (pc' := 341) rfl (hb hby at_334) rfl (feq hc334).2 (by decide) (by decide) k
    have hG_j : own_G v4 v5 v6 v7 v8 v9 b93_n := hG
    have hD_j : own_D v4 v5 v6 v8 b93_xs := hD
    have hP_j : b254_position = v8 := hP
    exact b0_341 ⟨hx, hZ, hw, hby, hml, hret, hown, hnm, hlk⟩ h0 n0 v0 v1 v2 v4 v5 v6 v7 v8 v9 v10 b93 b254 v13 b254_position b93_k b93_n b93_xs X0 e0 N0 Z0 E_b254 F_b254_data F_b254_position g_b254 V_b93 ln_b93 g_b93 ne_b93_b254 hG_j hD_j hP_j _ hr
def f0_329 (v0 : Int32) (v1 : Int32) (v2 : Int64) (v4 : Int32) (v5 : Int32) (v6 : Int32) (v7 : Int32) (v8 : Int32) (v9 : Int32) (v10 : Int32) (v13 : Int32) (t0 : Int32) (b254_position : Int32) (b93_n : Int32) (b93_xs : List Int32) : Int32 := (f0_334 v0 v1 v2 v4 v5 v6 v7 v8 v9 v10 v13 (1 : Int32) t0 b254_position b93_n b93_xs)
set_option maxRecDepth 65536 in
set_option maxHeartbeats 40000000 in
theorem b0_329 {p : Program} {l : Launch} {e : Env} {s : State} {m : MethodId} {args : Array Value} {below : List Frame} {meth : Method} {c : Code} {Z : State} {a0 : Array Value} (B : Ctx p Z s a0 m meth c "com/example/pure_mrtd/puremrtd/format/TlvReaderHasNextPinLaw" "law" code 14 (some .boolean)) {T0 : State} {locs : List Loc} {h : Heap} (h0 : Heap) (n0 : Nat) (v0 : Int32) (v1 : Int32) (v2 : Int64) (v4 : Int32) (v5 : Int32) (v6 : Int32) (v7 : Int32) (v8 : Int32) (v9 : Int32) (v10 : Int32) (b93 : Addr) (b254 : Addr) (v13 : Int32) (t0 : Int32) (b254_position : Int32) (b93_k : ClassId) (b93_n : Int32) (b93_xs : List Int32) (X0 : Stand p l e room_1 s m args below meth c T0 locs 5 18) (e0 : T0.heap = h) (N0 : Fr n0 locs) (Z0 : n0 ≤ h.size) (E_b254 : Exa Z h b254 "com/example/pure_mrtd/puremrtd/format/TlvReader") (F_b254_data : Fld Z h b254 "com/example/pure_mrtd/puremrtd/format/TlvReader" "data" "[B" (.ref b93)) (F_b254_position : Fld Z h b254 "com/example/pure_mrtd/puremrtd/format/TlvReader" "position" "I" (.int b254_position)) (g_b254 : n0 ≤ b254) (V_b93 : Arv Z h b93 b93_k .byte b93_n (b93_xs.map Value.int) (.int 0)) (ln_b93 : b93_xs.length = b93_n.toNatClampNeg) (g_b93 : n0 ≤ b93) (ne_b93_b254 : b93 ≠ b254) (hG : own_G v4 v5 v6 v7 v8 v9 b93_n) (hD : own_D v4 v5 v6 v8 b93_xs) (hP : b254_position = v8) (r : Int32) (hr : f0_329 v0 v1 v2 v4 v5 v6 v7 v8 v9 v10 v13 t0 b254_position b93_n b93_xs = r) :
    EndsIn p e below s 8 25 (Q0 n0 r) (T0.setTop (mkF m 329 #[.val (.int v0), .val (.int v1), .val (.long v2), .second, .val (.int v4), .val (.int v5), .val (.int v6), .val (.int v7), .val (.int v8), .val (.int v9), .val (.int v10), .val (.ref b93), .val (.ref b254), .val (.int v13)] [(.int t0)])) := by
  obtain ⟨hx, hZ, hw, hby, hml, hret, hown, hnm, hlk⟩ := B
  unfold f0_329 at hr
  refine EndsIn.by (B := T0.setTop (mkF m 334 #[.val (.int v0), .val (.int v1), .val (.long v2), .second, .val (.int v4), .val (.int v5), .val (.int v6), .val (.int v7), .val (.int v8), .val (.int v9), .val (.int v10), .val (.ref b93), .val (.ref b254), .val (.int v13)] [(.int (1 : Int32)), (.int t0)])) (fun t k => ?_) ?_
  · show Steps p.tables e below (T0.setTop (mkF m 329 #[.val (.int v0), .val (.int v1), .val (.long v2), .second, .val (.int v4), .val (.int v5), .val (.int v6), .val (.int v7), .val (.int v8), .val (.int v9), .val (.int v10), .val (.ref b93), .val (.ref b254), .val (.int v13)] [(.int t0)])) _
    refine XS.iconst X0.here hx rfl (hb hby at_329) ?_
    show Steps p.tables e below (T0.setTop (mkF m 330 #[.val (.int v0), .val (.int v1), .val (.long v2), .second, .val (.int v4), .val (.int v5), .val (.int v6), .val (.int v7), .val (.int v8), .val (.int v9), .val (.int v10), .val (.ref b93), .val (.ref b254), .val (.int v13)] [(.int (1 : Int32)), (.int t0)])) _
    refine XS.goto X0.here hx rfl (pc0 := 330) (pc' := 334) rfl (hb hby at_330) (by decide) (by decide) ?_
    exact k
  have hG_j : own_G v4 v5 v6 v7 v8 v9 b93_n := hG
  have hD_j : own_D v4 v5 v6 v8 b93_xs := hD
  have hP_j : b254_position = v8 := hP
  exact b0_334 ⟨hx, hZ, hw, hby, hml, hret, hown, hnm, hlk⟩ h0 n0 v0 v1 v2 v4 v5 v6 v7 v8 v9 v10 b93 b254 v13 (1 : Int32) t0 b254_position b93_k b93_n b93_xs X0 e0 N0 Z0 E_b254 F_b254_data F_b254_position g_b254 V_b93 ln_b93 g_b93 ne_b93_b254 hG_j hD_j hP_j _ hr
def f0_307 (v0 : Int32) (v1 : Int32) (v2 : Int64) (v4 : Int32) (v5 : Int32) (v6 : Int32) (v7 : Int32) (v8 : Int32) (v9 : Int32) (v10 : Int32) (v13 : Int32) (b254_position : Int32) (b93_n : Int32) (b93_xs : List Int32) : Int32 := (if v13 = (0 : Int32) then (f0_341 v0 v1 v2 v4 v5 v6 v7 v8 v9 v10 v13 b254_position b93_n b93_xs) else (if v4 < (2 : Int32) then (if v7 = (0 : Int32) then (f0_334 v0 v1 v2 v4 v5 v6 v7 v8 v9 v10 v13 (0 : Int32) (f4_0 b254_position b93_n b93_xs) b254_position b93_n b93_xs) else (f0_329 v0 v1 v2 v4 v5 v6 v7 v8 v9 v10 v13 (f4_0 b254_position b93_n b93_xs) b254_position b93_n b93_xs)) else (f0_329 v0 v1 v2 v4 v5 v6 v7 v8 v9 v10 v13 (f4_0 b254_position b93_n b93_xs) b254_position b93_n b93_xs)))
set_option maxRecDepth 65536 in
set_option maxHeartbeats 40000000 in
theorem b0_307 {p : Program} {l : Launch} {e : Env} {s : State} {m : MethodId} {args : Array Value} {below : List Frame} {meth : Method} {c : Code} {Z : State} {a0 : Array Value} (B : Ctx p Z s a0 m meth c "com/example/pure_mrtd/puremrtd/format/TlvReaderHasNextPinLaw" "law" code 14 (some .boolean)) {T0 : State} {locs : List Loc} {h : Heap} (h0 : Heap) (n0 : Nat) (v0 : Int32) (v1 : Int32) (v2 : Int64) (v4 : Int32) (v5 : Int32) (v6 : Int32) (v7 : Int32) (v8 : Int32) (v9 : Int32) (v10 : Int32) (b93 : Addr) (b254 : Addr) (v13 : Int32) (c304 : Addr) (b254_position : Int32) (b93_k : ClassId) (b93_n : Int32) (b93_xs : List Int32) (X0 : Stand p l e room_1 s m args below meth c T0 locs 5 18) (e0 : T0.heap = h) (N0 : Fr n0 locs) (Z0 : n0 ≤ h.size) (E_b254 : Exa Z h b254 "com/example/pure_mrtd/puremrtd/format/TlvReader") (F_b254_data : Fld Z h b254 "com/example/pure_mrtd/puremrtd/format/TlvReader" "data" "[B" (.ref b93)) (F_b254_position : Fld Z h b254 "com/example/pure_mrtd/puremrtd/format/TlvReader" "position" "I" (.int b254_position)) (g_b254 : n0 ≤ b254) (V_b93 : Arv Z h b93 b93_k .byte b93_n (b93_xs.map Value.int) (.int 0)) (ln_b93 : b93_xs.length = b93_n.toNatClampNeg) (g_b93 : n0 ≤ b93) (ne_b93_b254 : b93 ≠ b254) (hG : own_G v4 v5 v6 v7 v8 v9 b93_n) (hD : own_D v4 v5 v6 v8 b93_xs) (hP : b254_position = v8) (r : Int32) (hr : f0_307 v0 v1 v2 v4 v5 v6 v7 v8 v9 v10 v13 b254_position b93_n b93_xs = r) :
    EndsIn p e below s 8 25 (Q0 n0 r) (T0.setTop (mkF m 307 #[.val (.int v0), .val (.int v1), .val (.long v2), .second, .val (.int v4), .val (.int v5), .val (.int v6), .val (.int v7), .val (.int v8), .val (.int v9), .val (.int v10), .val (.ref b93), .val (.ref b254), .val (.int v13)] [(.ref c304)])) := by
  obtain ⟨hx, hZ, hw, hby, hml, hret, hown, hnm, hlk⟩ := B
  unfold f0_307 at hr
  refine EndsIn.by (B := T0.setTop (mkF m 310 #[.val (.int v0), .val (.int v1), .val (.long v2), .second, .val (.int v4), .val (.int v5), .val (.int v6), .val (.int v7), .val (.int v8), .val (.int v9), .val (.int v10), .val (.ref b93), .val (.ref b254), .val (.int v13)] [(.int v13)])) (fun t k => ?_) ?_
  · show Steps p.tables e below (T0.setTop (mkF m 307 #[.val (.int v0), .val (.int v1), .val (.long v2), .second, .val (.int v4), .val (.int v5), .val (.int v6), .val (.int v7), .val (.int v8), .val (.int v9), .val (.int v10), .val (.ref b93), .val (.ref b254), .val (.int v13)] [(.ref c304)])) _
    refine XS.pop X0.here hx rfl (hb hby at_307) rfl rfl ?_
    show Steps p.tables e below (T0.setTop (mkF m 308 #[.val (.int v0), .val (.int v1), .val (.long v2), .second, .val (.int v4), .val (.int v5), .val (.int v6), .val (.int v7), .val (.int v8), .val (.int v9), .val (.int v10), .val (.ref b93), .val (.ref b254), .val (.int v13)] [])) _
    refine XS.iload X0.here hx rfl (hb hby at_308) rfl  ?_
    exact k
  by_cases hc310 : v13 = (0 : Int32)
  · rw [if_pos hc310] at hr
    refine EndsIn.by (B := T0.setTop (mkF m 341 #[.val (.int v0), .val (.int v1), .val (.long v2), .second, .val (.int v4), .val (.int v5), .val (.int v6), .val (.int v7), .val (.int v8), .val (.int v9), .val (.int v10), .val (.ref b93), .val (.ref b254), .val (.int v13)] [])) (fun t k => ?_) ?_
    · show Steps p.tables e below (T0.setTop (mkF m 310 #[.val (.int v0), .val (.int v1), .val (.long v2), .second, .val (.int v4), .val (.int v5), .val (.int v6), .val (.int v7), .val (.int v8), .val (.int v9), .val (.int v10), .val (.ref b93), .val (.ref b254), .val (.int v13)] [(.int v13)])) _
      exact XS.ifYes X0.here hx rfl (pc0 := 310) (pc' := 341) rfl (hb hby at_310) rfl ((if0 _ _).trans (teq hc310).1) (by decide) (by decide) k
    have hG_j : own_G v4 v5 v6 v7 v8 v9 b93_n := hG
    have hD_j : own_D v4 v5 v6 v8 b93_xs := hD
    have hP_j : b254_position = v8 := hP
    exact b0_341 ⟨hx, hZ, hw, hby, hml, hret, hown, hnm, hlk⟩ h0 n0 v0 v1 v2 v4 v5 v6 v7 v8 v9 v10 b93 b254 v13 b254_position b93_k b93_n b93_xs X0 e0 N0 Z0 E_b254 F_b254_data F_b254_position g_b254 V_b93 ln_b93 g_b93 ne_b93_b254 hG_j hD_j hP_j _ hr
  · rw [if_neg hc310] at hr
    refine EndsIn.by (B := T0.setTop (mkF m 313 #[.val (.int v0), .val (.int v1), .val (.long v2), .second, .val (.int v4), .val (.int v5), .val (.int v6), .val (.int v7), .val (.int v8), .val (.int v9), .val (.int v10), .val (.ref b93), .val (.ref b254), .val (.int v13)] [])) (fun t k => ?_) ?_
    · show Steps p.tables e below (T0.setTop (mkF m 310 #[.val (.int v0), .val (.int v1), .val (.long v2), .second, .val (.int v4), .val (.int v5), .val (.int v6), .val (.int v7), .val (.int v8), .val (.int v9), .val (.int v10), .val (.ref b93), .val (.ref b254), .val (.int v13)] [(.int v13)])) _
      exact XS.ifNo X0.here hx rfl (hb hby at_310) rfl ((if0 _ _).trans (feq hc310).1) k
    refine EndsIn.by (B := T0.setTop (mkF m 315 #[.val (.int v0), .val (.int v1), .val (.long v2), .second, .val (.int v4), .val (.int v5), .val (.int v6), .val (.int v7), .val (.int v8), .val (.int v9), .val (.int v10), .val (.ref b93), .val (.ref b254), .val (.int v13)] [(.ref b254)])) (fun t k => ?_) ?_
    · show Steps p.tables e below (T0.setTop (mkF m 313 #[.val (.int v0), .val (.int v1), .val (.long v2), .second, .val (.int v4), .val (.int v5), .val (.int v6), .val (.int v7), .val (.int v8), .val (.int v9), .val (.int v10), .val (.ref b93), .val (.ref b254), .val (.int v13)] [])) _
      refine XS.aload X0.here hx rfl (hb hby at_313) rfl rfl ?_
      exact k
    -- pc 315: com/example/pure_mrtd/puremrtd/format/TlvReader.hasNext
    obtain ⟨cq18, kq18, q18a, q18b, q18c⟩ := isOf hZ e0 E_b254
    obtain ⟨_, _, ⟨T18, L18, k18, n18⟩, -, X18, ⟨Lc18, hQ18, l18, y18, z18⟩, st18⟩ := X0.virtualBack hx (y := (⟨"com/example/pure_mrtd/puremrtd/format/TlvReader", "hasNext", "()Z"⟩ : MethodName)) (z := (⟨"com/example/pure_mrtd/puremrtd/format/TlvReader", "hasNext", "()Z"⟩ : MethodName)) hown (mvT hZ (hw _ (List.mem_of_getElem? (i := 16) rfl))) (mvT hZ (hw _ (List.mem_of_getElem? (i := 17) rfl))) (notFace_of_selects (args := #[]) (mvT hZ (hw _ (List.mem_of_getElem? (i := 19) rfl)))) (mvT hZ (hw _ (List.mem_of_getElem? (i := 19) rfl))) (mvT hZ (hw _ (List.mem_of_getElem? (i := 18) rfl))) (by decide) (backOf (W := 0) (rm4 l Z a0 hw [] b254 b93 b254_position b93_k b93_n b93_xs h n0 Z0 E_b254 F_b254_data F_b254_position V_b93 ln_b93) hZ (hw _ (List.mem_of_getElem? (i := 20) rfl)) (hw _ (List.mem_of_getElem? (i := 7) rfl)) (by decide) (by decide)) q18a q18c (g := (mkF m 315 #[.val (.int v0), .val (.int v1), .val (.long v2), .second, .val (.int v4), .val (.int v5), .val (.int v6), .val (.int v7), .val (.int v8), .val (.int v9), .val (.int v10), .val (.ref b93), .val (.ref b254), .val (.int v13)] [(.ref b254)])) rfl (by rw [hml]; rfl) (Steps.refl _) (argsL := []) (rest := []) (lenOf pd_2 rfl) rfl (by show 2 * 0 + _ ≤ _; exact Nat.le_of_eq rfl) (hb hby at_315) (fun _ _ => ⟨rfl, e0, (by decide : 5 + R4.cells ≤ _), (by decide : 18 + R4.slots ≤ _)⟩)
    dsimp only [Pt.U, Pt.locs, Pt.cells, Pt.slots] at X18 l18 y18 z18 st18 hQ18
    subst l18 y18 z18
    obtain ⟨rfl, Nq18, e18⟩ := hQ18
    have N18 := Fr.app N0 Nq18
    refine EndsIn.by (B := T18.setTop (mkF m 318 #[.val (.int v0), .val (.int v1), .val (.long v2), .second, .val (.int v4), .val (.int v5), .val (.int v6), .val (.int v7), .val (.int v8), .val (.int v9), .val (.int v10), .val (.ref b93), .val (.ref b254), .val (.int v13)] [(.int (f4_0 b254_position b93_n b93_xs))])) (fun t k => st18.trans k) ?_
    refine EndsIn.by (B := T18.setTop (mkF m 321 #[.val (.int v0), .val (.int v1), .val (.long v2), .second, .val (.int v4), .val (.int v5), .val (.int v6), .val (.int v7), .val (.int v8), .val (.int v9), .val (.int v10), .val (.ref b93), .val (.ref b254), .val (.int v13)] [(.int (2 : Int32)), (.int v4), (.int (f4_0 b254_position b93_n b93_xs))])) (fun t k => ?_) ?_
    · show Steps p.tables e below (T18.setTop (mkF m 318 #[.val (.int v0), .val (.int v1), .val (.long v2), .second, .val (.int v4), .val (.int v5), .val (.int v6), .val (.int v7), .val (.int v8), .val (.int v9), .val (.int v10), .val (.ref b93), .val (.ref b254), .val (.int v13)] [(.int (f4_0 b254_position b93_n b93_xs))])) _
      refine XS.iload X18.here hx rfl (hb hby at_318) rfl  ?_
      show Steps p.tables e below (T18.setTop (mkF m 320 #[.val (.int v0), .val (.int v1), .val (.long v2), .second, .val (.int v4), .val (.int v5), .val (.int v6), .val (.int v7), .val (.int v8), .val (.int v9), .val (.int v10), .val (.ref b93), .val (.ref b254), .val (.int v13)] [(.int v4), (.int (f4_0 b254_position b93_n b93_xs))])) _
      refine XS.iconst X18.here hx rfl (hb hby at_320) ?_
      exact k
    by_cases hc321 : v4 < (2 : Int32)
    · rw [if_pos hc321] at hr
      refine EndsIn.by (B := T18.setTop (mkF m 324 #[.val (.int v0), .val (.int v1), .val (.long v2), .second, .val (.int v4), .val (.int v5), .val (.int v6), .val (.int v7), .val (.int v8), .val (.int v9), .val (.int v10), .val (.ref b93), .val (.ref b254), .val (.int v13)] [(.int (f4_0 b254_position b93_n b93_xs))])) (fun t k => ?_) ?_
      · show Steps p.tables e below (T18.setTop (mkF m 321 #[.val (.int v0), .val (.int v1), .val (.long v2), .second, .val (.int v4), .val (.int v5), .val (.int v6), .val (.int v7), .val (.int v8), .val (.int v9), .val (.int v10), .val (.ref b93), .val (.ref b254), .val (.int v13)] [(.int (2 : Int32)), (.int v4), (.int (f4_0 b254_position b93_n b93_xs))])) _
        exact XS.icmpNo X18.here hx rfl (hb hby at_321) rfl (tlt hc321).2.1 k
      refine EndsIn.by (B := T18.setTop (mkF m 326 #[.val (.int v0), .val (.int v1), .val (.long v2), .second, .val (.int v4), .val (.int v5), .val (.int v6), .val (.int v7), .val (.int v8), .val (.int v9), .val (.int v10), .val (.ref b93), .val (.ref b254), .val (.int v13)] [(.int v7), (.int (f4_0 b254_position b93_n b93_xs))])) (fun t k => ?_) ?_
      · show Steps p.tables e below (T18.setTop (mkF m 324 #[.val (.int v0), .val (.int v1), .val (.long v2), .second, .val (.int v4), .val (.int v5), .val (.int v6), .val (.int v7), .val (.int v8), .val (.int v9), .val (.int v10), .val (.ref b93), .val (.ref b254), .val (.int v13)] [(.int (f4_0 b254_position b93_n b93_xs))])) _
        refine XS.iload X18.here hx rfl (hb hby at_324) rfl  ?_
        exact k
      by_cases hc326 : v7 = (0 : Int32)
      · rw [if_pos hc326] at hr
        refine EndsIn.by (B := T18.setTop (mkF m 333 #[.val (.int v0), .val (.int v1), .val (.long v2), .second, .val (.int v4), .val (.int v5), .val (.int v6), .val (.int v7), .val (.int v8), .val (.int v9), .val (.int v10), .val (.ref b93), .val (.ref b254), .val (.int v13)] [(.int (f4_0 b254_position b93_n b93_xs))])) (fun t k => ?_) ?_
        · show Steps p.tables e below (T18.setTop (mkF m 326 #[.val (.int v0), .val (.int v1), .val (.long v2), .second, .val (.int v4), .val (.int v5), .val (.int v6), .val (.int v7), .val (.int v8), .val (.int v9), .val (.int v10), .val (.ref b93), .val (.ref b254), .val (.int v13)] [(.int v7), (.int (f4_0 b254_position b93_n b93_xs))])) _
          exact XS.ifYes X18.here hx rfl (pc0 := 326) (pc' := 333) rfl (hb hby at_326) rfl ((if0 _ _).trans (teq hc326).1) (by decide) (by decide) k
        refine EndsIn.by (B := T18.setTop (mkF m 334 #[.val (.int v0), .val (.int v1), .val (.long v2), .second, .val (.int v4), .val (.int v5), .val (.int v6), .val (.int v7), .val (.int v8), .val (.int v9), .val (.int v10), .val (.ref b93), .val (.ref b254), .val (.int v13)] [(.int (0 : Int32)), (.int (f4_0 b254_position b93_n b93_xs))])) (fun t k => ?_) ?_
        · show Steps p.tables e below (T18.setTop (mkF m 333 #[.val (.int v0), .val (.int v1), .val (.long v2), .second, .val (.int v4), .val (.int v5), .val (.int v6), .val (.int v7), .val (.int v8), .val (.int v9), .val (.int v10), .val (.ref b93), .val (.ref b254), .val (.int v13)] [(.int (f4_0 b254_position b93_n b93_xs))])) _
          refine XS.iconst X18.here hx rfl (hb hby at_333) ?_
          exact k
        have hG_j : own_G v4 v5 v6 v7 v8 v9 b93_n := hG
        have hD_j : own_D v4 v5 v6 v8 b93_xs := hD
        have hP_j : b254_position = v8 := hP
        exact b0_334 ⟨hx, hZ, hw, hby, hml, hret, hown, hnm, hlk⟩ h0 n0 v0 v1 v2 v4 v5 v6 v7 v8 v9 v10 b93 b254 v13 (0 : Int32) (f4_0 b254_position b93_n b93_xs) b254_position b93_k b93_n b93_xs X18 e18 N18 Z0 E_b254 F_b254_data F_b254_position g_b254 V_b93 ln_b93 g_b93 ne_b93_b254 hG_j hD_j hP_j _ hr
      · rw [if_neg hc326] at hr
        refine EndsIn.by (B := T18.setTop (mkF m 329 #[.val (.int v0), .val (.int v1), .val (.long v2), .second, .val (.int v4), .val (.int v5), .val (.int v6), .val (.int v7), .val (.int v8), .val (.int v9), .val (.int v10), .val (.ref b93), .val (.ref b254), .val (.int v13)] [(.int (f4_0 b254_position b93_n b93_xs))])) (fun t k => ?_) ?_
        · show Steps p.tables e below (T18.setTop (mkF m 326 #[.val (.int v0), .val (.int v1), .val (.long v2), .second, .val (.int v4), .val (.int v5), .val (.int v6), .val (.int v7), .val (.int v8), .val (.int v9), .val (.int v10), .val (.ref b93), .val (.ref b254), .val (.int v13)] [(.int v7), (.int (f4_0 b254_position b93_n b93_xs))])) _
          exact XS.ifNo X18.here hx rfl (hb hby at_326) rfl ((if0 _ _).trans (feq hc326).1) k
        have hG_j : own_G v4 v5 v6 v7 v8 v9 b93_n := hG
        have hD_j : own_D v4 v5 v6 v8 b93_xs := hD
        have hP_j : b254_position = v8 := hP
        exact b0_329 ⟨hx, hZ, hw, hby, hml, hret, hown, hnm, hlk⟩ h0 n0 v0 v1 v2 v4 v5 v6 v7 v8 v9 v10 b93 b254 v13 (f4_0 b254_position b93_n b93_xs) b254_position b93_k b93_n b93_xs X18 e18 N18 Z0 E_b254 F_b254_data F_b254_position g_b254 V_b93 ln_b93 g_b93 ne_b93_b254 hG_j hD_j hP_j _ hr
    · rw [if_neg hc321] at hr
      refine EndsIn.by (B := T18.setTop (mkF m 329 #[.val (.int v0), .val (.int v1), .val (.long v2), .second, .val (.int v4), .val (.int v5), .val (.int v6), .val (.int v7), .val (.int v8), .val (.int v9), .val (.int v10), .val (.ref b93), .val (.ref b254), .val (.int v13)] [(.int (f4_0 b254_position b93_n b93_xs))])) (fun t k => ?_) ?_
      · show Steps p.tables e below (T18.setTop (mkF m 321 #[.val (.int v0), .val (.int v1), .val (.long v2), .second, .val (.int v4), .val (.int v5), .val (.int v6), .val (.int v7), .val (.int v8), .val (.int v9), .val (.int v10), .val (.ref b93), .val (.ref b254), .val (.int v13)] [(.int (2 : Int32)), (.int v4), (.int (f4_0 b254_position b93_n b93_xs))])) _
        exact XS.icmpYes X18.here hx rfl (pc0 := 321) (pc' := 329) rfl (hb hby at_321) rfl (flt hc321).2.1 (by decide) (by decide) k
      have hG_j : own_G v4 v5 v6 v7 v8 v9 b93_n := hG
      have hD_j : own_D v4 v5 v6 v8 b93_xs := hD
      have hP_j : b254_position = v8 := hP
      exact b0_329 ⟨hx, hZ, hw, hby, hml, hret, hown, hnm, hlk⟩ h0 n0 v0 v1 v2 v4 v5 v6 v7 v8 v9 v10 b93 b254 v13 (f4_0 b254_position b93_n b93_xs) b254_position b93_k b93_n b93_xs X18 e18 N18 Z0 E_b254 F_b254_data F_b254_position g_b254 V_b93 ln_b93 g_b93 ne_b93_b254 hG_j hD_j hP_j _ hr
def f0_294 (v0 : Int32) (v1 : Int32) (v2 : Int64) (v4 : Int32) (v5 : Int32) (v6 : Int32) (v7 : Int32) (v8 : Int32) (v9 : Int32) (v10 : Int32) (t0 : Int32) (b254_position : Int32) (b93_n : Int32) (b93_xs : List Int32) : Int32 := (if v4 < (1 : Int32) then (f0_344 v0 v1 v2 v4 v5 v6 v7 v8 v9 v10 t0 b254_position b93_n b93_xs) else (f0_307 v0 v1 v2 v4 v5 v6 v7 v8 v9 v10 t0 (f6_0 b254_position b93_n b93_xs) b93_n b93_xs))
set_option maxRecDepth 65536 in
set_option maxHeartbeats 40000000 in
theorem b0_294 {p : Program} {l : Launch} {e : Env} {s : State} {m : MethodId} {args : Array Value} {below : List Frame} {meth : Method} {c : Code} {Z : State} {a0 : Array Value} (B : Ctx p Z s a0 m meth c "com/example/pure_mrtd/puremrtd/format/TlvReaderHasNextPinLaw" "law" code 14 (some .boolean)) {T0 : State} {locs : List Loc} {h : Heap} (h0 : Heap) (n0 : Nat) (v0 : Int32) (v1 : Int32) (v2 : Int64) (v4 : Int32) (v5 : Int32) (v6 : Int32) (v7 : Int32) (v8 : Int32) (v9 : Int32) (v10 : Int32) (b93 : Addr) (b254 : Addr) (t0 : Int32) (b254_position : Int32) (b93_k : ClassId) (b93_n : Int32) (b93_xs : List Int32) (X0 : Stand p l e room_1 s m args below meth c T0 locs 2 11) (e0 : T0.heap = h) (N0 : Fr n0 locs) (Z0 : n0 ≤ h.size) (E_b254 : Exa Z h b254 "com/example/pure_mrtd/puremrtd/format/TlvReader") (F_b254_data : Fld Z h b254 "com/example/pure_mrtd/puremrtd/format/TlvReader" "data" "[B" (.ref b93)) (F_b254_position : Fld Z h b254 "com/example/pure_mrtd/puremrtd/format/TlvReader" "position" "I" (.int b254_position)) (g_b254 : n0 ≤ b254) (V_b93 : Arv Z h b93 b93_k .byte b93_n (b93_xs.map Value.int) (.int 0)) (ln_b93 : b93_xs.length = b93_n.toNatClampNeg) (g_b93 : n0 ≤ b93) (ne_b93_b254 : b93 ≠ b254) (hG : own_G v4 v5 v6 v7 v8 v9 b93_n) (hD : own_D v4 v5 v6 v8 b93_xs) (hP : b254_position = 0) (r : Int32) (hr : f0_294 v0 v1 v2 v4 v5 v6 v7 v8 v9 v10 t0 b254_position b93_n b93_xs = r) :
    EndsIn p e below s 8 25 (Q0 n0 r) (T0.setTop (mkF m 294 #[.val (.int v0), .val (.int v1), .val (.long v2), .second, .val (.int v4), .val (.int v5), .val (.int v6), .val (.int v7), .val (.int v8), .val (.int v9), .val (.int v10), .val (.ref b93), .val (.ref b254), .unset] [(.int t0)])) := by
  obtain ⟨hx, hZ, hw, hby, hml, hret, hown, hnm, hlk⟩ := B
  unfold f0_294 at hr
  refine EndsIn.by (B := T0.setTop (mkF m 299 #[.val (.int v0), .val (.int v1), .val (.long v2), .second, .val (.int v4), .val (.int v5), .val (.int v6), .val (.int v7), .val (.int v8), .val (.int v9), .val (.int v10), .val (.ref b93), .val (.ref b254), .val (.int t0)] [(.int (1 : Int32)), (.int v4)])) (fun t k => ?_) ?_
  · show Steps p.tables e below (T0.setTop (mkF m 294 #[.val (.int v0), .val (.int v1), .val (.long v2), .second, .val (.int v4), .val (.int v5), .val (.int v6), .val (.int v7), .val (.int v8), .val (.int v9), .val (.int v10), .val (.ref b93), .val (.ref b254), .unset] [(.int t0)])) _
    refine XS.istore X0.here hx rfl (hb hby at_294) rfl (l' := #[.val (.int v0), .val (.int v1), .val (.long v2), .second, .val (.int v4), .val (.int v5), .val (.int v6), .val (.int v7), .val (.int v8), .val (.int v9), .val (.int v10), .val (.ref b93), .val (.ref b254), .val (.int t0)]) rfl ?_
    show Steps p.tables e below (T0.setTop (mkF m 296 #[.val (.int v0), .val (.int v1), .val (.long v2), .second, .val (.int v4), .val (.int v5), .val (.int v6), .val (.int v7), .val (.int v8), .val (.int v9), .val (.int v10), .val (.ref b93), .val (.ref b254), .val (.int t0)] [])) _
    refine XS.iload X0.here hx rfl (hb hby at_296) rfl  ?_
    show Steps p.tables e below (T0.setTop (mkF m 298 #[.val (.int v0), .val (.int v1), .val (.long v2), .second, .val (.int v4), .val (.int v5), .val (.int v6), .val (.int v7), .val (.int v8), .val (.int v9), .val (.int v10), .val (.ref b93), .val (.ref b254), .val (.int t0)] [(.int v4)])) _
    refine XS.iconst X0.here hx rfl (hb hby at_298) ?_
    exact k
  by_cases hc299 : v4 < (1 : Int32)
  · rw [if_pos hc299] at hr
    refine EndsIn.by (B := T0.setTop (mkF m 344 #[.val (.int v0), .val (.int v1), .val (.long v2), .second, .val (.int v4), .val (.int v5), .val (.int v6), .val (.int v7), .val (.int v8), .val (.int v9), .val (.int v10), .val (.ref b93), .val (.ref b254), .val (.int t0)] [])) (fun t k => ?_) ?_
    · show Steps p.tables e below (T0.setTop (mkF m 299 #[.val (.int v0), .val (.int v1), .val (.long v2), .second, .val (.int v4), .val (.int v5), .val (.int v6), .val (.int v7), .val (.int v8), .val (.int v9), .val (.int v10), .val (.ref b93), .val (.ref b254), .val (.int t0)] [(.int (1 : Int32)), (.int v4)])) _
      exact XS.icmpYes X0.here hx rfl (pc0 := 299) (pc' := 344) rfl (hb hby at_299) rfl (tlt hc299).1 (by decide) (by decide) k
    have hG_j : own_G v4 v5 v6 v7 v8 v9 b93_n := hG
    have hD_j : own_D v4 v5 v6 v8 b93_xs := hD
    have hP_j : b254_position = v8 := (by first | exact own_p0 hG hP hc299 | exact hP)
    exact b0_344 ⟨hx, hZ, hw, hby, hml, hret, hown, hnm, hlk⟩ h0 n0 v0 v1 v2 v4 v5 v6 v7 v8 v9 v10 b93 b254 t0 b254_position b93_k b93_n b93_xs (X0.more (by decide) (by decide)) e0 N0 Z0 E_b254 F_b254_data F_b254_position g_b254 V_b93 ln_b93 g_b93 ne_b93_b254 hG_j hD_j hP_j _ hr
  · rw [if_neg hc299] at hr
    refine EndsIn.by (B := T0.setTop (mkF m 302 #[.val (.int v0), .val (.int v1), .val (.long v2), .second, .val (.int v4), .val (.int v5), .val (.int v6), .val (.int v7), .val (.int v8), .val (.int v9), .val (.int v10), .val (.ref b93), .val (.ref b254), .val (.int t0)] [])) (fun t k => ?_) ?_
    · show Steps p.tables e below (T0.setTop (mkF m 299 #[.val (.int v0), .val (.int v1), .val (.long v2), .second, .val (.int v4), .val (.int v5), .val (.int v6), .val (.int v7), .val (.int v8), .val (.int v9), .val (.int v10), .val (.ref b93), .val (.ref b254), .val (.int t0)] [(.int (1 : Int32)), (.int v4)])) _
      exact XS.icmpNo X0.here hx rfl (hb hby at_299) rfl (flt hc299).1 k
    refine EndsIn.by (B := T0.setTop (mkF m 304 #[.val (.int v0), .val (.int v1), .val (.long v2), .second, .val (.int v4), .val (.int v5), .val (.int v6), .val (.int v7), .val (.int v8), .val (.int v9), .val (.int v10), .val (.ref b93), .val (.ref b254), .val (.int t0)] [(.ref b254)])) (fun t k => ?_) ?_
    · show Steps p.tables e below (T0.setTop (mkF m 302 #[.val (.int v0), .val (.int v1), .val (.long v2), .second, .val (.int v4), .val (.int v5), .val (.int v6), .val (.int v7), .val (.int v8), .val (.int v9), .val (.int v10), .val (.ref b93), .val (.ref b254), .val (.int t0)] [])) _
      refine XS.aload X0.here hx rfl (hb hby at_302) rfl rfl ?_
      exact k
    have hp17_hk : own_ok b254_position b93_n b93_xs := own_k1 hG hD hP hc299
    -- pc 304: com/example/pure_mrtd/puremrtd/format/TlvReader.next
    obtain ⟨cq17, kq17, q17a, q17b, q17c⟩ := isOf hZ e0 E_b254
    obtain ⟨_, _, ⟨T17, L17, k17, n17⟩, -, X17, ⟨Lc17, hQ17, l17, y17, z17⟩, st17⟩ := X0.virtualBack hx (y := (⟨"com/example/pure_mrtd/puremrtd/format/TlvReader", "next", "()Lcom/example/pure_mrtd/puremrtd/format/Tlv;"⟩ : MethodName)) (z := (⟨"com/example/pure_mrtd/puremrtd/format/TlvReader", "next", "()Lcom/example/pure_mrtd/puremrtd/format/Tlv;"⟩ : MethodName)) hown (mvT hZ (hw _ (List.mem_of_getElem? (i := 26) rfl))) (mvT hZ (hw _ (List.mem_of_getElem? (i := 27) rfl))) (notFace_of_selects (args := #[]) (mvT hZ (hw _ (List.mem_of_getElem? (i := 29) rfl)))) (mvT hZ (hw _ (List.mem_of_getElem? (i := 29) rfl))) (mvT hZ (hw _ (List.mem_of_getElem? (i := 28) rfl))) (by decide) (backOf (W := 0) (rm6 l Z a0 hw [] b254 b93 b254_position b93_k b93_n b93_xs h n0 Z0 E_b254 F_b254_data F_b254_position g_b254 V_b93 ln_b93 (Ne.symm ne_b93_b254) hp17_hk) hZ (hw _ (List.mem_of_getElem? (i := 30) rfl)) (hw _ (List.mem_of_getElem? (i := 7) rfl)) (by decide) (by decide)) q17a q17c (g := (mkF m 304 #[.val (.int v0), .val (.int v1), .val (.long v2), .second, .val (.int v4), .val (.int v5), .val (.int v6), .val (.int v7), .val (.int v8), .val (.int v9), .val (.int v10), .val (.ref b93), .val (.ref b254), .val (.int t0)] [(.ref b254)])) rfl (by rw [hml]; rfl) (Steps.refl _) (argsL := []) (rest := []) (lenOf pd_10 rfl) rfl (by show 2 * 0 + _ ≤ _; exact Nat.le_of_eq rfl) (hb hby at_304) (fun _ _ => ⟨rfl, e0, (by decide : 2 + R6.cells ≤ _), (by decide : 11 + R6.slots ≤ _)⟩)
    dsimp only [Pt.U, Pt.locs, Pt.cells, Pt.slots] at X17 l17 y17 z17 st17 hQ17
    subst l17 y17 z17
    obtain ⟨c304, rfl, Nq17, g_c304, szq17, Kq17, E_b254_17, F_b254_data_17, F_b254_position_17⟩ := hQ17
    obtain ⟨h17, e17⟩ : ∃ z, T17.heap = z := ⟨_, rfl⟩
    rw [e17] at Kq17 E_b254_17 F_b254_data_17 F_b254_position_17
    have N17 := Fr.app N0 Nq17
    have Z17 : n0 ≤ h17.size := Nat.le_trans Z0 Kq17.1
    have ne_b254_c304 : b254 ≠ c304 := Nat.ne_of_lt (Nat.lt_of_lt_of_le E_b254.lt szq17)
    have ne_b93_c304 : b93 ≠ c304 := Nat.ne_of_lt (Nat.lt_of_lt_of_le V_b93.lt szq17)
    have V_b93_17 := V_b93.keep Kq17 (ninS ne_b93_b254 nin0)
    refine EndsIn.by (B := T17.setTop (mkF m 307 #[.val (.int v0), .val (.int v1), .val (.long v2), .second, .val (.int v4), .val (.int v5), .val (.int v6), .val (.int v7), .val (.int v8), .val (.int v9), .val (.int v10), .val (.ref b93), .val (.ref b254), .val (.int t0)] [(.ref c304)])) (fun t k => st17.trans k) ?_
    have hG_j : own_G v4 v5 v6 v7 v8 v9 b93_n := hG
    have hD_j : own_D v4 v5 v6 v8 b93_xs := hD
    have hP_j : (f6_0 b254_position b93_n b93_xs) = v8 := own_p1 hG hD hP hc299
    exact b0_307 ⟨hx, hZ, hw, hby, hml, hret, hown, hnm, hlk⟩ h0 n0 v0 v1 v2 v4 v5 v6 v7 v8 v9 v10 b93 b254 t0 c304 (f6_0 b254_position b93_n b93_xs) b93_k b93_n b93_xs (X17.more (by decide) (by decide)) e17 N17 Z17 E_b254_17 F_b254_data_17 F_b254_position_17 g_b254 V_b93_17 ln_b93 g_b93 ne_b93_b254 hG_j hD_j hP_j _ hr
def f0_286 (v0 : Int32) (v1 : Int32) (v2 : Int64) (v4 : Int32) (v5 : Int32) (v6 : Int32) (v7 : Int32) (v8 : Int32) (v9 : Int32) (v10 : Int32) (t0 : Int32) (t1 : Int32) (b254_position : Int32) (b93_n : Int32) (b93_xs : List Int32) : Int32 := (if t1 = t0 then (f0_294 v0 v1 v2 v4 v5 v6 v7 v8 v9 v10 (1 : Int32) b254_position b93_n b93_xs) else (f0_294 v0 v1 v2 v4 v5 v6 v7 v8 v9 v10 (0 : Int32) b254_position b93_n b93_xs))
set_option maxRecDepth 65536 in
set_option maxHeartbeats 40000000 in
theorem b0_286 {p : Program} {l : Launch} {e : Env} {s : State} {m : MethodId} {args : Array Value} {below : List Frame} {meth : Method} {c : Code} {Z : State} {a0 : Array Value} (B : Ctx p Z s a0 m meth c "com/example/pure_mrtd/puremrtd/format/TlvReaderHasNextPinLaw" "law" code 14 (some .boolean)) {T0 : State} {locs : List Loc} {h : Heap} (h0 : Heap) (n0 : Nat) (v0 : Int32) (v1 : Int32) (v2 : Int64) (v4 : Int32) (v5 : Int32) (v6 : Int32) (v7 : Int32) (v8 : Int32) (v9 : Int32) (v10 : Int32) (b93 : Addr) (b254 : Addr) (t0 : Int32) (t1 : Int32) (b254_position : Int32) (b93_k : ClassId) (b93_n : Int32) (b93_xs : List Int32) (X0 : Stand p l e room_1 s m args below meth c T0 locs 2 11) (e0 : T0.heap = h) (N0 : Fr n0 locs) (Z0 : n0 ≤ h.size) (E_b254 : Exa Z h b254 "com/example/pure_mrtd/puremrtd/format/TlvReader") (F_b254_data : Fld Z h b254 "com/example/pure_mrtd/puremrtd/format/TlvReader" "data" "[B" (.ref b93)) (F_b254_position : Fld Z h b254 "com/example/pure_mrtd/puremrtd/format/TlvReader" "position" "I" (.int b254_position)) (g_b254 : n0 ≤ b254) (V_b93 : Arv Z h b93 b93_k .byte b93_n (b93_xs.map Value.int) (.int 0)) (ln_b93 : b93_xs.length = b93_n.toNatClampNeg) (g_b93 : n0 ≤ b93) (ne_b93_b254 : b93 ≠ b254) (hG : own_G v4 v5 v6 v7 v8 v9 b93_n) (hD : own_D v4 v5 v6 v8 b93_xs) (hP : b254_position = 0) (r : Int32) (hr : f0_286 v0 v1 v2 v4 v5 v6 v7 v8 v9 v10 t0 t1 b254_position b93_n b93_xs = r) :
    EndsIn p e below s 8 25 (Q0 n0 r) (T0.setTop (mkF m 286 #[.val (.int v0), .val (.int v1), .val (.long v2), .second, .val (.int v4), .val (.int v5), .val (.int v6), .val (.int v7), .val (.int v8), .val (.int v9), .val (.int v10), .val (.ref b93), .val (.ref b254), .unset] [(.int t0), (.int t1)])) := by
  obtain ⟨hx, hZ, hw, hby, hml, hret, hown, hnm, hlk⟩ := B
  unfold f0_286 at hr
  by_cases hc286 : t1 = t0
  · rw [if_pos hc286] at hr
    refine EndsIn.by (B := T0.setTop (mkF m 289 #[.val (.int v0), .val (.int v1), .val (.long v2), .second, .val (.int v4), .val (.int v5), .val (.int v6), .val (.int v7), .val (.int v8), .val (.int v9), .val (.int v10), .val (.ref b93), .val (.ref b254), .unset] [])) (fun t k => ?_) ?_
    · show Steps p.tables e below (T0.setTop (mkF m 286 #[.val (.int v0), .val (.int v1), .val (.long v2), .second, .val (.int v4), .val (.int v5), .val (.int v6), .val (.int v7), .val (.int v8), .val (.int v9), .val (.int v10), .val (.ref b93), .val (.ref b254), .unset] [(.int t0), (.int t1)])) _
      exact XS.icmpNo X0.here hx rfl (hb hby at_286) rfl (teq hc286).2 k
    refine EndsIn.by (B := T0.setTop (mkF m 294 #[.val (.int v0), .val (.int v1), .val (.long v2), .second, .val (.int v4), .val (.int v5), .val (.int v6), .val (.int v7), .val (.int v8), .val (.int v9), .val (.int v10), .val (.ref b93), .val (.ref b254), .unset] [(.int (1 : Int32))])) (fun t k => ?_) ?_
    · show Steps p.tables e below (T0.setTop (mkF m 289 #[.val (.int v0), .val (.int v1), .val (.long v2), .second, .val (.int v4), .val (.int v5), .val (.int v6), .val (.int v7), .val (.int v8), .val (.int v9), .val (.int v10), .val (.ref b93), .val (.ref b254), .unset] [])) _
      refine XS.iconst X0.here hx rfl (hb hby at_289) ?_
      show Steps p.tables e below (T0.setTop (mkF m 290 #[.val (.int v0), .val (.int v1), .val (.long v2), .second, .val (.int v4), .val (.int v5), .val (.int v6), .val (.int v7), .val (.int v8), .val (.int v9), .val (.int v10), .val (.ref b93), .val (.ref b254), .unset] [(.int (1 : Int32))])) _
      refine XS.goto X0.here hx rfl (pc0 := 290) (pc' := 294) rfl (hb hby at_290) (by decide) (by decide) ?_
      exact k
    have hG_j : own_G v4 v5 v6 v7 v8 v9 b93_n := hG
    have hD_j : own_D v4 v5 v6 v8 b93_xs := hD
    have hP_j : b254_position = 0 := hP
    exact b0_294 ⟨hx, hZ, hw, hby, hml, hret, hown, hnm, hlk⟩ h0 n0 v0 v1 v2 v4 v5 v6 v7 v8 v9 v10 b93 b254 (1 : Int32) b254_position b93_k b93_n b93_xs X0 e0 N0 Z0 E_b254 F_b254_data F_b254_position g_b254 V_b93 ln_b93 g_b93 ne_b93_b254 hG_j hD_j hP_j _ hr
  · rw [if_neg hc286] at hr
    refine EndsIn.by (B := T0.setTop (mkF m 293 #[.val (.int v0), .val (.int v1), .val (.long v2), .second, .val (.int v4), .val (.int v5), .val (.int v6), .val (.int v7), .val (.int v8), .val (.int v9), .val (.int v10), .val (.ref b93), .val (.ref b254), .unset] [])) (fun t k => ?_) ?_
    · show Steps p.tables e below (T0.setTop (mkF m 286 #[.val (.int v0), .val (.int v1), .val (.long v2), .second, .val (.int v4), .val (.int v5), .val (.int v6), .val (.int v7), .val (.int v8), .val (.int v9), .val (.int v10), .val (.ref b93), .val (.ref b254), .unset] [(.int t0), (.int t1)])) _
      exact XS.icmpYes X0.here hx rfl (pc0 := 286) (pc' := 293) rfl (hb hby at_286) rfl (feq hc286).2 (by decide) (by decide) k
    refine EndsIn.by (B := T0.setTop (mkF m 294 #[.val (.int v0), .val (.int v1), .val (.long v2), .second, .val (.int v4), .val (.int v5), .val (.int v6), .val (.int v7), .val (.int v8), .val (.int v9), .val (.int v10), .val (.ref b93), .val (.ref b254), .unset] [(.int (0 : Int32))])) (fun t k => ?_) ?_
    · show Steps p.tables e below (T0.setTop (mkF m 293 #[.val (.int v0), .val (.int v1), .val (.long v2), .second, .val (.int v4), .val (.int v5), .val (.int v6), .val (.int v7), .val (.int v8), .val (.int v9), .val (.int v10), .val (.ref b93), .val (.ref b254), .unset] [])) _
      refine XS.iconst X0.here hx rfl (hb hby at_293) ?_
      exact k
    have hG_j : own_G v4 v5 v6 v7 v8 v9 b93_n := hG
    have hD_j : own_D v4 v5 v6 v8 b93_xs := hD
    have hP_j : b254_position = 0 := hP
    exact b0_294 ⟨hx, hZ, hw, hby, hml, hret, hown, hnm, hlk⟩ h0 n0 v0 v1 v2 v4 v5 v6 v7 v8 v9 v10 b93 b254 (0 : Int32) b254_position b93_k b93_n b93_xs X0 e0 N0 Z0 E_b254 F_b254_data F_b254_position g_b254 V_b93 ln_b93 g_b93 ne_b93_b254 hG_j hD_j hP_j _ hr
def f0_281 (v0 : Int32) (v1 : Int32) (v2 : Int64) (v4 : Int32) (v5 : Int32) (v6 : Int32) (v7 : Int32) (v8 : Int32) (v9 : Int32) (v10 : Int32) (t0 : Int32) (b254_position : Int32) (b93_n : Int32) (b93_xs : List Int32) : Int32 := (f0_286 v0 v1 v2 v4 v5 v6 v7 v8 v9 v10 (1 : Int32) t0 b254_position b93_n b93_xs)
set_option maxRecDepth 65536 in
set_option maxHeartbeats 40000000 in
theorem b0_281 {p : Program} {l : Launch} {e : Env} {s : State} {m : MethodId} {args : Array Value} {below : List Frame} {meth : Method} {c : Code} {Z : State} {a0 : Array Value} (B : Ctx p Z s a0 m meth c "com/example/pure_mrtd/puremrtd/format/TlvReaderHasNextPinLaw" "law" code 14 (some .boolean)) {T0 : State} {locs : List Loc} {h : Heap} (h0 : Heap) (n0 : Nat) (v0 : Int32) (v1 : Int32) (v2 : Int64) (v4 : Int32) (v5 : Int32) (v6 : Int32) (v7 : Int32) (v8 : Int32) (v9 : Int32) (v10 : Int32) (b93 : Addr) (b254 : Addr) (t0 : Int32) (b254_position : Int32) (b93_k : ClassId) (b93_n : Int32) (b93_xs : List Int32) (X0 : Stand p l e room_1 s m args below meth c T0 locs 2 11) (e0 : T0.heap = h) (N0 : Fr n0 locs) (Z0 : n0 ≤ h.size) (E_b254 : Exa Z h b254 "com/example/pure_mrtd/puremrtd/format/TlvReader") (F_b254_data : Fld Z h b254 "com/example/pure_mrtd/puremrtd/format/TlvReader" "data" "[B" (.ref b93)) (F_b254_position : Fld Z h b254 "com/example/pure_mrtd/puremrtd/format/TlvReader" "position" "I" (.int b254_position)) (g_b254 : n0 ≤ b254) (V_b93 : Arv Z h b93 b93_k .byte b93_n (b93_xs.map Value.int) (.int 0)) (ln_b93 : b93_xs.length = b93_n.toNatClampNeg) (g_b93 : n0 ≤ b93) (ne_b93_b254 : b93 ≠ b254) (hG : own_G v4 v5 v6 v7 v8 v9 b93_n) (hD : own_D v4 v5 v6 v8 b93_xs) (hP : b254_position = 0) (r : Int32) (hr : f0_281 v0 v1 v2 v4 v5 v6 v7 v8 v9 v10 t0 b254_position b93_n b93_xs = r) :
    EndsIn p e below s 8 25 (Q0 n0 r) (T0.setTop (mkF m 281 #[.val (.int v0), .val (.int v1), .val (.long v2), .second, .val (.int v4), .val (.int v5), .val (.int v6), .val (.int v7), .val (.int v8), .val (.int v9), .val (.int v10), .val (.ref b93), .val (.ref b254), .unset] [(.int t0)])) := by
  obtain ⟨hx, hZ, hw, hby, hml, hret, hown, hnm, hlk⟩ := B
  unfold f0_281 at hr
  refine EndsIn.by (B := T0.setTop (mkF m 286 #[.val (.int v0), .val (.int v1), .val (.long v2), .second, .val (.int v4), .val (.int v5), .val (.int v6), .val (.int v7), .val (.int v8), .val (.int v9), .val (.int v10), .val (.ref b93), .val (.ref b254), .unset] [(.int (1 : Int32)), (.int t0)])) (fun t k => ?_) ?_
  · show Steps p.tables e below (T0.setTop (mkF m 281 #[.val (.int v0), .val (.int v1), .val (.long v2), .second, .val (.int v4), .val (.int v5), .val (.int v6), .val (.int v7), .val (.int v8), .val (.int v9), .val (.int v10), .val (.ref b93), .val (.ref b254), .unset] [(.int t0)])) _
    refine XS.iconst X0.here hx rfl (hb hby at_281) ?_
    show Steps p.tables e below (T0.setTop (mkF m 282 #[.val (.int v0), .val (.int v1), .val (.long v2), .second, .val (.int v4), .val (.int v5), .val (.int v6), .val (.int v7), .val (.int v8), .val (.int v9), .val (.int v10), .val (.ref b93), .val (.ref b254), .unset] [(.int (1 : Int32)), (.int t0)])) _
    refine XS.goto X0.here hx rfl (pc0 := 282) (pc' := 286) rfl (hb hby at_282) (by decide) (by decide) ?_
    exact k
  have hG_j : own_G v4 v5 v6 v7 v8 v9 b93_n := hG
  have hD_j : own_D v4 v5 v6 v8 b93_xs := hD
  have hP_j : b254_position = 0 := hP
  exact b0_286 ⟨hx, hZ, hw, hby, hml, hret, hown, hnm, hlk⟩ h0 n0 v0 v1 v2 v4 v5 v6 v7 v8 v9 v10 b93 b254 (1 : Int32) t0 b254_position b93_k b93_n b93_xs X0 e0 N0 Z0 E_b254 F_b254_data F_b254_position g_b254 V_b93 ln_b93 g_b93 ne_b93_b254 hG_j hD_j hP_j _ hr
def f0_263 (v0 : Int32) (v1 : Int32) (v2 : Int64) (v4 : Int32) (v5 : Int32) (v6 : Int32) (v7 : Int32) (v8 : Int32) (v9 : Int32) (v10 : Int32) (b254_position : Int32) (b93_n : Int32) (b93_xs : List Int32) : Int32 := (if v4 < (1 : Int32) then (if v7 = (0 : Int32) then (f0_286 v0 v1 v2 v4 v5 v6 v7 v8 v9 v10 (0 : Int32) (f4_0 b254_position b93_n b93_xs) b254_position b93_n b93_xs) else (f0_281 v0 v1 v2 v4 v5 v6 v7 v8 v9 v10 (f4_0 b254_position b93_n b93_xs) b254_position b93_n b93_xs)) else (f0_281 v0 v1 v2 v4 v5 v6 v7 v8 v9 v10 (f4_0 b254_position b93_n b93_xs) b254_position b93_n b93_xs))
set_option maxRecDepth 65536 in
set_option maxHeartbeats 40000000 in
theorem b0_263 {p : Program} {l : Launch} {e : Env} {s : State} {m : MethodId} {args : Array Value} {below : List Frame} {meth : Method} {c : Code} {Z : State} {a0 : Array Value} (B : Ctx p Z s a0 m meth c "com/example/pure_mrtd/puremrtd/format/TlvReaderHasNextPinLaw" "law" code 14 (some .boolean)) {T0 : State} {locs : List Loc} {h : Heap} (h0 : Heap) (n0 : Nat) (v0 : Int32) (v1 : Int32) (v2 : Int64) (v4 : Int32) (v5 : Int32) (v6 : Int32) (v7 : Int32) (v8 : Int32) (v9 : Int32) (v10 : Int32) (b93 : Addr) (b254 : Addr) (b254_position : Int32) (b93_k : ClassId) (b93_n : Int32) (b93_xs : List Int32) (X0 : Stand p l e room_1 s m args below meth c T0 locs 2 11) (e0 : T0.heap = h) (N0 : Fr n0 locs) (Z0 : n0 ≤ h.size) (E_b254 : Exa Z h b254 "com/example/pure_mrtd/puremrtd/format/TlvReader") (F_b254_data : Fld Z h b254 "com/example/pure_mrtd/puremrtd/format/TlvReader" "data" "[B" (.ref b93)) (F_b254_position : Fld Z h b254 "com/example/pure_mrtd/puremrtd/format/TlvReader" "position" "I" (.int b254_position)) (g_b254 : n0 ≤ b254) (V_b93 : Arv Z h b93 b93_k .byte b93_n (b93_xs.map Value.int) (.int 0)) (ln_b93 : b93_xs.length = b93_n.toNatClampNeg) (g_b93 : n0 ≤ b93) (ne_b93_b254 : b93 ≠ b254) (hG : own_G v4 v5 v6 v7 v8 v9 b93_n) (hD : own_D v4 v5 v6 v8 b93_xs) (hP : b254_position = 0) (r : Int32) (hr : f0_263 v0 v1 v2 v4 v5 v6 v7 v8 v9 v10 b254_position b93_n b93_xs = r) :
    EndsIn p e below s 8 25 (Q0 n0 r) (T0.setTop (mkF m 263 #[.val (.int v0), .val (.int v1), .val (.long v2), .second, .val (.int v4), .val (.int v5), .val (.int v6), .val (.int v7), .val (.int v8), .val (.int v9), .val (.int v10), .val (.ref b93), .unset, .unset] [(.ref b254)])) := by
  obtain ⟨hx, hZ, hw, hby, hml, hret, hown, hnm, hlk⟩ := B
  unfold f0_263 at hr
  refine EndsIn.by (B := T0.setTop (mkF m 267 #[.val (.int v0), .val (.int v1), .val (.long v2), .second, .val (.int v4), .val (.int v5), .val (.int v6), .val (.int v7), .val (.int v8), .val (.int v9), .val (.int v10), .val (.ref b93), .val (.ref b254), .unset] [(.ref b254)])) (fun t k => ?_) ?_
  · show Steps p.tables e below (T0.setTop (mkF m 263 #[.val (.int v0), .val (.int v1), .val (.long v2), .second, .val (.int v4), .val (.int v5), .val (.int v6), .val (.int v7), .val (.int v8), .val (.int v9), .val (.int v10), .val (.ref b93), .unset, .unset] [(.ref b254)])) _
    refine XS.astore X0.here hx rfl (hb hby at_263) rfl rfl (l' := #[.val (.int v0), .val (.int v1), .val (.long v2), .second, .val (.int v4), .val (.int v5), .val (.int v6), .val (.int v7), .val (.int v8), .val (.int v9), .val (.int v10), .val (.ref b93), .val (.ref b254), .unset]) rfl ?_
    show Steps p.tables e below (T0.setTop (mkF m 265 #[.val (.int v0), .val (.int v1), .val (.long v2), .second, .val (.int v4), .val (.int v5), .val (.int v6), .val (.int v7), .val (.int v8), .val (.int v9), .val (.int v10), .val (.ref b93), .val (.ref b254), .unset] [])) _
    refine XS.aload X0.here hx rfl (hb hby at_265) rfl rfl ?_
    exact k
  -- pc 267: com/example/pure_mrtd/puremrtd/format/TlvReader.hasNext
  obtain ⟨cq13, kq13, q13a, q13b, q13c⟩ := isOf hZ e0 E_b254
  obtain ⟨_, _, ⟨T13, L13, k13, n13⟩, -, X13, ⟨Lc13, hQ13, l13, y13, z13⟩, st13⟩ := X0.virtualBack hx (y := (⟨"com/example/pure_mrtd/puremrtd/format/TlvReader", "hasNext", "()Z"⟩ : MethodName)) (z := (⟨"com/example/pure_mrtd/puremrtd/format/TlvReader", "hasNext", "()Z"⟩ : MethodName)) hown (mvT hZ (hw _ (List.mem_of_getElem? (i := 16) rfl))) (mvT hZ (hw _ (List.mem_of_getElem? (i := 17) rfl))) (notFace_of_selects (args := #[]) (mvT hZ (hw _ (List.mem_of_getElem? (i := 19) rfl)))) (mvT hZ (hw _ (List.mem_of_getElem? (i := 19) rfl))) (mvT hZ (hw _ (List.mem_of_getElem? (i := 18) rfl))) (by decide) (backOf (W := 0) (rm4 l Z a0 hw [] b254 b93 b254_position b93_k b93_n b93_xs h n0 Z0 E_b254 F_b254_data F_b254_position V_b93 ln_b93) hZ (hw _ (List.mem_of_getElem? (i := 20) rfl)) (hw _ (List.mem_of_getElem? (i := 7) rfl)) (by decide) (by decide)) q13a q13c (g := (mkF m 267 #[.val (.int v0), .val (.int v1), .val (.long v2), .second, .val (.int v4), .val (.int v5), .val (.int v6), .val (.int v7), .val (.int v8), .val (.int v9), .val (.int v10), .val (.ref b93), .val (.ref b254), .unset] [(.ref b254)])) rfl (by rw [hml]; rfl) (Steps.refl _) (argsL := []) (rest := []) (lenOf pd_2 rfl) rfl (by show 2 * 0 + _ ≤ _; exact Nat.le_of_eq rfl) (hb hby at_267) (fun _ _ => ⟨rfl, e0, (by decide : 2 + R4.cells ≤ _), (by decide : 11 + R4.slots ≤ _)⟩)
  dsimp only [Pt.U, Pt.locs, Pt.cells, Pt.slots] at X13 l13 y13 z13 st13 hQ13
  subst l13 y13 z13
  obtain ⟨rfl, Nq13, e13⟩ := hQ13
  have N13 := Fr.app N0 Nq13
  refine EndsIn.by (B := T13.setTop (mkF m 270 #[.val (.int v0), .val (.int v1), .val (.long v2), .second, .val (.int v4), .val (.int v5), .val (.int v6), .val (.int v7), .val (.int v8), .val (.int v9), .val (.int v10), .val (.ref b93), .val (.ref b254), .unset] [(.int (f4_0 b254_position b93_n b93_xs))])) (fun t k => st13.trans k) ?_
  refine EndsIn.by (B := T13.setTop (mkF m 273 #[.val (.int v0), .val (.int v1), .val (.long v2), .second, .val (.int v4), .val (.int v5), .val (.int v6), .val (.int v7), .val (.int v8), .val (.int v9), .val (.int v10), .val (.ref b93), .val (.ref b254), .unset] [(.int (1 : Int32)), (.int v4), (.int (f4_0 b254_position b93_n b93_xs))])) (fun t k => ?_) ?_
  · show Steps p.tables e below (T13.setTop (mkF m 270 #[.val (.int v0), .val (.int v1), .val (.long v2), .second, .val (.int v4), .val (.int v5), .val (.int v6), .val (.int v7), .val (.int v8), .val (.int v9), .val (.int v10), .val (.ref b93), .val (.ref b254), .unset] [(.int (f4_0 b254_position b93_n b93_xs))])) _
    refine XS.iload X13.here hx rfl (hb hby at_270) rfl  ?_
    show Steps p.tables e below (T13.setTop (mkF m 272 #[.val (.int v0), .val (.int v1), .val (.long v2), .second, .val (.int v4), .val (.int v5), .val (.int v6), .val (.int v7), .val (.int v8), .val (.int v9), .val (.int v10), .val (.ref b93), .val (.ref b254), .unset] [(.int v4), (.int (f4_0 b254_position b93_n b93_xs))])) _
    refine XS.iconst X13.here hx rfl (hb hby at_272) ?_
    exact k
  by_cases hc273 : v4 < (1 : Int32)
  · rw [if_pos hc273] at hr
    refine EndsIn.by (B := T13.setTop (mkF m 276 #[.val (.int v0), .val (.int v1), .val (.long v2), .second, .val (.int v4), .val (.int v5), .val (.int v6), .val (.int v7), .val (.int v8), .val (.int v9), .val (.int v10), .val (.ref b93), .val (.ref b254), .unset] [(.int (f4_0 b254_position b93_n b93_xs))])) (fun t k => ?_) ?_
    · show Steps p.tables e below (T13.setTop (mkF m 273 #[.val (.int v0), .val (.int v1), .val (.long v2), .second, .val (.int v4), .val (.int v5), .val (.int v6), .val (.int v7), .val (.int v8), .val (.int v9), .val (.int v10), .val (.ref b93), .val (.ref b254), .unset] [(.int (1 : Int32)), (.int v4), (.int (f4_0 b254_position b93_n b93_xs))])) _
      exact XS.icmpNo X13.here hx rfl (hb hby at_273) rfl (tlt hc273).2.1 k
    refine EndsIn.by (B := T13.setTop (mkF m 278 #[.val (.int v0), .val (.int v1), .val (.long v2), .second, .val (.int v4), .val (.int v5), .val (.int v6), .val (.int v7), .val (.int v8), .val (.int v9), .val (.int v10), .val (.ref b93), .val (.ref b254), .unset] [(.int v7), (.int (f4_0 b254_position b93_n b93_xs))])) (fun t k => ?_) ?_
    · show Steps p.tables e below (T13.setTop (mkF m 276 #[.val (.int v0), .val (.int v1), .val (.long v2), .second, .val (.int v4), .val (.int v5), .val (.int v6), .val (.int v7), .val (.int v8), .val (.int v9), .val (.int v10), .val (.ref b93), .val (.ref b254), .unset] [(.int (f4_0 b254_position b93_n b93_xs))])) _
      refine XS.iload X13.here hx rfl (hb hby at_276) rfl  ?_
      exact k
    by_cases hc278 : v7 = (0 : Int32)
    · rw [if_pos hc278] at hr
      refine EndsIn.by (B := T13.setTop (mkF m 285 #[.val (.int v0), .val (.int v1), .val (.long v2), .second, .val (.int v4), .val (.int v5), .val (.int v6), .val (.int v7), .val (.int v8), .val (.int v9), .val (.int v10), .val (.ref b93), .val (.ref b254), .unset] [(.int (f4_0 b254_position b93_n b93_xs))])) (fun t k => ?_) ?_
      · show Steps p.tables e below (T13.setTop (mkF m 278 #[.val (.int v0), .val (.int v1), .val (.long v2), .second, .val (.int v4), .val (.int v5), .val (.int v6), .val (.int v7), .val (.int v8), .val (.int v9), .val (.int v10), .val (.ref b93), .val (.ref b254), .unset] [(.int v7), (.int (f4_0 b254_position b93_n b93_xs))])) _
        exact XS.ifYes X13.here hx rfl (pc0 := 278) (pc' := 285) rfl (hb hby at_278) rfl ((if0 _ _).trans (teq hc278).1) (by decide) (by decide) k
      refine EndsIn.by (B := T13.setTop (mkF m 286 #[.val (.int v0), .val (.int v1), .val (.long v2), .second, .val (.int v4), .val (.int v5), .val (.int v6), .val (.int v7), .val (.int v8), .val (.int v9), .val (.int v10), .val (.ref b93), .val (.ref b254), .unset] [(.int (0 : Int32)), (.int (f4_0 b254_position b93_n b93_xs))])) (fun t k => ?_) ?_
      · show Steps p.tables e below (T13.setTop (mkF m 285 #[.val (.int v0), .val (.int v1), .val (.long v2), .second, .val (.int v4), .val (.int v5), .val (.int v6), .val (.int v7), .val (.int v8), .val (.int v9), .val (.int v10), .val (.ref b93), .val (.ref b254), .unset] [(.int (f4_0 b254_position b93_n b93_xs))])) _
        refine XS.iconst X13.here hx rfl (hb hby at_285) ?_
        exact k
      have hG_j : own_G v4 v5 v6 v7 v8 v9 b93_n := hG
      have hD_j : own_D v4 v5 v6 v8 b93_xs := hD
      have hP_j : b254_position = 0 := hP
      exact b0_286 ⟨hx, hZ, hw, hby, hml, hret, hown, hnm, hlk⟩ h0 n0 v0 v1 v2 v4 v5 v6 v7 v8 v9 v10 b93 b254 (0 : Int32) (f4_0 b254_position b93_n b93_xs) b254_position b93_k b93_n b93_xs X13 e13 N13 Z0 E_b254 F_b254_data F_b254_position g_b254 V_b93 ln_b93 g_b93 ne_b93_b254 hG_j hD_j hP_j _ hr
    · rw [if_neg hc278] at hr
      refine EndsIn.by (B := T13.setTop (mkF m 281 #[.val (.int v0), .val (.int v1), .val (.long v2), .second, .val (.int v4), .val (.int v5), .val (.int v6), .val (.int v7), .val (.int v8), .val (.int v9), .val (.int v10), .val (.ref b93), .val (.ref b254), .unset] [(.int (f4_0 b254_position b93_n b93_xs))])) (fun t k => ?_) ?_
      · show Steps p.tables e below (T13.setTop (mkF m 278 #[.val (.int v0), .val (.int v1), .val (.long v2), .second, .val (.int v4), .val (.int v5), .val (.int v6), .val (.int v7), .val (.int v8), .val (.int v9), .val (.int v10), .val (.ref b93), .val (.ref b254), .unset] [(.int v7), (.int (f4_0 b254_position b93_n b93_xs))])) _
        exact XS.ifNo X13.here hx rfl (hb hby at_278) rfl ((if0 _ _).trans (feq hc278).1) k
      have hG_j : own_G v4 v5 v6 v7 v8 v9 b93_n := hG
      have hD_j : own_D v4 v5 v6 v8 b93_xs := hD
      have hP_j : b254_position = 0 := hP
      exact b0_281 ⟨hx, hZ, hw, hby, hml, hret, hown, hnm, hlk⟩ h0 n0 v0 v1 v2 v4 v5 v6 v7 v8 v9 v10 b93 b254 (f4_0 b254_position b93_n b93_xs) b254_position b93_k b93_n b93_xs X13 e13 N13 Z0 E_b254 F_b254_data F_b254_position g_b254 V_b93 ln_b93 g_b93 ne_b93_b254 hG_j hD_j hP_j _ hr
  · rw [if_neg hc273] at hr
    refine EndsIn.by (B := T13.setTop (mkF m 281 #[.val (.int v0), .val (.int v1), .val (.long v2), .second, .val (.int v4), .val (.int v5), .val (.int v6), .val (.int v7), .val (.int v8), .val (.int v9), .val (.int v10), .val (.ref b93), .val (.ref b254), .unset] [(.int (f4_0 b254_position b93_n b93_xs))])) (fun t k => ?_) ?_
    · show Steps p.tables e below (T13.setTop (mkF m 273 #[.val (.int v0), .val (.int v1), .val (.long v2), .second, .val (.int v4), .val (.int v5), .val (.int v6), .val (.int v7), .val (.int v8), .val (.int v9), .val (.int v10), .val (.ref b93), .val (.ref b254), .unset] [(.int (1 : Int32)), (.int v4), (.int (f4_0 b254_position b93_n b93_xs))])) _
      exact XS.icmpYes X13.here hx rfl (pc0 := 273) (pc' := 281) rfl (hb hby at_273) rfl (flt hc273).2.1 (by decide) (by decide) k
    have hG_j : own_G v4 v5 v6 v7 v8 v9 b93_n := hG
    have hD_j : own_D v4 v5 v6 v8 b93_xs := hD
    have hP_j : b254_position = 0 := hP
    exact b0_281 ⟨hx, hZ, hw, hby, hml, hret, hown, hnm, hlk⟩ h0 n0 v0 v1 v2 v4 v5 v6 v7 v8 v9 v10 b93 b254 (f4_0 b254_position b93_n b93_xs) b254_position b93_k b93_n b93_xs X13 e13 N13 Z0 E_b254 F_b254_data F_b254_position g_b254 V_b93 ln_b93 g_b93 ne_b93_b254 hG_j hD_j hP_j _ hr
def f0_254 (v0 : Int32) (v1 : Int32) (v2 : Int64) (v4 : Int32) (v5 : Int32) (v6 : Int32) (v7 : Int32) (v8 : Int32) (v9 : Int32) (v10 : Int32) (b93_n : Int32) (b93_xs : List Int32) : Int32 := (f0_263 v0 v1 v2 v4 v5 v6 v7 v8 v9 v10 (f2_0 (0 : Int32)) b93_n b93_xs)
set_option maxRecDepth 65536 in
set_option maxHeartbeats 40000000 in
theorem b0_254 {p : Program} {l : Launch} {e : Env} {s : State} {m : MethodId} {args : Array Value} {below : List Frame} {meth : Method} {c : Code} {Z : State} {a0 : Array Value} (B : Ctx p Z s a0 m meth c "com/example/pure_mrtd/puremrtd/format/TlvReaderHasNextPinLaw" "law" code 14 (some .boolean)) {T0 : State} {locs : List Loc} {h : Heap} (h0 : Heap) (n0 : Nat) (v0 : Int32) (v1 : Int32) (v2 : Int64) (v4 : Int32) (v5 : Int32) (v6 : Int32) (v7 : Int32) (v8 : Int32) (v9 : Int32) (v10 : Int32) (b93 : Addr) (b93_k : ClassId) (b93_n : Int32) (b93_xs : List Int32) (X0 : Stand p l e room_1 s m args below meth c T0 locs 1 9) (e0 : T0.heap = h) (N0 : Fr n0 locs) (Z0 : n0 ≤ h.size) (V_b93 : Arv Z h b93 b93_k .byte b93_n (b93_xs.map Value.int) (.int 0)) (ln_b93 : b93_xs.length = b93_n.toNatClampNeg) (g_b93 : n0 ≤ b93) (hG : own_G v4 v5 v6 v7 v8 v9 b93_n) (hD : own_D v4 v5 v6 v8 b93_xs) (r : Int32) (hr : f0_254 v0 v1 v2 v4 v5 v6 v7 v8 v9 v10 b93_n b93_xs = r) :
    EndsIn p e below s 8 25 (Q0 n0 r) (T0.setTop (mkF m 254 #[.val (.int v0), .val (.int v1), .val (.long v2), .second, .val (.int v4), .val (.int v5), .val (.int v6), .val (.int v7), .val (.int v8), .val (.int v9), .val (.int v10), .val (.ref b93), .unset, .unset] [])) := by
  obtain ⟨hx, hZ, hw, hby, hml, hret, hown, hnm, hlk⟩ := B
  unfold f0_254 at hr
  obtain ⟨T11, h11, X11, e11, X11e, A11, D11, -, st11⟩ := newO X0 hx hZ hown (hw _ (List.mem_of_getElem? (i := 5) rfl)) (hw _ (List.mem_of_getElem? (i := 6) rfl)) (hw _ (List.mem_of_getElem? (i := 7) rfl)) e0 (g := (mkF m 254 #[.val (.int v0), .val (.int v1), .val (.long v2), .second, .val (.int v4), .val (.int v5), .val (.int v6), .val (.int v7), .val (.int v8), .val (.int v9), .val (.int v10), .val (.ref b93), .unset, .unset] [])) rfl (hb hby at_254) (by decide) (by decide)
  obtain ⟨b254, g11⟩ : ∃ z, z = h.size := ⟨_, rfl⟩
  rw [← g11] at A11 D11 st11
  have g_b254 : n0 ≤ b254 := Nat.le_trans Z0 (Nat.le_of_eq g11.symm)
  have ne_b93_b254 : b93 ≠ b254 := Nat.ne_of_lt (Nat.lt_of_lt_of_le V_b93.lt (Nat.le_of_eq g11.symm))
  have V_b93_11 := V_b93.ext X11e
  have Z11 : n0 ≤ h11.size := Nat.le_trans Z0 X11e.1
  have E_b254_11 := A11
  have F_b254_data_11 : Fld Z h11 b254 "com/example/pure_mrtd/puremrtd/format/TlvReader" "data" "[B" .null := D11 (Or.inr (hw _ (List.mem_of_getElem? (i := 15) rfl))) (ty := (.array .byte)) (by decide)
  have F_b254_position_11 : Fld Z h11 b254 "com/example/pure_mrtd/puremrtd/format/TlvReader" "position" "I" (.int (0 : Int32)) := D11 (Or.inl (hw _ (List.mem_of_getElem? (i := 22) rfl))) (ty := .int) (by decide)
  refine EndsIn.by (B := T11.setTop (mkF m 257 #[.val (.int v0), .val (.int v1), .val (.long v2), .second, .val (.int v4), .val (.int v5), .val (.int v6), .val (.int v7), .val (.int v8), .val (.int v9), .val (.int v10), .val (.ref b93), .unset, .unset] [(.ref b254)])) (fun t k => st11 t k) ?_
  refine EndsIn.by (B := T11.setTop (mkF m 260 #[.val (.int v0), .val (.int v1), .val (.long v2), .second, .val (.int v4), .val (.int v5), .val (.int v6), .val (.int v7), .val (.int v8), .val (.int v9), .val (.int v10), .val (.ref b93), .unset, .unset] [(.ref b93), (.ref b254), (.ref b254)])) (fun t k => ?_) ?_
  · show Steps p.tables e below (T11.setTop (mkF m 257 #[.val (.int v0), .val (.int v1), .val (.long v2), .second, .val (.int v4), .val (.int v5), .val (.int v6), .val (.int v7), .val (.int v8), .val (.int v9), .val (.int v10), .val (.ref b93), .unset, .unset] [(.ref b254)])) _
    refine XS.dup X11.here hx rfl (hb hby at_257) rfl rfl ?_
    show Steps p.tables e below (T11.setTop (mkF m 258 #[.val (.int v0), .val (.int v1), .val (.long v2), .second, .val (.int v4), .val (.int v5), .val (.int v6), .val (.int v7), .val (.int v8), .val (.int v9), .val (.int v10), .val (.ref b93), .unset, .unset] [(.ref b254), (.ref b254)])) _
    refine XS.aload X11.here hx rfl (hb hby at_258) rfl rfl ?_
    exact k
  -- pc 260: com/example/pure_mrtd/puremrtd/format/TlvReader.<init>
  obtain ⟨_, _, ⟨T12, L12, k12, n12⟩, -, X12, ⟨Lc12, hQ12, l12, y12, z12⟩, st12⟩ := X11.specialBack hx (y := (⟨"com/example/pure_mrtd/puremrtd/format/TlvReader", "<init>", "([B)V"⟩ : MethodName)) rfl hown (mvT hZ (hw _ (List.mem_of_getElem? (i := 8) rfl))) (mvT hZ (hw _ (List.mem_of_getElem? (i := 9) rfl))) (mvT hZ (hw _ (List.mem_of_getElem? (i := 10) rfl))) (by decide) (backOf (W := 1) (rm2 l Z a0 hw [] b254 b93 .null (0 : Int32) h11 n0 Z11 E_b254_11 F_b254_data_11 F_b254_position_11 g_b254) hZ (hw _ (List.mem_of_getElem? (i := 10) rfl)) (hw _ (List.mem_of_getElem? (i := 7) rfl)) (by decide) (by decide)) (g := (mkF m 260 #[.val (.int v0), .val (.int v1), .val (.long v2), .second, .val (.int v4), .val (.int v5), .val (.int v6), .val (.int v7), .val (.int v8), .val (.int v9), .val (.int v10), .val (.ref b93), .unset, .unset] [(.ref b93), (.ref b254), (.ref b254)])) rfl (by rw [hml]; rfl) (Steps.refl _) (a := b254) (argsL := [(.ref b93)]) (rest := [(.ref b254)]) (lenOf pd_1 rfl) rfl (by show 2 * 0 + _ ≤ _; exact Nat.le_of_eq rfl) (hb hby at_260) (fun _ _ => ⟨rfl, e11, (by decide : 2 + R2.cells ≤ _), (by decide : 11 + R2.slots ≤ _)⟩)
  dsimp only [Pt.U, Pt.locs, Pt.cells, Pt.slots] at X12 l12 y12 z12 st12 hQ12
  subst l12 y12 z12
  obtain ⟨rfl, Nq12, Kq12, E_b254_12, F_b254_data_12, F_b254_position_12⟩ := hQ12
  obtain ⟨h12, e12⟩ : ∃ z, T12.heap = z := ⟨_, rfl⟩
  rw [e12] at Kq12 E_b254_12 F_b254_data_12 F_b254_position_12
  have N12 := Fr.app N0 Nq12
  have Z12 : n0 ≤ h12.size := Nat.le_trans Z11 Kq12.1
  have V_b93_12 := V_b93_11.keep Kq12 (ninS ne_b93_b254 nin0)
  refine EndsIn.by (B := T12.setTop (mkF m 263 #[.val (.int v0), .val (.int v1), .val (.long v2), .second, .val (.int v4), .val (.int v5), .val (.int v6), .val (.int v7), .val (.int v8), .val (.int v9), .val (.int v10), .val (.ref b93), .unset, .unset] [(.ref b254)])) (fun t k => st12.trans k) ?_
  have hG_j : own_G v4 v5 v6 v7 v8 v9 b93_n := hG
  have hD_j : own_D v4 v5 v6 v8 b93_xs := hD
  have hP_j : (f2_0 (0 : Int32)) = 0 := rfl
  exact b0_263 ⟨hx, hZ, hw, hby, hml, hret, hown, hnm, hlk⟩ h0 n0 v0 v1 v2 v4 v5 v6 v7 v8 v9 v10 b93 b254 (f2_0 (0 : Int32)) b93_k b93_n b93_xs X12 e12 N12 Z12 E_b254_12 F_b254_data_12 F_b254_position_12 g_b254 V_b93_12 ln_b93 g_b93 ne_b93_b254 hG_j hD_j hP_j _ hr
def f0_221 (v0 : Int32) (v1 : Int32) (v2 : Int64) (v4 : Int32) (v5 : Int32) (v6 : Int32) (v7 : Int32) (v8 : Int32) (v9 : Int32) (v10 : Int32) (b93_n : Int32) (b93_xs : List Int32) : Int32 := (if v4 < (2 : Int32) then (f0_254 v0 v1 v2 v4 v5 v6 v7 v8 v9 v10 b93_n b93_xs) else (f0_254 v0 v1 v2 v4 v5 v6 v7 v8 v9 v10 b93_n ((b93_xs.set (v8).toNatClampNeg (((f5_0 (((v1.toUInt32 >>> ((8 : Int32) &&& 31).toUInt32).toInt32) &&& (255 : Int32))).toInt8.toInt32).toInt8.toInt32)).set ((v8 + (1 : Int32))).toNatClampNeg ((v6.toInt8.toInt32).toInt8.toInt32))))
set_option maxRecDepth 65536 in
set_option maxHeartbeats 40000000 in
theorem b0_221 {p : Program} {l : Launch} {e : Env} {s : State} {m : MethodId} {args : Array Value} {below : List Frame} {meth : Method} {c : Code} {Z : State} {a0 : Array Value} (B : Ctx p Z s a0 m meth c "com/example/pure_mrtd/puremrtd/format/TlvReaderHasNextPinLaw" "law" code 14 (some .boolean)) {T0 : State} {locs : List Loc} {h : Heap} (h0 : Heap) (n0 : Nat) (v0 : Int32) (v1 : Int32) (v2 : Int64) (v4 : Int32) (v5 : Int32) (v6 : Int32) (v7 : Int32) (v8 : Int32) (v9 : Int32) (v10 : Int32) (b93 : Addr) (b93_k : ClassId) (b93_n : Int32) (b93_xs : List Int32) (X0 : Stand p l e room_1 s m args below meth c T0 locs 1 9) (e0 : T0.heap = h) (N0 : Fr n0 locs) (Z0 : n0 ≤ h.size) (V_b93 : Arv Z h b93 b93_k .byte b93_n (b93_xs.map Value.int) (.int 0)) (ln_b93 : b93_xs.length = b93_n.toNatClampNeg) (g_b93 : n0 ≤ b93) (hG : own_G v4 v5 v6 v7 v8 v9 b93_n) (hD1 : own_D1 v4 v5 b93_xs) (r : Int32) (hr : f0_221 v0 v1 v2 v4 v5 v6 v7 v8 v9 v10 b93_n b93_xs = r) :
    EndsIn p e below s 8 25 (Q0 n0 r) (T0.setTop (mkF m 221 #[.val (.int v0), .val (.int v1), .val (.long v2), .second, .val (.int v4), .val (.int v5), .val (.int v6), .val (.int v7), .val (.int v8), .val (.int v9), .val (.int v10), .val (.ref b93), .unset, .unset] [])) := by
  obtain ⟨hx, hZ, hw, hby, hml, hret, hown, hnm, hlk⟩ := B
  unfold f0_221 at hr
  refine EndsIn.by (B := T0.setTop (mkF m 224 #[.val (.int v0), .val (.int v1), .val (.long v2), .second, .val (.int v4), .val (.int v5), .val (.int v6), .val (.int v7), .val (.int v8), .val (.int v9), .val (.int v10), .val (.ref b93), .unset, .unset] [(.int (2 : Int32)), (.int v4)])) (fun t k => ?_) ?_
  · show Steps p.tables e below (T0.setTop (mkF m 221 #[.val (.int v0), .val (.int v1), .val (.long v2), .second, .val (.int v4), .val (.int v5), .val (.int v6), .val (.int v7), .val (.int v8), .val (.int v9), .val (.int v10), .val (.ref b93), .unset, .unset] [])) _
    refine XS.iload X0.here hx rfl (hb hby at_221) rfl  ?_
    show Steps p.tables e below (T0.setTop (mkF m 223 #[.val (.int v0), .val (.int v1), .val (.long v2), .second, .val (.int v4), .val (.int v5), .val (.int v6), .val (.int v7), .val (.int v8), .val (.int v9), .val (.int v10), .val (.ref b93), .unset, .unset] [(.int v4)])) _
    refine XS.iconst X0.here hx rfl (hb hby at_223) ?_
    exact k
  by_cases hc224 : v4 < (2 : Int32)
  · rw [if_pos hc224] at hr
    refine EndsIn.by (B := T0.setTop (mkF m 254 #[.val (.int v0), .val (.int v1), .val (.long v2), .second, .val (.int v4), .val (.int v5), .val (.int v6), .val (.int v7), .val (.int v8), .val (.int v9), .val (.int v10), .val (.ref b93), .unset, .unset] [])) (fun t k => ?_) ?_
    · show Steps p.tables e below (T0.setTop (mkF m 224 #[.val (.int v0), .val (.int v1), .val (.long v2), .second, .val (.int v4), .val (.int v5), .val (.int v6), .val (.int v7), .val (.int v8), .val (.int v9), .val (.int v10), .val (.ref b93), .unset, .unset] [(.int (2 : Int32)), (.int v4)])) _
      exact XS.icmpYes X0.here hx rfl (pc0 := 224) (pc' := 254) rfl (hb hby at_224) rfl (tlt hc224).1 (by decide) (by decide) k
    have hG_j : own_G v4 v5 v6 v7 v8 v9 b93_n := hG
    have hD_j : own_D v4 v5 v6 v8 b93_xs := (by first | exact ⟨hD1, own_d2a hc224⟩ | exact own_d2b hG ln_b93 hD1 hc224)
    exact b0_254 ⟨hx, hZ, hw, hby, hml, hret, hown, hnm, hlk⟩ h0 n0 v0 v1 v2 v4 v5 v6 v7 v8 v9 v10 b93 b93_k b93_n b93_xs X0 e0 N0 Z0 V_b93 ln_b93 g_b93 hG_j hD_j _ hr
  · rw [if_neg hc224] at hr
    refine EndsIn.by (B := T0.setTop (mkF m 227 #[.val (.int v0), .val (.int v1), .val (.long v2), .second, .val (.int v4), .val (.int v5), .val (.int v6), .val (.int v7), .val (.int v8), .val (.int v9), .val (.int v10), .val (.ref b93), .unset, .unset] [])) (fun t k => ?_) ?_
    · show Steps p.tables e below (T0.setTop (mkF m 224 #[.val (.int v0), .val (.int v1), .val (.long v2), .second, .val (.int v4), .val (.int v5), .val (.int v6), .val (.int v7), .val (.int v8), .val (.int v9), .val (.int v10), .val (.ref b93), .unset, .unset] [(.int (2 : Int32)), (.int v4)])) _
      exact XS.icmpNo X0.here hx rfl (hb hby at_224) rfl (flt hc224).1 k
    refine EndsIn.by (B := T0.setTop (mkF m 239 #[.val (.int v0), .val (.int v1), .val (.long v2), .second, .val (.int v4), .val (.int v5), .val (.int v6), .val (.int v7), .val (.int v8), .val (.int v9), .val (.int v10), .val (.ref b93), .unset, .unset] [(.int (((v1.toUInt32 >>> ((8 : Int32) &&& 31).toUInt32).toInt32) &&& (255 : Int32))), (.int v8), (.ref b93)])) (fun t k => ?_) ?_
    · show Steps p.tables e below (T0.setTop (mkF m 227 #[.val (.int v0), .val (.int v1), .val (.long v2), .second, .val (.int v4), .val (.int v5), .val (.int v6), .val (.int v7), .val (.int v8), .val (.int v9), .val (.int v10), .val (.ref b93), .unset, .unset] [])) _
      refine XS.aload X0.here hx rfl (hb hby at_227) rfl rfl ?_
      show Steps p.tables e below (T0.setTop (mkF m 229 #[.val (.int v0), .val (.int v1), .val (.long v2), .second, .val (.int v4), .val (.int v5), .val (.int v6), .val (.int v7), .val (.int v8), .val (.int v9), .val (.int v10), .val (.ref b93), .unset, .unset] [(.ref b93)])) _
      refine XS.iload X0.here hx rfl (hb hby at_229) rfl  ?_
      show Steps p.tables e below (T0.setTop (mkF m 231 #[.val (.int v0), .val (.int v1), .val (.long v2), .second, .val (.int v4), .val (.int v5), .val (.int v6), .val (.int v7), .val (.int v8), .val (.int v9), .val (.int v10), .val (.ref b93), .unset, .unset] [(.int v8), (.ref b93)])) _
      refine XS.iloadN X0.here hx rfl (hb hby at_231) rfl  ?_
      show Steps p.tables e below (T0.setTop (mkF m 232 #[.val (.int v0), .val (.int v1), .val (.long v2), .second, .val (.int v4), .val (.int v5), .val (.int v6), .val (.int v7), .val (.int v8), .val (.int v9), .val (.int v10), .val (.ref b93), .unset, .unset] [(.int v1), (.int v8), (.ref b93)])) _
      refine XS.bipush X0.here hx rfl (hb hby at_232) ?_
      show Steps p.tables e below (T0.setTop (mkF m 234 #[.val (.int v0), .val (.int v1), .val (.long v2), .second, .val (.int v4), .val (.int v5), .val (.int v6), .val (.int v7), .val (.int v8), .val (.int v9), .val (.int v10), .val (.ref b93), .unset, .unset] [(.int (8 : Int32)), (.int v1), (.int v8), (.ref b93)])) _
      refine XS.iushr X0.here hx rfl (hb hby at_234) rfl ?_
      show Steps p.tables e below (T0.setTop (mkF m 235 #[.val (.int v0), .val (.int v1), .val (.long v2), .second, .val (.int v4), .val (.int v5), .val (.int v6), .val (.int v7), .val (.int v8), .val (.int v9), .val (.int v10), .val (.ref b93), .unset, .unset] [(.int ((v1.toUInt32 >>> ((8 : Int32) &&& 31).toUInt32).toInt32)), (.int v8), (.ref b93)])) _
      refine XS.sipush X0.here hx rfl (hb hby at_235) ?_
      show Steps p.tables e below (T0.setTop (mkF m 238 #[.val (.int v0), .val (.int v1), .val (.long v2), .second, .val (.int v4), .val (.int v5), .val (.int v6), .val (.int v7), .val (.int v8), .val (.int v9), .val (.int v10), .val (.ref b93), .unset, .unset] [(.int (255 : Int32)), (.int ((v1.toUInt32 >>> ((8 : Int32) &&& 31).toUInt32).toInt32)), (.int v8), (.ref b93)])) _
      refine XS.iand X0.here hx rfl (hb hby at_238) rfl ?_
      exact k
    -- pc 239: com/example/pure_mrtd/puremrtd/format/TlvReaderHasNextPinLaw.oneByteTag
    obtain ⟨_, _, ⟨T19, L19, k19, n19⟩, -, X19, ⟨Lc19, hQ19, l19, y19, z19⟩, st19⟩ := Jvm.LawKit.callS X0 hx (y := (⟨"com/example/pure_mrtd/puremrtd/format/TlvReaderHasNextPinLaw", "oneByteTag", "(I)I"⟩ : MethodName)) hown (mvT hZ (hw _ (List.mem_of_getElem? (i := 23) rfl))) (mvT hZ (hw _ (List.mem_of_getElem? (i := 24) rfl))) (mvT hZ (hw _ (List.mem_of_getElem? (i := 3) rfl))) (mvT hZ (hw _ (List.mem_of_getElem? (i := 25) rfl))) (by decide) (backOf (W := 2) (rm5 l Z a0 hw [] (((v1.toUInt32 >>> ((8 : Int32) &&& 31).toUInt32).toInt32) &&& (255 : Int32)) h n0 Z0 ) hZ (hw _ (List.mem_of_getElem? (i := 25) rfl)) (hw _ (List.mem_of_getElem? (i := 3) rfl)) (by decide) (by decide)) (g := (mkF m 239 #[.val (.int v0), .val (.int v1), .val (.long v2), .second, .val (.int v4), .val (.int v5), .val (.int v6), .val (.int v7), .val (.int v8), .val (.int v9), .val (.int v10), .val (.ref b93), .unset, .unset] [(.int (((v1.toUInt32 >>> ((8 : Int32) &&& 31).toUInt32).toInt32) &&& (255 : Int32))), (.int v8), (.ref b93)])) rfl (by rw [hml]; rfl) (argsL := [(.int (((v1.toUInt32 >>> ((8 : Int32) &&& 31).toUInt32).toInt32) &&& (255 : Int32)))]) (rest := [(.int v8), (.ref b93)]) (lenOf pd_3 rfl) rfl (by show 2 * 0 + _ ≤ _; exact Nat.le_of_eq rfl) (hb hby at_239) (fun _ _ => ⟨rfl, e0, (by decide : 1 + R5.cells ≤ _), (by decide : 9 + R5.slots ≤ _)⟩)
    dsimp only [Pt.U, Pt.locs, Pt.cells, Pt.slots] at X19 l19 y19 z19 st19 hQ19
    subst l19 y19 z19
    obtain ⟨rfl, Nq19, e19⟩ := hQ19
    have N19 := Fr.app N0 Nq19
    refine EndsIn.by (B := T19.setTop (mkF m 242 #[.val (.int v0), .val (.int v1), .val (.long v2), .second, .val (.int v4), .val (.int v5), .val (.int v6), .val (.int v7), .val (.int v8), .val (.int v9), .val (.int v10), .val (.ref b93), .unset, .unset] [(.int (f5_0 (((v1.toUInt32 >>> ((8 : Int32) &&& 31).toUInt32).toInt32) &&& (255 : Int32)))), (.int v8), (.ref b93)])) (fun t k => st19 t k) ?_
    refine EndsIn.by (B := T19.setTop (mkF m 243 #[.val (.int v0), .val (.int v1), .val (.long v2), .second, .val (.int v4), .val (.int v5), .val (.int v6), .val (.int v7), .val (.int v8), .val (.int v9), .val (.int v10), .val (.ref b93), .unset, .unset] [(.int ((f5_0 (((v1.toUInt32 >>> ((8 : Int32) &&& 31).toUInt32).toInt32) &&& (255 : Int32))).toInt8.toInt32)), (.int v8), (.ref b93)])) (fun t k => ?_) ?_
    · show Steps p.tables e below (T19.setTop (mkF m 242 #[.val (.int v0), .val (.int v1), .val (.long v2), .second, .val (.int v4), .val (.int v5), .val (.int v6), .val (.int v7), .val (.int v8), .val (.int v9), .val (.int v10), .val (.ref b93), .unset, .unset] [(.int (f5_0 (((v1.toUInt32 >>> ((8 : Int32) &&& 31).toUInt32).toInt32) &&& (255 : Int32)))), (.int v8), (.ref b93)])) _
      refine XS.i2b X19.here hx rfl (hb hby at_242) rfl ?_
      exact k
    have hin20 : ¬ (v8 < 0) ∧ v8 < b93_n := own_b2 hG hc224
    obtain ⟨cl20, Ar20, hi20, q20⟩ := own_open V_b93 hin20
    obtain ⟨T20, h20, X20, e20, W20, st20⟩ := stB X19 hx hZ e19 Ar20 (j := v8) hi20 (g := (mkF m 243 #[.val (.int v0), .val (.int v1), .val (.long v2), .second, .val (.int v4), .val (.int v5), .val (.int v6), .val (.int v7), .val (.int v8), .val (.int v9), .val (.int v10), .val (.ref b93), .unset, .unset] [(.int ((f5_0 (((v1.toUInt32 >>> ((8 : Int32) &&& 31).toUInt32).toInt32) &&& (255 : Int32))).toInt8.toInt32)), (.int v8), (.ref b93)])) rfl rfl (hb hby at_243)
    obtain ⟨V_b93_20, ln_b93_20⟩ : Arv Z h20 b93 b93_k .byte b93_n ((b93_xs.set (v8).toNatClampNeg (((f5_0 (((v1.toUInt32 >>> ((8 : Int32) &&& 31).toUInt32).toInt32) &&& (255 : Int32))).toInt8.toInt32).toInt8.toInt32)).map Value.int) (.int 0) ∧ (b93_xs.set (v8).toNatClampNeg (((f5_0 (((v1.toUInt32 >>> ((8 : Int32) &&& 31).toUInt32).toInt32) &&& (255 : Int32))).toInt8.toInt32).toInt8.toInt32)).length = b93_n.toNatClampNeg := own_setI V_b93 ln_b93 hin20 W20 (fits_nar_byte _) (v8).toNatClampNeg rfl
    have N20 := Fr.snoc X20 N19 g_b93
    have Z20 : n0 ≤ h20.size := Nat.le_trans Z0 (Nat.le_of_eq W20.size.symm)
    refine EndsIn.by (B := T20.setTop (mkF m 244 #[.val (.int v0), .val (.int v1), .val (.long v2), .second, .val (.int v4), .val (.int v5), .val (.int v6), .val (.int v7), .val (.int v8), .val (.int v9), .val (.int v10), .val (.ref b93), .unset, .unset] [])) (fun t k => st20 t k) ?_
    refine EndsIn.by (B := T20.setTop (mkF m 253 #[.val (.int v0), .val (.int v1), .val (.long v2), .second, .val (.int v4), .val (.int v5), .val (.int v6), .val (.int v7), .val (.int v8), .val (.int v9), .val (.int v10), .val (.ref b93), .unset, .unset] [(.int (v6.toInt8.toInt32)), (.int (v8 + (1 : Int32))), (.ref b93)])) (fun t k => ?_) ?_
    · show Steps p.tables e below (T20.setTop (mkF m 244 #[.val (.int v0), .val (.int v1), .val (.long v2), .second, .val (.int v4), .val (.int v5), .val (.int v6), .val (.int v7), .val (.int v8), .val (.int v9), .val (.int v10), .val (.ref b93), .unset, .unset] [])) _
      refine XS.aload X20.here hx rfl (hb hby at_244) rfl rfl ?_
      show Steps p.tables e below (T20.setTop (mkF m 246 #[.val (.int v0), .val (.int v1), .val (.long v2), .second, .val (.int v4), .val (.int v5), .val (.int v6), .val (.int v7), .val (.int v8), .val (.int v9), .val (.int v10), .val (.ref b93), .unset, .unset] [(.ref b93)])) _
      refine XS.iload X20.here hx rfl (hb hby at_246) rfl  ?_
      show Steps p.tables e below (T20.setTop (mkF m 248 #[.val (.int v0), .val (.int v1), .val (.long v2), .second, .val (.int v4), .val (.int v5), .val (.int v6), .val (.int v7), .val (.int v8), .val (.int v9), .val (.int v10), .val (.ref b93), .unset, .unset] [(.int v8), (.ref b93)])) _
      refine XS.iconst X20.here hx rfl (hb hby at_248) ?_
      show Steps p.tables e below (T20.setTop (mkF m 249 #[.val (.int v0), .val (.int v1), .val (.long v2), .second, .val (.int v4), .val (.int v5), .val (.int v6), .val (.int v7), .val (.int v8), .val (.int v9), .val (.int v10), .val (.ref b93), .unset, .unset] [(.int (1 : Int32)), (.int v8), (.ref b93)])) _
      refine XS.iadd X20.here hx rfl (hb hby at_249) rfl ?_
      show Steps p.tables e below (T20.setTop (mkF m 250 #[.val (.int v0), .val (.int v1), .val (.long v2), .second, .val (.int v4), .val (.int v5), .val (.int v6), .val (.int v7), .val (.int v8), .val (.int v9), .val (.int v10), .val (.ref b93), .unset, .unset] [(.int (v8 + (1 : Int32))), (.ref b93)])) _
      refine XS.iload X20.here hx rfl (hb hby at_250) rfl  ?_
      show Steps p.tables e below (T20.setTop (mkF m 252 #[.val (.int v0), .val (.int v1), .val (.long v2), .second, .val (.int v4), .val (.int v5), .val (.int v6), .val (.int v7), .val (.int v8), .val (.int v9), .val (.int v10), .val (.ref b93), .unset, .unset] [(.int v6), (.int (v8 + (1 : Int32))), (.ref b93)])) _
      refine XS.i2b X20.here hx rfl (hb hby at_252) rfl ?_
      exact k
    have hin21 : ¬ ((v8 + (1 : Int32)) < 0) ∧ (v8 + (1 : Int32)) < b93_n := own_b3 hG hc224
    obtain ⟨cl21, Ar21, hi21, q21⟩ := own_open V_b93_20 hin21
    obtain ⟨T21, h21, X21, e21, W21, st21⟩ := stB X20 hx hZ e20 Ar21 (j := (v8 + (1 : Int32))) hi21 (g := (mkF m 253 #[.val (.int v0), .val (.int v1), .val (.long v2), .second, .val (.int v4), .val (.int v5), .val (.int v6), .val (.int v7), .val (.int v8), .val (.int v9), .val (.int v10), .val (.ref b93), .unset, .unset] [(.int (v6.toInt8.toInt32)), (.int (v8 + (1 : Int32))), (.ref b93)])) rfl rfl (hb hby at_253)
    obtain ⟨V_b93_21, ln_b93_21⟩ : Arv Z h21 b93 b93_k .byte b93_n (((b93_xs.set (v8).toNatClampNeg (((f5_0 (((v1.toUInt32 >>> ((8 : Int32) &&& 31).toUInt32).toInt32) &&& (255 : Int32))).toInt8.toInt32).toInt8.toInt32)).set ((v8 + (1 : Int32))).toNatClampNeg ((v6.toInt8.toInt32).toInt8.toInt32)).map Value.int) (.int 0) ∧ ((b93_xs.set (v8).toNatClampNeg (((f5_0 (((v1.toUInt32 >>> ((8 : Int32) &&& 31).toUInt32).toInt32) &&& (255 : Int32))).toInt8.toInt32).toInt8.toInt32)).set ((v8 + (1 : Int32))).toNatClampNeg ((v6.toInt8.toInt32).toInt8.toInt32)).length = b93_n.toNatClampNeg := own_setI V_b93_20 ln_b93_20 hin21 W21 (fits_nar_byte _) ((v8 + (1 : Int32))).toNatClampNeg rfl
    have N21 := Fr.snoc X21 N20 g_b93
    have Z21 : n0 ≤ h21.size := Nat.le_trans Z20 (Nat.le_of_eq W21.size.symm)
    refine EndsIn.by (B := T21.setTop (mkF m 254 #[.val (.int v0), .val (.int v1), .val (.long v2), .second, .val (.int v4), .val (.int v5), .val (.int v6), .val (.int v7), .val (.int v8), .val (.int v9), .val (.int v10), .val (.ref b93), .unset, .unset] [])) (fun t k => st21 t k) ?_
    have hG_j : own_G v4 v5 v6 v7 v8 v9 b93_n := hG
    have hD_j : own_D v4 v5 v6 v8 ((b93_xs.set (v8).toNatClampNeg (((f5_0 (((v1.toUInt32 >>> ((8 : Int32) &&& 31).toUInt32).toInt32) &&& (255 : Int32))).toInt8.toInt32).toInt8.toInt32)).set ((v8 + (1 : Int32))).toNatClampNeg ((v6.toInt8.toInt32).toInt8.toInt32)) := (by first | exact ⟨hD1, own_d2a hc224⟩ | exact own_d2b hG ln_b93 hD1 hc224)
    exact b0_254 ⟨hx, hZ, hw, hby, hml, hret, hown, hnm, hlk⟩ h0 n0 v0 v1 v2 v4 v5 v6 v7 v8 v9 v10 b93 b93_k b93_n ((b93_xs.set (v8).toNatClampNeg (((f5_0 (((v1.toUInt32 >>> ((8 : Int32) &&& 31).toUInt32).toInt32) &&& (255 : Int32))).toInt8.toInt32).toInt8.toInt32)).set ((v8 + (1 : Int32))).toNatClampNeg ((v6.toInt8.toInt32).toInt8.toInt32)) X21 e21 N21 Z21 V_b93_21 ln_b93_21 g_b93 hG_j hD_j _ hr
def f0_195 (v0 : Int32) (v1 : Int32) (v2 : Int64) (v4 : Int32) (v5 : Int32) (v6 : Int32) (v7 : Int32) (v8 : Int32) (v9 : Int32) (v10 : Int32) (b93_n : Int32) (b93_xs : List Int32) : Int32 := (if v4 < (1 : Int32) then (f0_221 v0 v1 v2 v4 v5 v6 v7 v8 v9 v10 b93_n b93_xs) else (f0_221 v0 v1 v2 v4 v5 v6 v7 v8 v9 v10 b93_n ((b93_xs.set 0 (((f5_0 (v1 &&& (255 : Int32))).toInt8.toInt32).toInt8.toInt32)).set 1 ((v5.toInt8.toInt32).toInt8.toInt32))))
set_option maxRecDepth 65536 in
set_option maxHeartbeats 40000000 in
theorem b0_195 {p : Program} {l : Launch} {e : Env} {s : State} {m : MethodId} {args : Array Value} {below : List Frame} {meth : Method} {c : Code} {Z : State} {a0 : Array Value} (B : Ctx p Z s a0 m meth c "com/example/pure_mrtd/puremrtd/format/TlvReaderHasNextPinLaw" "law" code 14 (some .boolean)) {T0 : State} {locs : List Loc} {h : Heap} (h0 : Heap) (n0 : Nat) (v0 : Int32) (v1 : Int32) (v2 : Int64) (v4 : Int32) (v5 : Int32) (v6 : Int32) (v7 : Int32) (v8 : Int32) (v9 : Int32) (v10 : Int32) (b93 : Addr) (b93_k : ClassId) (b93_n : Int32) (b93_xs : List Int32) (X0 : Stand p l e room_1 s m args below meth c T0 locs 1 9) (e0 : T0.heap = h) (N0 : Fr n0 locs) (Z0 : n0 ≤ h.size) (V_b93 : Arv Z h b93 b93_k .byte b93_n (b93_xs.map Value.int) (.int 0)) (ln_b93 : b93_xs.length = b93_n.toNatClampNeg) (g_b93 : n0 ≤ b93) (hG : own_G v4 v5 v6 v7 v8 v9 b93_n) (r : Int32) (hr : f0_195 v0 v1 v2 v4 v5 v6 v7 v8 v9 v10 b93_n b93_xs = r) :
    EndsIn p e below s 8 25 (Q0 n0 r) (T0.setTop (mkF m 195 #[.val (.int v0), .val (.int v1), .val (.long v2), .second, .val (.int v4), .val (.int v5), .val (.int v6), .val (.int v7), .val (.int v8), .val (.int v9), .val (.int v10), .val (.ref b93), .unset, .unset] [])) := by
  obtain ⟨hx, hZ, hw, hby, hml, hret, hown, hnm, hlk⟩ := B
  unfold f0_195 at hr
  refine EndsIn.by (B := T0.setTop (mkF m 198 #[.val (.int v0), .val (.int v1), .val (.long v2), .second, .val (.int v4), .val (.int v5), .val (.int v6), .val (.int v7), .val (.int v8), .val (.int v9), .val (.int v10), .val (.ref b93), .unset, .unset] [(.int (1 : Int32)), (.int v4)])) (fun t k => ?_) ?_
  · show Steps p.tables e below (T0.setTop (mkF m 195 #[.val (.int v0), .val (.int v1), .val (.long v2), .second, .val (.int v4), .val (.int v5), .val (.int v6), .val (.int v7), .val (.int v8), .val (.int v9), .val (.int v10), .val (.ref b93), .unset, .unset] [])) _
    refine XS.iload X0.here hx rfl (hb hby at_195) rfl  ?_
    show Steps p.tables e below (T0.setTop (mkF m 197 #[.val (.int v0), .val (.int v1), .val (.long v2), .second, .val (.int v4), .val (.int v5), .val (.int v6), .val (.int v7), .val (.int v8), .val (.int v9), .val (.int v10), .val (.ref b93), .unset, .unset] [(.int v4)])) _
    refine XS.iconst X0.here hx rfl (hb hby at_197) ?_
    exact k
  by_cases hc198 : v4 < (1 : Int32)
  · rw [if_pos hc198] at hr
    refine EndsIn.by (B := T0.setTop (mkF m 221 #[.val (.int v0), .val (.int v1), .val (.long v2), .second, .val (.int v4), .val (.int v5), .val (.int v6), .val (.int v7), .val (.int v8), .val (.int v9), .val (.int v10), .val (.ref b93), .unset, .unset] [])) (fun t k => ?_) ?_
    · show Steps p.tables e below (T0.setTop (mkF m 198 #[.val (.int v0), .val (.int v1), .val (.long v2), .second, .val (.int v4), .val (.int v5), .val (.int v6), .val (.int v7), .val (.int v8), .val (.int v9), .val (.int v10), .val (.ref b93), .unset, .unset] [(.int (1 : Int32)), (.int v4)])) _
      exact XS.icmpYes X0.here hx rfl (pc0 := 198) (pc' := 221) rfl (hb hby at_198) rfl (tlt hc198).1 (by decide) (by decide) k
    have hG_j : own_G v4 v5 v6 v7 v8 v9 b93_n := hG
    have hD1_j : own_D1 v4 v5 b93_xs := (by first | exact own_d1a hc198 | exact own_d1b hG ln_b93 hc198)
    exact b0_221 ⟨hx, hZ, hw, hby, hml, hret, hown, hnm, hlk⟩ h0 n0 v0 v1 v2 v4 v5 v6 v7 v8 v9 v10 b93 b93_k b93_n b93_xs X0 e0 N0 Z0 V_b93 ln_b93 g_b93 hG_j hD1_j _ hr
  · rw [if_neg hc198] at hr
    refine EndsIn.by (B := T0.setTop (mkF m 201 #[.val (.int v0), .val (.int v1), .val (.long v2), .second, .val (.int v4), .val (.int v5), .val (.int v6), .val (.int v7), .val (.int v8), .val (.int v9), .val (.int v10), .val (.ref b93), .unset, .unset] [])) (fun t k => ?_) ?_
    · show Steps p.tables e below (T0.setTop (mkF m 198 #[.val (.int v0), .val (.int v1), .val (.long v2), .second, .val (.int v4), .val (.int v5), .val (.int v6), .val (.int v7), .val (.int v8), .val (.int v9), .val (.int v10), .val (.ref b93), .unset, .unset] [(.int (1 : Int32)), (.int v4)])) _
      exact XS.icmpNo X0.here hx rfl (hb hby at_198) rfl (flt hc198).1 k
    refine EndsIn.by (B := T0.setTop (mkF m 209 #[.val (.int v0), .val (.int v1), .val (.long v2), .second, .val (.int v4), .val (.int v5), .val (.int v6), .val (.int v7), .val (.int v8), .val (.int v9), .val (.int v10), .val (.ref b93), .unset, .unset] [(.int (v1 &&& (255 : Int32))), (.int (0 : Int32)), (.ref b93)])) (fun t k => ?_) ?_
    · show Steps p.tables e below (T0.setTop (mkF m 201 #[.val (.int v0), .val (.int v1), .val (.long v2), .second, .val (.int v4), .val (.int v5), .val (.int v6), .val (.int v7), .val (.int v8), .val (.int v9), .val (.int v10), .val (.ref b93), .unset, .unset] [])) _
      refine XS.aload X0.here hx rfl (hb hby at_201) rfl rfl ?_
      show Steps p.tables e below (T0.setTop (mkF m 203 #[.val (.int v0), .val (.int v1), .val (.long v2), .second, .val (.int v4), .val (.int v5), .val (.int v6), .val (.int v7), .val (.int v8), .val (.int v9), .val (.int v10), .val (.ref b93), .unset, .unset] [(.ref b93)])) _
      refine XS.iconst X0.here hx rfl (hb hby at_203) ?_
      show Steps p.tables e below (T0.setTop (mkF m 204 #[.val (.int v0), .val (.int v1), .val (.long v2), .second, .val (.int v4), .val (.int v5), .val (.int v6), .val (.int v7), .val (.int v8), .val (.int v9), .val (.int v10), .val (.ref b93), .unset, .unset] [(.int (0 : Int32)), (.ref b93)])) _
      refine XS.iloadN X0.here hx rfl (hb hby at_204) rfl  ?_
      show Steps p.tables e below (T0.setTop (mkF m 205 #[.val (.int v0), .val (.int v1), .val (.long v2), .second, .val (.int v4), .val (.int v5), .val (.int v6), .val (.int v7), .val (.int v8), .val (.int v9), .val (.int v10), .val (.ref b93), .unset, .unset] [(.int v1), (.int (0 : Int32)), (.ref b93)])) _
      refine XS.sipush X0.here hx rfl (hb hby at_205) ?_
      show Steps p.tables e below (T0.setTop (mkF m 208 #[.val (.int v0), .val (.int v1), .val (.long v2), .second, .val (.int v4), .val (.int v5), .val (.int v6), .val (.int v7), .val (.int v8), .val (.int v9), .val (.int v10), .val (.ref b93), .unset, .unset] [(.int (255 : Int32)), (.int v1), (.int (0 : Int32)), (.ref b93)])) _
      refine XS.iand X0.here hx rfl (hb hby at_208) rfl ?_
      exact k
    -- pc 209: com/example/pure_mrtd/puremrtd/format/TlvReaderHasNextPinLaw.oneByteTag
    obtain ⟨_, _, ⟨T22, L22, k22, n22⟩, -, X22, ⟨Lc22, hQ22, l22, y22, z22⟩, st22⟩ := Jvm.LawKit.callS X0 hx (y := (⟨"com/example/pure_mrtd/puremrtd/format/TlvReaderHasNextPinLaw", "oneByteTag", "(I)I"⟩ : MethodName)) hown (mvT hZ (hw _ (List.mem_of_getElem? (i := 23) rfl))) (mvT hZ (hw _ (List.mem_of_getElem? (i := 24) rfl))) (mvT hZ (hw _ (List.mem_of_getElem? (i := 3) rfl))) (mvT hZ (hw _ (List.mem_of_getElem? (i := 25) rfl))) (by decide) (backOf (W := 2) (rm5 l Z a0 hw [] (v1 &&& (255 : Int32)) h n0 Z0 ) hZ (hw _ (List.mem_of_getElem? (i := 25) rfl)) (hw _ (List.mem_of_getElem? (i := 3) rfl)) (by decide) (by decide)) (g := (mkF m 209 #[.val (.int v0), .val (.int v1), .val (.long v2), .second, .val (.int v4), .val (.int v5), .val (.int v6), .val (.int v7), .val (.int v8), .val (.int v9), .val (.int v10), .val (.ref b93), .unset, .unset] [(.int (v1 &&& (255 : Int32))), (.int (0 : Int32)), (.ref b93)])) rfl (by rw [hml]; rfl) (argsL := [(.int (v1 &&& (255 : Int32)))]) (rest := [(.int (0 : Int32)), (.ref b93)]) (lenOf pd_3 rfl) rfl (by show 2 * 0 + _ ≤ _; exact Nat.le_of_eq rfl) (hb hby at_209) (fun _ _ => ⟨rfl, e0, (by decide : 1 + R5.cells ≤ _), (by decide : 9 + R5.slots ≤ _)⟩)
    dsimp only [Pt.U, Pt.locs, Pt.cells, Pt.slots] at X22 l22 y22 z22 st22 hQ22
    subst l22 y22 z22
    obtain ⟨rfl, Nq22, e22⟩ := hQ22
    have N22 := Fr.app N0 Nq22
    refine EndsIn.by (B := T22.setTop (mkF m 212 #[.val (.int v0), .val (.int v1), .val (.long v2), .second, .val (.int v4), .val (.int v5), .val (.int v6), .val (.int v7), .val (.int v8), .val (.int v9), .val (.int v10), .val (.ref b93), .unset, .unset] [(.int (f5_0 (v1 &&& (255 : Int32)))), (.int (0 : Int32)), (.ref b93)])) (fun t k => st22 t k) ?_
    refine EndsIn.by (B := T22.setTop (mkF m 213 #[.val (.int v0), .val (.int v1), .val (.long v2), .second, .val (.int v4), .val (.int v5), .val (.int v6), .val (.int v7), .val (.int v8), .val (.int v9), .val (.int v10), .val (.ref b93), .unset, .unset] [(.int ((f5_0 (v1 &&& (255 : Int32))).toInt8.toInt32)), (.int (0 : Int32)), (.ref b93)])) (fun t k => ?_) ?_
    · show Steps p.tables e below (T22.setTop (mkF m 212 #[.val (.int v0), .val (.int v1), .val (.long v2), .second, .val (.int v4), .val (.int v5), .val (.int v6), .val (.int v7), .val (.int v8), .val (.int v9), .val (.int v10), .val (.ref b93), .unset, .unset] [(.int (f5_0 (v1 &&& (255 : Int32)))), (.int (0 : Int32)), (.ref b93)])) _
      refine XS.i2b X22.here hx rfl (hb hby at_212) rfl ?_
      exact k
    have hin23 : ¬ ((0 : Int32) < 0) ∧ (0 : Int32) < b93_n := own_b0 hG hc198
    obtain ⟨cl23, Ar23, hi23, q23⟩ := own_open V_b93 hin23
    obtain ⟨T23, h23, X23, e23, W23, st23⟩ := stB X22 hx hZ e22 Ar23 (j := (0 : Int32)) hi23 (g := (mkF m 213 #[.val (.int v0), .val (.int v1), .val (.long v2), .second, .val (.int v4), .val (.int v5), .val (.int v6), .val (.int v7), .val (.int v8), .val (.int v9), .val (.int v10), .val (.ref b93), .unset, .unset] [(.int ((f5_0 (v1 &&& (255 : Int32))).toInt8.toInt32)), (.int (0 : Int32)), (.ref b93)])) rfl rfl (hb hby at_213)
    obtain ⟨V_b93_23, ln_b93_23⟩ : Arv Z h23 b93 b93_k .byte b93_n ((b93_xs.set 0 (((f5_0 (v1 &&& (255 : Int32))).toInt8.toInt32).toInt8.toInt32)).map Value.int) (.int 0) ∧ (b93_xs.set 0 (((f5_0 (v1 &&& (255 : Int32))).toInt8.toInt32).toInt8.toInt32)).length = b93_n.toNatClampNeg := own_setI V_b93 ln_b93 hin23 W23 (fits_nar_byte _) 0 (by decide)
    have N23 := Fr.snoc X23 N22 g_b93
    have Z23 : n0 ≤ h23.size := Nat.le_trans Z0 (Nat.le_of_eq W23.size.symm)
    refine EndsIn.by (B := T23.setTop (mkF m 214 #[.val (.int v0), .val (.int v1), .val (.long v2), .second, .val (.int v4), .val (.int v5), .val (.int v6), .val (.int v7), .val (.int v8), .val (.int v9), .val (.int v10), .val (.ref b93), .unset, .unset] [])) (fun t k => st23 t k) ?_
    refine EndsIn.by (B := T23.setTop (mkF m 220 #[.val (.int v0), .val (.int v1), .val (.long v2), .second, .val (.int v4), .val (.int v5), .val (.int v6), .val (.int v7), .val (.int v8), .val (.int v9), .val (.int v10), .val (.ref b93), .unset, .unset] [(.int (v5.toInt8.toInt32)), (.int (1 : Int32)), (.ref b93)])) (fun t k => ?_) ?_
    · show Steps p.tables e below (T23.setTop (mkF m 214 #[.val (.int v0), .val (.int v1), .val (.long v2), .second, .val (.int v4), .val (.int v5), .val (.int v6), .val (.int v7), .val (.int v8), .val (.int v9), .val (.int v10), .val (.ref b93), .unset, .unset] [])) _
      refine XS.aload X23.here hx rfl (hb hby at_214) rfl rfl ?_
      show Steps p.tables e below (T23.setTop (mkF m 216 #[.val (.int v0), .val (.int v1), .val (.long v2), .second, .val (.int v4), .val (.int v5), .val (.int v6), .val (.int v7), .val (.int v8), .val (.int v9), .val (.int v10), .val (.ref b93), .unset, .unset] [(.ref b93)])) _
      refine XS.iconst X23.here hx rfl (hb hby at_216) ?_
      show Steps p.tables e below (T23.setTop (mkF m 217 #[.val (.int v0), .val (.int v1), .val (.long v2), .second, .val (.int v4), .val (.int v5), .val (.int v6), .val (.int v7), .val (.int v8), .val (.int v9), .val (.int v10), .val (.ref b93), .unset, .unset] [(.int (1 : Int32)), (.ref b93)])) _
      refine XS.iload X23.here hx rfl (hb hby at_217) rfl  ?_
      show Steps p.tables e below (T23.setTop (mkF m 219 #[.val (.int v0), .val (.int v1), .val (.long v2), .second, .val (.int v4), .val (.int v5), .val (.int v6), .val (.int v7), .val (.int v8), .val (.int v9), .val (.int v10), .val (.ref b93), .unset, .unset] [(.int v5), (.int (1 : Int32)), (.ref b93)])) _
      refine XS.i2b X23.here hx rfl (hb hby at_219) rfl ?_
      exact k
    have hin24 : ¬ ((1 : Int32) < 0) ∧ (1 : Int32) < b93_n := own_b1 hG hc198
    obtain ⟨cl24, Ar24, hi24, q24⟩ := own_open V_b93_23 hin24
    obtain ⟨T24, h24, X24, e24, W24, st24⟩ := stB X23 hx hZ e23 Ar24 (j := (1 : Int32)) hi24 (g := (mkF m 220 #[.val (.int v0), .val (.int v1), .val (.long v2), .second, .val (.int v4), .val (.int v5), .val (.int v6), .val (.int v7), .val (.int v8), .val (.int v9), .val (.int v10), .val (.ref b93), .unset, .unset] [(.int (v5.toInt8.toInt32)), (.int (1 : Int32)), (.ref b93)])) rfl rfl (hb hby at_220)
    obtain ⟨V_b93_24, ln_b93_24⟩ : Arv Z h24 b93 b93_k .byte b93_n (((b93_xs.set 0 (((f5_0 (v1 &&& (255 : Int32))).toInt8.toInt32).toInt8.toInt32)).set 1 ((v5.toInt8.toInt32).toInt8.toInt32)).map Value.int) (.int 0) ∧ ((b93_xs.set 0 (((f5_0 (v1 &&& (255 : Int32))).toInt8.toInt32).toInt8.toInt32)).set 1 ((v5.toInt8.toInt32).toInt8.toInt32)).length = b93_n.toNatClampNeg := own_setI V_b93_23 ln_b93_23 hin24 W24 (fits_nar_byte _) 1 (by decide)
    have N24 := Fr.snoc X24 N23 g_b93
    have Z24 : n0 ≤ h24.size := Nat.le_trans Z23 (Nat.le_of_eq W24.size.symm)
    refine EndsIn.by (B := T24.setTop (mkF m 221 #[.val (.int v0), .val (.int v1), .val (.long v2), .second, .val (.int v4), .val (.int v5), .val (.int v6), .val (.int v7), .val (.int v8), .val (.int v9), .val (.int v10), .val (.ref b93), .unset, .unset] [])) (fun t k => st24 t k) ?_
    have hG_j : own_G v4 v5 v6 v7 v8 v9 b93_n := hG
    have hD1_j : own_D1 v4 v5 ((b93_xs.set 0 (((f5_0 (v1 &&& (255 : Int32))).toInt8.toInt32).toInt8.toInt32)).set 1 ((v5.toInt8.toInt32).toInt8.toInt32)) := (by first | exact own_d1a hc198 | exact own_d1b hG ln_b93 hc198)
    exact b0_221 ⟨hx, hZ, hw, hby, hml, hret, hown, hnm, hlk⟩ h0 n0 v0 v1 v2 v4 v5 v6 v7 v8 v9 v10 b93 b93_k b93_n ((b93_xs.set 0 (((f5_0 (v1 &&& (255 : Int32))).toInt8.toInt32).toInt8.toInt32)).set 1 ((v5.toInt8.toInt32).toInt8.toInt32)) X24 e24 N24 Z24 V_b93_24 ln_b93_24 g_b93 hG_j hD1_j _ hr
def f0_184 (v0 : Int32) (v1 : Int32) (v2 : Int64) (v4 : Int32) (v5 : Int32) (v6 : Int32) (v7 : Int32) (v8 : Int32) (v9 : Int32) (v10 : Int32) (b93_n : Int32) (b93_xs : List Int32) : Int32 := (f0_195 v0 v1 v2 v4 v5 v6 v7 v8 v9 v10 b93_n (f1_0 (8 : Int32) ((v1.toUInt32 >>> ((16 : Int32) &&& 31).toUInt32).toInt32) b93_n b93_xs))
set_option maxRecDepth 65536 in
set_option maxHeartbeats 40000000 in
theorem b0_184 {p : Program} {l : Launch} {e : Env} {s : State} {m : MethodId} {args : Array Value} {below : List Frame} {meth : Method} {c : Code} {Z : State} {a0 : Array Value} (B : Ctx p Z s a0 m meth c "com/example/pure_mrtd/puremrtd/format/TlvReaderHasNextPinLaw" "law" code 14 (some .boolean)) {T0 : State} {locs : List Loc} {h : Heap} (h0 : Heap) (n0 : Nat) (v0 : Int32) (v1 : Int32) (v2 : Int64) (v4 : Int32) (v5 : Int32) (v6 : Int32) (v7 : Int32) (v8 : Int32) (v9 : Int32) (v10 : Int32) (b93 : Addr) (b93_k : ClassId) (b93_n : Int32) (b93_xs : List Int32) (X0 : Stand p l e room_1 s m args below meth c T0 locs 1 9) (e0 : T0.heap = h) (N0 : Fr n0 locs) (Z0 : n0 ≤ h.size) (V_b93 : Arv Z h b93 b93_k .byte b93_n (b93_xs.map Value.int) (.int 0)) (ln_b93 : b93_xs.length = b93_n.toNatClampNeg) (g_b93 : n0 ≤ b93) (hG : own_G v4 v5 v6 v7 v8 v9 b93_n) (r : Int32) (hr : f0_184 v0 v1 v2 v4 v5 v6 v7 v8 v9 v10 b93_n b93_xs = r) :
    EndsIn p e below s 8 25 (Q0 n0 r) (T0.setTop (mkF m 184 #[.val (.int v0), .val (.int v1), .val (.long v2), .second, .val (.int v4), .val (.int v5), .val (.int v6), .val (.int v7), .val (.int v8), .val (.int v9), .val (.int v10), .val (.ref b93), .unset, .unset] [])) := by
  obtain ⟨hx, hZ, hw, hby, hml, hret, hown, hnm, hlk⟩ := B
  unfold f0_184 at hr
  refine EndsIn.by (B := T0.setTop (mkF m 192 #[.val (.int v0), .val (.int v1), .val (.long v2), .second, .val (.int v4), .val (.int v5), .val (.int v6), .val (.int v7), .val (.int v8), .val (.int v9), .val (.int v10), .val (.ref b93), .unset, .unset] [(.int ((v1.toUInt32 >>> ((16 : Int32) &&& 31).toUInt32).toInt32)), (.int (8 : Int32)), (.ref b93)])) (fun t k => ?_) ?_
  · show Steps p.tables e below (T0.setTop (mkF m 184 #[.val (.int v0), .val (.int v1), .val (.long v2), .second, .val (.int v4), .val (.int v5), .val (.int v6), .val (.int v7), .val (.int v8), .val (.int v9), .val (.int v10), .val (.ref b93), .unset, .unset] [])) _
    refine XS.aload X0.here hx rfl (hb hby at_184) rfl rfl ?_
    show Steps p.tables e below (T0.setTop (mkF m 186 #[.val (.int v0), .val (.int v1), .val (.long v2), .second, .val (.int v4), .val (.int v5), .val (.int v6), .val (.int v7), .val (.int v8), .val (.int v9), .val (.int v10), .val (.ref b93), .unset, .unset] [(.ref b93)])) _
    refine XS.bipush X0.here hx rfl (hb hby at_186) ?_
    show Steps p.tables e below (T0.setTop (mkF m 188 #[.val (.int v0), .val (.int v1), .val (.long v2), .second, .val (.int v4), .val (.int v5), .val (.int v6), .val (.int v7), .val (.int v8), .val (.int v9), .val (.int v10), .val (.ref b93), .unset, .unset] [(.int (8 : Int32)), (.ref b93)])) _
    refine XS.iloadN X0.here hx rfl (hb hby at_188) rfl  ?_
    show Steps p.tables e below (T0.setTop (mkF m 189 #[.val (.int v0), .val (.int v1), .val (.long v2), .second, .val (.int v4), .val (.int v5), .val (.int v6), .val (.int v7), .val (.int v8), .val (.int v9), .val (.int v10), .val (.ref b93), .unset, .unset] [(.int v1), (.int (8 : Int32)), (.ref b93)])) _
    refine XS.bipush X0.here hx rfl (hb hby at_189) ?_
    show Steps p.tables e below (T0.setTop (mkF m 191 #[.val (.int v0), .val (.int v1), .val (.long v2), .second, .val (.int v4), .val (.int v5), .val (.int v6), .val (.int v7), .val (.int v8), .val (.int v9), .val (.int v10), .val (.ref b93), .unset, .unset] [(.int (16 : Int32)), (.int v1), (.int (8 : Int32)), (.ref b93)])) _
    refine XS.iushr X0.here hx rfl (hb hby at_191) rfl ?_
    exact k
  have hp10_hi : ¬ ((8 : Int32) < 0) := by decide
  -- pc 192: com/example/pure_mrtd/puremrtd/format/TlvReaderHasNextPinLaw.put
  obtain ⟨_, _, ⟨T10, L10, k10, n10⟩, -, X10, ⟨Lc10, hQ10, l10, y10, z10⟩, st10⟩ := Jvm.LawKit.callS X0 hx (y := (⟨"com/example/pure_mrtd/puremrtd/format/TlvReaderHasNextPinLaw", "put", "([BII)V"⟩ : MethodName)) hown (mvT hZ (hw _ (List.mem_of_getElem? (i := 1) rfl))) (mvT hZ (hw _ (List.mem_of_getElem? (i := 2) rfl))) (mvT hZ (hw _ (List.mem_of_getElem? (i := 3) rfl))) (mvT hZ (hw _ (List.mem_of_getElem? (i := 4) rfl))) (by decide) (backOf (W := 0) (rm1 l Z a0 hw [] b93 (8 : Int32) ((v1.toUInt32 >>> ((16 : Int32) &&& 31).toUInt32).toInt32) b93_k b93_n b93_xs h n0 Z0 V_b93 ln_b93 g_b93 hp10_hi) hZ (hw _ (List.mem_of_getElem? (i := 4) rfl)) (hw _ (List.mem_of_getElem? (i := 3) rfl)) (by decide) (by decide)) (g := (mkF m 192 #[.val (.int v0), .val (.int v1), .val (.long v2), .second, .val (.int v4), .val (.int v5), .val (.int v6), .val (.int v7), .val (.int v8), .val (.int v9), .val (.int v10), .val (.ref b93), .unset, .unset] [(.int ((v1.toUInt32 >>> ((16 : Int32) &&& 31).toUInt32).toInt32)), (.int (8 : Int32)), (.ref b93)])) rfl (by rw [hml]; rfl) (argsL := [(.ref b93), (.int (8 : Int32)), (.int ((v1.toUInt32 >>> ((16 : Int32) &&& 31).toUInt32).toInt32))]) (rest := []) (lenOf pd_0 rfl) rfl (by show 2 * 0 + _ ≤ _; exact Nat.le_of_eq rfl) (hb hby at_192) (fun _ _ => ⟨rfl, e0, (by decide : 1 + R1.cells ≤ _), (by decide : 9 + R1.slots ≤ _)⟩)
  dsimp only [Pt.U, Pt.locs, Pt.cells, Pt.slots] at X10 l10 y10 z10 st10 hQ10
  subst l10 y10 z10
  obtain ⟨rfl, Nq10, Kq10, V_b93_10, ln_b93_10⟩ := hQ10
  obtain ⟨h10, e10⟩ : ∃ z, T10.heap = z := ⟨_, rfl⟩
  rw [e10] at Kq10 V_b93_10
  have N10 := Fr.app N0 Nq10
  have Z10 : n0 ≤ h10.size := Nat.le_trans Z0 Kq10.1
  refine EndsIn.by (B := T10.setTop (mkF m 195 #[.val (.int v0), .val (.int v1), .val (.long v2), .second, .val (.int v4), .val (.int v5), .val (.int v6), .val (.int v7), .val (.int v8), .val (.int v9), .val (.int v10), .val (.ref b93), .unset, .unset] [])) (fun t k => st10 t k) ?_
  have hG_j : own_G v4 v5 v6 v7 v8 v9 b93_n := (by first | exact hG | exact ⟨hBB, ht⟩)
  exact b0_195 ⟨hx, hZ, hw, hby, hml, hret, hown, hnm, hlk⟩ h0 n0 v0 v1 v2 v4 v5 v6 v7 v8 v9 v10 b93 b93_k b93_n (f1_0 (8 : Int32) ((v1.toUInt32 >>> ((16 : Int32) &&& 31).toUInt32).toInt32) b93_n b93_xs) X10 e10 N10 Z10 V_b93_10 ln_b93_10 g_b93 hG_j _ hr
def f0_172 (v0 : Int32) (v1 : Int32) (v2 : Int64) (v4 : Int32) (v5 : Int32) (v6 : Int32) (v7 : Int32) (v8 : Int32) (v9 : Int32) (v10 : Int32) (b93_n : Int32) (b93_xs : List Int32) : Int32 := (f0_184 v0 v1 v2 v4 v5 v6 v7 v8 v9 v10 b93_n (f1_0 (7 : Int32) (((v2.toUInt64 >>> ((56 : Int32) &&& 0x3f).toInt64.toUInt64).toInt64).toInt32) b93_n b93_xs))
set_option maxRecDepth 65536 in
set_option maxHeartbeats 40000000 in
theorem b0_172 {p : Program} {l : Launch} {e : Env} {s : State} {m : MethodId} {args : Array Value} {below : List Frame} {meth : Method} {c : Code} {Z : State} {a0 : Array Value} (B : Ctx p Z s a0 m meth c "com/example/pure_mrtd/puremrtd/format/TlvReaderHasNextPinLaw" "law" code 14 (some .boolean)) {T0 : State} {locs : List Loc} {h : Heap} (h0 : Heap) (n0 : Nat) (v0 : Int32) (v1 : Int32) (v2 : Int64) (v4 : Int32) (v5 : Int32) (v6 : Int32) (v7 : Int32) (v8 : Int32) (v9 : Int32) (v10 : Int32) (b93 : Addr) (b93_k : ClassId) (b93_n : Int32) (b93_xs : List Int32) (X0 : Stand p l e room_1 s m args below meth c T0 locs 1 9) (e0 : T0.heap = h) (N0 : Fr n0 locs) (Z0 : n0 ≤ h.size) (V_b93 : Arv Z h b93 b93_k .byte b93_n (b93_xs.map Value.int) (.int 0)) (ln_b93 : b93_xs.length = b93_n.toNatClampNeg) (g_b93 : n0 ≤ b93) (hG : own_G v4 v5 v6 v7 v8 v9 b93_n) (r : Int32) (hr : f0_172 v0 v1 v2 v4 v5 v6 v7 v8 v9 v10 b93_n b93_xs = r) :
    EndsIn p e below s 8 25 (Q0 n0 r) (T0.setTop (mkF m 172 #[.val (.int v0), .val (.int v1), .val (.long v2), .second, .val (.int v4), .val (.int v5), .val (.int v6), .val (.int v7), .val (.int v8), .val (.int v9), .val (.int v10), .val (.ref b93), .unset, .unset] [])) := by
  obtain ⟨hx, hZ, hw, hby, hml, hret, hown, hnm, hlk⟩ := B
  unfold f0_172 at hr
  refine EndsIn.by (B := T0.setTop (mkF m 181 #[.val (.int v0), .val (.int v1), .val (.long v2), .second, .val (.int v4), .val (.int v5), .val (.int v6), .val (.int v7), .val (.int v8), .val (.int v9), .val (.int v10), .val (.ref b93), .unset, .unset] [(.int (((v2.toUInt64 >>> ((56 : Int32) &&& 0x3f).toInt64.toUInt64).toInt64).toInt32)), (.int (7 : Int32)), (.ref b93)])) (fun t k => ?_) ?_
  · show Steps p.tables e below (T0.setTop (mkF m 172 #[.val (.int v0), .val (.int v1), .val (.long v2), .second, .val (.int v4), .val (.int v5), .val (.int v6), .val (.int v7), .val (.int v8), .val (.int v9), .val (.int v10), .val (.ref b93), .unset, .unset] [])) _
    refine XS.aload X0.here hx rfl (hb hby at_172) rfl rfl ?_
    show Steps p.tables e below (T0.setTop (mkF m 174 #[.val (.int v0), .val (.int v1), .val (.long v2), .second, .val (.int v4), .val (.int v5), .val (.int v6), .val (.int v7), .val (.int v8), .val (.int v9), .val (.int v10), .val (.ref b93), .unset, .unset] [(.ref b93)])) _
    refine XS.bipush X0.here hx rfl (hb hby at_174) ?_
    show Steps p.tables e below (T0.setTop (mkF m 176 #[.val (.int v0), .val (.int v1), .val (.long v2), .second, .val (.int v4), .val (.int v5), .val (.int v6), .val (.int v7), .val (.int v8), .val (.int v9), .val (.int v10), .val (.ref b93), .unset, .unset] [(.int (7 : Int32)), (.ref b93)])) _
    refine XS.lloadN X0.here hx rfl (hb hby at_176) rfl  ?_
    show Steps p.tables e below (T0.setTop (mkF m 177 #[.val (.int v0), .val (.int v1), .val (.long v2), .second, .val (.int v4), .val (.int v5), .val (.int v6), .val (.int v7), .val (.int v8), .val (.int v9), .val (.int v10), .val (.ref b93), .unset, .unset] [(.long v2), (.int (7 : Int32)), (.ref b93)])) _
    refine XS.bipush X0.here hx rfl (hb hby at_177) ?_
    show Steps p.tables e below (T0.setTop (mkF m 179 #[.val (.int v0), .val (.int v1), .val (.long v2), .second, .val (.int v4), .val (.int v5), .val (.int v6), .val (.int v7), .val (.int v8), .val (.int v9), .val (.int v10), .val (.ref b93), .unset, .unset] [(.int (56 : Int32)), (.long v2), (.int (7 : Int32)), (.ref b93)])) _
    refine XS.lushr X0.here hx rfl (hb hby at_179) rfl ?_
    show Steps p.tables e below (T0.setTop (mkF m 180 #[.val (.int v0), .val (.int v1), .val (.long v2), .second, .val (.int v4), .val (.int v5), .val (.int v6), .val (.int v7), .val (.int v8), .val (.int v9), .val (.int v10), .val (.ref b93), .unset, .unset] [(.long ((v2.toUInt64 >>> ((56 : Int32) &&& 0x3f).toInt64.toUInt64).toInt64)), (.int (7 : Int32)), (.ref b93)])) _
    refine XS.l2i X0.here hx rfl (hb hby at_180) rfl ?_
    exact k
  have hp9_hi : ¬ ((7 : Int32) < 0) := by decide
  -- pc 181: com/example/pure_mrtd/puremrtd/format/TlvReaderHasNextPinLaw.put
  obtain ⟨_, _, ⟨T9, L9, k9, n9⟩, -, X9, ⟨Lc9, hQ9, l9, y9, z9⟩, st9⟩ := Jvm.LawKit.callS X0 hx (y := (⟨"com/example/pure_mrtd/puremrtd/format/TlvReaderHasNextPinLaw", "put", "([BII)V"⟩ : MethodName)) hown (mvT hZ (hw _ (List.mem_of_getElem? (i := 1) rfl))) (mvT hZ (hw _ (List.mem_of_getElem? (i := 2) rfl))) (mvT hZ (hw _ (List.mem_of_getElem? (i := 3) rfl))) (mvT hZ (hw _ (List.mem_of_getElem? (i := 4) rfl))) (by decide) (backOf (W := 0) (rm1 l Z a0 hw [] b93 (7 : Int32) (((v2.toUInt64 >>> ((56 : Int32) &&& 0x3f).toInt64.toUInt64).toInt64).toInt32) b93_k b93_n b93_xs h n0 Z0 V_b93 ln_b93 g_b93 hp9_hi) hZ (hw _ (List.mem_of_getElem? (i := 4) rfl)) (hw _ (List.mem_of_getElem? (i := 3) rfl)) (by decide) (by decide)) (g := (mkF m 181 #[.val (.int v0), .val (.int v1), .val (.long v2), .second, .val (.int v4), .val (.int v5), .val (.int v6), .val (.int v7), .val (.int v8), .val (.int v9), .val (.int v10), .val (.ref b93), .unset, .unset] [(.int (((v2.toUInt64 >>> ((56 : Int32) &&& 0x3f).toInt64.toUInt64).toInt64).toInt32)), (.int (7 : Int32)), (.ref b93)])) rfl (by rw [hml]; rfl) (argsL := [(.ref b93), (.int (7 : Int32)), (.int (((v2.toUInt64 >>> ((56 : Int32) &&& 0x3f).toInt64.toUInt64).toInt64).toInt32))]) (rest := []) (lenOf pd_0 rfl) rfl (by show 2 * 0 + _ ≤ _; exact Nat.le_of_eq rfl) (hb hby at_181) (fun _ _ => ⟨rfl, e0, (by decide : 1 + R1.cells ≤ _), (by decide : 9 + R1.slots ≤ _)⟩)
  dsimp only [Pt.U, Pt.locs, Pt.cells, Pt.slots] at X9 l9 y9 z9 st9 hQ9
  subst l9 y9 z9
  obtain ⟨rfl, Nq9, Kq9, V_b93_9, ln_b93_9⟩ := hQ9
  obtain ⟨h9, e9⟩ : ∃ z, T9.heap = z := ⟨_, rfl⟩
  rw [e9] at Kq9 V_b93_9
  have N9 := Fr.app N0 Nq9
  have Z9 : n0 ≤ h9.size := Nat.le_trans Z0 Kq9.1
  refine EndsIn.by (B := T9.setTop (mkF m 184 #[.val (.int v0), .val (.int v1), .val (.long v2), .second, .val (.int v4), .val (.int v5), .val (.int v6), .val (.int v7), .val (.int v8), .val (.int v9), .val (.int v10), .val (.ref b93), .unset, .unset] [])) (fun t k => st9 t k) ?_
  have hG_j : own_G v4 v5 v6 v7 v8 v9 b93_n := (by first | exact hG | exact ⟨hBB, ht⟩)
  exact b0_184 ⟨hx, hZ, hw, hby, hml, hret, hown, hnm, hlk⟩ h0 n0 v0 v1 v2 v4 v5 v6 v7 v8 v9 v10 b93 b93_k b93_n (f1_0 (7 : Int32) (((v2.toUInt64 >>> ((56 : Int32) &&& 0x3f).toInt64.toUInt64).toInt64).toInt32) b93_n b93_xs) X9 e9 N9 Z9 V_b93_9 ln_b93_9 g_b93 hG_j _ hr
def f0_160 (v0 : Int32) (v1 : Int32) (v2 : Int64) (v4 : Int32) (v5 : Int32) (v6 : Int32) (v7 : Int32) (v8 : Int32) (v9 : Int32) (v10 : Int32) (b93_n : Int32) (b93_xs : List Int32) : Int32 := (f0_172 v0 v1 v2 v4 v5 v6 v7 v8 v9 v10 b93_n (f1_0 (6 : Int32) (((v2.toUInt64 >>> ((48 : Int32) &&& 0x3f).toInt64.toUInt64).toInt64).toInt32) b93_n b93_xs))
set_option maxRecDepth 65536 in
set_option maxHeartbeats 40000000 in
theorem b0_160 {p : Program} {l : Launch} {e : Env} {s : State} {m : MethodId} {args : Array Value} {below : List Frame} {meth : Method} {c : Code} {Z : State} {a0 : Array Value} (B : Ctx p Z s a0 m meth c "com/example/pure_mrtd/puremrtd/format/TlvReaderHasNextPinLaw" "law" code 14 (some .boolean)) {T0 : State} {locs : List Loc} {h : Heap} (h0 : Heap) (n0 : Nat) (v0 : Int32) (v1 : Int32) (v2 : Int64) (v4 : Int32) (v5 : Int32) (v6 : Int32) (v7 : Int32) (v8 : Int32) (v9 : Int32) (v10 : Int32) (b93 : Addr) (b93_k : ClassId) (b93_n : Int32) (b93_xs : List Int32) (X0 : Stand p l e room_1 s m args below meth c T0 locs 1 9) (e0 : T0.heap = h) (N0 : Fr n0 locs) (Z0 : n0 ≤ h.size) (V_b93 : Arv Z h b93 b93_k .byte b93_n (b93_xs.map Value.int) (.int 0)) (ln_b93 : b93_xs.length = b93_n.toNatClampNeg) (g_b93 : n0 ≤ b93) (hG : own_G v4 v5 v6 v7 v8 v9 b93_n) (r : Int32) (hr : f0_160 v0 v1 v2 v4 v5 v6 v7 v8 v9 v10 b93_n b93_xs = r) :
    EndsIn p e below s 8 25 (Q0 n0 r) (T0.setTop (mkF m 160 #[.val (.int v0), .val (.int v1), .val (.long v2), .second, .val (.int v4), .val (.int v5), .val (.int v6), .val (.int v7), .val (.int v8), .val (.int v9), .val (.int v10), .val (.ref b93), .unset, .unset] [])) := by
  obtain ⟨hx, hZ, hw, hby, hml, hret, hown, hnm, hlk⟩ := B
  unfold f0_160 at hr
  refine EndsIn.by (B := T0.setTop (mkF m 169 #[.val (.int v0), .val (.int v1), .val (.long v2), .second, .val (.int v4), .val (.int v5), .val (.int v6), .val (.int v7), .val (.int v8), .val (.int v9), .val (.int v10), .val (.ref b93), .unset, .unset] [(.int (((v2.toUInt64 >>> ((48 : Int32) &&& 0x3f).toInt64.toUInt64).toInt64).toInt32)), (.int (6 : Int32)), (.ref b93)])) (fun t k => ?_) ?_
  · show Steps p.tables e below (T0.setTop (mkF m 160 #[.val (.int v0), .val (.int v1), .val (.long v2), .second, .val (.int v4), .val (.int v5), .val (.int v6), .val (.int v7), .val (.int v8), .val (.int v9), .val (.int v10), .val (.ref b93), .unset, .unset] [])) _
    refine XS.aload X0.here hx rfl (hb hby at_160) rfl rfl ?_
    show Steps p.tables e below (T0.setTop (mkF m 162 #[.val (.int v0), .val (.int v1), .val (.long v2), .second, .val (.int v4), .val (.int v5), .val (.int v6), .val (.int v7), .val (.int v8), .val (.int v9), .val (.int v10), .val (.ref b93), .unset, .unset] [(.ref b93)])) _
    refine XS.bipush X0.here hx rfl (hb hby at_162) ?_
    show Steps p.tables e below (T0.setTop (mkF m 164 #[.val (.int v0), .val (.int v1), .val (.long v2), .second, .val (.int v4), .val (.int v5), .val (.int v6), .val (.int v7), .val (.int v8), .val (.int v9), .val (.int v10), .val (.ref b93), .unset, .unset] [(.int (6 : Int32)), (.ref b93)])) _
    refine XS.lloadN X0.here hx rfl (hb hby at_164) rfl  ?_
    show Steps p.tables e below (T0.setTop (mkF m 165 #[.val (.int v0), .val (.int v1), .val (.long v2), .second, .val (.int v4), .val (.int v5), .val (.int v6), .val (.int v7), .val (.int v8), .val (.int v9), .val (.int v10), .val (.ref b93), .unset, .unset] [(.long v2), (.int (6 : Int32)), (.ref b93)])) _
    refine XS.bipush X0.here hx rfl (hb hby at_165) ?_
    show Steps p.tables e below (T0.setTop (mkF m 167 #[.val (.int v0), .val (.int v1), .val (.long v2), .second, .val (.int v4), .val (.int v5), .val (.int v6), .val (.int v7), .val (.int v8), .val (.int v9), .val (.int v10), .val (.ref b93), .unset, .unset] [(.int (48 : Int32)), (.long v2), (.int (6 : Int32)), (.ref b93)])) _
    refine XS.lushr X0.here hx rfl (hb hby at_167) rfl ?_
    show Steps p.tables e below (T0.setTop (mkF m 168 #[.val (.int v0), .val (.int v1), .val (.long v2), .second, .val (.int v4), .val (.int v5), .val (.int v6), .val (.int v7), .val (.int v8), .val (.int v9), .val (.int v10), .val (.ref b93), .unset, .unset] [(.long ((v2.toUInt64 >>> ((48 : Int32) &&& 0x3f).toInt64.toUInt64).toInt64)), (.int (6 : Int32)), (.ref b93)])) _
    refine XS.l2i X0.here hx rfl (hb hby at_168) rfl ?_
    exact k
  have hp8_hi : ¬ ((6 : Int32) < 0) := by decide
  -- pc 169: com/example/pure_mrtd/puremrtd/format/TlvReaderHasNextPinLaw.put
  obtain ⟨_, _, ⟨T8, L8, k8, n8⟩, -, X8, ⟨Lc8, hQ8, l8, y8, z8⟩, st8⟩ := Jvm.LawKit.callS X0 hx (y := (⟨"com/example/pure_mrtd/puremrtd/format/TlvReaderHasNextPinLaw", "put", "([BII)V"⟩ : MethodName)) hown (mvT hZ (hw _ (List.mem_of_getElem? (i := 1) rfl))) (mvT hZ (hw _ (List.mem_of_getElem? (i := 2) rfl))) (mvT hZ (hw _ (List.mem_of_getElem? (i := 3) rfl))) (mvT hZ (hw _ (List.mem_of_getElem? (i := 4) rfl))) (by decide) (backOf (W := 0) (rm1 l Z a0 hw [] b93 (6 : Int32) (((v2.toUInt64 >>> ((48 : Int32) &&& 0x3f).toInt64.toUInt64).toInt64).toInt32) b93_k b93_n b93_xs h n0 Z0 V_b93 ln_b93 g_b93 hp8_hi) hZ (hw _ (List.mem_of_getElem? (i := 4) rfl)) (hw _ (List.mem_of_getElem? (i := 3) rfl)) (by decide) (by decide)) (g := (mkF m 169 #[.val (.int v0), .val (.int v1), .val (.long v2), .second, .val (.int v4), .val (.int v5), .val (.int v6), .val (.int v7), .val (.int v8), .val (.int v9), .val (.int v10), .val (.ref b93), .unset, .unset] [(.int (((v2.toUInt64 >>> ((48 : Int32) &&& 0x3f).toInt64.toUInt64).toInt64).toInt32)), (.int (6 : Int32)), (.ref b93)])) rfl (by rw [hml]; rfl) (argsL := [(.ref b93), (.int (6 : Int32)), (.int (((v2.toUInt64 >>> ((48 : Int32) &&& 0x3f).toInt64.toUInt64).toInt64).toInt32))]) (rest := []) (lenOf pd_0 rfl) rfl (by show 2 * 0 + _ ≤ _; exact Nat.le_of_eq rfl) (hb hby at_169) (fun _ _ => ⟨rfl, e0, (by decide : 1 + R1.cells ≤ _), (by decide : 9 + R1.slots ≤ _)⟩)
  dsimp only [Pt.U, Pt.locs, Pt.cells, Pt.slots] at X8 l8 y8 z8 st8 hQ8
  subst l8 y8 z8
  obtain ⟨rfl, Nq8, Kq8, V_b93_8, ln_b93_8⟩ := hQ8
  obtain ⟨h8, e8⟩ : ∃ z, T8.heap = z := ⟨_, rfl⟩
  rw [e8] at Kq8 V_b93_8
  have N8 := Fr.app N0 Nq8
  have Z8 : n0 ≤ h8.size := Nat.le_trans Z0 Kq8.1
  refine EndsIn.by (B := T8.setTop (mkF m 172 #[.val (.int v0), .val (.int v1), .val (.long v2), .second, .val (.int v4), .val (.int v5), .val (.int v6), .val (.int v7), .val (.int v8), .val (.int v9), .val (.int v10), .val (.ref b93), .unset, .unset] [])) (fun t k => st8 t k) ?_
  have hG_j : own_G v4 v5 v6 v7 v8 v9 b93_n := (by first | exact hG | exact ⟨hBB, ht⟩)
  exact b0_172 ⟨hx, hZ, hw, hby, hml, hret, hown, hnm, hlk⟩ h0 n0 v0 v1 v2 v4 v5 v6 v7 v8 v9 v10 b93 b93_k b93_n (f1_0 (6 : Int32) (((v2.toUInt64 >>> ((48 : Int32) &&& 0x3f).toInt64.toUInt64).toInt64).toInt32) b93_n b93_xs) X8 e8 N8 Z8 V_b93_8 ln_b93_8 g_b93 hG_j _ hr
def f0_149 (v0 : Int32) (v1 : Int32) (v2 : Int64) (v4 : Int32) (v5 : Int32) (v6 : Int32) (v7 : Int32) (v8 : Int32) (v9 : Int32) (v10 : Int32) (b93_n : Int32) (b93_xs : List Int32) : Int32 := (f0_160 v0 v1 v2 v4 v5 v6 v7 v8 v9 v10 b93_n (f1_0 (5 : Int32) (((v2.toUInt64 >>> ((40 : Int32) &&& 0x3f).toInt64.toUInt64).toInt64).toInt32) b93_n b93_xs))
set_option maxRecDepth 65536 in
set_option maxHeartbeats 40000000 in
theorem b0_149 {p : Program} {l : Launch} {e : Env} {s : State} {m : MethodId} {args : Array Value} {below : List Frame} {meth : Method} {c : Code} {Z : State} {a0 : Array Value} (B : Ctx p Z s a0 m meth c "com/example/pure_mrtd/puremrtd/format/TlvReaderHasNextPinLaw" "law" code 14 (some .boolean)) {T0 : State} {locs : List Loc} {h : Heap} (h0 : Heap) (n0 : Nat) (v0 : Int32) (v1 : Int32) (v2 : Int64) (v4 : Int32) (v5 : Int32) (v6 : Int32) (v7 : Int32) (v8 : Int32) (v9 : Int32) (v10 : Int32) (b93 : Addr) (b93_k : ClassId) (b93_n : Int32) (b93_xs : List Int32) (X0 : Stand p l e room_1 s m args below meth c T0 locs 1 9) (e0 : T0.heap = h) (N0 : Fr n0 locs) (Z0 : n0 ≤ h.size) (V_b93 : Arv Z h b93 b93_k .byte b93_n (b93_xs.map Value.int) (.int 0)) (ln_b93 : b93_xs.length = b93_n.toNatClampNeg) (g_b93 : n0 ≤ b93) (hG : own_G v4 v5 v6 v7 v8 v9 b93_n) (r : Int32) (hr : f0_149 v0 v1 v2 v4 v5 v6 v7 v8 v9 v10 b93_n b93_xs = r) :
    EndsIn p e below s 8 25 (Q0 n0 r) (T0.setTop (mkF m 149 #[.val (.int v0), .val (.int v1), .val (.long v2), .second, .val (.int v4), .val (.int v5), .val (.int v6), .val (.int v7), .val (.int v8), .val (.int v9), .val (.int v10), .val (.ref b93), .unset, .unset] [])) := by
  obtain ⟨hx, hZ, hw, hby, hml, hret, hown, hnm, hlk⟩ := B
  unfold f0_149 at hr
  refine EndsIn.by (B := T0.setTop (mkF m 157 #[.val (.int v0), .val (.int v1), .val (.long v2), .second, .val (.int v4), .val (.int v5), .val (.int v6), .val (.int v7), .val (.int v8), .val (.int v9), .val (.int v10), .val (.ref b93), .unset, .unset] [(.int (((v2.toUInt64 >>> ((40 : Int32) &&& 0x3f).toInt64.toUInt64).toInt64).toInt32)), (.int (5 : Int32)), (.ref b93)])) (fun t k => ?_) ?_
  · show Steps p.tables e below (T0.setTop (mkF m 149 #[.val (.int v0), .val (.int v1), .val (.long v2), .second, .val (.int v4), .val (.int v5), .val (.int v6), .val (.int v7), .val (.int v8), .val (.int v9), .val (.int v10), .val (.ref b93), .unset, .unset] [])) _
    refine XS.aload X0.here hx rfl (hb hby at_149) rfl rfl ?_
    show Steps p.tables e below (T0.setTop (mkF m 151 #[.val (.int v0), .val (.int v1), .val (.long v2), .second, .val (.int v4), .val (.int v5), .val (.int v6), .val (.int v7), .val (.int v8), .val (.int v9), .val (.int v10), .val (.ref b93), .unset, .unset] [(.ref b93)])) _
    refine XS.iconst X0.here hx rfl (hb hby at_151) ?_
    show Steps p.tables e below (T0.setTop (mkF m 152 #[.val (.int v0), .val (.int v1), .val (.long v2), .second, .val (.int v4), .val (.int v5), .val (.int v6), .val (.int v7), .val (.int v8), .val (.int v9), .val (.int v10), .val (.ref b93), .unset, .unset] [(.int (5 : Int32)), (.ref b93)])) _
    refine XS.lloadN X0.here hx rfl (hb hby at_152) rfl  ?_
    show Steps p.tables e below (T0.setTop (mkF m 153 #[.val (.int v0), .val (.int v1), .val (.long v2), .second, .val (.int v4), .val (.int v5), .val (.int v6), .val (.int v7), .val (.int v8), .val (.int v9), .val (.int v10), .val (.ref b93), .unset, .unset] [(.long v2), (.int (5 : Int32)), (.ref b93)])) _
    refine XS.bipush X0.here hx rfl (hb hby at_153) ?_
    show Steps p.tables e below (T0.setTop (mkF m 155 #[.val (.int v0), .val (.int v1), .val (.long v2), .second, .val (.int v4), .val (.int v5), .val (.int v6), .val (.int v7), .val (.int v8), .val (.int v9), .val (.int v10), .val (.ref b93), .unset, .unset] [(.int (40 : Int32)), (.long v2), (.int (5 : Int32)), (.ref b93)])) _
    refine XS.lushr X0.here hx rfl (hb hby at_155) rfl ?_
    show Steps p.tables e below (T0.setTop (mkF m 156 #[.val (.int v0), .val (.int v1), .val (.long v2), .second, .val (.int v4), .val (.int v5), .val (.int v6), .val (.int v7), .val (.int v8), .val (.int v9), .val (.int v10), .val (.ref b93), .unset, .unset] [(.long ((v2.toUInt64 >>> ((40 : Int32) &&& 0x3f).toInt64.toUInt64).toInt64)), (.int (5 : Int32)), (.ref b93)])) _
    refine XS.l2i X0.here hx rfl (hb hby at_156) rfl ?_
    exact k
  have hp7_hi : ¬ ((5 : Int32) < 0) := by decide
  -- pc 157: com/example/pure_mrtd/puremrtd/format/TlvReaderHasNextPinLaw.put
  obtain ⟨_, _, ⟨T7, L7, k7, n7⟩, -, X7, ⟨Lc7, hQ7, l7, y7, z7⟩, st7⟩ := Jvm.LawKit.callS X0 hx (y := (⟨"com/example/pure_mrtd/puremrtd/format/TlvReaderHasNextPinLaw", "put", "([BII)V"⟩ : MethodName)) hown (mvT hZ (hw _ (List.mem_of_getElem? (i := 1) rfl))) (mvT hZ (hw _ (List.mem_of_getElem? (i := 2) rfl))) (mvT hZ (hw _ (List.mem_of_getElem? (i := 3) rfl))) (mvT hZ (hw _ (List.mem_of_getElem? (i := 4) rfl))) (by decide) (backOf (W := 0) (rm1 l Z a0 hw [] b93 (5 : Int32) (((v2.toUInt64 >>> ((40 : Int32) &&& 0x3f).toInt64.toUInt64).toInt64).toInt32) b93_k b93_n b93_xs h n0 Z0 V_b93 ln_b93 g_b93 hp7_hi) hZ (hw _ (List.mem_of_getElem? (i := 4) rfl)) (hw _ (List.mem_of_getElem? (i := 3) rfl)) (by decide) (by decide)) (g := (mkF m 157 #[.val (.int v0), .val (.int v1), .val (.long v2), .second, .val (.int v4), .val (.int v5), .val (.int v6), .val (.int v7), .val (.int v8), .val (.int v9), .val (.int v10), .val (.ref b93), .unset, .unset] [(.int (((v2.toUInt64 >>> ((40 : Int32) &&& 0x3f).toInt64.toUInt64).toInt64).toInt32)), (.int (5 : Int32)), (.ref b93)])) rfl (by rw [hml]; rfl) (argsL := [(.ref b93), (.int (5 : Int32)), (.int (((v2.toUInt64 >>> ((40 : Int32) &&& 0x3f).toInt64.toUInt64).toInt64).toInt32))]) (rest := []) (lenOf pd_0 rfl) rfl (by show 2 * 0 + _ ≤ _; exact Nat.le_of_eq rfl) (hb hby at_157) (fun _ _ => ⟨rfl, e0, (by decide : 1 + R1.cells ≤ _), (by decide : 9 + R1.slots ≤ _)⟩)
  dsimp only [Pt.U, Pt.locs, Pt.cells, Pt.slots] at X7 l7 y7 z7 st7 hQ7
  subst l7 y7 z7
  obtain ⟨rfl, Nq7, Kq7, V_b93_7, ln_b93_7⟩ := hQ7
  obtain ⟨h7, e7⟩ : ∃ z, T7.heap = z := ⟨_, rfl⟩
  rw [e7] at Kq7 V_b93_7
  have N7 := Fr.app N0 Nq7
  have Z7 : n0 ≤ h7.size := Nat.le_trans Z0 Kq7.1
  refine EndsIn.by (B := T7.setTop (mkF m 160 #[.val (.int v0), .val (.int v1), .val (.long v2), .second, .val (.int v4), .val (.int v5), .val (.int v6), .val (.int v7), .val (.int v8), .val (.int v9), .val (.int v10), .val (.ref b93), .unset, .unset] [])) (fun t k => st7 t k) ?_
  have hG_j : own_G v4 v5 v6 v7 v8 v9 b93_n := (by first | exact hG | exact ⟨hBB, ht⟩)
  exact b0_160 ⟨hx, hZ, hw, hby, hml, hret, hown, hnm, hlk⟩ h0 n0 v0 v1 v2 v4 v5 v6 v7 v8 v9 v10 b93 b93_k b93_n (f1_0 (5 : Int32) (((v2.toUInt64 >>> ((40 : Int32) &&& 0x3f).toInt64.toUInt64).toInt64).toInt32) b93_n b93_xs) X7 e7 N7 Z7 V_b93_7 ln_b93_7 g_b93 hG_j _ hr
def f0_138 (v0 : Int32) (v1 : Int32) (v2 : Int64) (v4 : Int32) (v5 : Int32) (v6 : Int32) (v7 : Int32) (v8 : Int32) (v9 : Int32) (v10 : Int32) (b93_n : Int32) (b93_xs : List Int32) : Int32 := (f0_149 v0 v1 v2 v4 v5 v6 v7 v8 v9 v10 b93_n (f1_0 (4 : Int32) (((v2.toUInt64 >>> ((32 : Int32) &&& 0x3f).toInt64.toUInt64).toInt64).toInt32) b93_n b93_xs))
set_option maxRecDepth 65536 in
set_option maxHeartbeats 40000000 in
theorem b0_138 {p : Program} {l : Launch} {e : Env} {s : State} {m : MethodId} {args : Array Value} {below : List Frame} {meth : Method} {c : Code} {Z : State} {a0 : Array Value} (B : Ctx p Z s a0 m meth c "com/example/pure_mrtd/puremrtd/format/TlvReaderHasNextPinLaw" "law" code 14 (some .boolean)) {T0 : State} {locs : List Loc} {h : Heap} (h0 : Heap) (n0 : Nat) (v0 : Int32) (v1 : Int32) (v2 : Int64) (v4 : Int32) (v5 : Int32) (v6 : Int32) (v7 : Int32) (v8 : Int32) (v9 : Int32) (v10 : Int32) (b93 : Addr) (b93_k : ClassId) (b93_n : Int32) (b93_xs : List Int32) (X0 : Stand p l e room_1 s m args below meth c T0 locs 1 9) (e0 : T0.heap = h) (N0 : Fr n0 locs) (Z0 : n0 ≤ h.size) (V_b93 : Arv Z h b93 b93_k .byte b93_n (b93_xs.map Value.int) (.int 0)) (ln_b93 : b93_xs.length = b93_n.toNatClampNeg) (g_b93 : n0 ≤ b93) (hG : own_G v4 v5 v6 v7 v8 v9 b93_n) (r : Int32) (hr : f0_138 v0 v1 v2 v4 v5 v6 v7 v8 v9 v10 b93_n b93_xs = r) :
    EndsIn p e below s 8 25 (Q0 n0 r) (T0.setTop (mkF m 138 #[.val (.int v0), .val (.int v1), .val (.long v2), .second, .val (.int v4), .val (.int v5), .val (.int v6), .val (.int v7), .val (.int v8), .val (.int v9), .val (.int v10), .val (.ref b93), .unset, .unset] [])) := by
  obtain ⟨hx, hZ, hw, hby, hml, hret, hown, hnm, hlk⟩ := B
  unfold f0_138 at hr
  refine EndsIn.by (B := T0.setTop (mkF m 146 #[.val (.int v0), .val (.int v1), .val (.long v2), .second, .val (.int v4), .val (.int v5), .val (.int v6), .val (.int v7), .val (.int v8), .val (.int v9), .val (.int v10), .val (.ref b93), .unset, .unset] [(.int (((v2.toUInt64 >>> ((32 : Int32) &&& 0x3f).toInt64.toUInt64).toInt64).toInt32)), (.int (4 : Int32)), (.ref b93)])) (fun t k => ?_) ?_
  · show Steps p.tables e below (T0.setTop (mkF m 138 #[.val (.int v0), .val (.int v1), .val (.long v2), .second, .val (.int v4), .val (.int v5), .val (.int v6), .val (.int v7), .val (.int v8), .val (.int v9), .val (.int v10), .val (.ref b93), .unset, .unset] [])) _
    refine XS.aload X0.here hx rfl (hb hby at_138) rfl rfl ?_
    show Steps p.tables e below (T0.setTop (mkF m 140 #[.val (.int v0), .val (.int v1), .val (.long v2), .second, .val (.int v4), .val (.int v5), .val (.int v6), .val (.int v7), .val (.int v8), .val (.int v9), .val (.int v10), .val (.ref b93), .unset, .unset] [(.ref b93)])) _
    refine XS.iconst X0.here hx rfl (hb hby at_140) ?_
    show Steps p.tables e below (T0.setTop (mkF m 141 #[.val (.int v0), .val (.int v1), .val (.long v2), .second, .val (.int v4), .val (.int v5), .val (.int v6), .val (.int v7), .val (.int v8), .val (.int v9), .val (.int v10), .val (.ref b93), .unset, .unset] [(.int (4 : Int32)), (.ref b93)])) _
    refine XS.lloadN X0.here hx rfl (hb hby at_141) rfl  ?_
    show Steps p.tables e below (T0.setTop (mkF m 142 #[.val (.int v0), .val (.int v1), .val (.long v2), .second, .val (.int v4), .val (.int v5), .val (.int v6), .val (.int v7), .val (.int v8), .val (.int v9), .val (.int v10), .val (.ref b93), .unset, .unset] [(.long v2), (.int (4 : Int32)), (.ref b93)])) _
    refine XS.bipush X0.here hx rfl (hb hby at_142) ?_
    show Steps p.tables e below (T0.setTop (mkF m 144 #[.val (.int v0), .val (.int v1), .val (.long v2), .second, .val (.int v4), .val (.int v5), .val (.int v6), .val (.int v7), .val (.int v8), .val (.int v9), .val (.int v10), .val (.ref b93), .unset, .unset] [(.int (32 : Int32)), (.long v2), (.int (4 : Int32)), (.ref b93)])) _
    refine XS.lushr X0.here hx rfl (hb hby at_144) rfl ?_
    show Steps p.tables e below (T0.setTop (mkF m 145 #[.val (.int v0), .val (.int v1), .val (.long v2), .second, .val (.int v4), .val (.int v5), .val (.int v6), .val (.int v7), .val (.int v8), .val (.int v9), .val (.int v10), .val (.ref b93), .unset, .unset] [(.long ((v2.toUInt64 >>> ((32 : Int32) &&& 0x3f).toInt64.toUInt64).toInt64)), (.int (4 : Int32)), (.ref b93)])) _
    refine XS.l2i X0.here hx rfl (hb hby at_145) rfl ?_
    exact k
  have hp6_hi : ¬ ((4 : Int32) < 0) := by decide
  -- pc 146: com/example/pure_mrtd/puremrtd/format/TlvReaderHasNextPinLaw.put
  obtain ⟨_, _, ⟨T6, L6, k6, n6⟩, -, X6, ⟨Lc6, hQ6, l6, y6, z6⟩, st6⟩ := Jvm.LawKit.callS X0 hx (y := (⟨"com/example/pure_mrtd/puremrtd/format/TlvReaderHasNextPinLaw", "put", "([BII)V"⟩ : MethodName)) hown (mvT hZ (hw _ (List.mem_of_getElem? (i := 1) rfl))) (mvT hZ (hw _ (List.mem_of_getElem? (i := 2) rfl))) (mvT hZ (hw _ (List.mem_of_getElem? (i := 3) rfl))) (mvT hZ (hw _ (List.mem_of_getElem? (i := 4) rfl))) (by decide) (backOf (W := 0) (rm1 l Z a0 hw [] b93 (4 : Int32) (((v2.toUInt64 >>> ((32 : Int32) &&& 0x3f).toInt64.toUInt64).toInt64).toInt32) b93_k b93_n b93_xs h n0 Z0 V_b93 ln_b93 g_b93 hp6_hi) hZ (hw _ (List.mem_of_getElem? (i := 4) rfl)) (hw _ (List.mem_of_getElem? (i := 3) rfl)) (by decide) (by decide)) (g := (mkF m 146 #[.val (.int v0), .val (.int v1), .val (.long v2), .second, .val (.int v4), .val (.int v5), .val (.int v6), .val (.int v7), .val (.int v8), .val (.int v9), .val (.int v10), .val (.ref b93), .unset, .unset] [(.int (((v2.toUInt64 >>> ((32 : Int32) &&& 0x3f).toInt64.toUInt64).toInt64).toInt32)), (.int (4 : Int32)), (.ref b93)])) rfl (by rw [hml]; rfl) (argsL := [(.ref b93), (.int (4 : Int32)), (.int (((v2.toUInt64 >>> ((32 : Int32) &&& 0x3f).toInt64.toUInt64).toInt64).toInt32))]) (rest := []) (lenOf pd_0 rfl) rfl (by show 2 * 0 + _ ≤ _; exact Nat.le_of_eq rfl) (hb hby at_146) (fun _ _ => ⟨rfl, e0, (by decide : 1 + R1.cells ≤ _), (by decide : 9 + R1.slots ≤ _)⟩)
  dsimp only [Pt.U, Pt.locs, Pt.cells, Pt.slots] at X6 l6 y6 z6 st6 hQ6
  subst l6 y6 z6
  obtain ⟨rfl, Nq6, Kq6, V_b93_6, ln_b93_6⟩ := hQ6
  obtain ⟨h6, e6⟩ : ∃ z, T6.heap = z := ⟨_, rfl⟩
  rw [e6] at Kq6 V_b93_6
  have N6 := Fr.app N0 Nq6
  have Z6 : n0 ≤ h6.size := Nat.le_trans Z0 Kq6.1
  refine EndsIn.by (B := T6.setTop (mkF m 149 #[.val (.int v0), .val (.int v1), .val (.long v2), .second, .val (.int v4), .val (.int v5), .val (.int v6), .val (.int v7), .val (.int v8), .val (.int v9), .val (.int v10), .val (.ref b93), .unset, .unset] [])) (fun t k => st6 t k) ?_
  have hG_j : own_G v4 v5 v6 v7 v8 v9 b93_n := (by first | exact hG | exact ⟨hBB, ht⟩)
  exact b0_149 ⟨hx, hZ, hw, hby, hml, hret, hown, hnm, hlk⟩ h0 n0 v0 v1 v2 v4 v5 v6 v7 v8 v9 v10 b93 b93_k b93_n (f1_0 (4 : Int32) (((v2.toUInt64 >>> ((32 : Int32) &&& 0x3f).toInt64.toUInt64).toInt64).toInt32) b93_n b93_xs) X6 e6 N6 Z6 V_b93_6 ln_b93_6 g_b93 hG_j _ hr
def f0_127 (v0 : Int32) (v1 : Int32) (v2 : Int64) (v4 : Int32) (v5 : Int32) (v6 : Int32) (v7 : Int32) (v8 : Int32) (v9 : Int32) (v10 : Int32) (b93_n : Int32) (b93_xs : List Int32) : Int32 := (f0_138 v0 v1 v2 v4 v5 v6 v7 v8 v9 v10 b93_n (f1_0 (3 : Int32) (((v2.toUInt64 >>> ((24 : Int32) &&& 0x3f).toInt64.toUInt64).toInt64).toInt32) b93_n b93_xs))
set_option maxRecDepth 65536 in
set_option maxHeartbeats 40000000 in
theorem b0_127 {p : Program} {l : Launch} {e : Env} {s : State} {m : MethodId} {args : Array Value} {below : List Frame} {meth : Method} {c : Code} {Z : State} {a0 : Array Value} (B : Ctx p Z s a0 m meth c "com/example/pure_mrtd/puremrtd/format/TlvReaderHasNextPinLaw" "law" code 14 (some .boolean)) {T0 : State} {locs : List Loc} {h : Heap} (h0 : Heap) (n0 : Nat) (v0 : Int32) (v1 : Int32) (v2 : Int64) (v4 : Int32) (v5 : Int32) (v6 : Int32) (v7 : Int32) (v8 : Int32) (v9 : Int32) (v10 : Int32) (b93 : Addr) (b93_k : ClassId) (b93_n : Int32) (b93_xs : List Int32) (X0 : Stand p l e room_1 s m args below meth c T0 locs 1 9) (e0 : T0.heap = h) (N0 : Fr n0 locs) (Z0 : n0 ≤ h.size) (V_b93 : Arv Z h b93 b93_k .byte b93_n (b93_xs.map Value.int) (.int 0)) (ln_b93 : b93_xs.length = b93_n.toNatClampNeg) (g_b93 : n0 ≤ b93) (hG : own_G v4 v5 v6 v7 v8 v9 b93_n) (r : Int32) (hr : f0_127 v0 v1 v2 v4 v5 v6 v7 v8 v9 v10 b93_n b93_xs = r) :
    EndsIn p e below s 8 25 (Q0 n0 r) (T0.setTop (mkF m 127 #[.val (.int v0), .val (.int v1), .val (.long v2), .second, .val (.int v4), .val (.int v5), .val (.int v6), .val (.int v7), .val (.int v8), .val (.int v9), .val (.int v10), .val (.ref b93), .unset, .unset] [])) := by
  obtain ⟨hx, hZ, hw, hby, hml, hret, hown, hnm, hlk⟩ := B
  unfold f0_127 at hr
  refine EndsIn.by (B := T0.setTop (mkF m 135 #[.val (.int v0), .val (.int v1), .val (.long v2), .second, .val (.int v4), .val (.int v5), .val (.int v6), .val (.int v7), .val (.int v8), .val (.int v9), .val (.int v10), .val (.ref b93), .unset, .unset] [(.int (((v2.toUInt64 >>> ((24 : Int32) &&& 0x3f).toInt64.toUInt64).toInt64).toInt32)), (.int (3 : Int32)), (.ref b93)])) (fun t k => ?_) ?_
  · show Steps p.tables e below (T0.setTop (mkF m 127 #[.val (.int v0), .val (.int v1), .val (.long v2), .second, .val (.int v4), .val (.int v5), .val (.int v6), .val (.int v7), .val (.int v8), .val (.int v9), .val (.int v10), .val (.ref b93), .unset, .unset] [])) _
    refine XS.aload X0.here hx rfl (hb hby at_127) rfl rfl ?_
    show Steps p.tables e below (T0.setTop (mkF m 129 #[.val (.int v0), .val (.int v1), .val (.long v2), .second, .val (.int v4), .val (.int v5), .val (.int v6), .val (.int v7), .val (.int v8), .val (.int v9), .val (.int v10), .val (.ref b93), .unset, .unset] [(.ref b93)])) _
    refine XS.iconst X0.here hx rfl (hb hby at_129) ?_
    show Steps p.tables e below (T0.setTop (mkF m 130 #[.val (.int v0), .val (.int v1), .val (.long v2), .second, .val (.int v4), .val (.int v5), .val (.int v6), .val (.int v7), .val (.int v8), .val (.int v9), .val (.int v10), .val (.ref b93), .unset, .unset] [(.int (3 : Int32)), (.ref b93)])) _
    refine XS.lloadN X0.here hx rfl (hb hby at_130) rfl  ?_
    show Steps p.tables e below (T0.setTop (mkF m 131 #[.val (.int v0), .val (.int v1), .val (.long v2), .second, .val (.int v4), .val (.int v5), .val (.int v6), .val (.int v7), .val (.int v8), .val (.int v9), .val (.int v10), .val (.ref b93), .unset, .unset] [(.long v2), (.int (3 : Int32)), (.ref b93)])) _
    refine XS.bipush X0.here hx rfl (hb hby at_131) ?_
    show Steps p.tables e below (T0.setTop (mkF m 133 #[.val (.int v0), .val (.int v1), .val (.long v2), .second, .val (.int v4), .val (.int v5), .val (.int v6), .val (.int v7), .val (.int v8), .val (.int v9), .val (.int v10), .val (.ref b93), .unset, .unset] [(.int (24 : Int32)), (.long v2), (.int (3 : Int32)), (.ref b93)])) _
    refine XS.lushr X0.here hx rfl (hb hby at_133) rfl ?_
    show Steps p.tables e below (T0.setTop (mkF m 134 #[.val (.int v0), .val (.int v1), .val (.long v2), .second, .val (.int v4), .val (.int v5), .val (.int v6), .val (.int v7), .val (.int v8), .val (.int v9), .val (.int v10), .val (.ref b93), .unset, .unset] [(.long ((v2.toUInt64 >>> ((24 : Int32) &&& 0x3f).toInt64.toUInt64).toInt64)), (.int (3 : Int32)), (.ref b93)])) _
    refine XS.l2i X0.here hx rfl (hb hby at_134) rfl ?_
    exact k
  have hp5_hi : ¬ ((3 : Int32) < 0) := by decide
  -- pc 135: com/example/pure_mrtd/puremrtd/format/TlvReaderHasNextPinLaw.put
  obtain ⟨_, _, ⟨T5, L5, k5, n5⟩, -, X5, ⟨Lc5, hQ5, l5, y5, z5⟩, st5⟩ := Jvm.LawKit.callS X0 hx (y := (⟨"com/example/pure_mrtd/puremrtd/format/TlvReaderHasNextPinLaw", "put", "([BII)V"⟩ : MethodName)) hown (mvT hZ (hw _ (List.mem_of_getElem? (i := 1) rfl))) (mvT hZ (hw _ (List.mem_of_getElem? (i := 2) rfl))) (mvT hZ (hw _ (List.mem_of_getElem? (i := 3) rfl))) (mvT hZ (hw _ (List.mem_of_getElem? (i := 4) rfl))) (by decide) (backOf (W := 0) (rm1 l Z a0 hw [] b93 (3 : Int32) (((v2.toUInt64 >>> ((24 : Int32) &&& 0x3f).toInt64.toUInt64).toInt64).toInt32) b93_k b93_n b93_xs h n0 Z0 V_b93 ln_b93 g_b93 hp5_hi) hZ (hw _ (List.mem_of_getElem? (i := 4) rfl)) (hw _ (List.mem_of_getElem? (i := 3) rfl)) (by decide) (by decide)) (g := (mkF m 135 #[.val (.int v0), .val (.int v1), .val (.long v2), .second, .val (.int v4), .val (.int v5), .val (.int v6), .val (.int v7), .val (.int v8), .val (.int v9), .val (.int v10), .val (.ref b93), .unset, .unset] [(.int (((v2.toUInt64 >>> ((24 : Int32) &&& 0x3f).toInt64.toUInt64).toInt64).toInt32)), (.int (3 : Int32)), (.ref b93)])) rfl (by rw [hml]; rfl) (argsL := [(.ref b93), (.int (3 : Int32)), (.int (((v2.toUInt64 >>> ((24 : Int32) &&& 0x3f).toInt64.toUInt64).toInt64).toInt32))]) (rest := []) (lenOf pd_0 rfl) rfl (by show 2 * 0 + _ ≤ _; exact Nat.le_of_eq rfl) (hb hby at_135) (fun _ _ => ⟨rfl, e0, (by decide : 1 + R1.cells ≤ _), (by decide : 9 + R1.slots ≤ _)⟩)
  dsimp only [Pt.U, Pt.locs, Pt.cells, Pt.slots] at X5 l5 y5 z5 st5 hQ5
  subst l5 y5 z5
  obtain ⟨rfl, Nq5, Kq5, V_b93_5, ln_b93_5⟩ := hQ5
  obtain ⟨h5, e5⟩ : ∃ z, T5.heap = z := ⟨_, rfl⟩
  rw [e5] at Kq5 V_b93_5
  have N5 := Fr.app N0 Nq5
  have Z5 : n0 ≤ h5.size := Nat.le_trans Z0 Kq5.1
  refine EndsIn.by (B := T5.setTop (mkF m 138 #[.val (.int v0), .val (.int v1), .val (.long v2), .second, .val (.int v4), .val (.int v5), .val (.int v6), .val (.int v7), .val (.int v8), .val (.int v9), .val (.int v10), .val (.ref b93), .unset, .unset] [])) (fun t k => st5 t k) ?_
  have hG_j : own_G v4 v5 v6 v7 v8 v9 b93_n := (by first | exact hG | exact ⟨hBB, ht⟩)
  exact b0_138 ⟨hx, hZ, hw, hby, hml, hret, hown, hnm, hlk⟩ h0 n0 v0 v1 v2 v4 v5 v6 v7 v8 v9 v10 b93 b93_k b93_n (f1_0 (3 : Int32) (((v2.toUInt64 >>> ((24 : Int32) &&& 0x3f).toInt64.toUInt64).toInt64).toInt32) b93_n b93_xs) X5 e5 N5 Z5 V_b93_5 ln_b93_5 g_b93 hG_j _ hr
def f0_116 (v0 : Int32) (v1 : Int32) (v2 : Int64) (v4 : Int32) (v5 : Int32) (v6 : Int32) (v7 : Int32) (v8 : Int32) (v9 : Int32) (v10 : Int32) (b93_n : Int32) (b93_xs : List Int32) : Int32 := (f0_127 v0 v1 v2 v4 v5 v6 v7 v8 v9 v10 b93_n (f1_0 (2 : Int32) (((v2.toUInt64 >>> ((16 : Int32) &&& 0x3f).toInt64.toUInt64).toInt64).toInt32) b93_n b93_xs))
set_option maxRecDepth 65536 in
set_option maxHeartbeats 40000000 in
theorem b0_116 {p : Program} {l : Launch} {e : Env} {s : State} {m : MethodId} {args : Array Value} {below : List Frame} {meth : Method} {c : Code} {Z : State} {a0 : Array Value} (B : Ctx p Z s a0 m meth c "com/example/pure_mrtd/puremrtd/format/TlvReaderHasNextPinLaw" "law" code 14 (some .boolean)) {T0 : State} {locs : List Loc} {h : Heap} (h0 : Heap) (n0 : Nat) (v0 : Int32) (v1 : Int32) (v2 : Int64) (v4 : Int32) (v5 : Int32) (v6 : Int32) (v7 : Int32) (v8 : Int32) (v9 : Int32) (v10 : Int32) (b93 : Addr) (b93_k : ClassId) (b93_n : Int32) (b93_xs : List Int32) (X0 : Stand p l e room_1 s m args below meth c T0 locs 1 9) (e0 : T0.heap = h) (N0 : Fr n0 locs) (Z0 : n0 ≤ h.size) (V_b93 : Arv Z h b93 b93_k .byte b93_n (b93_xs.map Value.int) (.int 0)) (ln_b93 : b93_xs.length = b93_n.toNatClampNeg) (g_b93 : n0 ≤ b93) (hG : own_G v4 v5 v6 v7 v8 v9 b93_n) (r : Int32) (hr : f0_116 v0 v1 v2 v4 v5 v6 v7 v8 v9 v10 b93_n b93_xs = r) :
    EndsIn p e below s 8 25 (Q0 n0 r) (T0.setTop (mkF m 116 #[.val (.int v0), .val (.int v1), .val (.long v2), .second, .val (.int v4), .val (.int v5), .val (.int v6), .val (.int v7), .val (.int v8), .val (.int v9), .val (.int v10), .val (.ref b93), .unset, .unset] [])) := by
  obtain ⟨hx, hZ, hw, hby, hml, hret, hown, hnm, hlk⟩ := B
  unfold f0_116 at hr
  refine EndsIn.by (B := T0.setTop (mkF m 124 #[.val (.int v0), .val (.int v1), .val (.long v2), .second, .val (.int v4), .val (.int v5), .val (.int v6), .val (.int v7), .val (.int v8), .val (.int v9), .val (.int v10), .val (.ref b93), .unset, .unset] [(.int (((v2.toUInt64 >>> ((16 : Int32) &&& 0x3f).toInt64.toUInt64).toInt64).toInt32)), (.int (2 : Int32)), (.ref b93)])) (fun t k => ?_) ?_
  · show Steps p.tables e below (T0.setTop (mkF m 116 #[.val (.int v0), .val (.int v1), .val (.long v2), .second, .val (.int v4), .val (.int v5), .val (.int v6), .val (.int v7), .val (.int v8), .val (.int v9), .val (.int v10), .val (.ref b93), .unset, .unset] [])) _
    refine XS.aload X0.here hx rfl (hb hby at_116) rfl rfl ?_
    show Steps p.tables e below (T0.setTop (mkF m 118 #[.val (.int v0), .val (.int v1), .val (.long v2), .second, .val (.int v4), .val (.int v5), .val (.int v6), .val (.int v7), .val (.int v8), .val (.int v9), .val (.int v10), .val (.ref b93), .unset, .unset] [(.ref b93)])) _
    refine XS.iconst X0.here hx rfl (hb hby at_118) ?_
    show Steps p.tables e below (T0.setTop (mkF m 119 #[.val (.int v0), .val (.int v1), .val (.long v2), .second, .val (.int v4), .val (.int v5), .val (.int v6), .val (.int v7), .val (.int v8), .val (.int v9), .val (.int v10), .val (.ref b93), .unset, .unset] [(.int (2 : Int32)), (.ref b93)])) _
    refine XS.lloadN X0.here hx rfl (hb hby at_119) rfl  ?_
    show Steps p.tables e below (T0.setTop (mkF m 120 #[.val (.int v0), .val (.int v1), .val (.long v2), .second, .val (.int v4), .val (.int v5), .val (.int v6), .val (.int v7), .val (.int v8), .val (.int v9), .val (.int v10), .val (.ref b93), .unset, .unset] [(.long v2), (.int (2 : Int32)), (.ref b93)])) _
    refine XS.bipush X0.here hx rfl (hb hby at_120) ?_
    show Steps p.tables e below (T0.setTop (mkF m 122 #[.val (.int v0), .val (.int v1), .val (.long v2), .second, .val (.int v4), .val (.int v5), .val (.int v6), .val (.int v7), .val (.int v8), .val (.int v9), .val (.int v10), .val (.ref b93), .unset, .unset] [(.int (16 : Int32)), (.long v2), (.int (2 : Int32)), (.ref b93)])) _
    refine XS.lushr X0.here hx rfl (hb hby at_122) rfl ?_
    show Steps p.tables e below (T0.setTop (mkF m 123 #[.val (.int v0), .val (.int v1), .val (.long v2), .second, .val (.int v4), .val (.int v5), .val (.int v6), .val (.int v7), .val (.int v8), .val (.int v9), .val (.int v10), .val (.ref b93), .unset, .unset] [(.long ((v2.toUInt64 >>> ((16 : Int32) &&& 0x3f).toInt64.toUInt64).toInt64)), (.int (2 : Int32)), (.ref b93)])) _
    refine XS.l2i X0.here hx rfl (hb hby at_123) rfl ?_
    exact k
  have hp4_hi : ¬ ((2 : Int32) < 0) := by decide
  -- pc 124: com/example/pure_mrtd/puremrtd/format/TlvReaderHasNextPinLaw.put
  obtain ⟨_, _, ⟨T4, L4, k4, n4⟩, -, X4, ⟨Lc4, hQ4, l4, y4, z4⟩, st4⟩ := Jvm.LawKit.callS X0 hx (y := (⟨"com/example/pure_mrtd/puremrtd/format/TlvReaderHasNextPinLaw", "put", "([BII)V"⟩ : MethodName)) hown (mvT hZ (hw _ (List.mem_of_getElem? (i := 1) rfl))) (mvT hZ (hw _ (List.mem_of_getElem? (i := 2) rfl))) (mvT hZ (hw _ (List.mem_of_getElem? (i := 3) rfl))) (mvT hZ (hw _ (List.mem_of_getElem? (i := 4) rfl))) (by decide) (backOf (W := 0) (rm1 l Z a0 hw [] b93 (2 : Int32) (((v2.toUInt64 >>> ((16 : Int32) &&& 0x3f).toInt64.toUInt64).toInt64).toInt32) b93_k b93_n b93_xs h n0 Z0 V_b93 ln_b93 g_b93 hp4_hi) hZ (hw _ (List.mem_of_getElem? (i := 4) rfl)) (hw _ (List.mem_of_getElem? (i := 3) rfl)) (by decide) (by decide)) (g := (mkF m 124 #[.val (.int v0), .val (.int v1), .val (.long v2), .second, .val (.int v4), .val (.int v5), .val (.int v6), .val (.int v7), .val (.int v8), .val (.int v9), .val (.int v10), .val (.ref b93), .unset, .unset] [(.int (((v2.toUInt64 >>> ((16 : Int32) &&& 0x3f).toInt64.toUInt64).toInt64).toInt32)), (.int (2 : Int32)), (.ref b93)])) rfl (by rw [hml]; rfl) (argsL := [(.ref b93), (.int (2 : Int32)), (.int (((v2.toUInt64 >>> ((16 : Int32) &&& 0x3f).toInt64.toUInt64).toInt64).toInt32))]) (rest := []) (lenOf pd_0 rfl) rfl (by show 2 * 0 + _ ≤ _; exact Nat.le_of_eq rfl) (hb hby at_124) (fun _ _ => ⟨rfl, e0, (by decide : 1 + R1.cells ≤ _), (by decide : 9 + R1.slots ≤ _)⟩)
  dsimp only [Pt.U, Pt.locs, Pt.cells, Pt.slots] at X4 l4 y4 z4 st4 hQ4
  subst l4 y4 z4
  obtain ⟨rfl, Nq4, Kq4, V_b93_4, ln_b93_4⟩ := hQ4
  obtain ⟨h4, e4⟩ : ∃ z, T4.heap = z := ⟨_, rfl⟩
  rw [e4] at Kq4 V_b93_4
  have N4 := Fr.app N0 Nq4
  have Z4 : n0 ≤ h4.size := Nat.le_trans Z0 Kq4.1
  refine EndsIn.by (B := T4.setTop (mkF m 127 #[.val (.int v0), .val (.int v1), .val (.long v2), .second, .val (.int v4), .val (.int v5), .val (.int v6), .val (.int v7), .val (.int v8), .val (.int v9), .val (.int v10), .val (.ref b93), .unset, .unset] [])) (fun t k => st4 t k) ?_
  have hG_j : own_G v4 v5 v6 v7 v8 v9 b93_n := (by first | exact hG | exact ⟨hBB, ht⟩)
  exact b0_127 ⟨hx, hZ, hw, hby, hml, hret, hown, hnm, hlk⟩ h0 n0 v0 v1 v2 v4 v5 v6 v7 v8 v9 v10 b93 b93_k b93_n (f1_0 (2 : Int32) (((v2.toUInt64 >>> ((16 : Int32) &&& 0x3f).toInt64.toUInt64).toInt64).toInt32) b93_n b93_xs) X4 e4 N4 Z4 V_b93_4 ln_b93_4 g_b93 hG_j _ hr
def f0_105 (v0 : Int32) (v1 : Int32) (v2 : Int64) (v4 : Int32) (v5 : Int32) (v6 : Int32) (v7 : Int32) (v8 : Int32) (v9 : Int32) (v10 : Int32) (b93_n : Int32) (b93_xs : List Int32) : Int32 := (f0_116 v0 v1 v2 v4 v5 v6 v7 v8 v9 v10 b93_n (f1_0 (1 : Int32) (((v2.toUInt64 >>> ((8 : Int32) &&& 0x3f).toInt64.toUInt64).toInt64).toInt32) b93_n b93_xs))
set_option maxRecDepth 65536 in
set_option maxHeartbeats 40000000 in
theorem b0_105 {p : Program} {l : Launch} {e : Env} {s : State} {m : MethodId} {args : Array Value} {below : List Frame} {meth : Method} {c : Code} {Z : State} {a0 : Array Value} (B : Ctx p Z s a0 m meth c "com/example/pure_mrtd/puremrtd/format/TlvReaderHasNextPinLaw" "law" code 14 (some .boolean)) {T0 : State} {locs : List Loc} {h : Heap} (h0 : Heap) (n0 : Nat) (v0 : Int32) (v1 : Int32) (v2 : Int64) (v4 : Int32) (v5 : Int32) (v6 : Int32) (v7 : Int32) (v8 : Int32) (v9 : Int32) (v10 : Int32) (b93 : Addr) (b93_k : ClassId) (b93_n : Int32) (b93_xs : List Int32) (X0 : Stand p l e room_1 s m args below meth c T0 locs 1 9) (e0 : T0.heap = h) (N0 : Fr n0 locs) (Z0 : n0 ≤ h.size) (V_b93 : Arv Z h b93 b93_k .byte b93_n (b93_xs.map Value.int) (.int 0)) (ln_b93 : b93_xs.length = b93_n.toNatClampNeg) (g_b93 : n0 ≤ b93) (hG : own_G v4 v5 v6 v7 v8 v9 b93_n) (r : Int32) (hr : f0_105 v0 v1 v2 v4 v5 v6 v7 v8 v9 v10 b93_n b93_xs = r) :
    EndsIn p e below s 8 25 (Q0 n0 r) (T0.setTop (mkF m 105 #[.val (.int v0), .val (.int v1), .val (.long v2), .second, .val (.int v4), .val (.int v5), .val (.int v6), .val (.int v7), .val (.int v8), .val (.int v9), .val (.int v10), .val (.ref b93), .unset, .unset] [])) := by
  obtain ⟨hx, hZ, hw, hby, hml, hret, hown, hnm, hlk⟩ := B
  unfold f0_105 at hr
  refine EndsIn.by (B := T0.setTop (mkF m 113 #[.val (.int v0), .val (.int v1), .val (.long v2), .second, .val (.int v4), .val (.int v5), .val (.int v6), .val (.int v7), .val (.int v8), .val (.int v9), .val (.int v10), .val (.ref b93), .unset, .unset] [(.int (((v2.toUInt64 >>> ((8 : Int32) &&& 0x3f).toInt64.toUInt64).toInt64).toInt32)), (.int (1 : Int32)), (.ref b93)])) (fun t k => ?_) ?_
  · show Steps p.tables e below (T0.setTop (mkF m 105 #[.val (.int v0), .val (.int v1), .val (.long v2), .second, .val (.int v4), .val (.int v5), .val (.int v6), .val (.int v7), .val (.int v8), .val (.int v9), .val (.int v10), .val (.ref b93), .unset, .unset] [])) _
    refine XS.aload X0.here hx rfl (hb hby at_105) rfl rfl ?_
    show Steps p.tables e below (T0.setTop (mkF m 107 #[.val (.int v0), .val (.int v1), .val (.long v2), .second, .val (.int v4), .val (.int v5), .val (.int v6), .val (.int v7), .val (.int v8), .val (.int v9), .val (.int v10), .val (.ref b93), .unset, .unset] [(.ref b93)])) _
    refine XS.iconst X0.here hx rfl (hb hby at_107) ?_
    show Steps p.tables e below (T0.setTop (mkF m 108 #[.val (.int v0), .val (.int v1), .val (.long v2), .second, .val (.int v4), .val (.int v5), .val (.int v6), .val (.int v7), .val (.int v8), .val (.int v9), .val (.int v10), .val (.ref b93), .unset, .unset] [(.int (1 : Int32)), (.ref b93)])) _
    refine XS.lloadN X0.here hx rfl (hb hby at_108) rfl  ?_
    show Steps p.tables e below (T0.setTop (mkF m 109 #[.val (.int v0), .val (.int v1), .val (.long v2), .second, .val (.int v4), .val (.int v5), .val (.int v6), .val (.int v7), .val (.int v8), .val (.int v9), .val (.int v10), .val (.ref b93), .unset, .unset] [(.long v2), (.int (1 : Int32)), (.ref b93)])) _
    refine XS.bipush X0.here hx rfl (hb hby at_109) ?_
    show Steps p.tables e below (T0.setTop (mkF m 111 #[.val (.int v0), .val (.int v1), .val (.long v2), .second, .val (.int v4), .val (.int v5), .val (.int v6), .val (.int v7), .val (.int v8), .val (.int v9), .val (.int v10), .val (.ref b93), .unset, .unset] [(.int (8 : Int32)), (.long v2), (.int (1 : Int32)), (.ref b93)])) _
    refine XS.lushr X0.here hx rfl (hb hby at_111) rfl ?_
    show Steps p.tables e below (T0.setTop (mkF m 112 #[.val (.int v0), .val (.int v1), .val (.long v2), .second, .val (.int v4), .val (.int v5), .val (.int v6), .val (.int v7), .val (.int v8), .val (.int v9), .val (.int v10), .val (.ref b93), .unset, .unset] [(.long ((v2.toUInt64 >>> ((8 : Int32) &&& 0x3f).toInt64.toUInt64).toInt64)), (.int (1 : Int32)), (.ref b93)])) _
    refine XS.l2i X0.here hx rfl (hb hby at_112) rfl ?_
    exact k
  have hp3_hi : ¬ ((1 : Int32) < 0) := by decide
  -- pc 113: com/example/pure_mrtd/puremrtd/format/TlvReaderHasNextPinLaw.put
  obtain ⟨_, _, ⟨T3, L3, k3, n3⟩, -, X3, ⟨Lc3, hQ3, l3, y3, z3⟩, st3⟩ := Jvm.LawKit.callS X0 hx (y := (⟨"com/example/pure_mrtd/puremrtd/format/TlvReaderHasNextPinLaw", "put", "([BII)V"⟩ : MethodName)) hown (mvT hZ (hw _ (List.mem_of_getElem? (i := 1) rfl))) (mvT hZ (hw _ (List.mem_of_getElem? (i := 2) rfl))) (mvT hZ (hw _ (List.mem_of_getElem? (i := 3) rfl))) (mvT hZ (hw _ (List.mem_of_getElem? (i := 4) rfl))) (by decide) (backOf (W := 0) (rm1 l Z a0 hw [] b93 (1 : Int32) (((v2.toUInt64 >>> ((8 : Int32) &&& 0x3f).toInt64.toUInt64).toInt64).toInt32) b93_k b93_n b93_xs h n0 Z0 V_b93 ln_b93 g_b93 hp3_hi) hZ (hw _ (List.mem_of_getElem? (i := 4) rfl)) (hw _ (List.mem_of_getElem? (i := 3) rfl)) (by decide) (by decide)) (g := (mkF m 113 #[.val (.int v0), .val (.int v1), .val (.long v2), .second, .val (.int v4), .val (.int v5), .val (.int v6), .val (.int v7), .val (.int v8), .val (.int v9), .val (.int v10), .val (.ref b93), .unset, .unset] [(.int (((v2.toUInt64 >>> ((8 : Int32) &&& 0x3f).toInt64.toUInt64).toInt64).toInt32)), (.int (1 : Int32)), (.ref b93)])) rfl (by rw [hml]; rfl) (argsL := [(.ref b93), (.int (1 : Int32)), (.int (((v2.toUInt64 >>> ((8 : Int32) &&& 0x3f).toInt64.toUInt64).toInt64).toInt32))]) (rest := []) (lenOf pd_0 rfl) rfl (by show 2 * 0 + _ ≤ _; exact Nat.le_of_eq rfl) (hb hby at_113) (fun _ _ => ⟨rfl, e0, (by decide : 1 + R1.cells ≤ _), (by decide : 9 + R1.slots ≤ _)⟩)
  dsimp only [Pt.U, Pt.locs, Pt.cells, Pt.slots] at X3 l3 y3 z3 st3 hQ3
  subst l3 y3 z3
  obtain ⟨rfl, Nq3, Kq3, V_b93_3, ln_b93_3⟩ := hQ3
  obtain ⟨h3, e3⟩ : ∃ z, T3.heap = z := ⟨_, rfl⟩
  rw [e3] at Kq3 V_b93_3
  have N3 := Fr.app N0 Nq3
  have Z3 : n0 ≤ h3.size := Nat.le_trans Z0 Kq3.1
  refine EndsIn.by (B := T3.setTop (mkF m 116 #[.val (.int v0), .val (.int v1), .val (.long v2), .second, .val (.int v4), .val (.int v5), .val (.int v6), .val (.int v7), .val (.int v8), .val (.int v9), .val (.int v10), .val (.ref b93), .unset, .unset] [])) (fun t k => st3 t k) ?_
  have hG_j : own_G v4 v5 v6 v7 v8 v9 b93_n := (by first | exact hG | exact ⟨hBB, ht⟩)
  exact b0_116 ⟨hx, hZ, hw, hby, hml, hret, hown, hnm, hlk⟩ h0 n0 v0 v1 v2 v4 v5 v6 v7 v8 v9 v10 b93 b93_k b93_n (f1_0 (1 : Int32) (((v2.toUInt64 >>> ((8 : Int32) &&& 0x3f).toInt64.toUInt64).toInt64).toInt32) b93_n b93_xs) X3 e3 N3 Z3 V_b93_3 ln_b93_3 g_b93 hG_j _ hr
def f0_88 (v0 : Int32) (v1 : Int32) (v2 : Int64) (v4 : Int32) (v5 : Int32) (v6 : Int32) (v7 : Int32) (v8 : Int32) (v9 : Int32) (t0 : Int32) (t1 : Int32) : Int32 := (f0_105 v0 v1 v2 v4 v5 v6 v7 v8 v9 (t1 + t0) (t1 + t0) (f1_0 (0 : Int32) (v2.toInt32) (t1 + t0) (List.replicate (t1 + t0).toNatClampNeg (0 : Int32))))
set_option maxRecDepth 65536 in
set_option maxHeartbeats 40000000 in
theorem b0_88 {p : Program} {l : Launch} {e : Env} {s : State} {m : MethodId} {args : Array Value} {below : List Frame} {meth : Method} {c : Code} {Z : State} {a0 : Array Value} (B : Ctx p Z s a0 m meth c "com/example/pure_mrtd/puremrtd/format/TlvReaderHasNextPinLaw" "law" code 14 (some .boolean)) {T0 : State} {locs : List Loc} {h : Heap} (h0 : Heap) (n0 : Nat) (v0 : Int32) (v1 : Int32) (v2 : Int64) (v4 : Int32) (v5 : Int32) (v6 : Int32) (v7 : Int32) (v8 : Int32) (v9 : Int32) (t0 : Int32) (t1 : Int32) (X0 : Stand p l e room_1 s m args below meth c T0 locs 0 0) (e0 : T0.heap = h) (N0 : Fr n0 locs) (Z0 : n0 ≤ h.size) (hBB : own_B v4 v5 v6 v7 v8 v9) (ht : (t1 + t0) = v8 + v9 + v7) (r : Int32) (hr : f0_88 v0 v1 v2 v4 v5 v6 v7 v8 v9 t0 t1 = r) :
    EndsIn p e below s 8 25 (Q0 n0 r) (T0.setTop (mkF m 88 #[.val (.int v0), .val (.int v1), .val (.long v2), .second, .val (.int v4), .val (.int v5), .val (.int v6), .val (.int v7), .val (.int v8), .val (.int v9), .unset, .unset, .unset, .unset] [(.int t0), (.int t1)])) := by
  obtain ⟨hx, hZ, hw, hby, hml, hret, hown, hnm, hlk⟩ := B
  unfold f0_88 at hr
  refine EndsIn.by (B := T0.setTop (mkF m 93 #[.val (.int v0), .val (.int v1), .val (.long v2), .second, .val (.int v4), .val (.int v5), .val (.int v6), .val (.int v7), .val (.int v8), .val (.int v9), .val (.int (t1 + t0)), .unset, .unset, .unset] [(.int (t1 + t0))])) (fun t k => ?_) ?_
  · show Steps p.tables e below (T0.setTop (mkF m 88 #[.val (.int v0), .val (.int v1), .val (.long v2), .second, .val (.int v4), .val (.int v5), .val (.int v6), .val (.int v7), .val (.int v8), .val (.int v9), .unset, .unset, .unset, .unset] [(.int t0), (.int t1)])) _
    refine XS.iadd X0.here hx rfl (hb hby at_88) rfl ?_
    show Steps p.tables e below (T0.setTop (mkF m 89 #[.val (.int v0), .val (.int v1), .val (.long v2), .second, .val (.int v4), .val (.int v5), .val (.int v6), .val (.int v7), .val (.int v8), .val (.int v9), .unset, .unset, .unset, .unset] [(.int (t1 + t0))])) _
    refine XS.istore X0.here hx rfl (hb hby at_89) rfl (l' := #[.val (.int v0), .val (.int v1), .val (.long v2), .second, .val (.int v4), .val (.int v5), .val (.int v6), .val (.int v7), .val (.int v8), .val (.int v9), .val (.int (t1 + t0)), .unset, .unset, .unset]) rfl ?_
    show Steps p.tables e below (T0.setTop (mkF m 91 #[.val (.int v0), .val (.int v1), .val (.long v2), .second, .val (.int v4), .val (.int v5), .val (.int v6), .val (.int v7), .val (.int v8), .val (.int v9), .val (.int (t1 + t0)), .unset, .unset, .unset] [])) _
    refine XS.iload X0.here hx rfl (hb hby at_91) rfl  ?_
    exact k
  obtain ⟨T1, h1, k1, X1, e1, X1e, A1, st1⟩ := newP X0 hx hZ (hw _ (List.mem_of_getElem? (i := 0) rfl)) e0 (g := (mkF m 93 #[.val (.int v0), .val (.int v1), .val (.long v2), .second, .val (.int v4), .val (.int v5), .val (.int v6), .val (.int v7), .val (.int v8), .val (.int v9), .val (.int (t1 + t0)), .unset, .unset, .unset] [(.int (t1 + t0))])) rfl (hb hby at_93) rfl (own_neg hBB ht) (cap := 9) (own_cap hBB ht) (by decide) (by decide) (by decide)
  obtain ⟨b93, g1⟩ : ∃ z, z = h.size := ⟨_, rfl⟩
  rw [← g1] at A1 st1
  have g_b93 : n0 ≤ b93 := Nat.le_trans Z0 (Nat.le_of_eq g1.symm)
  have Z1 : n0 ≤ h1.size := Nat.le_trans Z0 X1e.1
  obtain ⟨V_b93_1, ln_b93_1⟩ : Arv Z h1 b93 k1 .byte (t1 + t0) ((List.replicate (t1 + t0).toNatClampNeg (0 : Int32)).map Value.int) (.int 0) ∧ (List.replicate (t1 + t0).toNatClampNeg (0 : Int32)).length = (t1 + t0).toNatClampNeg := own_newI A1 rfl (own_neg hBB ht) (xs := (List.replicate (t1 + t0).toNatClampNeg (0 : Int32))) rfl
  refine EndsIn.by (B := T1.setTop (mkF m 95 #[.val (.int v0), .val (.int v1), .val (.long v2), .second, .val (.int v4), .val (.int v5), .val (.int v6), .val (.int v7), .val (.int v8), .val (.int v9), .val (.int (t1 + t0)), .unset, .unset, .unset] [(.ref b93)])) (fun t k => st1 t k) ?_
  refine EndsIn.by (B := T1.setTop (mkF m 102 #[.val (.int v0), .val (.int v1), .val (.long v2), .second, .val (.int v4), .val (.int v5), .val (.int v6), .val (.int v7), .val (.int v8), .val (.int v9), .val (.int (t1 + t0)), .val (.ref b93), .unset, .unset] [(.int (v2.toInt32)), (.int (0 : Int32)), (.ref b93)])) (fun t k => ?_) ?_
  · show Steps p.tables e below (T1.setTop (mkF m 95 #[.val (.int v0), .val (.int v1), .val (.long v2), .second, .val (.int v4), .val (.int v5), .val (.int v6), .val (.int v7), .val (.int v8), .val (.int v9), .val (.int (t1 + t0)), .unset, .unset, .unset] [(.ref b93)])) _
    refine XS.astore X1.here hx rfl (hb hby at_95) rfl rfl (l' := #[.val (.int v0), .val (.int v1), .val (.long v2), .second, .val (.int v4), .val (.int v5), .val (.int v6), .val (.int v7), .val (.int v8), .val (.int v9), .val (.int (t1 + t0)), .val (.ref b93), .unset, .unset]) rfl ?_
    show Steps p.tables e below (T1.setTop (mkF m 97 #[.val (.int v0), .val (.int v1), .val (.long v2), .second, .val (.int v4), .val (.int v5), .val (.int v6), .val (.int v7), .val (.int v8), .val (.int v9), .val (.int (t1 + t0)), .val (.ref b93), .unset, .unset] [])) _
    refine XS.aload X1.here hx rfl (hb hby at_97) rfl rfl ?_
    show Steps p.tables e below (T1.setTop (mkF m 99 #[.val (.int v0), .val (.int v1), .val (.long v2), .second, .val (.int v4), .val (.int v5), .val (.int v6), .val (.int v7), .val (.int v8), .val (.int v9), .val (.int (t1 + t0)), .val (.ref b93), .unset, .unset] [(.ref b93)])) _
    refine XS.iconst X1.here hx rfl (hb hby at_99) ?_
    show Steps p.tables e below (T1.setTop (mkF m 100 #[.val (.int v0), .val (.int v1), .val (.long v2), .second, .val (.int v4), .val (.int v5), .val (.int v6), .val (.int v7), .val (.int v8), .val (.int v9), .val (.int (t1 + t0)), .val (.ref b93), .unset, .unset] [(.int (0 : Int32)), (.ref b93)])) _
    refine XS.lloadN X1.here hx rfl (hb hby at_100) rfl  ?_
    show Steps p.tables e below (T1.setTop (mkF m 101 #[.val (.int v0), .val (.int v1), .val (.long v2), .second, .val (.int v4), .val (.int v5), .val (.int v6), .val (.int v7), .val (.int v8), .val (.int v9), .val (.int (t1 + t0)), .val (.ref b93), .unset, .unset] [(.long v2), (.int (0 : Int32)), (.ref b93)])) _
    refine XS.l2i X1.here hx rfl (hb hby at_101) rfl ?_
    exact k
  have hp2_hi : ¬ ((0 : Int32) < 0) := by decide
  -- pc 102: com/example/pure_mrtd/puremrtd/format/TlvReaderHasNextPinLaw.put
  obtain ⟨_, _, ⟨T2, L2, k2, n2⟩, -, X2, ⟨Lc2, hQ2, l2, y2, z2⟩, st2⟩ := Jvm.LawKit.callS X1 hx (y := (⟨"com/example/pure_mrtd/puremrtd/format/TlvReaderHasNextPinLaw", "put", "([BII)V"⟩ : MethodName)) hown (mvT hZ (hw _ (List.mem_of_getElem? (i := 1) rfl))) (mvT hZ (hw _ (List.mem_of_getElem? (i := 2) rfl))) (mvT hZ (hw _ (List.mem_of_getElem? (i := 3) rfl))) (mvT hZ (hw _ (List.mem_of_getElem? (i := 4) rfl))) (by decide) (backOf (W := 0) (rm1 l Z a0 hw [] b93 (0 : Int32) (v2.toInt32) k1 (t1 + t0) (List.replicate (t1 + t0).toNatClampNeg (0 : Int32)) h1 n0 Z1 V_b93_1 ln_b93_1 g_b93 hp2_hi) hZ (hw _ (List.mem_of_getElem? (i := 4) rfl)) (hw _ (List.mem_of_getElem? (i := 3) rfl)) (by decide) (by decide)) (g := (mkF m 102 #[.val (.int v0), .val (.int v1), .val (.long v2), .second, .val (.int v4), .val (.int v5), .val (.int v6), .val (.int v7), .val (.int v8), .val (.int v9), .val (.int (t1 + t0)), .val (.ref b93), .unset, .unset] [(.int (v2.toInt32)), (.int (0 : Int32)), (.ref b93)])) rfl (by rw [hml]; rfl) (argsL := [(.ref b93), (.int (0 : Int32)), (.int (v2.toInt32))]) (rest := []) (lenOf pd_0 rfl) rfl (by show 2 * 0 + _ ≤ _; exact Nat.le_of_eq rfl) (hb hby at_102) (fun _ _ => ⟨rfl, e1, (by decide : 1 + R1.cells ≤ _), (by decide : 9 + R1.slots ≤ _)⟩)
  dsimp only [Pt.U, Pt.locs, Pt.cells, Pt.slots] at X2 l2 y2 z2 st2 hQ2
  subst l2 y2 z2
  obtain ⟨rfl, Nq2, Kq2, V_b93_2, ln_b93_2⟩ := hQ2
  obtain ⟨h2, e2⟩ : ∃ z, T2.heap = z := ⟨_, rfl⟩
  rw [e2] at Kq2 V_b93_2
  have N2 := Fr.app N0 Nq2
  have Z2 : n0 ≤ h2.size := Nat.le_trans Z1 Kq2.1
  refine EndsIn.by (B := T2.setTop (mkF m 105 #[.val (.int v0), .val (.int v1), .val (.long v2), .second, .val (.int v4), .val (.int v5), .val (.int v6), .val (.int v7), .val (.int v8), .val (.int v9), .val (.int (t1 + t0)), .val (.ref b93), .unset, .unset] [])) (fun t k => st2 t k) ?_
  have hG_j : own_G v4 v5 v6 v7 v8 v9 (t1 + t0) := (by first | exact hG | exact ⟨hBB, ht⟩)
  exact b0_105 ⟨hx, hZ, hw, hby, hml, hret, hown, hnm, hlk⟩ h0 n0 v0 v1 v2 v4 v5 v6 v7 v8 v9 (t1 + t0) b93 k1 (t1 + t0) (f1_0 (0 : Int32) (v2.toInt32) (t1 + t0) (List.replicate (t1 + t0).toNatClampNeg (0 : Int32))) X2 e2 N2 Z2 V_b93_2 ln_b93_2 g_b93 hG_j _ hr
def f0_71 (v0 : Int32) (v1 : Int32) (v2 : Int64) (v4 : Int32) (v5 : Int32) (v6 : Int32) (v7 : Int32) (v8 : Int32) (t0 : Int32) : Int32 := (if v7 = (0 : Int32) then (f0_88 v0 v1 v2 v4 v5 v6 v7 v8 t0 (0 : Int32) (v8 + t0)) else (f0_88 v0 v1 v2 v4 v5 v6 v7 v8 t0 (1 : Int32) (v8 + t0)))
set_option maxRecDepth 65536 in
set_option maxHeartbeats 40000000 in
theorem b0_71 {p : Program} {l : Launch} {e : Env} {s : State} {m : MethodId} {args : Array Value} {below : List Frame} {meth : Method} {c : Code} {Z : State} {a0 : Array Value} (B : Ctx p Z s a0 m meth c "com/example/pure_mrtd/puremrtd/format/TlvReaderHasNextPinLaw" "law" code 14 (some .boolean)) {T0 : State} {locs : List Loc} {h : Heap} (h0 : Heap) (n0 : Nat) (v0 : Int32) (v1 : Int32) (v2 : Int64) (v4 : Int32) (v5 : Int32) (v6 : Int32) (v7 : Int32) (v8 : Int32) (t0 : Int32) (X0 : Stand p l e room_1 s m args below meth c T0 locs 0 0) (e0 : T0.heap = h) (N0 : Fr n0 locs) (Z0 : n0 ≤ h.size) (hA : own_A v4 v5 v6) (h7 : own_01 v7) (h8 : v8 = own_n1 v4 v5) (hn2 : t0 = own_n2 v4 v6) (r : Int32) (hr : f0_71 v0 v1 v2 v4 v5 v6 v7 v8 t0 = r) :
    EndsIn p e below s 8 25 (Q0 n0 r) (T0.setTop (mkF m 71 #[.val (.int v0), .val (.int v1), .val (.long v2), .second, .val (.int v4), .val (.int v5), .val (.int v6), .val (.int v7), .val (.int v8), .unset, .unset, .unset, .unset, .unset] [(.int t0)])) := by
  obtain ⟨hx, hZ, hw, hby, hml, hret, hown, hnm, hlk⟩ := B
  unfold f0_71 at hr
  refine EndsIn.by (B := T0.setTop (mkF m 80 #[.val (.int v0), .val (.int v1), .val (.long v2), .second, .val (.int v4), .val (.int v5), .val (.int v6), .val (.int v7), .val (.int v8), .val (.int t0), .unset, .unset, .unset, .unset] [(.int v7), (.int (v8 + t0))])) (fun t k => ?_) ?_
  · show Steps p.tables e below (T0.setTop (mkF m 71 #[.val (.int v0), .val (.int v1), .val (.long v2), .second, .val (.int v4), .val (.int v5), .val (.int v6), .val (.int v7), .val (.int v8), .unset, .unset, .unset, .unset, .unset] [(.int t0)])) _
    refine XS.istore X0.here hx rfl (hb hby at_71) rfl (l' := #[.val (.int v0), .val (.int v1), .val (.long v2), .second, .val (.int v4), .val (.int v5), .val (.int v6), .val (.int v7), .val (.int v8), .val (.int t0), .unset, .unset, .unset, .unset]) rfl ?_
    show Steps p.tables e below (T0.setTop (mkF m 73 #[.val (.int v0), .val (.int v1), .val (.long v2), .second, .val (.int v4), .val (.int v5), .val (.int v6), .val (.int v7), .val (.int v8), .val (.int t0), .unset, .unset, .unset, .unset] [])) _
    refine XS.iload X0.here hx rfl (hb hby at_73) rfl  ?_
    show Steps p.tables e below (T0.setTop (mkF m 75 #[.val (.int v0), .val (.int v1), .val (.long v2), .second, .val (.int v4), .val (.int v5), .val (.int v6), .val (.int v7), .val (.int v8), .val (.int t0), .unset, .unset, .unset, .unset] [(.int v8)])) _
    refine XS.iload X0.here hx rfl (hb hby at_75) rfl  ?_
    show Steps p.tables e below (T0.setTop (mkF m 77 #[.val (.int v0), .val (.int v1), .val (.long v2), .second, .val (.int v4), .val (.int v5), .val (.int v6), .val (.int v7), .val (.int v8), .val (.int t0), .unset, .unset, .unset, .unset] [(.int t0), (.int v8)])) _
    refine XS.iadd X0.here hx rfl (hb hby at_77) rfl ?_
    show Steps p.tables e below (T0.setTop (mkF m 78 #[.val (.int v0), .val (.int v1), .val (.long v2), .second, .val (.int v4), .val (.int v5), .val (.int v6), .val (.int v7), .val (.int v8), .val (.int t0), .unset, .unset, .unset, .unset] [(.int (v8 + t0))])) _
    refine XS.iload X0.here hx rfl (hb hby at_78) rfl  ?_
    exact k
  by_cases hc80 : v7 = (0 : Int32)
  · rw [if_pos hc80] at hr
    refine EndsIn.by (B := T0.setTop (mkF m 87 #[.val (.int v0), .val (.int v1), .val (.long v2), .second, .val (.int v4), .val (.int v5), .val (.int v6), .val (.int v7), .val (.int v8), .val (.int t0), .unset, .unset, .unset, .unset] [(.int (v8 + t0))])) (fun t k => ?_) ?_
    · show Steps p.tables e below (T0.setTop (mkF m 80 #[.val (.int v0), .val (.int v1), .val (.long v2), .second, .val (.int v4), .val (.int v5), .val (.int v6), .val (.int v7), .val (.int v8), .val (.int t0), .unset, .unset, .unset, .unset] [(.int v7), (.int (v8 + t0))])) _
      exact XS.ifYes X0.here hx rfl (pc0 := 80) (pc' := 87) rfl (hb hby at_80) rfl ((if0 _ _).trans (teq hc80).1) (by decide) (by decide) k
    refine EndsIn.by (B := T0.setTop (mkF m 88 #[.val (.int v0), .val (.int v1), .val (.long v2), .second, .val (.int v4), .val (.int v5), .val (.int v6), .val (.int v7), .val (.int v8), .val (.int t0), .unset, .unset, .unset, .unset] [(.int (0 : Int32)), (.int (v8 + t0))])) (fun t k => ?_) ?_
    · show Steps p.tables e below (T0.setTop (mkF m 87 #[.val (.int v0), .val (.int v1), .val (.long v2), .second, .val (.int v4), .val (.int v5), .val (.int v6), .val (.int v7), .val (.int v8), .val (.int t0), .unset, .unset, .unset, .unset] [(.int (v8 + t0))])) _
      refine XS.iconst X0.here hx rfl (hb hby at_87) ?_
      exact k
    have hBB_j : own_B v4 v5 v6 v7 v8 t0 := ⟨hA, h7, h8, hn2⟩
    have ht_j : ((v8 + t0) + (0 : Int32)) = v8 + t0 + v7 := (by first | exact own_t0 hc80 | exact own_t1 h7 hc80)
    exact b0_88 ⟨hx, hZ, hw, hby, hml, hret, hown, hnm, hlk⟩ h0 n0 v0 v1 v2 v4 v5 v6 v7 v8 t0 (0 : Int32) (v8 + t0) X0 e0 N0 Z0 hBB_j ht_j _ hr
  · rw [if_neg hc80] at hr
    refine EndsIn.by (B := T0.setTop (mkF m 83 #[.val (.int v0), .val (.int v1), .val (.long v2), .second, .val (.int v4), .val (.int v5), .val (.int v6), .val (.int v7), .val (.int v8), .val (.int t0), .unset, .unset, .unset, .unset] [(.int (v8 + t0))])) (fun t k => ?_) ?_
    · show Steps p.tables e below (T0.setTop (mkF m 80 #[.val (.int v0), .val (.int v1), .val (.long v2), .second, .val (.int v4), .val (.int v5), .val (.int v6), .val (.int v7), .val (.int v8), .val (.int t0), .unset, .unset, .unset, .unset] [(.int v7), (.int (v8 + t0))])) _
      exact XS.ifNo X0.here hx rfl (hb hby at_80) rfl ((if0 _ _).trans (feq hc80).1) k
    refine EndsIn.by (B := T0.setTop (mkF m 88 #[.val (.int v0), .val (.int v1), .val (.long v2), .second, .val (.int v4), .val (.int v5), .val (.int v6), .val (.int v7), .val (.int v8), .val (.int t0), .unset, .unset, .unset, .unset] [(.int (1 : Int32)), (.int (v8 + t0))])) (fun t k => ?_) ?_
    · show Steps p.tables e below (T0.setTop (mkF m 83 #[.val (.int v0), .val (.int v1), .val (.long v2), .second, .val (.int v4), .val (.int v5), .val (.int v6), .val (.int v7), .val (.int v8), .val (.int t0), .unset, .unset, .unset, .unset] [(.int (v8 + t0))])) _
      refine XS.iconst X0.here hx rfl (hb hby at_83) ?_
      show Steps p.tables e below (T0.setTop (mkF m 84 #[.val (.int v0), .val (.int v1), .val (.long v2), .second, .val (.int v4), .val (.int v5), .val (.int v6), .val (.int v7), .val (.int v8), .val (.int t0), .unset, .unset, .unset, .unset] [(.int (1 : Int32)), (.int (v8 + t0))])) _
      refine XS.goto X0.here hx rfl (pc0 := 84) (pc' := 88) rfl (hb hby at_84) (by decide) (by decide) ?_
      exact k
    have hBB_j : own_B v4 v5 v6 v7 v8 t0 := ⟨hA, h7, h8, hn2⟩
    have ht_j : ((v8 + t0) + (1 : Int32)) = v8 + t0 + v7 := (by first | exact own_t0 hc80 | exact own_t1 h7 hc80)
    exact b0_88 ⟨hx, hZ, hw, hby, hml, hret, hown, hnm, hlk⟩ h0 n0 v0 v1 v2 v4 v5 v6 v7 v8 t0 (1 : Int32) (v8 + t0) X0 e0 N0 Z0 hBB_j ht_j _ hr
def f0_55 (v0 : Int32) (v1 : Int32) (v2 : Int64) (v4 : Int32) (v5 : Int32) (v6 : Int32) (v7 : Int32) (t0 : Int32) : Int32 := (if v4 < (2 : Int32) then (f0_71 v0 v1 v2 v4 v5 v6 v7 t0 (0 : Int32)) else (f0_71 v0 v1 v2 v4 v5 v6 v7 t0 ((2 : Int32) + v6)))
set_option maxRecDepth 65536 in
set_option maxHeartbeats 40000000 in
theorem b0_55 {p : Program} {l : Launch} {e : Env} {s : State} {m : MethodId} {args : Array Value} {below : List Frame} {meth : Method} {c : Code} {Z : State} {a0 : Array Value} (B : Ctx p Z s a0 m meth c "com/example/pure_mrtd/puremrtd/format/TlvReaderHasNextPinLaw" "law" code 14 (some .boolean)) {T0 : State} {locs : List Loc} {h : Heap} (h0 : Heap) (n0 : Nat) (v0 : Int32) (v1 : Int32) (v2 : Int64) (v4 : Int32) (v5 : Int32) (v6 : Int32) (v7 : Int32) (t0 : Int32) (X0 : Stand p l e room_1 s m args below meth c T0 locs 0 0) (e0 : T0.heap = h) (N0 : Fr n0 locs) (Z0 : n0 ≤ h.size) (hA : own_A v4 v5 v6) (h7 : own_01 v7) (hn : t0 = own_n1 v4 v5) (r : Int32) (hr : f0_55 v0 v1 v2 v4 v5 v6 v7 t0 = r) :
    EndsIn p e below s 8 25 (Q0 n0 r) (T0.setTop (mkF m 55 #[.val (.int v0), .val (.int v1), .val (.long v2), .second, .val (.int v4), .val (.int v5), .val (.int v6), .val (.int v7), .unset, .unset, .unset, .unset, .unset, .unset] [(.int t0)])) := by
  obtain ⟨hx, hZ, hw, hby, hml, hret, hown, hnm, hlk⟩ := B
  unfold f0_55 at hr
  refine EndsIn.by (B := T0.setTop (mkF m 60 #[.val (.int v0), .val (.int v1), .val (.long v2), .second, .val (.int v4), .val (.int v5), .val (.int v6), .val (.int v7), .val (.int t0), .unset, .unset, .unset, .unset, .unset] [(.int (2 : Int32)), (.int v4)])) (fun t k => ?_) ?_
  · show Steps p.tables e below (T0.setTop (mkF m 55 #[.val (.int v0), .val (.int v1), .val (.long v2), .second, .val (.int v4), .val (.int v5), .val (.int v6), .val (.int v7), .unset, .unset, .unset, .unset, .unset, .unset] [(.int t0)])) _
    refine XS.istore X0.here hx rfl (hb hby at_55) rfl (l' := #[.val (.int v0), .val (.int v1), .val (.long v2), .second, .val (.int v4), .val (.int v5), .val (.int v6), .val (.int v7), .val (.int t0), .unset, .unset, .unset, .unset, .unset]) rfl ?_
    show Steps p.tables e below (T0.setTop (mkF m 57 #[.val (.int v0), .val (.int v1), .val (.long v2), .second, .val (.int v4), .val (.int v5), .val (.int v6), .val (.int v7), .val (.int t0), .unset, .unset, .unset, .unset, .unset] [])) _
    refine XS.iload X0.here hx rfl (hb hby at_57) rfl  ?_
    show Steps p.tables e below (T0.setTop (mkF m 59 #[.val (.int v0), .val (.int v1), .val (.long v2), .second, .val (.int v4), .val (.int v5), .val (.int v6), .val (.int v7), .val (.int t0), .unset, .unset, .unset, .unset, .unset] [(.int v4)])) _
    refine XS.iconst X0.here hx rfl (hb hby at_59) ?_
    exact k
  by_cases hc60 : v4 < (2 : Int32)
  · rw [if_pos hc60] at hr
    refine EndsIn.by (B := T0.setTop (mkF m 70 #[.val (.int v0), .val (.int v1), .val (.long v2), .second, .val (.int v4), .val (.int v5), .val (.int v6), .val (.int v7), .val (.int t0), .unset, .unset, .unset, .unset, .unset] [])) (fun t k => ?_) ?_
    · show Steps p.tables e below (T0.setTop (mkF m 60 #[.val (.int v0), .val (.int v1), .val (.long v2), .second, .val (.int v4), .val (.int v5), .val (.int v6), .val (.int v7), .val (.int t0), .unset, .unset, .unset, .unset, .unset] [(.int (2 : Int32)), (.int v4)])) _
      exact XS.icmpYes X0.here hx rfl (pc0 := 60) (pc' := 70) rfl (hb hby at_60) rfl (tlt hc60).1 (by decide) (by decide) k
    refine EndsIn.by (B := T0.setTop (mkF m 71 #[.val (.int v0), .val (.int v1), .val (.long v2), .second, .val (.int v4), .val (.int v5), .val (.int v6), .val (.int v7), .val (.int t0), .unset, .unset, .unset, .unset, .unset] [(.int (0 : Int32))])) (fun t k => ?_) ?_
    · show Steps p.tables e below (T0.setTop (mkF m 70 #[.val (.int v0), .val (.int v1), .val (.long v2), .second, .val (.int v4), .val (.int v5), .val (.int v6), .val (.int v7), .val (.int t0), .unset, .unset, .unset, .unset, .unset] [])) _
      refine XS.iconst X0.here hx rfl (hb hby at_70) ?_
      exact k
    have hA_j : own_A v4 v5 v6 := hA
    have h7_j : own_01 v7 := h7
    have h8_j : t0 = own_n1 v4 v5 := (by first | exact hn | exact h8)
    have hn2_j : (0 : Int32) = own_n2 v4 v6 := (by first | exact (if_pos hc60).symm | exact (if_neg hc60).symm)
    exact b0_71 ⟨hx, hZ, hw, hby, hml, hret, hown, hnm, hlk⟩ h0 n0 v0 v1 v2 v4 v5 v6 v7 t0 (0 : Int32) X0 e0 N0 Z0 hA_j h7_j h8_j hn2_j _ hr
  · rw [if_neg hc60] at hr
    refine EndsIn.by (B := T0.setTop (mkF m 63 #[.val (.int v0), .val (.int v1), .val (.long v2), .second, .val (.int v4), .val (.int v5), .val (.int v6), .val (.int v7), .val (.int t0), .unset, .unset, .unset, .unset, .unset] [])) (fun t k => ?_) ?_
    · show Steps p.tables e below (T0.setTop (mkF m 60 #[.val (.int v0), .val (.int v1), .val (.long v2), .second, .val (.int v4), .val (.int v5), .val (.int v6), .val (.int v7), .val (.int t0), .unset, .unset, .unset, .unset, .unset] [(.int (2 : Int32)), (.int v4)])) _
      exact XS.icmpNo X0.here hx rfl (hb hby at_60) rfl (flt hc60).1 k
    refine EndsIn.by (B := T0.setTop (mkF m 71 #[.val (.int v0), .val (.int v1), .val (.long v2), .second, .val (.int v4), .val (.int v5), .val (.int v6), .val (.int v7), .val (.int t0), .unset, .unset, .unset, .unset, .unset] [(.int ((2 : Int32) + v6))])) (fun t k => ?_) ?_
    · show Steps p.tables e below (T0.setTop (mkF m 63 #[.val (.int v0), .val (.int v1), .val (.long v2), .second, .val (.int v4), .val (.int v5), .val (.int v6), .val (.int v7), .val (.int t0), .unset, .unset, .unset, .unset, .unset] [])) _
      refine XS.iconst X0.here hx rfl (hb hby at_63) ?_
      show Steps p.tables e below (T0.setTop (mkF m 64 #[.val (.int v0), .val (.int v1), .val (.long v2), .second, .val (.int v4), .val (.int v5), .val (.int v6), .val (.int v7), .val (.int t0), .unset, .unset, .unset, .unset, .unset] [(.int (2 : Int32))])) _
      refine XS.iload X0.here hx rfl (hb hby at_64) rfl  ?_
      show Steps p.tables e below (T0.setTop (mkF m 66 #[.val (.int v0), .val (.int v1), .val (.long v2), .second, .val (.int v4), .val (.int v5), .val (.int v6), .val (.int v7), .val (.int t0), .unset, .unset, .unset, .unset, .unset] [(.int v6), (.int (2 : Int32))])) _
      refine XS.iadd X0.here hx rfl (hb hby at_66) rfl ?_
      show Steps p.tables e below (T0.setTop (mkF m 67 #[.val (.int v0), .val (.int v1), .val (.long v2), .second, .val (.int v4), .val (.int v5), .val (.int v6), .val (.int v7), .val (.int t0), .unset, .unset, .unset, .unset, .unset] [(.int ((2 : Int32) + v6))])) _
      refine XS.goto X0.here hx rfl (pc0 := 67) (pc' := 71) rfl (hb hby at_67) (by decide) (by decide) ?_
      exact k
    have hA_j : own_A v4 v5 v6 := hA
    have h7_j : own_01 v7 := h7
    have h8_j : t0 = own_n1 v4 v5 := (by first | exact hn | exact h8)
    have hn2_j : ((2 : Int32) + v6) = own_n2 v4 v6 := (by first | exact (if_pos hc60).symm | exact (if_neg hc60).symm)
    exact b0_71 ⟨hx, hZ, hw, hby, hml, hret, hown, hnm, hlk⟩ h0 n0 v0 v1 v2 v4 v5 v6 v7 t0 ((2 : Int32) + v6) X0 e0 N0 Z0 hA_j h7_j h8_j hn2_j _ hr
def f0_39 (v0 : Int32) (v1 : Int32) (v2 : Int64) (v4 : Int32) (v5 : Int32) (v6 : Int32) (t0 : Int32) : Int32 := (if v4 < (1 : Int32) then (f0_55 v0 v1 v2 v4 v5 v6 t0 (0 : Int32)) else (f0_55 v0 v1 v2 v4 v5 v6 t0 ((2 : Int32) + v5)))
set_option maxRecDepth 65536 in
set_option maxHeartbeats 40000000 in
theorem b0_39 {p : Program} {l : Launch} {e : Env} {s : State} {m : MethodId} {args : Array Value} {below : List Frame} {meth : Method} {c : Code} {Z : State} {a0 : Array Value} (B : Ctx p Z s a0 m meth c "com/example/pure_mrtd/puremrtd/format/TlvReaderHasNextPinLaw" "law" code 14 (some .boolean)) {T0 : State} {locs : List Loc} {h : Heap} (h0 : Heap) (n0 : Nat) (v0 : Int32) (v1 : Int32) (v2 : Int64) (v4 : Int32) (v5 : Int32) (v6 : Int32) (t0 : Int32) (X0 : Stand p l e room_1 s m args below meth c T0 locs 0 0) (e0 : T0.heap = h) (N0 : Fr n0 locs) (Z0 : n0 ≤ h.size) (hA : own_A v4 v5 v6) (ht : own_01 t0) (r : Int32) (hr : f0_39 v0 v1 v2 v4 v5 v6 t0 = r) :
    EndsIn p e below s 8 25 (Q0 n0 r) (T0.setTop (mkF m 39 #[.val (.int v0), .val (.int v1), .val (.long v2), .second, .val (.int v4), .val (.int v5), .val (.int v6), .unset, .unset, .unset, .unset, .unset, .unset, .unset] [(.int t0)])) := by
  obtain ⟨hx, hZ, hw, hby, hml, hret, hown, hnm, hlk⟩ := B
  unfold f0_39 at hr
  refine EndsIn.by (B := T0.setTop (mkF m 44 #[.val (.int v0), .val (.int v1), .val (.long v2), .second, .val (.int v4), .val (.int v5), .val (.int v6), .val (.int t0), .unset, .unset, .unset, .unset, .unset, .unset] [(.int (1 : Int32)), (.int v4)])) (fun t k => ?_) ?_
  · show Steps p.tables e below (T0.setTop (mkF m 39 #[.val (.int v0), .val (.int v1), .val (.long v2), .second, .val (.int v4), .val (.int v5), .val (.int v6), .unset, .unset, .unset, .unset, .unset, .unset, .unset] [(.int t0)])) _
    refine XS.istore X0.here hx rfl (hb hby at_39) rfl (l' := #[.val (.int v0), .val (.int v1), .val (.long v2), .second, .val (.int v4), .val (.int v5), .val (.int v6), .val (.int t0), .unset, .unset, .unset, .unset, .unset, .unset]) rfl ?_
    show Steps p.tables e below (T0.setTop (mkF m 41 #[.val (.int v0), .val (.int v1), .val (.long v2), .second, .val (.int v4), .val (.int v5), .val (.int v6), .val (.int t0), .unset, .unset, .unset, .unset, .unset, .unset] [])) _
    refine XS.iload X0.here hx rfl (hb hby at_41) rfl  ?_
    show Steps p.tables e below (T0.setTop (mkF m 43 #[.val (.int v0), .val (.int v1), .val (.long v2), .second, .val (.int v4), .val (.int v5), .val (.int v6), .val (.int t0), .unset, .unset, .unset, .unset, .unset, .unset] [(.int v4)])) _
    refine XS.iconst X0.here hx rfl (hb hby at_43) ?_
    exact k
  by_cases hc44 : v4 < (1 : Int32)
  · rw [if_pos hc44] at hr
    refine EndsIn.by (B := T0.setTop (mkF m 54 #[.val (.int v0), .val (.int v1), .val (.long v2), .second, .val (.int v4), .val (.int v5), .val (.int v6), .val (.int t0), .unset, .unset, .unset, .unset, .unset, .unset] [])) (fun t k => ?_) ?_
    · show Steps p.tables e below (T0.setTop (mkF m 44 #[.val (.int v0), .val (.int v1), .val (.long v2), .second, .val (.int v4), .val (.int v5), .val (.int v6), .val (.int t0), .unset, .unset, .unset, .unset, .unset, .unset] [(.int (1 : Int32)), (.int v4)])) _
      exact XS.icmpYes X0.here hx rfl (pc0 := 44) (pc' := 54) rfl (hb hby at_44) rfl (tlt hc44).1 (by decide) (by decide) k
    refine EndsIn.by (B := T0.setTop (mkF m 55 #[.val (.int v0), .val (.int v1), .val (.long v2), .second, .val (.int v4), .val (.int v5), .val (.int v6), .val (.int t0), .unset, .unset, .unset, .unset, .unset, .unset] [(.int (0 : Int32))])) (fun t k => ?_) ?_
    · show Steps p.tables e below (T0.setTop (mkF m 54 #[.val (.int v0), .val (.int v1), .val (.long v2), .second, .val (.int v4), .val (.int v5), .val (.int v6), .val (.int t0), .unset, .unset, .unset, .unset, .unset, .unset] [])) _
      refine XS.iconst X0.here hx rfl (hb hby at_54) ?_
      exact k
    have hA_j : own_A v4 v5 v6 := hA
    have h7_j : own_01 t0 := (by first | exact ht | exact h7)
    have hn_j : (0 : Int32) = own_n1 v4 v5 := (by first | exact (if_pos hc44).symm | exact (if_neg hc44).symm)
    exact b0_55 ⟨hx, hZ, hw, hby, hml, hret, hown, hnm, hlk⟩ h0 n0 v0 v1 v2 v4 v5 v6 t0 (0 : Int32) X0 e0 N0 Z0 hA_j h7_j hn_j _ hr
  · rw [if_neg hc44] at hr
    refine EndsIn.by (B := T0.setTop (mkF m 47 #[.val (.int v0), .val (.int v1), .val (.long v2), .second, .val (.int v4), .val (.int v5), .val (.int v6), .val (.int t0), .unset, .unset, .unset, .unset, .unset, .unset] [])) (fun t k => ?_) ?_
    · show Steps p.tables e below (T0.setTop (mkF m 44 #[.val (.int v0), .val (.int v1), .val (.long v2), .second, .val (.int v4), .val (.int v5), .val (.int v6), .val (.int t0), .unset, .unset, .unset, .unset, .unset, .unset] [(.int (1 : Int32)), (.int v4)])) _
      exact XS.icmpNo X0.here hx rfl (hb hby at_44) rfl (flt hc44).1 k
    refine EndsIn.by (B := T0.setTop (mkF m 55 #[.val (.int v0), .val (.int v1), .val (.long v2), .second, .val (.int v4), .val (.int v5), .val (.int v6), .val (.int t0), .unset, .unset, .unset, .unset, .unset, .unset] [(.int ((2 : Int32) + v5))])) (fun t k => ?_) ?_
    · show Steps p.tables e below (T0.setTop (mkF m 47 #[.val (.int v0), .val (.int v1), .val (.long v2), .second, .val (.int v4), .val (.int v5), .val (.int v6), .val (.int t0), .unset, .unset, .unset, .unset, .unset, .unset] [])) _
      refine XS.iconst X0.here hx rfl (hb hby at_47) ?_
      show Steps p.tables e below (T0.setTop (mkF m 48 #[.val (.int v0), .val (.int v1), .val (.long v2), .second, .val (.int v4), .val (.int v5), .val (.int v6), .val (.int t0), .unset, .unset, .unset, .unset, .unset, .unset] [(.int (2 : Int32))])) _
      refine XS.iload X0.here hx rfl (hb hby at_48) rfl  ?_
      show Steps p.tables e below (T0.setTop (mkF m 50 #[.val (.int v0), .val (.int v1), .val (.long v2), .second, .val (.int v4), .val (.int v5), .val (.int v6), .val (.int t0), .unset, .unset, .unset, .unset, .unset, .unset] [(.int v5), (.int (2 : Int32))])) _
      refine XS.iadd X0.here hx rfl (hb hby at_50) rfl ?_
      show Steps p.tables e below (T0.setTop (mkF m 51 #[.val (.int v0), .val (.int v1), .val (.long v2), .second, .val (.int v4), .val (.int v5), .val (.int v6), .val (.int t0), .unset, .unset, .unset, .unset, .unset, .unset] [(.int ((2 : Int32) + v5))])) _
      refine XS.goto X0.here hx rfl (pc0 := 51) (pc' := 55) rfl (hb hby at_51) (by decide) (by decide) ?_
      exact k
    have hA_j : own_A v4 v5 v6 := hA
    have h7_j : own_01 t0 := (by first | exact ht | exact h7)
    have hn_j : ((2 : Int32) + v5) = own_n1 v4 v5 := (by first | exact (if_pos hc44).symm | exact (if_neg hc44).symm)
    exact b0_55 ⟨hx, hZ, hw, hby, hml, hret, hown, hnm, hlk⟩ h0 n0 v0 v1 v2 v4 v5 v6 t0 ((2 : Int32) + v5) X0 e0 N0 Z0 hA_j h7_j hn_j _ hr
def f0_0 (v0 : Int32) (v1 : Int32) (v2 : Int64) : Int32 := (if (((v0.toUInt32 >>> ((6 : Int32) &&& 31).toUInt32).toInt32) &&& (1 : Int32)) = (0 : Int32) then (f0_39 v0 v1 v2 ((v0 &&& (3 : Int32)) % (3 : Int32)) ((((v0.toUInt32 >>> ((2 : Int32) &&& 31).toUInt32).toInt32) &&& (3 : Int32)) % (3 : Int32)) ((((v0.toUInt32 >>> ((4 : Int32) &&& 31).toUInt32).toInt32) &&& (3 : Int32)) % (3 : Int32)) (0 : Int32)) else (f0_39 v0 v1 v2 ((v0 &&& (3 : Int32)) % (3 : Int32)) ((((v0.toUInt32 >>> ((2 : Int32) &&& 31).toUInt32).toInt32) &&& (3 : Int32)) % (3 : Int32)) ((((v0.toUInt32 >>> ((4 : Int32) &&& 31).toUInt32).toInt32) &&& (3 : Int32)) % (3 : Int32)) (1 : Int32)))
set_option maxRecDepth 65536 in
set_option maxHeartbeats 40000000 in
theorem b0_0 {p : Program} {l : Launch} {e : Env} {s : State} {m : MethodId} {args : Array Value} {below : List Frame} {meth : Method} {c : Code} {Z : State} {a0 : Array Value} (B : Ctx p Z s a0 m meth c "com/example/pure_mrtd/puremrtd/format/TlvReaderHasNextPinLaw" "law" code 14 (some .boolean)) {T0 : State} {locs : List Loc} {h : Heap} (h0 : Heap) (n0 : Nat) (v0 : Int32) (v1 : Int32) (v2 : Int64) (X0 : Stand p l e room_1 s m args below meth c T0 locs 0 0) (e0 : T0.heap = h) (N0 : Fr n0 locs) (Z0 : n0 ≤ h.size) (r : Int32) (hr : f0_0 v0 v1 v2 = r) :
    EndsIn p e below s 8 25 (Q0 n0 r) (T0.setTop (mkF m 0 #[.val (.int v0), .val (.int v1), .val (.long v2), .second, .unset, .unset, .unset, .unset, .unset, .unset, .unset, .unset, .unset, .unset] [])) := by
  obtain ⟨hx, hZ, hw, hby, hml, hret, hown, hnm, hlk⟩ := B
  unfold f0_0 at hr
  refine EndsIn.by (B := T0.setTop (mkF m 4 #[.val (.int v0), .val (.int v1), .val (.long v2), .second, .unset, .unset, .unset, .unset, .unset, .unset, .unset, .unset, .unset, .unset] [(.int (3 : Int32)), (.int (v0 &&& (3 : Int32)))])) (fun t k => ?_) ?_
  · show Steps p.tables e below (T0.setTop (mkF m 0 #[.val (.int v0), .val (.int v1), .val (.long v2), .second, .unset, .unset, .unset, .unset, .unset, .unset, .unset, .unset, .unset, .unset] [])) _
    refine XS.iloadN X0.here hx rfl (hb hby at_0) rfl  ?_
    show Steps p.tables e below (T0.setTop (mkF m 1 #[.val (.int v0), .val (.int v1), .val (.long v2), .second, .unset, .unset, .unset, .unset, .unset, .unset, .unset, .unset, .unset, .unset] [(.int v0)])) _
    refine XS.iconst X0.here hx rfl (hb hby at_1) ?_
    show Steps p.tables e below (T0.setTop (mkF m 2 #[.val (.int v0), .val (.int v1), .val (.long v2), .second, .unset, .unset, .unset, .unset, .unset, .unset, .unset, .unset, .unset, .unset] [(.int (3 : Int32)), (.int v0)])) _
    refine XS.iand X0.here hx rfl (hb hby at_2) rfl ?_
    show Steps p.tables e below (T0.setTop (mkF m 3 #[.val (.int v0), .val (.int v1), .val (.long v2), .second, .unset, .unset, .unset, .unset, .unset, .unset, .unset, .unset, .unset, .unset] [(.int (v0 &&& (3 : Int32)))])) _
    refine XS.iconst X0.here hx rfl (hb hby at_3) ?_
    exact k
  have hnz4 : ¬ ((3 : Int32) = (0 : Int32)) := by decide
  refine EndsIn.by (B := T0.setTop (mkF m 13 #[.val (.int v0), .val (.int v1), .val (.long v2), .second, .val (.int ((v0 &&& (3 : Int32)) % (3 : Int32))), .unset, .unset, .unset, .unset, .unset, .unset, .unset, .unset, .unset] [(.int (3 : Int32)), (.int (((v0.toUInt32 >>> ((2 : Int32) &&& 31).toUInt32).toInt32) &&& (3 : Int32)))])) (fun t k => ?_) ?_
  · show Steps p.tables e below (T0.setTop (mkF m 4 #[.val (.int v0), .val (.int v1), .val (.long v2), .second, .unset, .unset, .unset, .unset, .unset, .unset, .unset, .unset, .unset, .unset] [(.int (3 : Int32)), (.int (v0 &&& (3 : Int32)))])) _
    refine iremM X0 hx rfl (hb hby at_4) rfl hnz4 ?_
    show Steps p.tables e below (T0.setTop (mkF m 5 #[.val (.int v0), .val (.int v1), .val (.long v2), .second, .unset, .unset, .unset, .unset, .unset, .unset, .unset, .unset, .unset, .unset] [(.int ((v0 &&& (3 : Int32)) % (3 : Int32)))])) _
    refine XS.istore X0.here hx rfl (hb hby at_5) rfl (l' := #[.val (.int v0), .val (.int v1), .val (.long v2), .second, .val (.int ((v0 &&& (3 : Int32)) % (3 : Int32))), .unset, .unset, .unset, .unset, .unset, .unset, .unset, .unset, .unset]) rfl ?_
    show Steps p.tables e below (T0.setTop (mkF m 7 #[.val (.int v0), .val (.int v1), .val (.long v2), .second, .val (.int ((v0 &&& (3 : Int32)) % (3 : Int32))), .unset, .unset, .unset, .unset, .unset, .unset, .unset, .unset, .unset] [])) _
    refine XS.iloadN X0.here hx rfl (hb hby at_7) rfl  ?_
    show Steps p.tables e below (T0.setTop (mkF m 8 #[.val (.int v0), .val (.int v1), .val (.long v2), .second, .val (.int ((v0 &&& (3 : Int32)) % (3 : Int32))), .unset, .unset, .unset, .unset, .unset, .unset, .unset, .unset, .unset] [(.int v0)])) _
    refine XS.iconst X0.here hx rfl (hb hby at_8) ?_
    show Steps p.tables e below (T0.setTop (mkF m 9 #[.val (.int v0), .val (.int v1), .val (.long v2), .second, .val (.int ((v0 &&& (3 : Int32)) % (3 : Int32))), .unset, .unset, .unset, .unset, .unset, .unset, .unset, .unset, .unset] [(.int (2 : Int32)), (.int v0)])) _
    refine XS.iushr X0.here hx rfl (hb hby at_9) rfl ?_
    show Steps p.tables e below (T0.setTop (mkF m 10 #[.val (.int v0), .val (.int v1), .val (.long v2), .second, .val (.int ((v0 &&& (3 : Int32)) % (3 : Int32))), .unset, .unset, .unset, .unset, .unset, .unset, .unset, .unset, .unset] [(.int ((v0.toUInt32 >>> ((2 : Int32) &&& 31).toUInt32).toInt32))])) _
    refine XS.iconst X0.here hx rfl (hb hby at_10) ?_
    show Steps p.tables e below (T0.setTop (mkF m 11 #[.val (.int v0), .val (.int v1), .val (.long v2), .second, .val (.int ((v0 &&& (3 : Int32)) % (3 : Int32))), .unset, .unset, .unset, .unset, .unset, .unset, .unset, .unset, .unset] [(.int (3 : Int32)), (.int ((v0.toUInt32 >>> ((2 : Int32) &&& 31).toUInt32).toInt32))])) _
    refine XS.iand X0.here hx rfl (hb hby at_11) rfl ?_
    show Steps p.tables e below (T0.setTop (mkF m 12 #[.val (.int v0), .val (.int v1), .val (.long v2), .second, .val (.int ((v0 &&& (3 : Int32)) % (3 : Int32))), .unset, .unset, .unset, .unset, .unset, .unset, .unset, .unset, .unset] [(.int (((v0.toUInt32 >>> ((2 : Int32) &&& 31).toUInt32).toInt32) &&& (3 : Int32)))])) _
    refine XS.iconst X0.here hx rfl (hb hby at_12) ?_
    exact k
  have hnz13 : ¬ ((3 : Int32) = (0 : Int32)) := by decide
  refine EndsIn.by (B := T0.setTop (mkF m 22 #[.val (.int v0), .val (.int v1), .val (.long v2), .second, .val (.int ((v0 &&& (3 : Int32)) % (3 : Int32))), .val (.int ((((v0.toUInt32 >>> ((2 : Int32) &&& 31).toUInt32).toInt32) &&& (3 : Int32)) % (3 : Int32))), .unset, .unset, .unset, .unset, .unset, .unset, .unset, .unset] [(.int (3 : Int32)), (.int (((v0.toUInt32 >>> ((4 : Int32) &&& 31).toUInt32).toInt32) &&& (3 : Int32)))])) (fun t k => ?_) ?_
  · show Steps p.tables e below (T0.setTop (mkF m 13 #[.val (.int v0), .val (.int v1), .val (.long v2), .second, .val (.int ((v0 &&& (3 : Int32)) % (3 : Int32))), .unset, .unset, .unset, .unset, .unset, .unset, .unset, .unset, .unset] [(.int (3 : Int32)), (.int (((v0.toUInt32 >>> ((2 : Int32) &&& 31).toUInt32).toInt32) &&& (3 : Int32)))])) _
    refine iremM X0 hx rfl (hb hby at_13) rfl hnz13 ?_
    show Steps p.tables e below (T0.setTop (mkF m 14 #[.val (.int v0), .val (.int v1), .val (.long v2), .second, .val (.int ((v0 &&& (3 : Int32)) % (3 : Int32))), .unset, .unset, .unset, .unset, .unset, .unset, .unset, .unset, .unset] [(.int ((((v0.toUInt32 >>> ((2 : Int32) &&& 31).toUInt32).toInt32) &&& (3 : Int32)) % (3 : Int32)))])) _
    refine XS.istore X0.here hx rfl (hb hby at_14) rfl (l' := #[.val (.int v0), .val (.int v1), .val (.long v2), .second, .val (.int ((v0 &&& (3 : Int32)) % (3 : Int32))), .val (.int ((((v0.toUInt32 >>> ((2 : Int32) &&& 31).toUInt32).toInt32) &&& (3 : Int32)) % (3 : Int32))), .unset, .unset, .unset, .unset, .unset, .unset, .unset, .unset]) rfl ?_
    show Steps p.tables e below (T0.setTop (mkF m 16 #[.val (.int v0), .val (.int v1), .val (.long v2), .second, .val (.int ((v0 &&& (3 : Int32)) % (3 : Int32))), .val (.int ((((v0.toUInt32 >>> ((2 : Int32) &&& 31).toUInt32).toInt32) &&& (3 : Int32)) % (3 : Int32))), .unset, .unset, .unset, .unset, .unset, .unset, .unset, .unset] [])) _
    refine XS.iloadN X0.here hx rfl (hb hby at_16) rfl  ?_
    show Steps p.tables e below (T0.setTop (mkF m 17 #[.val (.int v0), .val (.int v1), .val (.long v2), .second, .val (.int ((v0 &&& (3 : Int32)) % (3 : Int32))), .val (.int ((((v0.toUInt32 >>> ((2 : Int32) &&& 31).toUInt32).toInt32) &&& (3 : Int32)) % (3 : Int32))), .unset, .unset, .unset, .unset, .unset, .unset, .unset, .unset] [(.int v0)])) _
    refine XS.iconst X0.here hx rfl (hb hby at_17) ?_
    show Steps p.tables e below (T0.setTop (mkF m 18 #[.val (.int v0), .val (.int v1), .val (.long v2), .second, .val (.int ((v0 &&& (3 : Int32)) % (3 : Int32))), .val (.int ((((v0.toUInt32 >>> ((2 : Int32) &&& 31).toUInt32).toInt32) &&& (3 : Int32)) % (3 : Int32))), .unset, .unset, .unset, .unset, .unset, .unset, .unset, .unset] [(.int (4 : Int32)), (.int v0)])) _
    refine XS.iushr X0.here hx rfl (hb hby at_18) rfl ?_
    show Steps p.tables e below (T0.setTop (mkF m 19 #[.val (.int v0), .val (.int v1), .val (.long v2), .second, .val (.int ((v0 &&& (3 : Int32)) % (3 : Int32))), .val (.int ((((v0.toUInt32 >>> ((2 : Int32) &&& 31).toUInt32).toInt32) &&& (3 : Int32)) % (3 : Int32))), .unset, .unset, .unset, .unset, .unset, .unset, .unset, .unset] [(.int ((v0.toUInt32 >>> ((4 : Int32) &&& 31).toUInt32).toInt32))])) _
    refine XS.iconst X0.here hx rfl (hb hby at_19) ?_
    show Steps p.tables e below (T0.setTop (mkF m 20 #[.val (.int v0), .val (.int v1), .val (.long v2), .second, .val (.int ((v0 &&& (3 : Int32)) % (3 : Int32))), .val (.int ((((v0.toUInt32 >>> ((2 : Int32) &&& 31).toUInt32).toInt32) &&& (3 : Int32)) % (3 : Int32))), .unset, .unset, .unset, .unset, .unset, .unset, .unset, .unset] [(.int (3 : Int32)), (.int ((v0.toUInt32 >>> ((4 : Int32) &&& 31).toUInt32).toInt32))])) _
    refine XS.iand X0.here hx rfl (hb hby at_20) rfl ?_
    show Steps p.tables e below (T0.setTop (mkF m 21 #[.val (.int v0), .val (.int v1), .val (.long v2), .second, .val (.int ((v0 &&& (3 : Int32)) % (3 : Int32))), .val (.int ((((v0.toUInt32 >>> ((2 : Int32) &&& 31).toUInt32).toInt32) &&& (3 : Int32)) % (3 : Int32))), .unset, .unset, .unset, .unset, .unset, .unset, .unset, .unset] [(.int (((v0.toUInt32 >>> ((4 : Int32) &&& 31).toUInt32).toInt32) &&& (3 : Int32)))])) _
    refine XS.iconst X0.here hx rfl (hb hby at_21) ?_
    exact k
  have hnz22 : ¬ ((3 : Int32) = (0 : Int32)) := by decide
  refine EndsIn.by (B := T0.setTop (mkF m 31 #[.val (.int v0), .val (.int v1), .val (.long v2), .second, .val (.int ((v0 &&& (3 : Int32)) % (3 : Int32))), .val (.int ((((v0.toUInt32 >>> ((2 : Int32) &&& 31).toUInt32).toInt32) &&& (3 : Int32)) % (3 : Int32))), .val (.int ((((v0.toUInt32 >>> ((4 : Int32) &&& 31).toUInt32).toInt32) &&& (3 : Int32)) % (3 : Int32))), .unset, .unset, .unset, .unset, .unset, .unset, .unset] [(.int (((v0.toUInt32 >>> ((6 : Int32) &&& 31).toUInt32).toInt32) &&& (1 : Int32)))])) (fun t k => ?_) ?_
  · show Steps p.tables e below (T0.setTop (mkF m 22 #[.val (.int v0), .val (.int v1), .val (.long v2), .second, .val (.int ((v0 &&& (3 : Int32)) % (3 : Int32))), .val (.int ((((v0.toUInt32 >>> ((2 : Int32) &&& 31).toUInt32).toInt32) &&& (3 : Int32)) % (3 : Int32))), .unset, .unset, .unset, .unset, .unset, .unset, .unset, .unset] [(.int (3 : Int32)), (.int (((v0.toUInt32 >>> ((4 : Int32) &&& 31).toUInt32).toInt32) &&& (3 : Int32)))])) _
    refine iremM X0 hx rfl (hb hby at_22) rfl hnz22 ?_
    show Steps p.tables e below (T0.setTop (mkF m 23 #[.val (.int v0), .val (.int v1), .val (.long v2), .second, .val (.int ((v0 &&& (3 : Int32)) % (3 : Int32))), .val (.int ((((v0.toUInt32 >>> ((2 : Int32) &&& 31).toUInt32).toInt32) &&& (3 : Int32)) % (3 : Int32))), .unset, .unset, .unset, .unset, .unset, .unset, .unset, .unset] [(.int ((((v0.toUInt32 >>> ((4 : Int32) &&& 31).toUInt32).toInt32) &&& (3 : Int32)) % (3 : Int32)))])) _
    refine XS.istore X0.here hx rfl (hb hby at_23) rfl (l' := #[.val (.int v0), .val (.int v1), .val (.long v2), .second, .val (.int ((v0 &&& (3 : Int32)) % (3 : Int32))), .val (.int ((((v0.toUInt32 >>> ((2 : Int32) &&& 31).toUInt32).toInt32) &&& (3 : Int32)) % (3 : Int32))), .val (.int ((((v0.toUInt32 >>> ((4 : Int32) &&& 31).toUInt32).toInt32) &&& (3 : Int32)) % (3 : Int32))), .unset, .unset, .unset, .unset, .unset, .unset, .unset]) rfl ?_
    show Steps p.tables e below (T0.setTop (mkF m 25 #[.val (.int v0), .val (.int v1), .val (.long v2), .second, .val (.int ((v0 &&& (3 : Int32)) % (3 : Int32))), .val (.int ((((v0.toUInt32 >>> ((2 : Int32) &&& 31).toUInt32).toInt32) &&& (3 : Int32)) % (3 : Int32))), .val (.int ((((v0.toUInt32 >>> ((4 : Int32) &&& 31).toUInt32).toInt32) &&& (3 : Int32)) % (3 : Int32))), .unset, .unset, .unset, .unset, .unset, .unset, .unset] [])) _
    refine XS.iloadN X0.here hx rfl (hb hby at_25) rfl  ?_
    show Steps p.tables e below (T0.setTop (mkF m 26 #[.val (.int v0), .val (.int v1), .val (.long v2), .second, .val (.int ((v0 &&& (3 : Int32)) % (3 : Int32))), .val (.int ((((v0.toUInt32 >>> ((2 : Int32) &&& 31).toUInt32).toInt32) &&& (3 : Int32)) % (3 : Int32))), .val (.int ((((v0.toUInt32 >>> ((4 : Int32) &&& 31).toUInt32).toInt32) &&& (3 : Int32)) % (3 : Int32))), .unset, .unset, .unset, .unset, .unset, .unset, .unset] [(.int v0)])) _
    refine XS.bipush X0.here hx rfl (hb hby at_26) ?_
    show Steps p.tables e below (T0.setTop (mkF m 28 #[.val (.int v0), .val (.int v1), .val (.long v2), .second, .val (.int ((v0 &&& (3 : Int32)) % (3 : Int32))), .val (.int ((((v0.toUInt32 >>> ((2 : Int32) &&& 31).toUInt32).toInt32) &&& (3 : Int32)) % (3 : Int32))), .val (.int ((((v0.toUInt32 >>> ((4 : Int32) &&& 31).toUInt32).toInt32) &&& (3 : Int32)) % (3 : Int32))), .unset, .unset, .unset, .unset, .unset, .unset, .unset] [(.int (6 : Int32)), (.int v0)])) _
    refine XS.iushr X0.here hx rfl (hb hby at_28) rfl ?_
    show Steps p.tables e below (T0.setTop (mkF m 29 #[.val (.int v0), .val (.int v1), .val (.long v2), .second, .val (.int ((v0 &&& (3 : Int32)) % (3 : Int32))), .val (.int ((((v0.toUInt32 >>> ((2 : Int32) &&& 31).toUInt32).toInt32) &&& (3 : Int32)) % (3 : Int32))), .val (.int ((((v0.toUInt32 >>> ((4 : Int32) &&& 31).toUInt32).toInt32) &&& (3 : Int32)) % (3 : Int32))), .unset, .unset, .unset, .unset, .unset, .unset, .unset] [(.int ((v0.toUInt32 >>> ((6 : Int32) &&& 31).toUInt32).toInt32))])) _
    refine XS.iconst X0.here hx rfl (hb hby at_29) ?_
    show Steps p.tables e below (T0.setTop (mkF m 30 #[.val (.int v0), .val (.int v1), .val (.long v2), .second, .val (.int ((v0 &&& (3 : Int32)) % (3 : Int32))), .val (.int ((((v0.toUInt32 >>> ((2 : Int32) &&& 31).toUInt32).toInt32) &&& (3 : Int32)) % (3 : Int32))), .val (.int ((((v0.toUInt32 >>> ((4 : Int32) &&& 31).toUInt32).toInt32) &&& (3 : Int32)) % (3 : Int32))), .unset, .unset, .unset, .unset, .unset, .unset, .unset] [(.int (1 : Int32)), (.int ((v0.toUInt32 >>> ((6 : Int32) &&& 31).toUInt32).toInt32))])) _
    refine XS.iand X0.here hx rfl (hb hby at_30) rfl ?_
    exact k
  by_cases hc31 : (((v0.toUInt32 >>> ((6 : Int32) &&& 31).toUInt32).toInt32) &&& (1 : Int32)) = (0 : Int32)
  · rw [if_pos hc31] at hr
    refine EndsIn.by (B := T0.setTop (mkF m 38 #[.val (.int v0), .val (.int v1), .val (.long v2), .second, .val (.int ((v0 &&& (3 : Int32)) % (3 : Int32))), .val (.int ((((v0.toUInt32 >>> ((2 : Int32) &&& 31).toUInt32).toInt32) &&& (3 : Int32)) % (3 : Int32))), .val (.int ((((v0.toUInt32 >>> ((4 : Int32) &&& 31).toUInt32).toInt32) &&& (3 : Int32)) % (3 : Int32))), .unset, .unset, .unset, .unset, .unset, .unset, .unset] [])) (fun t k => ?_) ?_
    · show Steps p.tables e below (T0.setTop (mkF m 31 #[.val (.int v0), .val (.int v1), .val (.long v2), .second, .val (.int ((v0 &&& (3 : Int32)) % (3 : Int32))), .val (.int ((((v0.toUInt32 >>> ((2 : Int32) &&& 31).toUInt32).toInt32) &&& (3 : Int32)) % (3 : Int32))), .val (.int ((((v0.toUInt32 >>> ((4 : Int32) &&& 31).toUInt32).toInt32) &&& (3 : Int32)) % (3 : Int32))), .unset, .unset, .unset, .unset, .unset, .unset, .unset] [(.int (((v0.toUInt32 >>> ((6 : Int32) &&& 31).toUInt32).toInt32) &&& (1 : Int32)))])) _
      exact XS.ifYes X0.here hx rfl (pc0 := 31) (pc' := 38) rfl (hb hby at_31) rfl ((if0 _ _).trans (teq hc31).1) (by decide) (by decide) k
    refine EndsIn.by (B := T0.setTop (mkF m 39 #[.val (.int v0), .val (.int v1), .val (.long v2), .second, .val (.int ((v0 &&& (3 : Int32)) % (3 : Int32))), .val (.int ((((v0.toUInt32 >>> ((2 : Int32) &&& 31).toUInt32).toInt32) &&& (3 : Int32)) % (3 : Int32))), .val (.int ((((v0.toUInt32 >>> ((4 : Int32) &&& 31).toUInt32).toInt32) &&& (3 : Int32)) % (3 : Int32))), .unset, .unset, .unset, .unset, .unset, .unset, .unset] [(.int (0 : Int32))])) (fun t k => ?_) ?_
    · show Steps p.tables e below (T0.setTop (mkF m 38 #[.val (.int v0), .val (.int v1), .val (.long v2), .second, .val (.int ((v0 &&& (3 : Int32)) % (3 : Int32))), .val (.int ((((v0.toUInt32 >>> ((2 : Int32) &&& 31).toUInt32).toInt32) &&& (3 : Int32)) % (3 : Int32))), .val (.int ((((v0.toUInt32 >>> ((4 : Int32) &&& 31).toUInt32).toInt32) &&& (3 : Int32)) % (3 : Int32))), .unset, .unset, .unset, .unset, .unset, .unset, .unset] [])) _
      refine XS.iconst X0.here hx rfl (hb hby at_38) ?_
      exact k
    have hA_j : own_A ((v0 &&& (3 : Int32)) % (3 : Int32)) ((((v0.toUInt32 >>> ((2 : Int32) &&& 31).toUInt32).toInt32) &&& (3 : Int32)) % (3 : Int32)) ((((v0.toUInt32 >>> ((4 : Int32) &&& 31).toUInt32).toInt32) &&& (3 : Int32)) % (3 : Int32)) := ⟨own_r3 _, own_r3 _, own_r3 _⟩
    have ht_j : own_01 (0 : Int32) := (by first | exact Or.inl rfl | exact Or.inr rfl)
    exact b0_39 ⟨hx, hZ, hw, hby, hml, hret, hown, hnm, hlk⟩ h0 n0 v0 v1 v2 ((v0 &&& (3 : Int32)) % (3 : Int32)) ((((v0.toUInt32 >>> ((2 : Int32) &&& 31).toUInt32).toInt32) &&& (3 : Int32)) % (3 : Int32)) ((((v0.toUInt32 >>> ((4 : Int32) &&& 31).toUInt32).toInt32) &&& (3 : Int32)) % (3 : Int32)) (0 : Int32) X0 e0 N0 Z0 hA_j ht_j _ hr
  · rw [if_neg hc31] at hr
    refine EndsIn.by (B := T0.setTop (mkF m 34 #[.val (.int v0), .val (.int v1), .val (.long v2), .second, .val (.int ((v0 &&& (3 : Int32)) % (3 : Int32))), .val (.int ((((v0.toUInt32 >>> ((2 : Int32) &&& 31).toUInt32).toInt32) &&& (3 : Int32)) % (3 : Int32))), .val (.int ((((v0.toUInt32 >>> ((4 : Int32) &&& 31).toUInt32).toInt32) &&& (3 : Int32)) % (3 : Int32))), .unset, .unset, .unset, .unset, .unset, .unset, .unset] [])) (fun t k => ?_) ?_
    · show Steps p.tables e below (T0.setTop (mkF m 31 #[.val (.int v0), .val (.int v1), .val (.long v2), .second, .val (.int ((v0 &&& (3 : Int32)) % (3 : Int32))), .val (.int ((((v0.toUInt32 >>> ((2 : Int32) &&& 31).toUInt32).toInt32) &&& (3 : Int32)) % (3 : Int32))), .val (.int ((((v0.toUInt32 >>> ((4 : Int32) &&& 31).toUInt32).toInt32) &&& (3 : Int32)) % (3 : Int32))), .unset, .unset, .unset, .unset, .unset, .unset, .unset] [(.int (((v0.toUInt32 >>> ((6 : Int32) &&& 31).toUInt32).toInt32) &&& (1 : Int32)))])) _
      exact XS.ifNo X0.here hx rfl (hb hby at_31) rfl ((if0 _ _).trans (feq hc31).1) k
    refine EndsIn.by (B := T0.setTop (mkF m 39 #[.val (.int v0), .val (.int v1), .val (.long v2), .second, .val (.int ((v0 &&& (3 : Int32)) % (3 : Int32))), .val (.int ((((v0.toUInt32 >>> ((2 : Int32) &&& 31).toUInt32).toInt32) &&& (3 : Int32)) % (3 : Int32))), .val (.int ((((v0.toUInt32 >>> ((4 : Int32) &&& 31).toUInt32).toInt32) &&& (3 : Int32)) % (3 : Int32))), .unset, .unset, .unset, .unset, .unset, .unset, .unset] [(.int (1 : Int32))])) (fun t k => ?_) ?_
    · show Steps p.tables e below (T0.setTop (mkF m 34 #[.val (.int v0), .val (.int v1), .val (.long v2), .second, .val (.int ((v0 &&& (3 : Int32)) % (3 : Int32))), .val (.int ((((v0.toUInt32 >>> ((2 : Int32) &&& 31).toUInt32).toInt32) &&& (3 : Int32)) % (3 : Int32))), .val (.int ((((v0.toUInt32 >>> ((4 : Int32) &&& 31).toUInt32).toInt32) &&& (3 : Int32)) % (3 : Int32))), .unset, .unset, .unset, .unset, .unset, .unset, .unset] [])) _
      refine XS.iconst X0.here hx rfl (hb hby at_34) ?_
      show Steps p.tables e below (T0.setTop (mkF m 35 #[.val (.int v0), .val (.int v1), .val (.long v2), .second, .val (.int ((v0 &&& (3 : Int32)) % (3 : Int32))), .val (.int ((((v0.toUInt32 >>> ((2 : Int32) &&& 31).toUInt32).toInt32) &&& (3 : Int32)) % (3 : Int32))), .val (.int ((((v0.toUInt32 >>> ((4 : Int32) &&& 31).toUInt32).toInt32) &&& (3 : Int32)) % (3 : Int32))), .unset, .unset, .unset, .unset, .unset, .unset, .unset] [(.int (1 : Int32))])) _
      refine XS.goto X0.here hx rfl (pc0 := 35) (pc' := 39) rfl (hb hby at_35) (by decide) (by decide) ?_
      exact k
    have hA_j : own_A ((v0 &&& (3 : Int32)) % (3 : Int32)) ((((v0.toUInt32 >>> ((2 : Int32) &&& 31).toUInt32).toInt32) &&& (3 : Int32)) % (3 : Int32)) ((((v0.toUInt32 >>> ((4 : Int32) &&& 31).toUInt32).toInt32) &&& (3 : Int32)) % (3 : Int32)) := ⟨own_r3 _, own_r3 _, own_r3 _⟩
    have ht_j : own_01 (1 : Int32) := (by first | exact Or.inl rfl | exact Or.inr rfl)
    exact b0_39 ⟨hx, hZ, hw, hby, hml, hret, hown, hnm, hlk⟩ h0 n0 v0 v1 v2 ((v0 &&& (3 : Int32)) % (3 : Int32)) ((((v0.toUInt32 >>> ((2 : Int32) &&& 31).toUInt32).toInt32) &&& (3 : Int32)) % (3 : Int32)) ((((v0.toUInt32 >>> ((4 : Int32) &&& 31).toUInt32).toInt32) &&& (3 : Int32)) % (3 : Int32)) (1 : Int32) X0 e0 N0 Z0 hA_j ht_j _ hr
theorem ef_0 (m : MethodId) (v0 : Int32) (v1 : Int32) (v2 : Int64) : entryFrame m #[(.int v0), (.int v1), (.long v2)] maxLocals = (mkF m 0 #[.val (.int v0), .val (.int v1), .val (.long v2), .second, .unset, .unset, .unset, .unset, .unset, .unset, .unset, .unset, .unset, .unset] []) := by first | (simp [entryFrame, mkF, argsToLocals, Value.category, maxLocals]; done) | rfl
set_option maxRecDepth 65536 in
set_option maxHeartbeats 40000000 in
theorem rm0 (l : Launch) (Z : State) (a0 : Array Value) (hw : ∀ d ∈ tables_1, d.before a0 Z = true) (ws : List Jvm.Cond) (v0 : Int32) (v1 : Int32) (v2 : Int64) (h0 : Heap) (n0 : Nat) (Z0 : n0 ≤ h0.size) :
    MetFree l x (head1 (Jvm.Cond.code x code maxLocals ret :: ws) room_1) (fun a U => a = #[(.int v0), (.int v1), (.long v2)] ∧ Z.Warmed39 U.vm ∧ U.heap = h0) (fun _ _ _ _ _ => True) (fun _ U o U' => ∃ v L, o = .returned v ∧ (Q0 n0 (f0_0 v0 v1 v2)) v U'.heap L ∧ FrameEnd U o U' L 8 25) := by
  refine MetFree.of_bodySF (plainFor_of_name pn_0) hisR ?_
  intro p e s m args below meth c s₁ Bd hml0 hP hK
  obtain ⟨rfl, hZ, hh⟩ := hP
  have B : Ctx p Z s a0 m meth c "com/example/pure_mrtd/puremrtd/format/TlvReaderHasNextPinLaw" "law" code 14 (some .boolean) := ⟨Bd.exec, hZ, hw, Bd.bytes, hml0, Bd.returns, findClass_of_methodNamed Bd.named, (name_of_methodNamed Bd.named Bd.method).1, Bd.notSynchronized⟩
  have X0 : Stand p l e room_1 s m #[(.int v0), (.int v1), (.long v2)] below meth c s₁ [] 0 0 := Stand.of_body Bd
  have e0 : s₁.heap = h0 := by rw [← hh, Bd.state]; rfl
  have K := Keep.refl h0 []
  show EndsIn p e below s 8 25 (Q0 n0 (f0_0 v0 v1 v2)) (s₁.setTop (entryFrame m #[(.int v0), (.int v1), (.long v2)] maxLocals))
  refine EndsIn.by (fun t k => castTop (ef_0 m v0 v1 v2) k) ?_
  exact b0_0 B h0 n0 v0 v1 v2 X0 e0 (Fr.nil n0) Z0  _ rfl

section
variable {v0 v1 : Int32} {v2 : Int64} {v4 v5 v6 v7 v8 v9 v10 n pos : Int32} {xs : List Int32}
/-- behind the last object something is left exactly where the trailing byte is there -/
theorem own_more (g : own_G v4 v5 v6 v7 v8 v9 n) (hp : pos.toInt = v8.toInt + v9.toInt) : f4_0 pos n xs = v7 := by
  have gi := own_GI g
  unfold f4_0
  rcases g.1.2.1 with rfl | rfl
  · have z := own_c0; rw [if_neg (own_nlt (by omega))]
  · have z := own_c1; rw [if_pos (own_lt (by omega))]
theorem own_l378 (g : own_G v4 v5 v6 v7 v8 v9 n) (hp : pos.toInt = v8.toInt + v9.toInt) : f0_378 v0 v1 v2 v4 v5 v6 v7 v8 v9 v10 1 pos n xs = 1 := by
  unfold f0_378
  rw [if_neg (by decide), own_more g hp, if_pos rfl]
theorem own_l355 (g : own_G v4 v5 v6 v7 v8 v9 n) (hp : pos.toInt = v8.toInt + v9.toInt) : f0_355 v0 v1 v2 v4 v5 v6 v7 v8 v9 v10 1 pos n xs = 1 := by
  unfold f0_355 f0_376
  rw [if_neg (by decide), own_more g hp, if_pos rfl]
  exact own_l378 g hp
theorem own_l344 (g : own_G v4 v5 v6 v7 v8 v9 n) (d : own_D v4 v5 v6 v8 xs) (hp : pos = v8) : f0_344 v0 v1 v2 v4 v5 v6 v7 v8 v9 v10 1 pos n xs = 1 := by
  unfold f0_344
  split
  · rename_i h
    have gi := own_GI g; have h := own_ltI h; rw [own_c2] at h
    exact own_l378 g (by rw [hp]; omega)
  · rename_i h
    exact own_l355 g (own_p2 g d hp h)
theorem own_l307 (g : own_G v4 v5 v6 v7 v8 v9 n) (d : own_D v4 v5 v6 v8 xs) (hp : pos = v8) : f0_307 v0 v1 v2 v4 v5 v6 v7 v8 v9 v10 1 pos n xs = 1 := by
  unfold f0_307
  rw [if_neg (by decide)]
  have gi := own_GI g
  split
  · rename_i h; have h := own_ltI h; rw [own_c2] at h
    have m := own_more (xs := xs) g (pos := pos) (by rw [hp]; omega)
    split
    · rename_i q; unfold f0_334; rw [m, q, if_pos rfl]; unfold f0_342; exact own_l344 (q ▸ g) d hp
    · rename_i q
      rcases g.1.2.1 with e | e
      · exact absurd e q
      · unfold f0_329 f0_334; rw [m, e, if_pos rfl]; unfold f0_342; exact own_l344 (e ▸ g) d hp
  · rename_i h; have h := own_nltI h; rw [own_c2] at h
    have m : f4_0 pos n xs = 1 := by unfold f4_0; rw [if_pos (own_lt (by rw [hp]; omega))]
    unfold f0_329 f0_334; rw [m, if_pos rfl]; unfold f0_342; exact own_l344 g d hp
theorem own_l294 (g : own_G v4 v5 v6 v7 v8 v9 n) (d : own_D v4 v5 v6 v8 xs) (hp : pos = 0) : f0_294 v0 v1 v2 v4 v5 v6 v7 v8 v9 v10 1 pos n xs = 1 := by
  unfold f0_294
  split
  · rename_i h; exact own_l344 g d (own_p0 g hp h)
  · rename_i h; exact own_l307 g d (own_p1 g d hp h)
theorem own_l254 (g : own_G v4 v5 v6 v7 v8 v9 n) (d : own_D v4 v5 v6 v8 xs) : f0_254 v0 v1 v2 v4 v5 v6 v7 v8 v9 v10 n xs = 1 := by
  unfold f0_254 f0_263 f2_0
  have gi := own_GI g
  split
  · rename_i h; have h := own_ltI h; rw [own_c1] at h
    have m := own_more (xs := xs) g (pos := 0) (by rw [own_c0]; omega)
    split
    · rename_i q; unfold f0_286; rw [m, q, if_pos rfl]; exact own_l294 (q ▸ g) d rfl
    · rename_i q
      rcases g.1.2.1 with e | e
      · exact absurd e q
      · unfold f0_281 f0_286; rw [m, e, if_pos rfl]; exact own_l294 (e ▸ g) d rfl
  · rename_i h; have h := own_nltI h; rw [own_c1] at h
    have m : f4_0 0 n xs = 1 := by unfold f4_0; rw [if_pos (own_lt (by rw [own_c0]; omega))]
    unfold f0_281 f0_286; rw [m, if_pos rfl]; exact own_l294 g d rfl
theorem own_l195 (g : own_G v4 v5 v6 v7 v8 v9 n) (ln : xs.length = n.toNatClampNeg) : f0_195 v0 v1 v2 v4 v5 v6 v7 v8 v9 v10 n xs = 1 := by
  have k : ∀ ys : List Int32, ys.length = n.toNatClampNeg → own_D1 v4 v5 ys → f0_221 v0 v1 v2 v4 v5 v6 v7 v8 v9 v10 n ys = 1 := fun ys ly d1 => by
    unfold f0_221
    split
    · rename_i h; exact own_l254 g ⟨d1, own_d2a h⟩
    · rename_i h; exact own_l254 g (own_d2b g ly d1 h)
  unfold f0_195
  split
  · rename_i h; exact k _ ln (own_d1a h)
  · rename_i h; exact k _ (by rw [List.length_set, List.length_set]; exact ln) (own_d1b g ln h)
theorem own_f1 (i v : Int32) (ln : xs.length = n.toNatClampNeg) : (f1_0 i v n xs).length = n.toNatClampNeg := by
  unfold f1_0; split
  · rw [List.length_set]; exact ln
  · exact ln
theorem own_l88 {t0 t1 : Int32} (b : own_B v4 v5 v6 v7 v8 v9) (ht : (t1 + t0) = v8 + v9 + v7) : f0_88 v0 v1 v2 v4 v5 v6 v7 v8 v9 t0 t1 = 1 := by
  unfold f0_88 f0_105 f0_116 f0_127 f0_138 f0_149 f0_160 f0_172 f0_184
  exact own_l195 ⟨b, ht⟩ (own_f1 _ _ (own_f1 _ _ (own_f1 _ _ (own_f1 _ _ (own_f1 _ _ (own_f1 _ _ (own_f1 _ _ (own_f1 _ _ (own_f1 _ _ List.length_replicate)))))))))
theorem own_l39 (a : own_A v4 v5 v6) (h7 : own_01 v7) : f0_39 v0 v1 v2 v4 v5 v6 v7 = 1 := by
  have k : ∀ v8 v9 : Int32, v8 = own_n1 v4 v5 → v9 = own_n2 v4 v6 → f0_71 v0 v1 v2 v4 v5 v6 v7 v8 v9 = 1 := fun v8 v9 e8 e9 => by
    unfold f0_71
    split
    · rename_i q; exact own_l88 ⟨a, h7, e8, e9⟩ (own_t0 q)
    · rename_i q; exact own_l88 ⟨a, h7, e8, e9⟩ (own_t1 h7 q)
  have k2 : ∀ v8 : Int32, v8 = own_n1 v4 v5 → f0_55 v0 v1 v2 v4 v5 v6 v7 v8 = 1 := fun v8 e8 => by
    unfold f0_55
    split
    · rename_i q; exact k _ _ e8 (if_pos q).symm
    · rename_i q; exact k _ _ e8 (if_neg q).symm
  unfold f0_39
  split
  · rename_i q; exact k2 _ (if_pos q).symm
  · rename_i q; exact k2 _ (if_neg q).symm
theorem own_law (v0 v1 : Int32) (v2 : Int64) : f0_0 v0 v1 v2 = 1 := by
  unfold f0_0
  split
  · exact own_l39 ⟨own_r3 _, own_r3 _, own_r3 _⟩ (Or.inl rfl)
  · exact own_l39 ⟨own_r3 _, own_r3 _, own_r3 _⟩ (Or.inr rfl)
end

set_option maxRecDepth 65536 in
set_option maxHeartbeats 40000000 in
theorem comes_1 {Post : Tables → Env → Array Value → State → Outcome → State → Prop} (hpost : ∀ tb e args s v u, (limb_1_1.after args s (.returned v) u = true ∧ limb_1_2.after args s (.returned v) u = true ∧ True) → FrameEnd s (.returned v) u (Jvm.fieldLocs frame_1_writes args s ++ Jvm.arrayLocs frame_1_arrays args s ++ Jvm.staticLocs frame_1_statics s) 24 128 → Post tb e args s (.returned v) u) :
    ArmFor flags0 classFile x code maxLocals ret World_1 tables_1 room_1 Calls_1 rest_1 Pre_1 Post := by
  intro l hfl _ _ p e ha hc hk s m args below hf hA hF happ hP
  obtain ⟨hcalls, hrest, hpre⟩ := hP
  obtain ⟨-, -, -, hnamed, -, -, -, hat⟩ := (Spec.applies_iff hf).mp happ
  obtain ⟨hg, hn⟩ := and_e (Cond.before_iff.mp (show (Jvm.Cond.and given_1 narrow_1).before args s = true from hpre))
  obtain ⟨gg1, gg2⟩ := and_e hg
  obtain ⟨gg3, gg4⟩ := and_e gg2
  obtain ⟨gg5, gg6⟩ := and_e gg4
  obtain ⟨w0, w1, w2, rfl⟩ : ∃ w0 w1 w2 : Value, args = #[w0, w1, w2] := by
    have hs : args.size = 3 := by simpa [Cond.value, given_1] using gg1
    obtain ⟨L⟩ := args
    match L, hs with
    | [w0, w1, w2], _ => exact ⟨w0, w1, w2, rfl⟩
  have hw := fun d (hd : d ∈ tables_1) => atoms_spec (ws := Jvm.Cond.code x code maxLocals ret :: tables_1) hat d (List.mem_cons_of_mem _ hd)
  have hfit : Fit s := fun {y c} hc i hi => by
    obtain ⟨ha, rfl⟩ := Array.getElem?_eq_some_iff.mp hc
    have q := List.all_eq_true.mp ((Array.all_eq_true_iff_forall_mem.mp hF) _ (Array.getElem_mem ha)) i (List.mem_range.mpr hi)
    simpa [Array.getElem?_eq_getElem hi] using q
  obtain ⟨i0, ei0⟩ := is_v gg3
  obtain rfl : w0 = (.int i0) := Option.some.inj ei0
  obtain ⟨i1, ei1⟩ := is_v gg5
  obtain rfl : w1 = (.int i1) := Option.some.inj ei1
  obtain ⟨i2, ei2⟩ := isL_v gg6
  obtain rfl : w2 = (.long i2) := Option.some.inj ei2
  obtain ⟨n, o, h1, h2, h3, _, L, rfl, ⟨rfl, N⟩, hq⟩ := rm0 l s _ hw tables_1 i0 i1 i2 s.heap s.heap.size (Nat.le_refl _)  p e ha hc hk s m _ below hf ((Spec.applies_iff_loose hf).mp happ).1 ⟨rfl, State.Warmed39.refl s, rfl⟩ trivial
  refine ⟨n, _, h1, h2, h3, hpost _ _ _ _ _ _ ⟨Cond.after_iff.mpr rfl, Cond.after_iff.mpr (eq_i res_at (Term.int_eval (1)) (congrArg Value.int (own_law i0 i1 i2))), trivial⟩ ⟨hq.1, hq.2.1, (hq.2.2.sift fun y hy => Or.inr (N y hy)).mono (by decide) (by decide)⟩⟩
theorem main_1_1 : Claimed_1_1 := comes_1 fun _ _ _ _ _ _ h hF => ⟨h.1, hF⟩
theorem main_1_2 : Claimed_1_2 := comes_1 fun _ _ _ _ _ _ h hF => ⟨h.2.1, hF⟩
end Jvm.Pilot.@@N@@
namespace Jvm.Pilot.@@N@@
open Jvm Jvm.ClassFile Sem Op Lib Jvm.Free Jvm.Stand Jvm.Pilot.@@N@@.Jvm.D
/-! MADE BY PROGRAM (witnessworld.py) out of the Statement's table words and the real class files: 14 classes; the members and pool entries that the words name. The judged class is class 1, her method 1. -/
namespace start1
open Jvm.ClassFile
def u (s : String) : CpInfo := .utf8 (stringToUtf16 s)
/-- a pool by its gaps: so many unusable entries, then the entry; so many at the end -/
def gap : Nat → List CpInfo → List CpInfo
  | 0, r => r
  | n + 1, r => .unusable :: gap n r
def poolList (es : List (Nat × CpInfo)) (last : Nat) : List CpInfo := es.foldr (fun e r => gap e.1 (e.2 :: r)) (gap last [])
def pool (es : List (Nat × CpInfo)) (last : Nat) : Array CpInfo := ⟨poolList es last⟩
def fileOf (pool : Array CpInfo) (this : Nat) (attrs : Array Attribute := #[]) (ms : Array MethodInfo := #[]) (fl : Nat := 33) (sup : Nat := 0) (ifs : Array Nat := #[]) (fds : Array FieldInfo := #[]) : ClassFile where
  minorVersion := 0
  majorVersion := 65
  constantPool := pool
  accessFlags := fl
  thisClass := this
  superClass := sup
  interfaces := ifs
  fields := fds
  methods := ms
  attributes := attrs
def plain (name : String) (sup : Option ClassId) : Class where
  name := name
  kind := .ordinary
  loader := none
  accessFlags := 33
  super := sup
  interfaces := #[]
  cf := none
  fields := #[]
  methods := #[]
  instanceTypes := #[]
  staticTypes := #[]
  resolved := #[]
  callSites := []
  init := .initialized
  statics := none
  mirror := none

def pool0 : Array CpInfo := pool [(5, u "<init>"), (0, u "()V"), (1, .class_ 10), (1, u "java/lang/Object")] 113

def k0c0 : Code := { maxStack := 0, maxLocals := 1, code := object_method_1_code, exceptionTable := #[], attributes := #[] }
def k0m0 : Method := { name := "<init>", desc := "()V", sig := { parameters := [], returnType := none }, accessFlags := 1, code := some k0c0 }
/-- java/lang/Object -/
def k0 : Class := { plain "java/lang/Object" none with
  accessFlags := 33
  interfaces := #[]
  cf := some (fileOf pool0 8 #[] #[{ accessFlags := 1, nameIndex := 5, descriptorIndex := 6, attributes := #[] }] 33 0 #[] #[])
  fields := #[]
  methods := #[k0m0]
  instanceTypes := #[]
  staticTypes := #[]
  resolved := Array.replicate 124 none
  statics := none }

def pool1 : Array CpInfo := pool [(2, .class_ 4), (1, u "java/lang/Object"), (0, u "<init>"), (0, u "()V"), (0, .methodref 8 9), (0, .class_ 10), (0, .nameAndType 11 12), (0, u "com/example/pure_mrtd/puremrtd/format/TlvReaderHasNextPinLaw"), (0, u "put"), (0, u "([BII)V"), (0, .methodref 8 14), (0, .nameAndType 15 16), (0, u "oneByteTag"), (0, u "(I)I"), (0, .class_ 18), (0, u "com/example/pure_mrtd/puremrtd/format/TlvReader"), (0, .methodref 17 20), (0, .nameAndType 5 21), (0, u "([B)V"), (0, .methodref 17 23), (0, .nameAndType 24 25), (0, u "hasNext"), (0, u "()Z"), (0, .methodref 17 27), (0, .nameAndType 28 29), (0, u "next"), (0, u "()Lcom/example/pure_mrtd/puremrtd/format/Tlv;"), (2, u "law"), (0, u "(IIJ)Z")] 5

def k1m0 : Method := { name := "<init>", desc := "()V", sig := { parameters := [], returnType := none }, accessFlags := 1, code := none }
def k1c1 : Code := { maxStack := 5, maxLocals := 14, code := code, exceptionTable := #[], attributes := #[] }
def k1m1 : Method := { name := "law", desc := "(IIJ)Z", sig := { parameters := [.int, .int, .long], returnType := some .boolean }, accessFlags := 9, code := some k1c1 }
def k1c2 : Code := { maxStack := 2, maxLocals := 1, code := method_3_code, exceptionTable := #[], attributes := #[] }
def k1m2 : Method := { name := "oneByteTag", desc := "(I)I", sig := { parameters := [.int], returnType := some .int }, accessFlags := 10, code := some k1c2 }
def k1c3 : Code := { maxStack := 3, maxLocals := 3, code := method_4_code, exceptionTable := #[], attributes := #[] }
def k1m3 : Method := { name := "put", desc := "([BII)V", sig := { parameters := [(.array .byte), .int, .int], returnType := none }, accessFlags := 10, code := some k1c3 }
/-- com/example/pure_mrtd/puremrtd/format/TlvReaderHasNextPinLaw -/
def k1 : Class := { plain "com/example/pure_mrtd/puremrtd/format/TlvReaderHasNextPinLaw" (some 0) with
  accessFlags := 49
  interfaces := #[]
  cf := some (fileOf pool1 8 #[] #[{ accessFlags := 1, nameIndex := 5, descriptorIndex := 6, attributes := #[] }, { accessFlags := 9, nameIndex := 32, descriptorIndex := 33, attributes := #[] }, { accessFlags := 10, nameIndex := 15, descriptorIndex := 16, attributes := #[] }, { accessFlags := 10, nameIndex := 11, descriptorIndex := 12, attributes := #[] }] 49 2 #[] #[])
  fields := #[]
  methods := #[k1m0, k1m1, k1m2, k1m3]
  instanceTypes := #[]
  staticTypes := #[]
  resolved := Array.replicate 39 none
  statics := none }

def pool2 : Array CpInfo := pool [(1, .methodref 2 3), (0, .class_ 4), (0, .nameAndType 5 6), (0, u "java/lang/Object"), (0, u "<init>"), (0, u "()V"), (0, .fieldref 8 9), (0, .class_ 10), (0, .nameAndType 11 12), (0, u "com/example/pure_mrtd/puremrtd/format/TlvReader"), (0, u "data"), (0, u "[B"), (2, u "([B)V"), (2, u "next"), (0, u "()Lcom/example/pure_mrtd/puremrtd/format/Tlv;"), (1, .class_ 23), (1, u "com/example/pure_mrtd/puremrtd/format/Tlv"), (0, u "tag"), (3, u "hasNext"), (0, u "()Z"), (35, .fieldref 8 66), (0, .nameAndType 67 68), (0, u "position"), (0, u "I"), (0, .methodref 8 70), (0, .nameAndType 71 72), (0, u "header"), (0, u "()Lcom/example/pure_mrtd/puremrtd/format/TlvReader$Header;"), (0, .fieldref 74 75), (0, .class_ 76), (0, .nameAndType 77 68), (0, u "com/example/pure_mrtd/puremrtd/format/TlvReader$Header"), (0, u "valueStart"), (0, .fieldref 74 79), (0, .nameAndType 80 68), (0, u "length"), (15, .fieldref 74 97), (0, .nameAndType 24 68), (0, .methodref 99 100), (0, .class_ 101), (0, .nameAndType 102 103), (0, u "java/util/Arrays"), (0, u "copyOfRange"), (0, u "([BII)[B"), (0, .methodref 21 105), (0, .nameAndType 5 106), (0, u "(I[B)V"), (0, .methodref 8 108), (0, .nameAndType 109 110), (0, u "byteAt"), (0, u "(I)I"), (0, .integer 65535), (9, .methodref 74 122), (0, .nameAndType 5 123), (0, u "(III)V")] 37

def k2c0 : Code := { maxStack := 2, maxLocals := 2, code := prog_27_method_1_code, exceptionTable := #[], attributes := #[] }
def k2m0 : Method := { name := "<init>", desc := "([B)V", sig := { parameters := [(.array .byte)], returnType := none }, accessFlags := 1, code := some k2c0 }
def k2c1 : Code := { maxStack := 2, maxLocals := 1, code := prog_27_method_4_code, exceptionTable := #[], attributes := #[] }
def k2m1 : Method := { name := "hasNext", desc := "()Z", sig := { parameters := [], returnType := some .boolean }, accessFlags := 1, code := some k2c1 }
def k2c2 : Code := { maxStack := 7, maxLocals := 4, code := prog_27_method_7_code, exceptionTable := #[], attributes := #[] }
def k2m2 : Method := { name := "next", desc := "()Lcom/example/pure_mrtd/puremrtd/format/Tlv;", sig := { parameters := [], returnType := some (.object "com/example/pure_mrtd/puremrtd/format/Tlv") }, accessFlags := 1, code := some k2c2 }
def k2c3 : Code := { maxStack := 8, maxLocals := 6, code := prog_27_method_8_code, exceptionTable := #[], attributes := #[] }
def k2m3 : Method := { name := "header", desc := "()Lcom/example/pure_mrtd/puremrtd/format/TlvReader$Header;", sig := { parameters := [], returnType := some (.object "com/example/pure_mrtd/puremrtd/format/TlvReader$Header") }, accessFlags := 2, code := some k2c3 }
def k2c4 : Code := { maxStack := 3, maxLocals := 2, code := prog_27_method_9_code, exceptionTable := #[], attributes := #[] }
def k2m4 : Method := { name := "byteAt", desc := "(I)I", sig := { parameters := [.int], returnType := some .int }, accessFlags := 2, code := some k2c4 }
/-- com/example/pure_mrtd/puremrtd/format/TlvReader -/
def k2 : Class := { plain "com/example/pure_mrtd/puremrtd/format/TlvReader" (some 0) with
  accessFlags := 49
  interfaces := #[]
  cf := some (fileOf pool2 8 #[.nestMembers #[74]] #[{ accessFlags := 1, nameIndex := 5, descriptorIndex := 15, attributes := #[] }, { accessFlags := 1, nameIndex := 28, descriptorIndex := 29, attributes := #[] }, { accessFlags := 1, nameIndex := 18, descriptorIndex := 19, attributes := #[] }, { accessFlags := 2, nameIndex := 71, descriptorIndex := 72, attributes := #[] }, { accessFlags := 2, nameIndex := 109, descriptorIndex := 110, attributes := #[] }] 49 2 #[] #[{ accessFlags := 18, nameIndex := 11, descriptorIndex := 12, attributes := #[] }, { accessFlags := 2, nameIndex := 67, descriptorIndex := 68, attributes := #[] }])
  fields := #[{ name := "data", type := (.array .byte), accessFlags := 18, slot := 0, constantValue := 0 }, { name := "position", type := .int, accessFlags := 2, slot := 1, constantValue := 0 }]
  methods := #[k2m0, k2m1, k2m2, k2m3, k2m4]
  instanceTypes := #[(.array .byte), .int]
  staticTypes := #[]
  resolved := ((((((Array.replicate 161 none).set! 74 (some (.cls 3))).set! 73 (some (.field 3 1))).set! 78 (some (.field 3 2))).set! 96 (some (.field 3 0))).set! 121 (some (.method ⟨3, 0⟩)))
  statics := none }

def pool3 : Array CpInfo := pool [(1, .methodref 2 3), (0, .class_ 4), (0, .nameAndType 5 6), (0, u "java/lang/Object"), (0, u "<init>"), (0, u "()V"), (0, .fieldref 8 9), (0, .class_ 10), (0, .nameAndType 11 12), (0, u "com/example/pure_mrtd/puremrtd/format/TlvReader$Header"), (0, u "tag"), (0, u "I"), (0, .fieldref 8 14), (0, .nameAndType 15 12), (0, u "valueStart"), (0, .fieldref 8 17), (0, .nameAndType 18 12), (0, u "length"), (0, u "(III)V"), (5, .class_ 26), (0, u "com/example/pure_mrtd/puremrtd/format/TlvReader")] 2

def k3c0 : Code := { maxStack := 2, maxLocals := 4, code := prog_28_method_1_code, exceptionTable := #[], attributes := #[] }
def k3m0 : Method := { name := "<init>", desc := "(III)V", sig := { parameters := [.int, .int, .int], returnType := none }, accessFlags := 2, code := some k3c0 }
/-- com/example/pure_mrtd/puremrtd/format/TlvReader$Header -/
def k3 : Class := { plain "com/example/pure_mrtd/puremrtd/format/TlvReader$Header" (some 0) with
  accessFlags := 48
  interfaces := #[]
  cf := some (fileOf pool3 8 #[.nestHost 25] #[{ accessFlags := 2, nameIndex := 5, descriptorIndex := 19, attributes := #[] }] 48 2 #[] #[{ accessFlags := 18, nameIndex := 11, descriptorIndex := 12, attributes := #[] }, { accessFlags := 18, nameIndex := 15, descriptorIndex := 12, attributes := #[] }, { accessFlags := 18, nameIndex := 18, descriptorIndex := 12, attributes := #[] }])
  fields := #[{ name := "tag", type := .int, accessFlags := 18, slot := 0, constantValue := 0 }, { name := "valueStart", type := .int, accessFlags := 18, slot := 1, constantValue := 0 }, { name := "length", type := .int, accessFlags := 18, slot := 2, constantValue := 0 }]
  methods := #[k3m0]
  instanceTypes := #[.int, .int, .int]
  staticTypes := #[]
  resolved := Array.replicate 29 none
  statics := none }

def pool4 : Array CpInfo := pool [(1, .methodref 2 3), (0, .class_ 4), (0, .nameAndType 5 6), (0, u "java/lang/Object"), (0, u "<init>"), (0, u "()V"), (0, .fieldref 8 9), (0, .class_ 10), (0, .nameAndType 11 12), (0, u "com/example/pure_mrtd/puremrtd/format/Tlv"), (0, u "tag"), (0, u "I"), (0, .fieldref 8 14), (0, .nameAndType 15 16), (0, u "value"), (0, u "[B"), (41, u "(I[B)V")] 25

def k4c0 : Code := { maxStack := 2, maxLocals := 3, code := prog_26_method_1_code, exceptionTable := #[], attributes := #[] }
def k4m0 : Method := { name := "<init>", desc := "(I[B)V", sig := { parameters := [.int, (.array .byte)], returnType := none }, accessFlags := 0, code := some k4c0 }
/-- com/example/pure_mrtd/puremrtd/format/Tlv -/
def k4 : Class := { plain "com/example/pure_mrtd/puremrtd/format/Tlv" (some 0) with
  accessFlags := 49
  interfaces := #[]
  cf := some (fileOf pool4 8 #[] #[{ accessFlags := 0, nameIndex := 5, descriptorIndex := 58, attributes := #[] }] 49 2 #[] #[{ accessFlags := 18, nameIndex := 11, descriptorIndex := 12, attributes := #[] }, { accessFlags := 18, nameIndex := 15, descriptorIndex := 16, attributes := #[] }])
  fields := #[{ name := "tag", type := .int, accessFlags := 18, slot := 0, constantValue := 0 }, { name := "value", type := (.array .byte), accessFlags := 18, slot := 1, constantValue := 0 }]
  methods := #[k4m0]
  instanceTypes := #[.int, (.array .byte)]
  staticTypes := #[]
  resolved := Array.replicate 84 none
  statics := none }

def pool5 : Array CpInfo := pool [(2, .class_ 4), (1, u "java/lang/Object"), (0, u "<init>"), (0, u "()V"), (7, .class_ 16), (1, u "java/util/Arrays"), (57, .class_ 76), (1, u "java/util/Arrays$NaturalOrder"), (36, .class_ 115), (1, u "java/util/Arrays$LegacyMergeSort"), (1, u "Z"), (21, u "copyOfRange"), (10, .methodref 151 152), (0, .class_ 153), (0, .nameAndType 154 155), (0, u "java/lang/System"), (0, u "arraycopy"), (0, u "(Ljava/lang/Object;ILjava/lang/Object;II)V"), (148, .methodref 305 306), (0, .class_ 307), (0, .nameAndType 308 309), (0, u "java/lang/Math"), (0, u "min"), (0, u "(II)I"), (29, .methodref 14 340), (0, .nameAndType 341 342), (0, u "copyOfRangeByte"), (0, u "([BII)[B"), (0, .methodref 14 344), (0, .nameAndType 345 346), (0, u "checkLength"), (0, u "(II)V"), (28, .class_ 376), (0, u "java/util/Arrays$ArrayList"), (68, u "$assertionsDisabled"), (269, u "MIN_ARRAY_SORT_GRAN"), (0, u "I"), (2, u "INSERTIONSORT_THRESHOLD"), (255, .class_ 976), (0, u "java/util/Arrays$ArrayItr")] 52

def k5m0 : Method := { name := "<init>", desc := "()V", sig := { parameters := [], returnType := none }, accessFlags := 2, code := none }
def k5c1 : Code := { maxStack := 4, maxLocals := 2, code := jdk_65_method_131_code, exceptionTable := #[], attributes := #[] }
def k5m1 : Method := { name := "checkLength", desc := "(II)V", sig := { parameters := [.int, .int], returnType := none }, accessFlags := 10, code := some k5c1 }
def k5c2 : Code := { maxStack := 3, maxLocals := 3, code := jdk_65_method_132_code, exceptionTable := #[], attributes := #[] }
def k5m2 : Method := { name := "copyOfRange", desc := "([BII)[B", sig := { parameters := [(.array .byte), .int, .int], returnType := some (.array .byte) }, accessFlags := 9, code := some k5c2 }
def k5c3 : Code := { maxStack := 6, maxLocals := 5, code := jdk_65_method_133_code, exceptionTable := #[], attributes := #[] }
def k5m3 : Method := { name := "copyOfRangeByte", desc := "([BII)[B", sig := { parameters := [(.array .byte), .int, .int], returnType := some (.array .byte) }, accessFlags := 10, code := some k5c3 }
/-- java/util/Arrays -/
def k5 : Class := { plain "java/util/Arrays" (some 0) with
  accessFlags := 49
  interfaces := #[]
  cf := some (fileOf pool5 14 #[.nestMembers #[975, 375, 113, 74]] #[{ accessFlags := 2, nameIndex := 5, descriptorIndex := 6, attributes := #[] }, { accessFlags := 10, nameIndex := 345, descriptorIndex := 346, attributes := #[] }, { accessFlags := 9, nameIndex := 139, descriptorIndex := 342, attributes := #[] }, { accessFlags := 10, nameIndex := 341, descriptorIndex := 342, attributes := #[] }] 49 2 #[] #[{ accessFlags := 26, nameIndex := 715, descriptorIndex := 716, attributes := #[] }, { accessFlags := 26, nameIndex := 719, descriptorIndex := 716, attributes := #[] }, { accessFlags := 4120, nameIndex := 445, descriptorIndex := 117, attributes := #[] }])
  fields := #[{ name := "MIN_ARRAY_SORT_GRAN", type := .int, accessFlags := 26, slot := 0, constantValue := 0 }, { name := "INSERTIONSORT_THRESHOLD", type := .int, accessFlags := 26, slot := 1, constantValue := 0 }, { name := "$assertionsDisabled", type := .boolean, accessFlags := 4120, slot := 2, constantValue := 0 }]
  methods := #[k5m0, k5m1, k5m2, k5m3]
  instanceTypes := #[]
  staticTypes := #[.int, .int, .boolean]
  resolved := Array.replicate 1029 none
  statics := none }

def pool6 : Array CpInfo := pool [(1, .class_ 2), (0, u "java/lang/Math"), (1, .class_ 6), (1, u "java/lang/Object"), (0, u "<init>"), (0, u "()V"), (89, .class_ 100), (1, u "java/lang/Math$RandomNumberGeneratorHolder"), (71, u "negativeZeroFloatBits"), (0, u "J"), (2, u "negativeZeroDoubleBits"), (24, u "min"), (43, u "$assertionsDisabled"), (0, u "Z"), (88, u "(II)I"), (2, u "twoToTheDoubleScaleDown"), (0, u "D"), (4, u "twoToTheDoubleScaleUp"), (9, u "E"), (3, u "PI"), (2, u "TAU"), (2, u "DEGREES_TO_RADIANS"), (0, u "RADIANS_TO_DEGREES")] 94

def k6m0 : Method := { name := "<init>", desc := "()V", sig := { parameters := [], returnType := none }, accessFlags := 2, code := none }
def k6c1 : Code := { maxStack := 2, maxLocals := 2, code := jdk_29_method_69_code, exceptionTable := #[], attributes := #[] }
def k6m1 : Method := { name := "min", desc := "(II)I", sig := { parameters := [.int, .int], returnType := some .int }, accessFlags := 9, code := some k6c1 }
/-- java/lang/Math -/
def k6 : Class := { plain "java/lang/Math" (some 0) with
  accessFlags := 49
  interfaces := #[]
  cf := some (fileOf pool6 1 #[.nestMembers #[98]] #[{ accessFlags := 2, nameIndex := 7, descriptorIndex := 8, attributes := #[] }, { accessFlags := 9, nameIndex := 201, descriptorIndex := 335, attributes := #[] }] 49 4 #[] #[{ accessFlags := 25, nameIndex := 354, descriptorIndex := 339, attributes := #[] }, { accessFlags := 25, nameIndex := 358, descriptorIndex := 339, attributes := #[] }, { accessFlags := 25, nameIndex := 361, descriptorIndex := 339, attributes := #[] }, { accessFlags := 26, nameIndex := 364, descriptorIndex := 339, attributes := #[] }, { accessFlags := 26, nameIndex := 365, descriptorIndex := 339, attributes := #[] }, { accessFlags := 26, nameIndex := 172, descriptorIndex := 173, attributes := #[] }, { accessFlags := 26, nameIndex := 176, descriptorIndex := 173, attributes := #[] }, { accessFlags := 8, nameIndex := 344, descriptorIndex := 339, attributes := #[] }, { accessFlags := 8, nameIndex := 338, descriptorIndex := 339, attributes := #[] }, { accessFlags := 4120, nameIndex := 245, descriptorIndex := 246, attributes := #[] }])
  fields := #[{ name := "E", type := .double, accessFlags := 25, slot := 0, constantValue := 0 }, { name := "PI", type := .double, accessFlags := 25, slot := 1, constantValue := 0 }, { name := "TAU", type := .double, accessFlags := 25, slot := 2, constantValue := 0 }, { name := "DEGREES_TO_RADIANS", type := .double, accessFlags := 26, slot := 3, constantValue := 0 }, { name := "RADIANS_TO_DEGREES", type := .double, accessFlags := 26, slot := 4, constantValue := 0 }, { name := "negativeZeroFloatBits", type := .long, accessFlags := 26, slot := 5, constantValue := 0 }, { name := "negativeZeroDoubleBits", type := .long, accessFlags := 26, slot := 6, constantValue := 0 }, { name := "twoToTheDoubleScaleUp", type := .double, accessFlags := 8, slot := 7, constantValue := 0 }, { name := "twoToTheDoubleScaleDown", type := .double, accessFlags := 8, slot := 8, constantValue := 0 }, { name := "$assertionsDisabled", type := .boolean, accessFlags := 4120, slot := 9, constantValue := 0 }]
  methods := #[k6m0, k6m1]
  instanceTypes := #[]
  staticTypes := #[.double, .double, .double, .double, .double, .long, .long, .double, .double, .boolean]
  resolved := Array.replicate 460 none
  statics := none }

def pool7 : Array CpInfo := pool [(2, .class_ 4), (1, u "java/lang/Object"), (0, u "<init>"), (0, u "()V"), (1, .class_ 10), (1, u "java/lang/System"), (0, u "allowSecurityManager"), (0, u "I"), (16, u "cons"), (0, u "Ljava/io/Console;"), (77, .class_ 110), (1, u "java/lang/System$CallersHolder"), (43, u "initialErrStream"), (0, u "Ljava/io/PrintStream;"), (19, u "security"), (0, u "Ljava/lang/SecurityManager;"), (31, .class_ 209), (0, u "java/lang/System$1"), (7, u "props"), (0, u "Ljava/util/Properties;"), (2, u "lineSeparator"), (0, u "Ljava/lang/String;"), (96, .class_ 321), (1, u "java/lang/System$LoggerFinder"), (5, .class_ 328), (0, u "java/lang/System$Logger"), (67, u "err"), (2, u "out"), (91, u "notSupportedJnuEncoding"), (15, u "in"), (17, u "initialIn"), (0, u "Ljava/io/InputStream;"), (35, u "bootLayer"), (0, u "Ljava/lang/ModuleLayer;"), (99, .class_ 664), (0, u "java/lang/System$2"), (9, u "NEVER"), (2, u "MAYBE"), (49, u "arraycopy"), (0, u "(Ljava/lang/Object;ILjava/lang/Object;II)V"), (72, .class_ 802), (0, u "java/lang/System$Logger$Level")] 31

def k7m0 : Method := { name := "<init>", desc := "()V", sig := { parameters := [], returnType := none }, accessFlags := 2, code := none }
def k7m1 : Method := { name := "arraycopy", desc := "(Ljava/lang/Object;ILjava/lang/Object;II)V", sig := { parameters := [(.object "java/lang/Object"), .int, (.object "java/lang/Object"), .int, .int], returnType := none }, accessFlags := 265, code := none }
/-- java/lang/System -/
def k7 : Class := { plain "java/lang/System" (some 0) with
  accessFlags := 49
  interfaces := #[]
  cf := some (fileOf pool7 8 #[.nestMembers #[319, 327, 801, 108, 663, 208]] #[{ accessFlags := 2, nameIndex := 5, descriptorIndex := 6, attributes := #[] }, { accessFlags := 265, nameIndex := 727, descriptorIndex := 728, attributes := #[] }] 49 2 #[] #[{ accessFlags := 25, nameIndex := 507, descriptorIndex := 526, attributes := #[] }, { accessFlags := 25, nameIndex := 399, descriptorIndex := 155, attributes := #[] }, { accessFlags := 25, nameIndex := 396, descriptorIndex := 155, attributes := #[] }, { accessFlags := 10, nameIndex := 525, descriptorIndex := 526, attributes := #[] }, { accessFlags := 26, nameIndex := 674, descriptorIndex := 12, attributes := #[] }, { accessFlags := 26, nameIndex := 677, descriptorIndex := 12, attributes := #[] }, { accessFlags := 10, nameIndex := 11, descriptorIndex := 12, attributes := #[] }, { accessFlags := 74, nameIndex := 175, descriptorIndex := 176, attributes := #[] }, { accessFlags := 10, nameIndex := 491, descriptorIndex := 222, attributes := #[] }, { accessFlags := 74, nameIndex := 29, descriptorIndex := 30, attributes := #[] }, { accessFlags := 74, nameIndex := 154, descriptorIndex := 155, attributes := #[] }, { accessFlags := 10, nameIndex := 217, descriptorIndex := 218, attributes := #[] }, { accessFlags := 10, nameIndex := 221, descriptorIndex := 222, attributes := #[] }, { accessFlags := 8, nameIndex := 562, descriptorIndex := 563, attributes := #[] }])
  fields := #[{ name := "in", type := (.object "java/io/InputStream"), accessFlags := 25, slot := 0, constantValue := 0 }, { name := "out", type := (.object "java/io/PrintStream"), accessFlags := 25, slot := 1, constantValue := 0 }, { name := "err", type := (.object "java/io/PrintStream"), accessFlags := 25, slot := 2, constantValue := 0 }, { name := "initialIn", type := (.object "java/io/InputStream"), accessFlags := 10, slot := 3, constantValue := 0 }, { name := "NEVER", type := .int, accessFlags := 26, slot := 4, constantValue := 0 }, { name := "MAYBE", type := .int, accessFlags := 26, slot := 5, constantValue := 0 }, { name := "allowSecurityManager", type := .int, accessFlags := 10, slot := 6, constantValue := 0 }, { name := "security", type := (.object "java/lang/SecurityManager"), accessFlags := 74, slot := 7, constantValue := 0 }, { name := "notSupportedJnuEncoding", type := (.object "java/lang/String"), accessFlags := 10, slot := 8, constantValue := 0 }, { name := "cons", type := (.object "java/io/Console"), accessFlags := 74, slot := 9, constantValue := 0 }, { name := "initialErrStream", type := (.object "java/io/PrintStream"), accessFlags := 74, slot := 10, constantValue := 0 }, { name := "props", type := (.object "java/util/Properties"), accessFlags := 10, slot := 11, constantValue := 0 }, { name := "lineSeparator", type := (.object "java/lang/String"), accessFlags := 10, slot := 12, constantValue := 0 }, { name := "bootLayer", type := (.object "java/lang/ModuleLayer"), accessFlags := 8, slot := 13, constantValue := 0 }]
  methods := #[k7m0, k7m1]
  instanceTypes := #[]
  staticTypes := #[(.object "java/io/InputStream"), (.object "java/io/PrintStream"), (.object "java/io/PrintStream"), (.object "java/io/InputStream"), .int, .int, .int, (.object "java/lang/SecurityManager"), (.object "java/lang/String"), (.object "java/io/Console"), (.object "java/io/PrintStream"), (.object "java/util/Properties"), (.object "java/lang/String"), (.object "java/lang/ModuleLayer")]
  resolved := Array.replicate 834 none
  statics := none }

def pool8 : Array CpInfo := pool [(1, u "java/lang/Cloneable"), (0, .class_ 1), (0, u "java/lang/Object"), (0, .class_ 3)] 3

/-- java/lang/Cloneable -/
def k8 : Class := { plain "java/lang/Cloneable" (some 0) with
  accessFlags := 1537
  interfaces := #[]
  cf := some (fileOf pool8 2 #[] #[] 1537 4 #[] #[])
  fields := #[]
  methods := #[]
  instanceTypes := #[]
  staticTypes := #[]
  resolved := Array.replicate 8 none
  statics := none }

def pool9 : Array CpInfo := pool [(1, u "java/io/Serializable"), (0, .class_ 1), (0, u "java/lang/Object"), (0, .class_ 3)] 3

/-- java/io/Serializable -/
def k9 : Class := { plain "java/io/Serializable" (some 0) with
  accessFlags := 1537
  interfaces := #[]
  cf := some (fileOf pool9 2 #[] #[] 1537 4 #[] #[])
  fields := #[]
  methods := #[]
  instanceTypes := #[]
  staticTypes := #[]
  resolved := Array.replicate 8 none
  statics := none }

/-- the primitive byte -/
def k10 : Class := { plain "byte" none with kind := .primitive 'B', accessFlags := 0x411 }
/-- [B -/
def k11 : Class := { plain "[B" (some 0) with kind := .array 10 .byte, interfaces := #[8, 9], accessFlags := 1041 }

/-- the primitive int -/
def k12 : Class := { plain "int" none with kind := .primitive 'I', accessFlags := 0x411 }
/-- [I -/
def k13 : Class := { plain "[I" (some 0) with kind := .array 12 .int, interfaces := #[8, 9], accessFlags := 1041 }

def heap : Heap := #[]
def classes : Array Class := #[k0, k1, k2, k3, k4, k5, k6, k7, k8, k9, k10, k11, k12, k13]
def interned : List (Array UInt16 × Addr) := []
def slotsUsed : Nat := 0
def theMethod : MethodId := ⟨1, 1⟩
def args0 : Array Value := #[.int 106, .int 1540, .long 7]
def aboutOver (below : List Frame) : State where
  vm := { classes := classes, interned := interned.toArray }
  heap := heap
  slotsUsed := slotsUsed
  threads := #[{ frames := .invoking theMethod args0 :: below }]
def below0 : List Frame := [.native { method := ⟨0, 0⟩, args := #[] }]
def about1 : State := aboutOver below0
def p0 : Program := .bare "" "" ""
def e0 : Env := launch0.env 0 0 0
theorem w_frames : about1.frames = Frame.invoking theMethod args0 :: below0 := rfl
set_option maxRecDepth 65536 in
theorem w_args : argsFit about1.vm theMethod args0 = true := by decide +kernel
set_option maxRecDepth 65536 in
theorem w_heap : heapFits about1 = true := by decide +kernel
set_option maxRecDepth 65536 in
theorem w_runnable : about1.curStatus? = some .runnable := by decide +kernel
set_option maxRecDepth 65536 in
theorem w_alone : about1.alone = true := by decide +kernel
set_option maxRecDepth 65536 in
theorem w_named : about1.methodNamed? x = some theMethod := by decide +kernel
set_option maxRecDepth 65536 in
theorem w_hears : about1.hears theMethod below0 = true := by decide +kernel
set_option maxRecDepth 65536 in
theorem w_ripe : about1.ripe theMethod args0 below0 = true := by decide +kernel
theorem w_running : about1.status = .running := rfl
set_option maxRecDepth 65536 in
theorem w_room : about1.hasRoom e0.platform room_1 = true :=
  launch0.hasRoom_least _ room_1 (by decide +kernel) (by decide +kernel) (by decide +kernel) (by decide +kernel) (by decide +kernel) (by decide +kernel)
theorem allAtoms_all (ts : List Jvm.Cond) (a : Array Jvm.Value) (st : Jvm.State) : (allAtoms ts).before a st = ts.all (fun c => c.before a st) := by
  induction ts with
  | nil => rfl
  | cons c t ih =>
    show (Jvm.Cond.and c (allAtoms t)).before a st = _
    rw [Jvm.Cond.before_and, ih, List.all_cons]
def words1 : List Jvm.Cond := Jvm.Cond.code x code maxLocals ret :: tables_1
/-- a 'code' word, met by the world's own term for the bytes: nothing is compared byte by byte -/
theorem code_word {y : MethodName} {bytes : ByteArray} {mx : Nat} {rt : Option FieldType} {a : Array Value} {s : State} {m : MethodId} {meth : Method} {c : Code} (h1 : s.methodNamed? y = some m) (h2 : s.vm.method? m = some meth) (h3 : meth.code = some c) (h4 : c.code = bytes)
    (h5 : (c.maxLocals == mx && c.exceptionTable.isEmpty && decide (c.maxStack ≤ mostOperands) && decide (meth.sig.returnType = rt) && !meth.locks && decide (parseMethodDescriptor y.desc = some meth.sig)) = true) : (Jvm.Cond.code y bytes mx rt).before a s = true := by
  simp only [Bool.and_eq_true, beq_iff_eq, Bool.not_eq_true', decide_eq_true_eq] at h5
  obtain ⟨⟨⟨⟨⟨g1, g2⟩, g3⟩, g4⟩, g5⟩, g6⟩ := h5
  simp [Cond.before, Cond.holds, Cond.value, h1, h2, h3, h4, g1, g2, g3, g4, g5, g6]
def isCode : Jvm.Cond → Bool
  | .code _ _ _ _ => true
  | _ => false
theorem all_split {L : List Jvm.Cond} {P : Jvm.Cond → Bool} (h1 : L.all (fun c => isCode c || P c) = true) (h2 : ∀ c ∈ L.filter isCode, P c = true) : L.all P = true := by
  refine List.all_eq_true.mpr fun c hc => ?_
  have h := List.all_eq_true.mp h1 c hc
  rcases Bool.eq_false_or_eq_true (isCode c) with hi | hi
  · exact h2 c (List.mem_filter.mpr ⟨hc, hi⟩)
  · simpa [hi] using h
set_option maxRecDepth 65536 in
theorem w_c0 : (Jvm.Cond.code x code maxLocals ret).before args0 about1 = true := code_word (m := ⟨1, 1⟩) (meth := k1m1) (c := k1c1) (by decide +kernel) rfl rfl rfl (by decide +kernel)
set_option maxRecDepth 65536 in
theorem w_c1 : (Jvm.Cond.code ({ cls := "com/example/pure_mrtd/puremrtd/format/TlvReaderHasNextPinLaw", name := "put", desc := "([BII)V" } : Jvm.MethodName) method_4_code (3 : Nat) (Option.none : Option Jvm.ClassFile.FieldType)).before args0 about1 = true := code_word (m := ⟨1, 3⟩) (meth := k1m3) (c := k1c3) (by decide +kernel) rfl rfl rfl (by decide +kernel)
set_option maxRecDepth 65536 in
theorem w_c2 : (Jvm.Cond.code ({ cls := "com/example/pure_mrtd/puremrtd/format/TlvReader", name := "<init>", desc := "([B)V" } : Jvm.MethodName) prog_27_method_1_code (2 : Nat) (Option.none : Option Jvm.ClassFile.FieldType)).before args0 about1 = true := code_word (m := ⟨2, 0⟩) (meth := k2m0) (c := k2c0) (by decide +kernel) rfl rfl rfl (by decide +kernel)
set_option maxRecDepth 65536 in
theorem w_c3 : (Jvm.Cond.code ({ cls := "java/lang/Object", name := "<init>", desc := "()V" } : Jvm.MethodName) object_method_1_code (1 : Nat) (Option.none : Option Jvm.ClassFile.FieldType)).before args0 about1 = true := code_word (m := ⟨0, 0⟩) (meth := k0m0) (c := k0c0) (by decide +kernel) rfl rfl rfl (by decide +kernel)
set_option maxRecDepth 65536 in
theorem w_c4 : (Jvm.Cond.code ({ cls := "com/example/pure_mrtd/puremrtd/format/TlvReader", name := "hasNext", desc := "()Z" } : Jvm.MethodName) prog_27_method_4_code (1 : Nat) (Option.some Jvm.ClassFile.FieldType.boolean)).before args0 about1 = true := code_word (m := ⟨2, 1⟩) (meth := k2m1) (c := k2c1) (by decide +kernel) rfl rfl rfl (by decide +kernel)
set_option maxRecDepth 65536 in
theorem w_c5 : (Jvm.Cond.code ({ cls := "com/example/pure_mrtd/puremrtd/format/TlvReaderHasNextPinLaw", name := "oneByteTag", desc := "(I)I" } : Jvm.MethodName) method_3_code (1 : Nat) (Option.some Jvm.ClassFile.FieldType.int)).before args0 about1 = true := code_word (m := ⟨1, 2⟩) (meth := k1m2) (c := k1c2) (by decide +kernel) rfl rfl rfl (by decide +kernel)
set_option maxRecDepth 65536 in
theorem w_c6 : (Jvm.Cond.code ({ cls := "com/example/pure_mrtd/puremrtd/format/TlvReader", name := "next", desc := "()Lcom/example/pure_mrtd/puremrtd/format/Tlv;" } : Jvm.MethodName) prog_27_method_7_code (4 : Nat) (Option.some (Jvm.ClassFile.FieldType.object "com/example/pure_mrtd/puremrtd/format/Tlv"))).before args0 about1 = true := code_word (m := ⟨2, 2⟩) (meth := k2m2) (c := k2c2) (by decide +kernel) rfl rfl rfl (by decide +kernel)
set_option maxRecDepth 65536 in
theorem w_c7 : (Jvm.Cond.code ({ cls := "com/example/pure_mrtd/puremrtd/format/TlvReader", name := "header", desc := "()Lcom/example/pure_mrtd/puremrtd/format/TlvReader$Header;" } : Jvm.MethodName) prog_27_method_8_code (6 : Nat) (Option.some (Jvm.ClassFile.FieldType.object "com/example/pure_mrtd/puremrtd/format/TlvReader$Header"))).before args0 about1 = true := code_word (m := ⟨2, 3⟩) (meth := k2m3) (c := k2c3) (by decide +kernel) rfl rfl rfl (by decide +kernel)
set_option maxRecDepth 65536 in
theorem w_c8 : (Jvm.Cond.code ({ cls := "com/example/pure_mrtd/puremrtd/format/TlvReader", name := "byteAt", desc := "(I)I" } : Jvm.MethodName) prog_27_method_9_code (2 : Nat) (Option.some Jvm.ClassFile.FieldType.int)).before args0 about1 = true := code_word (m := ⟨2, 4⟩) (meth := k2m4) (c := k2c4) (by decide +kernel) rfl rfl rfl (by decide +kernel)
set_option maxRecDepth 65536 in
theorem w_c9 : (Jvm.Cond.code ({ cls := "com/example/pure_mrtd/puremrtd/format/TlvReader$Header", name := "<init>", desc := "(III)V" } : Jvm.MethodName) prog_28_method_1_code (4 : Nat) (Option.none : Option Jvm.ClassFile.FieldType)).before args0 about1 = true := code_word (m := ⟨3, 0⟩) (meth := k3m0) (c := k3c0) (by decide +kernel) rfl rfl rfl (by decide +kernel)
set_option maxRecDepth 65536 in
theorem w_c10 : (Jvm.Cond.code ({ cls := "java/util/Arrays", name := "copyOfRange", desc := "([BII)[B" } : Jvm.MethodName) jdk_65_method_132_code (3 : Nat) (Option.some (Jvm.ClassFile.FieldType.array Jvm.ClassFile.FieldType.byte))).before args0 about1 = true := code_word (m := ⟨5, 2⟩) (meth := k5m2) (c := k5c2) (by decide +kernel) rfl rfl rfl (by decide +kernel)
set_option maxRecDepth 65536 in
theorem w_c11 : (Jvm.Cond.code ({ cls := "java/util/Arrays", name := "copyOfRangeByte", desc := "([BII)[B" } : Jvm.MethodName) jdk_65_method_133_code (5 : Nat) (Option.some (Jvm.ClassFile.FieldType.array Jvm.ClassFile.FieldType.byte))).before args0 about1 = true := code_word (m := ⟨5, 3⟩) (meth := k5m3) (c := k5c3) (by decide +kernel) rfl rfl rfl (by decide +kernel)
set_option maxRecDepth 65536 in
theorem w_c12 : (Jvm.Cond.code ({ cls := "java/util/Arrays", name := "checkLength", desc := "(II)V" } : Jvm.MethodName) jdk_65_method_131_code (2 : Nat) (Option.none : Option Jvm.ClassFile.FieldType)).before args0 about1 = true := code_word (m := ⟨5, 1⟩) (meth := k5m1) (c := k5c1) (by decide +kernel) rfl rfl rfl (by decide +kernel)
set_option maxRecDepth 65536 in
theorem w_c13 : (Jvm.Cond.code ({ cls := "java/lang/Math", name := "min", desc := "(II)I" } : Jvm.MethodName) jdk_29_method_69_code (2 : Nat) (Option.some Jvm.ClassFile.FieldType.int)).before args0 about1 = true := code_word (m := ⟨6, 1⟩) (meth := k6m1) (c := k6c1) (by decide +kernel) rfl rfl rfl (by decide +kernel)
set_option maxRecDepth 65536 in
theorem w_c14 : (Jvm.Cond.code ({ cls := "com/example/pure_mrtd/puremrtd/format/Tlv", name := "<init>", desc := "(I[B)V" } : Jvm.MethodName) prog_26_method_1_code (3 : Nat) (Option.none : Option Jvm.ClassFile.FieldType)).before args0 about1 = true := code_word (m := ⟨4, 0⟩) (meth := k4m0) (c := k4c0) (by decide +kernel) rfl rfl rfl (by decide +kernel)
def codes1 : List Jvm.Cond := [Jvm.Cond.code x code maxLocals ret, Jvm.Cond.code ({ cls := "com/example/pure_mrtd/puremrtd/format/TlvReaderHasNextPinLaw", name := "put", desc := "([BII)V" } : Jvm.MethodName) method_4_code (3 : Nat) (Option.none : Option Jvm.ClassFile.FieldType), Jvm.Cond.code ({ cls := "com/example/pure_mrtd/puremrtd/format/TlvReader", name := "<init>", desc := "([B)V" } : Jvm.MethodName) prog_27_method_1_code (2 : Nat) (Option.none : Option Jvm.ClassFile.FieldType), Jvm.Cond.code ({ cls := "java/lang/Object", name := "<init>", desc := "()V" } : Jvm.MethodName) object_method_1_code (1 : Nat) (Option.none : Option Jvm.ClassFile.FieldType), Jvm.Cond.code ({ cls := "com/example/pure_mrtd/puremrtd/format/TlvReader", name := "hasNext", desc := "()Z" } : Jvm.MethodName) prog_27_method_4_code (1 : Nat) (Option.some Jvm.ClassFile.FieldType.boolean), Jvm.Cond.code ({ cls := "com/example/pure_mrtd/puremrtd/format/TlvReaderHasNextPinLaw", name := "oneByteTag", desc := "(I)I" } : Jvm.MethodName) method_3_code (1 : Nat) (Option.some Jvm.ClassFile.FieldType.int), Jvm.Cond.code ({ cls := "com/example/pure_mrtd/puremrtd/format/TlvReader", name := "next", desc := "()Lcom/example/pure_mrtd/puremrtd/format/Tlv;" } : Jvm.MethodName) prog_27_method_7_code (4 : Nat) (Option.some (Jvm.ClassFile.FieldType.object "com/example/pure_mrtd/puremrtd/format/Tlv")), Jvm.Cond.code ({ cls := "com/example/pure_mrtd/puremrtd/format/TlvReader", name := "header", desc := "()Lcom/example/pure_mrtd/puremrtd/format/TlvReader$Header;" } : Jvm.MethodName) prog_27_method_8_code (6 : Nat) (Option.some (Jvm.ClassFile.FieldType.object "com/example/pure_mrtd/puremrtd/format/TlvReader$Header")), Jvm.Cond.code ({ cls := "com/example/pure_mrtd/puremrtd/format/TlvReader", name := "byteAt", desc := "(I)I" } : Jvm.MethodName) prog_27_method_9_code (2 : Nat) (Option.some Jvm.ClassFile.FieldType.int), Jvm.Cond.code ({ cls := "com/example/pure_mrtd/puremrtd/format/TlvReader$Header", name := "<init>", desc := "(III)V" } : Jvm.MethodName) prog_28_method_1_code (4 : Nat) (Option.none : Option Jvm.ClassFile.FieldType), Jvm.Cond.code ({ cls := "java/util/Arrays", name := "copyOfRange", desc := "([BII)[B" } : Jvm.MethodName) jdk_65_method_132_code (3 : Nat) (Option.some (Jvm.ClassFile.FieldType.array Jvm.ClassFile.FieldType.byte)), Jvm.Cond.code ({ cls := "java/util/Arrays", name := "copyOfRangeByte", desc := "([BII)[B" } : Jvm.MethodName) jdk_65_method_133_code (5 : Nat) (Option.some (Jvm.ClassFile.FieldType.array Jvm.ClassFile.FieldType.byte)), Jvm.Cond.code ({ cls := "java/util/Arrays", name := "checkLength", desc := "(II)V" } : Jvm.MethodName) jdk_65_method_131_code (2 : Nat) (Option.none : Option Jvm.ClassFile.FieldType), Jvm.Cond.code ({ cls := "java/lang/Math", name := "min", desc := "(II)I" } : Jvm.MethodName) jdk_29_method_69_code (2 : Nat) (Option.some Jvm.ClassFile.FieldType.int), Jvm.Cond.code ({ cls := "com/example/pure_mrtd/puremrtd/format/Tlv", name := "<init>", desc := "(I[B)V" } : Jvm.MethodName) prog_26_method_1_code (3 : Nat) (Option.none : Option Jvm.ClassFile.FieldType)]
set_option maxRecDepth 65536 in
theorem codes_eq : words1.filter isCode = codes1 := rfl
theorem w_codes : ∀ c ∈ words1.filter isCode, c.before args0 about1 = true := by
  rw [codes_eq]
  intro c hc
  simp only [codes1, List.mem_cons, List.not_mem_nil, or_false] at hc
  rcases hc with rfl | rfl | rfl | rfl | rfl | rfl | rfl | rfl | rfl | rfl | rfl | rfl | rfl | rfl | rfl
  · exact w_c0
  · exact w_c1
  · exact w_c2
  · exact w_c3
  · exact w_c4
  · exact w_c5
  · exact w_c6
  · exact w_c7
  · exact w_c8
  · exact w_c9
  · exact w_c10
  · exact w_c11
  · exact w_c12
  · exact w_c13
  · exact w_c14
set_option maxRecDepth 65536 in
theorem w_t1 : (words1.take 24).all (fun c => isCode c || c.before args0 about1) = true := by decide +kernel
set_option maxRecDepth 65536 in
theorem w_t2 : ((words1.drop 24).take 24).all (fun c => isCode c || c.before args0 about1) = true := by decide +kernel
set_option maxRecDepth 65536 in
theorem w_t3 : (((words1.drop 24).drop 24).take 24).all (fun c => isCode c || c.before args0 about1) = true := by decide +kernel
set_option maxRecDepth 65536 in
theorem w_t4 : (((words1.drop 24).drop 24).drop 24).all (fun c => isCode c || c.before args0 about1) = true := by decide +kernel
theorem w_tables : (allAtoms (Jvm.Cond.code x code maxLocals ret :: tables_1)).before args0 about1 = true := by
  rw [allAtoms_all]
  show words1.all (fun c => c.before args0 about1) = true
  refine all_split ?_ w_codes
  rw [← List.take_append_drop 24 words1, List.all_append, w_t1, ← List.take_append_drop 24 (words1.drop 24), List.all_append, w_t2, ← List.take_append_drop 24 ((words1.drop 24).drop 24), List.all_append, w_t3, w_t4]
  rfl
set_option maxRecDepth 65536 in
theorem w_case : (Jvm.Cond.and given_1 narrow_1).before args0 about1 = true := by decide +kernel
theorem w_applies : (headSpec (Jvm.Cond.code x code maxLocals ret :: tables_1) room_1).applies x e0.platform about1 = true :=
  (Spec.applies_iff w_frames).mpr ⟨w_running, w_runnable, w_alone, w_named, w_hears, w_ripe, w_room, w_tables⟩
theorem atStart : AtStart classFile x code maxLocals ret World_1 tables_1 room_1 Calls_1 rest_1 Pre_1 launch0 p0 e0 about1 theMethod args0 below0 :=
  ⟨lists_1, trivial, launch0.admits_env _ _ _, launch0.least_env, fairChoices_fair.cas, fairChoices_fair.clock, w_frames, w_args, w_heap, w_applies, trivial, trivial, w_case⟩
end start1
theorem witness_1 : WitnessClaimed_1 := ⟨start1.p0, start1.e0, start1.about1, start1.theMethod, start1.args0, start1.below0, start1.atStart⟩
end Jvm.Pilot.@@N@@
