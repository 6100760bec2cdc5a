import JvmDerived
import JvmDerived.Pilot.@@N@@Statement
import JvmDerived.Pilot.@@N@@Code
set_option linter.unusedVariables false
set_option linter.unusedSimpArgs false
namespace Jvm.RoadKit
open Sem ClassFile Op Lib Jvm.Stand Jvm.Free Jvm.LawKit
section New
variable {p : Program} {l : Launch} {e : Env} {R : Room} {s : State} {m : MethodId} {args : Array Value} {below : List Frame} {meth : Method} {c : Code} {T : State} {locs : List Loc} {cells slots : Nat}
theorem retI (X : Stand p l e R s m args below meth c T locs cells slots) (hx : p.tables.exec = Jvm.exec) {pc : Nat} {Ls : Array Slot} {z : Int32} {rest : List Value} (hret : meth.sig.returnType = some .int) (hd : decode c.code pc = .ok (.ireturn, 1)) {fs : List Frame}
    (hl : ∀ (f : JFrame) (acts : List Action), f.method = m → f.locked = none → f.entered = [] → (doReturn e (T.setTop f) acts (some (.int z))).1 = T.setFrames fs) : Steps p.tables e below (T.setTop (mkF m pc Ls (.int z :: rest))) (T.setFrames fs) := by
  have hm' : T.vm.method? m = some meth := X.method'
  have hn : narrow .int (.int z) = .int z := rfl
  show Steps p.tables e below (T.setTop { method := m, pc := pc, locals := Ls, stack := _ :: rest, locked := none }) _
  jvm_step X.here [X.here.top, hx, hd, hm', hret, hn]
  first | (intro acts; rw [hl _ acts rfl rfl rfl]) | rw [hl _ _ rfl rfl rfl]
  exact Steps.refl _
end New
end Jvm.RoadKit
namespace Jvm.Pilot.@@N@@
open Jvm Jvm.ClassFile Sem Op Lib Jvm.Free Jvm.Stand Jvm.LawKit Jvm.RoadKit Bundle Jvm.Pilot.@@N@@.Jvm.D
/-! what every block of a body's walk is given -/
def Ctx (p : Program) (Z s : State) (a0 : Array Value) (m : MethodId) (meth : Method) (c : Code) (own nm : String) (bytes : ByteArray) (maxl : Nat) (rt : Option FieldType) : Prop :=
  p.tables.exec = Jvm.exec ∧ Z.Warmed39 s.vm ∧ (∀ d ∈ tables_1, d.before a0 Z = true) ∧ c.code = bytes ∧ c.maxLocals = maxl ∧ meth.sig.returnType = rt ∧ s.vm.findClass own = some m.cls ∧ meth.name = nm ∧ meth.locks = false
/-- from the state A the body's run ends, returns, and leaves what Q says -/
def Fin (p : Program) (e : Env) (below : List Frame) (s : State) (cells slots : Nat) (Q : Option Value → Heap → List Loc → Prop) (A : State) : Prop :=
  ∃ s₂ o, Steps p.tables e below A s₂ ∧ s₂.status = .running ∧ Ended s₂ below o ∧ ∃ v L, o = .returned v ∧ Q v s₂.heap L ∧ FrameEnd s o s₂ L cells slots
section Ends
variable {p : Program} {l : Launch} {e : Env} {R : Room} {s : State} {m : MethodId} {args : Array Value} {below : List Frame} {meth : Method} {c : Code} {T : State} {locs : List Loc} {cells slots : Nat} {C S : Nat} {Q : Option Value → Heap → List Loc → Prop}
theorem Fin.by {A B : State} (h : ∀ t, Steps p.tables e below B t → Steps p.tables e below A t) (k : Fin p e below s C S Q B) : Fin p e below s C S Q A := by
  obtain ⟨s₂, o, h1, r⟩ := k
  exact ⟨s₂, o, h _ h1, r⟩
theorem own_retI (X : Stand p l e R s m args below meth c T locs cells slots) (hx : p.tables.exec = Jvm.exec) (hlk : meth.locks = false) {pc : Nat} {Ls : Array Slot} {z : Int32} {rest : List Value} (hret : meth.sig.returnType = some .int) (hd : decode c.code pc = .ok (.ireturn, 1)) (hc : cells ≤ C) (hs : slots ≤ S)
    (hq : Q (some (.int z)) T.heap locs) : Fin p e below s C S Q (T.setTop (mkF m pc Ls (.int z :: rest))) := by
  obtain ⟨fs, hr, hrun, hended, hW, hsame⟩ := X.leave (v := some (.int z)) (fun h => by rw [hret] at h; cases h) hlk
  exact ⟨_, _, retI X hx hret hd hr, hrun, hended, _, _, rfl, hq, ⟨_, rfl⟩, hW, hsame.mono hc hs⟩
theorem own_retN (X : Stand p l e R s m args below meth c T locs cells slots) (hx : p.tables.exec = Jvm.exec) (hlk : meth.locks = false) {pc : Nat} {Ls : Array Slot} {z : Int32} {rest : List Value} {t : FieldType} (hret : meth.sig.returnType = some t) (ht : t = .boolean ∨ t = .byte ∨ t = .char ∨ t = .short) (hd : decode c.code pc = .ok (.ireturn, 1)) (hc : cells ≤ C) (hs : slots ≤ S)
    (hq : Q (some (.int (nar t z))) T.heap locs) : Fin p e below s C S Q (T.setTop (mkF m pc Ls (.int z :: rest))) := by
  obtain ⟨fs, hr, hrun, hended, hW, hsame⟩ := X.leave (v := some (.int (nar t z))) (fun h => by rw [hret] at h; cases h) hlk
  exact ⟨_, _, retN X hx hret ht hd hr, hrun, hended, _, _, rfl, hq, ⟨_, rfl⟩, hW, hsame.mono hc hs⟩
theorem own_retJ (X : Stand p l e R s m args below meth c T locs cells slots) (hx : p.tables.exec = Jvm.exec) (hlk : meth.locks = false) {pc : Nat} {Ls : Array Slot} {z : Int64} (hret : meth.sig.returnType = some .long) (hd : decode c.code pc = .ok (.lreturn, 1)) (hc : cells ≤ C) (hs : slots ≤ S)
    (hq : Q (some (.long z)) T.heap locs) : Fin p e below s C S Q (T.setTop (mkF m pc Ls [.long z])) := by
  obtain ⟨fs, hr, hrun, hended, hW, hsame⟩ := X.leave (v := some (.long z)) (fun h => by rw [hret] at h; cases h) hlk
  exact ⟨_, _, X.lreturnOut hx hret hd hr, hrun, hended, _, _, rfl, hq, ⟨_, rfl⟩, hW, hsame.mono hc hs⟩
theorem own_retR (X : Stand p l e R s m args below meth c T locs cells slots) (hx : p.tables.exec = Jvm.exec) (hlk : meth.locks = false) {pc : Nat} {Ls : Array Slot} {z : Addr} {t : FieldType} (hret : meth.sig.returnType = some t) (ht : t.isReference = true) (hd : decode c.code pc = .ok (.areturn, 1)) (hc : cells ≤ C) (hs : slots ≤ S)
    (hq : Q (some (.ref z)) T.heap locs) : Fin p e below s C S Q (T.setTop (mkF m pc Ls [.ref z])) := by
  obtain ⟨fs, hr, hrun, hended, hW, hsame⟩ := X.leave (v := some (.ref z)) (fun h => by rw [hret] at h; cases h) hlk
  exact ⟨_, _, X.areturnOut hx rfl hret ht hd hr, hrun, hended, _, _, rfl, hq, ⟨_, rfl⟩, hW, hsame.mono hc hs⟩
theorem own_ret0 (X : Stand p l e R s m args below meth c T locs cells slots) (hx : p.tables.exec = Jvm.exec) (hlk : meth.locks = false) {pc : Nat} {Ls : Array Slot} (hret : meth.sig.returnType = none) (hd : decode c.code pc = .ok (.return_, 1)) (hc : cells ≤ C) (hs : slots ≤ S)
    (hq : Q none T.heap locs) : Fin p e below s C S Q (T.setTop (mkF m pc Ls [])) := by
  obtain ⟨fs, hr, hrun, hended, hW, hsame⟩ := X.leave (v := none) (fun _ => rfl) hlk
  exact ⟨_, _, X.returnOut hx hret hd hr, hrun, hended, _, _, rfl, hq, ⟨_, rfl⟩, hW, hsame.mono hc hs⟩
end Ends
section Arrays
variable {Z : State} {h h' : Heap} {a : Addr} {k : ClassId} {ty : FieldType} {n j : Int32} {vs : List Value} {d : Value}
/-- what an array of ints holds at the place j -/
def own_at (xs : List Int32) (j : Int32) : Int32 := xs.getD j.toNatClampNeg 0
def own_atJ (xs : List Int64) (j : Int32) : Int64 := xs.getD j.toNatClampNeg 0
theorem own_mapD (xs : List Int32) (i : Nat) : (xs.map Value.int).getD i (.int 0) = .int (xs.getD i 0) := by
  rw [List.getD_eq_getElem?_getD, List.getD_eq_getElem?_getD, List.getElem?_map]; cases xs[i]? <;> rfl
theorem own_mapDJ (xs : List Int64) (i : Nat) : (xs.map Value.long).getD i (.long 0) = .long (xs.getD i 0) := by
  rw [List.getD_eq_getElem?_getD, List.getD_eq_getElem?_getD, List.getElem?_map]; cases xs[i]? <;> rfl
theorem own_open (V : Arv Z h a k ty n vs d) (hj : ¬ (j < 0) ∧ j < n) : ∃ cl, Arr Z h a cl ty ∧ ¬ (j < 0 ∨ cl.slots.size ≤ j.toNatClampNeg) ∧ True := by
  obtain ⟨cl, Ar, -, S, -, -, -⟩ := V
  exact ⟨cl, Ar, inb_of S hj, trivial⟩
theorem own_readI {xs : List Int32} (V : Arv Z h a k ty n (xs.map Value.int) (.int 0)) (hj : ¬ (j < 0) ∧ j < n) (i : Nat) (hi : j.toNatClampNeg = i) : ∃ cl, Arr Z h a cl ty ∧ ¬ (j < 0 ∨ cl.slots.size ≤ j.toNatClampNeg) ∧ cl.slots[j.toNatClampNeg]? = some (.int (xs.getD i 0)) := by
  obtain ⟨cl, Ar, -, S, -, H, -⟩ := V
  have q := inb_of S hj
  refine ⟨cl, Ar, q, ?_⟩
  rw [H _ (Nat.lt_of_not_le fun y => q (Or.inr y)), own_mapD, hi]
theorem own_readJ {xs : List Int64} (V : Arv Z h a k ty n (xs.map Value.long) (.long 0)) (hj : ¬ (j < 0) ∧ j < n) (i : Nat) (hi : j.toNatClampNeg = i) : ∃ cl, Arr Z h a cl ty ∧ ¬ (j < 0 ∨ cl.slots.size ≤ j.toNatClampNeg) ∧ cl.slots[j.toNatClampNeg]? = some (.long (xs.getD i 0)) := by
  obtain ⟨cl, Ar, -, S, -, H, -⟩ := V
  have q := inb_of S hj
  refine ⟨cl, Ar, q, ?_⟩
  rw [H _ (Nat.lt_of_not_le fun y => q (Or.inr y)), own_mapDJ, hi]
theorem own_setI {xs : List Int32} {v : Int32} (V : Arv Z h a k ty n (xs.map Value.int) (.int 0)) (ln : xs.length = n.toNatClampNeg) (hj : ¬ (j < 0) ∧ j < n) (W : Wr h h' a j.toNatClampNeg (.int v)) (hf : fits ty (.int v) = true) (i : Nat) (hi : j.toNatClampNeg = i) :
    Arv Z h' a k ty n ((xs.set i v).map Value.int) (.int 0) ∧ (xs.set i v).length = n.toNatClampNeg := by
  subst hi
  obtain ⟨cl, Ar, q1, S, q3, H, G⟩ := V
  have q := inb_of S hj
  have W2 := Arv.set Ar q1 S q3 H G hf W j.toNatClampNeg rfl (by rw [List.length_map, ln, ← S]; exact Nat.lt_of_not_le fun y => q (Or.inr y))
  rw [List.map_set]
  exact ⟨W2, by rw [List.length_set]; exact ln⟩
theorem own_setJ {xs : List Int64} {v : Int64} (V : Arv Z h a k ty n (xs.map Value.long) (.long 0)) (ln : xs.length = n.toNatClampNeg) (hj : ¬ (j < 0) ∧ j < n) (W : Wr h h' a j.toNatClampNeg (.long v)) (hf : fits ty (.long v) = true) (i : Nat) (hi : j.toNatClampNeg = i) :
    Arv Z h' a k ty n ((xs.set i v).map Value.long) (.long 0) ∧ (xs.set i v).length = n.toNatClampNeg := by
  subst hi
  obtain ⟨cl, Ar, q1, S, q3, H, G⟩ := V
  have q := inb_of S hj
  have W2 := Arv.set Ar q1 S q3 H G hf W j.toNatClampNeg rfl (by rw [List.length_map, ln, ← S]; exact Nat.lt_of_not_le fun y => q (Or.inr y))
  rw [List.map_set]
  exact ⟨W2, by rw [List.length_set]; exact ln⟩
theorem own_newI (A : Arr Z h a (newA k ty n) ty) (hd : defaultValue ty = .int 0) (q : ¬ n < 0) {xs : List Int32} (hxs : xs = List.replicate n.toNatClampNeg 0) : Arv Z h a k ty n (xs.map Value.int) (.int 0) ∧ xs.length = n.toNatClampNeg := by
  subst hxs
  have V := Arv.new A q
  rw [hd] at V
  have V2 := V.pad (pad_rep [] (.int 0) n.toNatClampNeg)
  rw [List.map_replicate]
  exact ⟨V2, by rw [List.length_replicate]⟩
theorem own_newJ (A : Arr Z h a (newA k ty n) ty) (hd : defaultValue ty = .long 0) (q : ¬ n < 0) {xs : List Int64} (hxs : xs = List.replicate n.toNatClampNeg 0) : Arv Z h a k ty n (xs.map Value.long) (.long 0) ∧ xs.length = n.toNatClampNeg := by
  subst hxs
  have V := Arv.new A q
  rw [hd] at V
  have V2 := V.pad (pad_rep [] (.long 0) n.toNatClampNeg)
  rw [List.map_replicate]
  exact ⟨V2, by rw [List.length_replicate]⟩
end Arrays
theorem d2_0 : decode jdk_30_method_1_code 0 = .ok (.aload_n 0, 1) := by decide +kernel
theorem d2_1 : decode jdk_30_method_1_code 1 = .ok (.invokespecial 1, 3) := by decide +kernel
theorem d2_4 : decode jdk_30_method_1_code 4 = .ok (.return_, 1) := by decide +kernel
theorem pn_2 : plainName "java/lang/Record" = true := by first | (simp [plainName, overriddenIn]; done) | decide +kernel
def R2 : Room := { frames := 1, cells := 0, slots := 0, locals := 12 }
def Q2 (Z : State)  (h0 : Heap) (n0 : Nat) (r : Unit) (v : Option Value) (h : Heap) (L : List Loc) : Prop := v = none ∧ Fr n0 L ∧ h = h0
def f2_0  : Unit := ()
set_option maxRecDepth 65536 in
set_option maxHeartbeats 40000000 in
theorem b2_0 {p : Program} {l : Launch} {e : Env} {s : State} {m : MethodId} {args : Array Value} {below : List Frame} {meth : Method} {c : Code} {Z : State} {a0 : Array Value} (B : Ctx p Z s a0 m meth c "java/lang/Record" "<init>" jdk_30_method_1_code 1 none) {T0 : State} {locs : List Loc} {h : Heap} (h0 : Heap) (n0 : Nat) (o0 : Addr) (X0 : Stand p l e R2 s m args below meth c T0 locs 0 0) (e0 : T0.heap = h) (N0 : Fr n0 locs) (Z0 : n0 ≤ h.size) (hh0 : h = h0) (r : Unit) (hr : f2_0  = r) :
    Fin p e below s R2.cells R2.slots (Q2 Z  h0 n0 r) (T0.setTop (mkF m 0 #[.val (.ref o0)] [])) := by
  obtain ⟨hx, hZ, hw, hby, hml, hret, hown, hnm, hlk⟩ := B
  unfold f2_0 at hr
  refine Fin.by (B := T0.setTop (mkF m 1 #[.val (.ref o0)] [(.ref o0)])) (fun t k => ?_) ?_
  · show Steps p.tables e below (T0.setTop (mkF m 0 #[.val (.ref o0)] [])) _
    refine XS.aloadN X0.here hx rfl (hb hby d2_0) rfl rfl ?_
    exact k
  obtain ⟨T1, X1, e1, st1⟩ := initO X0 hx hZ hown (hw _ (List.mem_of_getElem? (i := 11) rfl)) (hw _ (List.mem_of_getElem? (i := 12) rfl)) (hw _ (List.mem_of_getElem? (i := 13) rfl)) e0 (g := (mkF m 1 #[.val (.ref o0)] [(.ref o0)])) rfl (by rw [hml]; rfl) rfl (hb hby d2_1) (by decide) (W := 0) (by show 2 * 0 + _ ≤ _; exact Nat.le_of_eq rfl) (by decide)
  refine Fin.by (B := T1.setTop (mkF m 4 #[.val (.ref o0)] [])) (fun t k => st1 t k) ?_
  subst hr
  exact own_ret0 X1 hx hlk hret (hb hby d2_4) (by decide) (by decide) ⟨rfl, N0, (e1.trans hh0)⟩
theorem ef_2 (m : MethodId) (o0 : Addr) : entryFrame m #[(.ref o0)] 1 = (mkF m 0 #[.val (.ref o0)] []) := by first | (simp [entryFrame, mkF, argsToLocals, Value.category]; done) | rfl
set_option maxRecDepth 65536 in
set_option maxHeartbeats 40000000 in
theorem rm2 (l : Launch) (Z : State) (a0 : Array Value) (hw : ∀ d ∈ tables_1, d.before a0 Z = true) (ws : List Jvm.Cond) (o0 : Addr) (h0 : Heap) (n0 : Nat) (Z0 : n0 ≤ h0.size) :
    MetFree l (⟨"java/lang/Record", "<init>", "()V"⟩ : MethodName) (head1 (Jvm.Cond.code (⟨"java/lang/Record", "<init>", "()V"⟩ : MethodName) jdk_30_method_1_code 1 none :: ws) R2) (fun a U => a = #[(.ref o0)] ∧ Z.Warmed39 U.vm ∧ U.heap = h0) (fun _ _ _ _ _ => True) (fun _ U o U' => ∃ v L, o = .returned v ∧ (Q2 Z  h0 n0 f2_0) v U'.heap L ∧ FrameEnd U o U' L R2.cells R2.slots) := by
  refine MetFree.of_bodySF (plainFor_of_name pn_2) hisR ?_
  intro p e s m args below meth c s₁ Bd hml0 hP hK
  obtain ⟨rfl, hZ, hh⟩ := hP
  have B : Ctx p Z s a0 m meth c "java/lang/Record" "<init>" jdk_30_method_1_code 1 none := ⟨Bd.exec, hZ, hw, Bd.bytes, hml0, Bd.returns, findClass_of_methodNamed Bd.named, (name_of_methodNamed Bd.named Bd.method).1, Bd.notSynchronized⟩
  have X0 : Stand p l e R2 s m #[(.ref o0)] below meth c s₁ [] 0 0 := Stand.of_body Bd
  have e0 : s₁.heap = h0 := by rw [← hh, Bd.state]; rfl
  have K := Keep.refl h0 []
  show Fin p e below s R2.cells R2.slots (Q2 Z  h0 n0 f2_0) (s₁.setTop (entryFrame m #[(.ref o0)] 1))
  refine Fin.by (fun t k => castTop (ef_2 m o0) k) ?_
  exact b2_0 B h0 n0 o0 X0 e0 (Fr.nil n0) Z0 rfl  _ rfl
theorem pd_0 : parseMethodDescriptor "()V" = some ⟨[], none⟩ := by decide +kernel
theorem d1_0 : decode prog_30_method_1_code 0 = .ok (.aload_n 0, 1) := by decide +kernel
theorem d1_1 : decode prog_30_method_1_code 1 = .ok (.invokespecial 1, 3) := by decide +kernel
theorem d1_4 : decode prog_30_method_1_code 4 = .ok (.aload_n 0, 1) := by decide +kernel
theorem d1_5 : decode prog_30_method_1_code 5 = .ok (.lload_n 1, 1) := by decide +kernel
theorem d1_6 : decode prog_30_method_1_code 6 = .ok (.putfield 7, 3) := by decide +kernel
theorem d1_9 : decode prog_30_method_1_code 9 = .ok (.aload_n 0, 1) := by decide +kernel
theorem d1_10 : decode prog_30_method_1_code 10 = .ok (.lload_n 3, 1) := by decide +kernel
theorem d1_11 : decode prog_30_method_1_code 11 = .ok (.putfield 13, 3) := by decide +kernel
theorem d1_14 : decode prog_30_method_1_code 14 = .ok (.aload_n 0, 1) := by decide +kernel
theorem d1_15 : decode prog_30_method_1_code 15 = .ok (.lload 5, 2) := by decide +kernel
theorem d1_17 : decode prog_30_method_1_code 17 = .ok (.putfield 16, 3) := by decide +kernel
theorem d1_20 : decode prog_30_method_1_code 20 = .ok (.aload_n 0, 1) := by decide +kernel
theorem d1_21 : decode prog_30_method_1_code 21 = .ok (.lload 7, 2) := by decide +kernel
theorem d1_23 : decode prog_30_method_1_code 23 = .ok (.putfield 19, 3) := by decide +kernel
theorem d1_26 : decode prog_30_method_1_code 26 = .ok (.aload_n 0, 1) := by decide +kernel
theorem d1_27 : decode prog_30_method_1_code 27 = .ok (.lload 9, 2) := by decide +kernel
theorem d1_29 : decode prog_30_method_1_code 29 = .ok (.putfield 22, 3) := by decide +kernel
theorem d1_32 : decode prog_30_method_1_code 32 = .ok (.aload_n 0, 1) := by decide +kernel
theorem d1_33 : decode prog_30_method_1_code 33 = .ok (.lload 11, 2) := by decide +kernel
theorem d1_35 : decode prog_30_method_1_code 35 = .ok (.putfield 25, 3) := by decide +kernel
theorem d1_38 : decode prog_30_method_1_code 38 = .ok (.aload_n 0, 1) := by decide +kernel
theorem d1_39 : decode prog_30_method_1_code 39 = .ok (.lload 13, 2) := by decide +kernel
theorem d1_41 : decode prog_30_method_1_code 41 = .ok (.putfield 28, 3) := by decide +kernel
theorem d1_44 : decode prog_30_method_1_code 44 = .ok (.return_, 1) := by decide +kernel
theorem pn_1 : plainName "com/example/sittings/sittings/core/ItcTimetable$SoftPenalty" = true := by first | (simp [plainName, overriddenIn]; done) | decide +kernel
def R1 : Room := { frames := 2, cells := 0, slots := 0, locals := 24 }
def Q1 (Z : State) (o0 : Addr) (h0 : Heap) (n0 : Nat) (r : Int64 × Int64 × Int64 × Int64 × Int64 × Int64 × Int64) (v : Option Value) (h : Heap) (L : List Loc) : Prop := v = none ∧ Fr n0 L ∧ Keep h0 h [o0] ∧ Exa Z h o0 "com/example/sittings/sittings/core/ItcTimetable$SoftPenalty" ∧ Fld Z h o0 "com/example/sittings/sittings/core/ItcTimetable$SoftPenalty" "twoInARow" "J" (.long r.1) ∧ Fld Z h o0 "com/example/sittings/sittings/core/ItcTimetable$SoftPenalty" "twoInADay" "J" (.long r.2.1) ∧ Fld Z h o0 "com/example/sittings/sittings/core/ItcTimetable$SoftPenalty" "periodSpread" "J" (.long r.2.2.1) ∧ Fld Z h o0 "com/example/sittings/sittings/core/ItcTimetable$SoftPenalty" "mixedDurations" "J" (.long r.2.2.2.1) ∧ Fld Z h o0 "com/example/sittings/sittings/core/ItcTimetable$SoftPenalty" "frontLoad" "J" (.long r.2.2.2.2.1) ∧ Fld Z h o0 "com/example/sittings/sittings/core/ItcTimetable$SoftPenalty" "periodPenalty" "J" (.long r.2.2.2.2.2.1) ∧ Fld Z h o0 "com/example/sittings/sittings/core/ItcTimetable$SoftPenalty" "roomPenalty" "J" (.long r.2.2.2.2.2.2)
def f1_0 (v1 : Int64) (v3 : Int64) (v5 : Int64) (v7 : Int64) (v9 : Int64) (v11 : Int64) (v13 : Int64) (o0_twoInARow : Int64) (o0_twoInADay : Int64) (o0_periodSpread : Int64) (o0_mixedDurations : Int64) (o0_frontLoad : Int64) (o0_periodPenalty : Int64) (o0_roomPenalty : Int64) : Int64 × Int64 × Int64 × Int64 × Int64 × Int64 × Int64 := (v1, v3, v5, v7, v9, v11, v13)
set_option maxRecDepth 65536 in
set_option maxHeartbeats 40000000 in
theorem b1_0 {p : Program} {l : Launch} {e : Env} {s : State} {m : MethodId} {args : Array Value} {below : List Frame} {meth : Method} {c : Code} {Z : State} {a0 : Array Value} (B : Ctx p Z s a0 m meth c "com/example/sittings/sittings/core/ItcTimetable$SoftPenalty" "<init>" prog_30_method_1_code 15 none) {T0 : State} {locs : List Loc} {h : Heap} (h0 : Heap) (n0 : Nat) (o0 : Addr) (v1 : Int64) (v3 : Int64) (v5 : Int64) (v7 : Int64) (v9 : Int64) (v11 : Int64) (v13 : Int64) (o0_twoInARow : Int64) (o0_twoInADay : Int64) (o0_periodSpread : Int64) (o0_mixedDurations : Int64) (o0_frontLoad : Int64) (o0_periodPenalty : Int64) (o0_roomPenalty : Int64) (X0 : Stand p l e R1 s m args below meth c T0 locs 0 0) (e0 : T0.heap = h) (N0 : Fr n0 locs) (Z0 : n0 ≤ h.size) (K : Keep h0 h [o0]) (E_o0 : Exa Z h o0 "com/example/sittings/sittings/core/ItcTimetable$SoftPenalty") (F_o0_twoInARow : Fld Z h o0 "com/example/sittings/sittings/core/ItcTimetable$SoftPenalty" "twoInARow" "J" (.long o0_twoInARow)) (F_o0_twoInADay : Fld Z h o0 "com/example/sittings/sittings/core/ItcTimetable$SoftPenalty" "twoInADay" "J" (.long o0_twoInADay)) (F_o0_periodSpread : Fld Z h o0 "com/example/sittings/sittings/core/ItcTimetable$SoftPenalty" "periodSpread" "J" (.long o0_periodSpread)) (F_o0_mixedDurations : Fld Z h o0 "com/example/sittings/sittings/core/ItcTimetable$SoftPenalty" "mixedDurations" "J" (.long o0_mixedDurations)) (F_o0_frontLoad : Fld Z h o0 "com/example/sittings/sittings/core/ItcTimetable$SoftPenalty" "frontLoad" "J" (.long o0_frontLoad)) (F_o0_periodPenalty : Fld Z h o0 "com/example/sittings/sittings/core/ItcTimetable$SoftPenalty" "periodPenalty" "J" (.long o0_periodPenalty)) (F_o0_roomPenalty : Fld Z h o0 "com/example/sittings/sittings/core/ItcTimetable$SoftPenalty" "roomPenalty" "J" (.long o0_roomPenalty)) (g_o0 : n0 ≤ o0) (r : Int64 × Int64 × Int64 × Int64 × Int64 × Int64 × Int64) (hr : f1_0 v1 v3 v5 v7 v9 v11 v13 o0_twoInARow o0_twoInADay o0_periodSpread o0_mixedDurations o0_frontLoad o0_periodPenalty o0_roomPenalty = r) :
    Fin p e below s R1.cells R1.slots (Q1 Z o0 h0 n0 r) (T0.setTop (mkF m 0 #[.val (.ref o0), .val (.long v1), .second, .val (.long v3), .second, .val (.long v5), .second, .val (.long v7), .second, .val (.long v9), .second, .val (.long v11), .second, .val (.long v13), .second] [])) := by
  obtain ⟨hx, hZ, hw, hby, hml, hret, hown, hnm, hlk⟩ := B
  unfold f1_0 at hr
  refine Fin.by (B := T0.setTop (mkF m 1 #[.val (.ref o0), .val (.long v1), .second, .val (.long v3), .second, .val (.long v5), .second, .val (.long v7), .second, .val (.long v9), .second, .val (.long v11), .second, .val (.long v13), .second] [(.ref o0)])) (fun t k => ?_) ?_
  · show Steps p.tables e below (T0.setTop (mkF m 0 #[.val (.ref o0), .val (.long v1), .second, .val (.long v3), .second, .val (.long v5), .second, .val (.long v7), .second, .val (.long v9), .second, .val (.long v11), .second, .val (.long v13), .second] [])) _
    refine XS.aloadN X0.here hx rfl (hb hby d1_0) rfl rfl ?_
    exact k
  -- pc 1: java/lang/Record.<init>
  obtain ⟨_, _, ⟨T1, L1, k1, n1⟩, -, X1, ⟨Lc1, hQ1, l1, y1, z1⟩, st1⟩ := X0.specialBack hx (y := (⟨"java/lang/Record", "<init>", "()V"⟩ : MethodName)) rfl hown (mvT hZ (hw _ (List.mem_of_getElem? (i := 6) rfl))) (mvT hZ (hw _ (List.mem_of_getElem? (i := 7) rfl))) (mvT hZ (hw _ (List.mem_of_getElem? (i := 10) rfl))) (by decide) (backOf (W := 0) (rm2 l Z a0 hw [] o0 h n0 Z0 ) hZ (hw _ (List.mem_of_getElem? (i := 10) rfl)) (hw _ (List.mem_of_getElem? (i := 9) rfl)) (by decide) (by decide)) (g := (mkF m 1 #[.val (.ref o0), .val (.long v1), .second, .val (.long v3), .second, .val (.long v5), .second, .val (.long v7), .second, .val (.long v9), .second, .val (.long v11), .second, .val (.long v13), .second] [(.ref o0)])) rfl (by rw [hml]; rfl) (Steps.refl _) (a := o0) (argsL := []) (rest := []) (lenOf pd_0 rfl) rfl (by show 2 * 0 + _ ≤ _; exact Nat.le_of_eq rfl) (hb hby d1_1) (fun _ _ => ⟨rfl, e0, (by decide : 0 + R2.cells ≤ _), (by decide : 0 + R2.slots ≤ _)⟩)
  dsimp only [Pt.U, Pt.locs, Pt.cells, Pt.slots] at X1 l1 y1 z1 st1 hQ1
  subst l1 y1 z1
  obtain ⟨rfl, Nq1, e1⟩ := hQ1
  have N1 := Fr.app N0 Nq1
  refine Fin.by (B := T1.setTop (mkF m 4 #[.val (.ref o0), .val (.long v1), .second, .val (.long v3), .second, .val (.long v5), .second, .val (.long v7), .second, .val (.long v9), .second, .val (.long v11), .second, .val (.long v13), .second] [])) (fun t k => st1.trans k) ?_
  refine Fin.by (B := T1.setTop (mkF m 6 #[.val (.ref o0), .val (.long v1), .second, .val (.long v3), .second, .val (.long v5), .second, .val (.long v7), .second, .val (.long v9), .second, .val (.long v11), .second, .val (.long v13), .second] [(.long v1), (.ref o0)])) (fun t k => ?_) ?_
  · show Steps p.tables e below (T1.setTop (mkF m 4 #[.val (.ref o0), .val (.long v1), .second, .val (.long v3), .second, .val (.long v5), .second, .val (.long v7), .second, .val (.long v9), .second, .val (.long v11), .second, .val (.long v13), .second] [])) _
    refine XS.aloadN X1.here hx rfl (hb hby d1_4) rfl rfl ?_
    show Steps p.tables e below (T1.setTop (mkF m 5 #[.val (.ref o0), .val (.long v1), .second, .val (.long v3), .second, .val (.long v5), .second, .val (.long v7), .second, .val (.long v9), .second, .val (.long v11), .second, .val (.long v13), .second] [(.ref o0)])) _
    refine XS.lloadN X1.here hx rfl (hb hby d1_5) rfl  ?_
    exact k
  obtain ⟨T2, h2, X2, e2, W2, st2⟩ := putF X1 hx hZ hown (host := "") (Or.inl (hw _ (List.mem_of_getElem? (i := 14) rfl))) Via.refl e1 F_o0_twoInARow E_o0 (Or.inr ⟨(hw _ (List.mem_of_getElem? (i := 15) rfl)), rfl, hnm⟩) (hw _ (List.mem_of_getElem? (i := 1) rfl)) (ty := .long) (by decide) rfl rfl (g := (mkF m 6 #[.val (.ref o0), .val (.long v1), .second, .val (.long v3), .second, .val (.long v5), .second, .val (.long v7), .second, .val (.long v9), .second, .val (.long v11), .second, .val (.long v13), .second] [(.long v1), (.ref o0)])) rfl rfl (hb hby d1_6)
  have E_o0_2 := E_o0.wr W2
  have F_o0_twoInARow_2 := F_o0_twoInARow.same W2
  have F_o0_twoInADay_2 := F_o0_twoInADay.other W2 (Or.inr (slot_ne (Or.inr (hw _ (List.mem_of_getElem? (i := 17) rfl))) (Or.inr (hw _ (List.mem_of_getElem? (i := 15) rfl))) (by decide) (t := .long) (t' := .long) (by decide) (by decide)))
  have F_o0_periodSpread_2 := F_o0_periodSpread.other W2 (Or.inr (slot_ne (Or.inr (hw _ (List.mem_of_getElem? (i := 19) rfl))) (Or.inr (hw _ (List.mem_of_getElem? (i := 15) rfl))) (by decide) (t := .long) (t' := .long) (by decide) (by decide)))
  have F_o0_mixedDurations_2 := F_o0_mixedDurations.other W2 (Or.inr (slot_ne (Or.inr (hw _ (List.mem_of_getElem? (i := 21) rfl))) (Or.inr (hw _ (List.mem_of_getElem? (i := 15) rfl))) (by decide) (t := .long) (t' := .long) (by decide) (by decide)))
  have F_o0_frontLoad_2 := F_o0_frontLoad.other W2 (Or.inr (slot_ne (Or.inr (hw _ (List.mem_of_getElem? (i := 23) rfl))) (Or.inr (hw _ (List.mem_of_getElem? (i := 15) rfl))) (by decide) (t := .long) (t' := .long) (by decide) (by decide)))
  have F_o0_periodPenalty_2 := F_o0_periodPenalty.other W2 (Or.inr (slot_ne (Or.inr (hw _ (List.mem_of_getElem? (i := 25) rfl))) (Or.inr (hw _ (List.mem_of_getElem? (i := 15) rfl))) (by decide) (t := .long) (t' := .long) (by decide) (by decide)))
  have F_o0_roomPenalty_2 := F_o0_roomPenalty.other W2 (Or.inr (slot_ne (Or.inr (hw _ (List.mem_of_getElem? (i := 27) rfl))) (Or.inr (hw _ (List.mem_of_getElem? (i := 15) rfl))) (by decide) (t := .long) (t' := .long) (by decide) (by decide)))
  have N2 := Fr.snoc X2 N1 g_o0
  have Z2 : n0 ≤ h2.size := Nat.le_trans Z0 (Nat.le_of_eq W2.size.symm)
  have K2 := K.wr W2 (Or.inl (by simp))
  refine Fin.by (B := T2.setTop (mkF m 9 #[.val (.ref o0), .val (.long v1), .second, .val (.long v3), .second, .val (.long v5), .second, .val (.long v7), .second, .val (.long v9), .second, .val (.long v11), .second, .val (.long v13), .second] [])) (fun t k => st2 t k) ?_
  refine Fin.by (B := T2.setTop (mkF m 11 #[.val (.ref o0), .val (.long v1), .second, .val (.long v3), .second, .val (.long v5), .second, .val (.long v7), .second, .val (.long v9), .second, .val (.long v11), .second, .val (.long v13), .second] [(.long v3), (.ref o0)])) (fun t k => ?_) ?_
  · show Steps p.tables e below (T2.setTop (mkF m 9 #[.val (.ref o0), .val (.long v1), .second, .val (.long v3), .second, .val (.long v5), .second, .val (.long v7), .second, .val (.long v9), .second, .val (.long v11), .second, .val (.long v13), .second] [])) _
    refine XS.aloadN X2.here hx rfl (hb hby d1_9) rfl rfl ?_
    show Steps p.tables e below (T2.setTop (mkF m 10 #[.val (.ref o0), .val (.long v1), .second, .val (.long v3), .second, .val (.long v5), .second, .val (.long v7), .second, .val (.long v9), .second, .val (.long v11), .second, .val (.long v13), .second] [(.ref o0)])) _
    refine XS.lloadN X2.here hx rfl (hb hby d1_10) rfl  ?_
    exact k
  obtain ⟨T3, h3, X3, e3, W3, st3⟩ := putF X2 hx hZ hown (host := "") (Or.inl (hw _ (List.mem_of_getElem? (i := 16) rfl))) Via.refl e2 F_o0_twoInADay_2 E_o0_2 (Or.inr ⟨(hw _ (List.mem_of_getElem? (i := 17) rfl)), rfl, hnm⟩) (hw _ (List.mem_of_getElem? (i := 1) rfl)) (ty := .long) (by decide) rfl rfl (g := (mkF m 11 #[.val (.ref o0), .val (.long v1), .second, .val (.long v3), .second, .val (.long v5), .second, .val (.long v7), .second, .val (.long v9), .second, .val (.long v11), .second, .val (.long v13), .second] [(.long v3), (.ref o0)])) rfl rfl (hb hby d1_11)
  have E_o0_3 := E_o0_2.wr W3
  have F_o0_twoInARow_3 := F_o0_twoInARow_2.other W3 (Or.inr (slot_ne (Or.inr (hw _ (List.mem_of_getElem? (i := 15) rfl))) (Or.inr (hw _ (List.mem_of_getElem? (i := 17) rfl))) (by decide) (t := .long) (t' := .long) (by decide) (by decide)))
  have F_o0_twoInADay_3 := F_o0_twoInADay_2.same W3
  have F_o0_periodSpread_3 := F_o0_periodSpread_2.other W3 (Or.inr (slot_ne (Or.inr (hw _ (List.mem_of_getElem? (i := 19) rfl))) (Or.inr (hw _ (List.mem_of_getElem? (i := 17) rfl))) (by decide) (t := .long) (t' := .long) (by decide) (by decide)))
  have F_o0_mixedDurations_3 := F_o0_mixedDurations_2.other W3 (Or.inr (slot_ne (Or.inr (hw _ (List.mem_of_getElem? (i := 21) rfl))) (Or.inr (hw _ (List.mem_of_getElem? (i := 17) rfl))) (by decide) (t := .long) (t' := .long) (by decide) (by decide)))
  have F_o0_frontLoad_3 := F_o0_frontLoad_2.other W3 (Or.inr (slot_ne (Or.inr (hw _ (List.mem_of_getElem? (i := 23) rfl))) (Or.inr (hw _ (List.mem_of_getElem? (i := 17) rfl))) (by decide) (t := .long) (t' := .long) (by decide) (by decide)))
  have F_o0_periodPenalty_3 := F_o0_periodPenalty_2.other W3 (Or.inr (slot_ne (Or.inr (hw _ (List.mem_of_getElem? (i := 25) rfl))) (Or.inr (hw _ (List.mem_of_getElem? (i := 17) rfl))) (by decide) (t := .long) (t' := .long) (by decide) (by decide)))
  have F_o0_roomPenalty_3 := F_o0_roomPenalty_2.other W3 (Or.inr (slot_ne (Or.inr (hw _ (List.mem_of_getElem? (i := 27) rfl))) (Or.inr (hw _ (List.mem_of_getElem? (i := 17) rfl))) (by decide) (t := .long) (t' := .long) (by decide) (by decide)))
  have N3 := Fr.snoc X3 N2 g_o0
  have Z3 : n0 ≤ h3.size := Nat.le_trans Z2 (Nat.le_of_eq W3.size.symm)
  have K3 := K2.wr W3 (Or.inl (by simp))
  refine Fin.by (B := T3.setTop (mkF m 14 #[.val (.ref o0), .val (.long v1), .second, .val (.long v3), .second, .val (.long v5), .second, .val (.long v7), .second, .val (.long v9), .second, .val (.long v11), .second, .val (.long v13), .second] [])) (fun t k => st3 t k) ?_
  refine Fin.by (B := T3.setTop (mkF m 17 #[.val (.ref o0), .val (.long v1), .second, .val (.long v3), .second, .val (.long v5), .second, .val (.long v7), .second, .val (.long v9), .second, .val (.long v11), .second, .val (.long v13), .second] [(.long v5), (.ref o0)])) (fun t k => ?_) ?_
  · show Steps p.tables e below (T3.setTop (mkF m 14 #[.val (.ref o0), .val (.long v1), .second, .val (.long v3), .second, .val (.long v5), .second, .val (.long v7), .second, .val (.long v9), .second, .val (.long v11), .second, .val (.long v13), .second] [])) _
    refine XS.aloadN X3.here hx rfl (hb hby d1_14) rfl rfl ?_
    show Steps p.tables e below (T3.setTop (mkF m 15 #[.val (.ref o0), .val (.long v1), .second, .val (.long v3), .second, .val (.long v5), .second, .val (.long v7), .second, .val (.long v9), .second, .val (.long v11), .second, .val (.long v13), .second] [(.ref o0)])) _
    refine XS.lload X3.here hx rfl (hb hby d1_15) rfl  ?_
    exact k
  obtain ⟨T4, h4, X4, e4, W4, st4⟩ := putF X3 hx hZ hown (host := "") (Or.inl (hw _ (List.mem_of_getElem? (i := 18) rfl))) Via.refl e3 F_o0_periodSpread_3 E_o0_3 (Or.inr ⟨(hw _ (List.mem_of_getElem? (i := 19) rfl)), rfl, hnm⟩) (hw _ (List.mem_of_getElem? (i := 1) rfl)) (ty := .long) (by decide) rfl rfl (g := (mkF m 17 #[.val (.ref o0), .val (.long v1), .second, .val (.long v3), .second, .val (.long v5), .second, .val (.long v7), .second, .val (.long v9), .second, .val (.long v11), .second, .val (.long v13), .second] [(.long v5), (.ref o0)])) rfl rfl (hb hby d1_17)
  have E_o0_4 := E_o0_3.wr W4
  have F_o0_twoInARow_4 := F_o0_twoInARow_3.other W4 (Or.inr (slot_ne (Or.inr (hw _ (List.mem_of_getElem? (i := 15) rfl))) (Or.inr (hw _ (List.mem_of_getElem? (i := 19) rfl))) (by decide) (t := .long) (t' := .long) (by decide) (by decide)))
  have F_o0_twoInADay_4 := F_o0_twoInADay_3.other W4 (Or.inr (slot_ne (Or.inr (hw _ (List.mem_of_getElem? (i := 17) rfl))) (Or.inr (hw _ (List.mem_of_getElem? (i := 19) rfl))) (by decide) (t := .long) (t' := .long) (by decide) (by decide)))
  have F_o0_periodSpread_4 := F_o0_periodSpread_3.same W4
  have F_o0_mixedDurations_4 := F_o0_mixedDurations_3.other W4 (Or.inr (slot_ne (Or.inr (hw _ (List.mem_of_getElem? (i := 21) rfl))) (Or.inr (hw _ (List.mem_of_getElem? (i := 19) rfl))) (by decide) (t := .long) (t' := .long) (by decide) (by decide)))
  have F_o0_frontLoad_4 := F_o0_frontLoad_3.other W4 (Or.inr (slot_ne (Or.inr (hw _ (List.mem_of_getElem? (i := 23) rfl))) (Or.inr (hw _ (List.mem_of_getElem? (i := 19) rfl))) (by decide) (t := .long) (t' := .long) (by decide) (by decide)))
  have F_o0_periodPenalty_4 := F_o0_periodPenalty_3.other W4 (Or.inr (slot_ne (Or.inr (hw _ (List.mem_of_getElem? (i := 25) rfl))) (Or.inr (hw _ (List.mem_of_getElem? (i := 19) rfl))) (by decide) (t := .long) (t' := .long) (by decide) (by decide)))
  have F_o0_roomPenalty_4 := F_o0_roomPenalty_3.other W4 (Or.inr (slot_ne (Or.inr (hw _ (List.mem_of_getElem? (i := 27) rfl))) (Or.inr (hw _ (List.mem_of_getElem? (i := 19) rfl))) (by decide) (t := .long) (t' := .long) (by decide) (by decide)))
  have N4 := Fr.snoc X4 N3 g_o0
  have Z4 : n0 ≤ h4.size := Nat.le_trans Z3 (Nat.le_of_eq W4.size.symm)
  have K4 := K3.wr W4 (Or.inl (by simp))
  refine Fin.by (B := T4.setTop (mkF m 20 #[.val (.ref o0), .val (.long v1), .second, .val (.long v3), .second, .val (.long v5), .second, .val (.long v7), .second, .val (.long v9), .second, .val (.long v11), .second, .val (.long v13), .second] [])) (fun t k => st4 t k) ?_
  refine Fin.by (B := T4.setTop (mkF m 23 #[.val (.ref o0), .val (.long v1), .second, .val (.long v3), .second, .val (.long v5), .second, .val (.long v7), .second, .val (.long v9), .second, .val (.long v11), .second, .val (.long v13), .second] [(.long v7), (.ref o0)])) (fun t k => ?_) ?_
  · show Steps p.tables e below (T4.setTop (mkF m 20 #[.val (.ref o0), .val (.long v1), .second, .val (.long v3), .second, .val (.long v5), .second, .val (.long v7), .second, .val (.long v9), .second, .val (.long v11), .second, .val (.long v13), .second] [])) _
    refine XS.aloadN X4.here hx rfl (hb hby d1_20) rfl rfl ?_
    show Steps p.tables e below (T4.setTop (mkF m 21 #[.val (.ref o0), .val (.long v1), .second, .val (.long v3), .second, .val (.long v5), .second, .val (.long v7), .second, .val (.long v9), .second, .val (.long v11), .second, .val (.long v13), .second] [(.ref o0)])) _
    refine XS.lload X4.here hx rfl (hb hby d1_21) rfl  ?_
    exact k
  obtain ⟨T5, h5, X5, e5, W5, st5⟩ := putF X4 hx hZ hown (host := "") (Or.inl (hw _ (List.mem_of_getElem? (i := 20) rfl))) Via.refl e4 F_o0_mixedDurations_4 E_o0_4 (Or.inr ⟨(hw _ (List.mem_of_getElem? (i := 21) rfl)), rfl, hnm⟩) (hw _ (List.mem_of_getElem? (i := 1) rfl)) (ty := .long) (by decide) rfl rfl (g := (mkF m 23 #[.val (.ref o0), .val (.long v1), .second, .val (.long v3), .second, .val (.long v5), .second, .val (.long v7), .second, .val (.long v9), .second, .val (.long v11), .second, .val (.long v13), .second] [(.long v7), (.ref o0)])) rfl rfl (hb hby d1_23)
  have E_o0_5 := E_o0_4.wr W5
  have F_o0_twoInARow_5 := F_o0_twoInARow_4.other W5 (Or.inr (slot_ne (Or.inr (hw _ (List.mem_of_getElem? (i := 15) rfl))) (Or.inr (hw _ (List.mem_of_getElem? (i := 21) rfl))) (by decide) (t := .long) (t' := .long) (by decide) (by decide)))
  have F_o0_twoInADay_5 := F_o0_twoInADay_4.other W5 (Or.inr (slot_ne (Or.inr (hw _ (List.mem_of_getElem? (i := 17) rfl))) (Or.inr (hw _ (List.mem_of_getElem? (i := 21) rfl))) (by decide) (t := .long) (t' := .long) (by decide) (by decide)))
  have F_o0_periodSpread_5 := F_o0_periodSpread_4.other W5 (Or.inr (slot_ne (Or.inr (hw _ (List.mem_of_getElem? (i := 19) rfl))) (Or.inr (hw _ (List.mem_of_getElem? (i := 21) rfl))) (by decide) (t := .long) (t' := .long) (by decide) (by decide)))
  have F_o0_mixedDurations_5 := F_o0_mixedDurations_4.same W5
  have F_o0_frontLoad_5 := F_o0_frontLoad_4.other W5 (Or.inr (slot_ne (Or.inr (hw _ (List.mem_of_getElem? (i := 23) rfl))) (Or.inr (hw _ (List.mem_of_getElem? (i := 21) rfl))) (by decide) (t := .long) (t' := .long) (by decide) (by decide)))
  have F_o0_periodPenalty_5 := F_o0_periodPenalty_4.other W5 (Or.inr (slot_ne (Or.inr (hw _ (List.mem_of_getElem? (i := 25) rfl))) (Or.inr (hw _ (List.mem_of_getElem? (i := 21) rfl))) (by decide) (t := .long) (t' := .long) (by decide) (by decide)))
  have F_o0_roomPenalty_5 := F_o0_roomPenalty_4.other W5 (Or.inr (slot_ne (Or.inr (hw _ (List.mem_of_getElem? (i := 27) rfl))) (Or.inr (hw _ (List.mem_of_getElem? (i := 21) rfl))) (by decide) (t := .long) (t' := .long) (by decide) (by decide)))
  have N5 := Fr.snoc X5 N4 g_o0
  have Z5 : n0 ≤ h5.size := Nat.le_trans Z4 (Nat.le_of_eq W5.size.symm)
  have K5 := K4.wr W5 (Or.inl (by simp))
  refine Fin.by (B := T5.setTop (mkF m 26 #[.val (.ref o0), .val (.long v1), .second, .val (.long v3), .second, .val (.long v5), .second, .val (.long v7), .second, .val (.long v9), .second, .val (.long v11), .second, .val (.long v13), .second] [])) (fun t k => st5 t k) ?_
  refine Fin.by (B := T5.setTop (mkF m 29 #[.val (.ref o0), .val (.long v1), .second, .val (.long v3), .second, .val (.long v5), .second, .val (.long v7), .second, .val (.long v9), .second, .val (.long v11), .second, .val (.long v13), .second] [(.long v9), (.ref o0)])) (fun t k => ?_) ?_
  · show Steps p.tables e below (T5.setTop (mkF m 26 #[.val (.ref o0), .val (.long v1), .second, .val (.long v3), .second, .val (.long v5), .second, .val (.long v7), .second, .val (.long v9), .second, .val (.long v11), .second, .val (.long v13), .second] [])) _
    refine XS.aloadN X5.here hx rfl (hb hby d1_26) rfl rfl ?_
    show Steps p.tables e below (T5.setTop (mkF m 27 #[.val (.ref o0), .val (.long v1), .second, .val (.long v3), .second, .val (.long v5), .second, .val (.long v7), .second, .val (.long v9), .second, .val (.long v11), .second, .val (.long v13), .second] [(.ref o0)])) _
    refine XS.lload X5.here hx rfl (hb hby d1_27) rfl  ?_
    exact k
  obtain ⟨T6, h6, X6, e6, W6, st6⟩ := putF X5 hx hZ hown (host := "") (Or.inl (hw _ (List.mem_of_getElem? (i := 22) rfl))) Via.refl e5 F_o0_frontLoad_5 E_o0_5 (Or.inr ⟨(hw _ (List.mem_of_getElem? (i := 23) rfl)), rfl, hnm⟩) (hw _ (List.mem_of_getElem? (i := 1) rfl)) (ty := .long) (by decide) rfl rfl (g := (mkF m 29 #[.val (.ref o0), .val (.long v1), .second, .val (.long v3), .second, .val (.long v5), .second, .val (.long v7), .second, .val (.long v9), .second, .val (.long v11), .second, .val (.long v13), .second] [(.long v9), (.ref o0)])) rfl rfl (hb hby d1_29)
  have E_o0_6 := E_o0_5.wr W6
  have F_o0_twoInARow_6 := F_o0_twoInARow_5.other W6 (Or.inr (slot_ne (Or.inr (hw _ (List.mem_of_getElem? (i := 15) rfl))) (Or.inr (hw _ (List.mem_of_getElem? (i := 23) rfl))) (by decide) (t := .long) (t' := .long) (by decide) (by decide)))
  have F_o0_twoInADay_6 := F_o0_twoInADay_5.other W6 (Or.inr (slot_ne (Or.inr (hw _ (List.mem_of_getElem? (i := 17) rfl))) (Or.inr (hw _ (List.mem_of_getElem? (i := 23) rfl))) (by decide) (t := .long) (t' := .long) (by decide) (by decide)))
  have F_o0_periodSpread_6 := F_o0_periodSpread_5.other W6 (Or.inr (slot_ne (Or.inr (hw _ (List.mem_of_getElem? (i := 19) rfl))) (Or.inr (hw _ (List.mem_of_getElem? (i := 23) rfl))) (by decide) (t := .long) (t' := .long) (by decide) (by decide)))
  have F_o0_mixedDurations_6 := F_o0_mixedDurations_5.other W6 (Or.inr (slot_ne (Or.inr (hw _ (List.mem_of_getElem? (i := 21) rfl))) (Or.inr (hw _ (List.mem_of_getElem? (i := 23) rfl))) (by decide) (t := .long) (t' := .long) (by decide) (by decide)))
  have F_o0_frontLoad_6 := F_o0_frontLoad_5.same W6
  have F_o0_periodPenalty_6 := F_o0_periodPenalty_5.other W6 (Or.inr (slot_ne (Or.inr (hw _ (List.mem_of_getElem? (i := 25) rfl))) (Or.inr (hw _ (List.mem_of_getElem? (i := 23) rfl))) (by decide) (t := .long) (t' := .long) (by decide) (by decide)))
  have F_o0_roomPenalty_6 := F_o0_roomPenalty_5.other W6 (Or.inr (slot_ne (Or.inr (hw _ (List.mem_of_getElem? (i := 27) rfl))) (Or.inr (hw _ (List.mem_of_getElem? (i := 23) rfl))) (by decide) (t := .long) (t' := .long) (by decide) (by decide)))
  have N6 := Fr.snoc X6 N5 g_o0
  have Z6 : n0 ≤ h6.size := Nat.le_trans Z5 (Nat.le_of_eq W6.size.symm)
  have K6 := K5.wr W6 (Or.inl (by simp))
  refine Fin.by (B := T6.setTop (mkF m 32 #[.val (.ref o0), .val (.long v1), .second, .val (.long v3), .second, .val (.long v5), .second, .val (.long v7), .second, .val (.long v9), .second, .val (.long v11), .second, .val (.long v13), .second] [])) (fun t k => st6 t k) ?_
  refine Fin.by (B := T6.setTop (mkF m 35 #[.val (.ref o0), .val (.long v1), .second, .val (.long v3), .second, .val (.long v5), .second, .val (.long v7), .second, .val (.long v9), .second, .val (.long v11), .second, .val (.long v13), .second] [(.long v11), (.ref o0)])) (fun t k => ?_) ?_
  · show Steps p.tables e below (T6.setTop (mkF m 32 #[.val (.ref o0), .val (.long v1), .second, .val (.long v3), .second, .val (.long v5), .second, .val (.long v7), .second, .val (.long v9), .second, .val (.long v11), .second, .val (.long v13), .second] [])) _
    refine XS.aloadN X6.here hx rfl (hb hby d1_32) rfl rfl ?_
    show Steps p.tables e below (T6.setTop (mkF m 33 #[.val (.ref o0), .val (.long v1), .second, .val (.long v3), .second, .val (.long v5), .second, .val (.long v7), .second, .val (.long v9), .second, .val (.long v11), .second, .val (.long v13), .second] [(.ref o0)])) _
    refine XS.lload X6.here hx rfl (hb hby d1_33) rfl  ?_
    exact k
  obtain ⟨T7, h7, X7, e7, W7, st7⟩ := putF X6 hx hZ hown (host := "") (Or.inl (hw _ (List.mem_of_getElem? (i := 24) rfl))) Via.refl e6 F_o0_periodPenalty_6 E_o0_6 (Or.inr ⟨(hw _ (List.mem_of_getElem? (i := 25) rfl)), rfl, hnm⟩) (hw _ (List.mem_of_getElem? (i := 1) rfl)) (ty := .long) (by decide) rfl rfl (g := (mkF m 35 #[.val (.ref o0), .val (.long v1), .second, .val (.long v3), .second, .val (.long v5), .second, .val (.long v7), .second, .val (.long v9), .second, .val (.long v11), .second, .val (.long v13), .second] [(.long v11), (.ref o0)])) rfl rfl (hb hby d1_35)
  have E_o0_7 := E_o0_6.wr W7
  have F_o0_twoInARow_7 := F_o0_twoInARow_6.other W7 (Or.inr (slot_ne (Or.inr (hw _ (List.mem_of_getElem? (i := 15) rfl))) (Or.inr (hw _ (List.mem_of_getElem? (i := 25) rfl))) (by decide) (t := .long) (t' := .long) (by decide) (by decide)))
  have F_o0_twoInADay_7 := F_o0_twoInADay_6.other W7 (Or.inr (slot_ne (Or.inr (hw _ (List.mem_of_getElem? (i := 17) rfl))) (Or.inr (hw _ (List.mem_of_getElem? (i := 25) rfl))) (by decide) (t := .long) (t' := .long) (by decide) (by decide)))
  have F_o0_periodSpread_7 := F_o0_periodSpread_6.other W7 (Or.inr (slot_ne (Or.inr (hw _ (List.mem_of_getElem? (i := 19) rfl))) (Or.inr (hw _ (List.mem_of_getElem? (i := 25) rfl))) (by decide) (t := .long) (t' := .long) (by decide) (by decide)))
  have F_o0_mixedDurations_7 := F_o0_mixedDurations_6.other W7 (Or.inr (slot_ne (Or.inr (hw _ (List.mem_of_getElem? (i := 21) rfl))) (Or.inr (hw _ (List.mem_of_getElem? (i := 25) rfl))) (by decide) (t := .long) (t' := .long) (by decide) (by decide)))
  have F_o0_frontLoad_7 := F_o0_frontLoad_6.other W7 (Or.inr (slot_ne (Or.inr (hw _ (List.mem_of_getElem? (i := 23) rfl))) (Or.inr (hw _ (List.mem_of_getElem? (i := 25) rfl))) (by decide) (t := .long) (t' := .long) (by decide) (by decide)))
  have F_o0_periodPenalty_7 := F_o0_periodPenalty_6.same W7
  have F_o0_roomPenalty_7 := F_o0_roomPenalty_6.other W7 (Or.inr (slot_ne (Or.inr (hw _ (List.mem_of_getElem? (i := 27) rfl))) (Or.inr (hw _ (List.mem_of_getElem? (i := 25) rfl))) (by decide) (t := .long) (t' := .long) (by decide) (by decide)))
  have N7 := Fr.snoc X7 N6 g_o0
  have Z7 : n0 ≤ h7.size := Nat.le_trans Z6 (Nat.le_of_eq W7.size.symm)
  have K7 := K6.wr W7 (Or.inl (by simp))
  refine Fin.by (B := T7.setTop (mkF m 38 #[.val (.ref o0), .val (.long v1), .second, .val (.long v3), .second, .val (.long v5), .second, .val (.long v7), .second, .val (.long v9), .second, .val (.long v11), .second, .val (.long v13), .second] [])) (fun t k => st7 t k) ?_
  refine Fin.by (B := T7.setTop (mkF m 41 #[.val (.ref o0), .val (.long v1), .second, .val (.long v3), .second, .val (.long v5), .second, .val (.long v7), .second, .val (.long v9), .second, .val (.long v11), .second, .val (.long v13), .second] [(.long v13), (.ref o0)])) (fun t k => ?_) ?_
  · show Steps p.tables e below (T7.setTop (mkF m 38 #[.val (.ref o0), .val (.long v1), .second, .val (.long v3), .second, .val (.long v5), .second, .val (.long v7), .second, .val (.long v9), .second, .val (.long v11), .second, .val (.long v13), .second] [])) _
    refine XS.aloadN X7.here hx rfl (hb hby d1_38) rfl rfl ?_
    show Steps p.tables e below (T7.setTop (mkF m 39 #[.val (.ref o0), .val (.long v1), .second, .val (.long v3), .second, .val (.long v5), .second, .val (.long v7), .second, .val (.long v9), .second, .val (.long v11), .second, .val (.long v13), .second] [(.ref o0)])) _
    refine XS.lload X7.here hx rfl (hb hby d1_39) rfl  ?_
    exact k
  obtain ⟨T8, h8, X8, e8, W8, st8⟩ := putF X7 hx hZ hown (host := "") (Or.inl (hw _ (List.mem_of_getElem? (i := 26) rfl))) Via.refl e7 F_o0_roomPenalty_7 E_o0_7 (Or.inr ⟨(hw _ (List.mem_of_getElem? (i := 27) rfl)), rfl, hnm⟩) (hw _ (List.mem_of_getElem? (i := 1) rfl)) (ty := .long) (by decide) rfl rfl (g := (mkF m 41 #[.val (.ref o0), .val (.long v1), .second, .val (.long v3), .second, .val (.long v5), .second, .val (.long v7), .second, .val (.long v9), .second, .val (.long v11), .second, .val (.long v13), .second] [(.long v13), (.ref o0)])) rfl rfl (hb hby d1_41)
  have E_o0_8 := E_o0_7.wr W8
  have F_o0_twoInARow_8 := F_o0_twoInARow_7.other W8 (Or.inr (slot_ne (Or.inr (hw _ (List.mem_of_getElem? (i := 15) rfl))) (Or.inr (hw _ (List.mem_of_getElem? (i := 27) rfl))) (by decide) (t := .long) (t' := .long) (by decide) (by decide)))
  have F_o0_twoInADay_8 := F_o0_twoInADay_7.other W8 (Or.inr (slot_ne (Or.inr (hw _ (List.mem_of_getElem? (i := 17) rfl))) (Or.inr (hw _ (List.mem_of_getElem? (i := 27) rfl))) (by decide) (t := .long) (t' := .long) (by decide) (by decide)))
  have F_o0_periodSpread_8 := F_o0_periodSpread_7.other W8 (Or.inr (slot_ne (Or.inr (hw _ (List.mem_of_getElem? (i := 19) rfl))) (Or.inr (hw _ (List.mem_of_getElem? (i := 27) rfl))) (by decide) (t := .long) (t' := .long) (by decide) (by decide)))
  have F_o0_mixedDurations_8 := F_o0_mixedDurations_7.other W8 (Or.inr (slot_ne (Or.inr (hw _ (List.mem_of_getElem? (i := 21) rfl))) (Or.inr (hw _ (List.mem_of_getElem? (i := 27) rfl))) (by decide) (t := .long) (t' := .long) (by decide) (by decide)))
  have F_o0_frontLoad_8 := F_o0_frontLoad_7.other W8 (Or.inr (slot_ne (Or.inr (hw _ (List.mem_of_getElem? (i := 23) rfl))) (Or.inr (hw _ (List.mem_of_getElem? (i := 27) rfl))) (by decide) (t := .long) (t' := .long) (by decide) (by decide)))
  have F_o0_periodPenalty_8 := F_o0_periodPenalty_7.other W8 (Or.inr (slot_ne (Or.inr (hw _ (List.mem_of_getElem? (i := 25) rfl))) (Or.inr (hw _ (List.mem_of_getElem? (i := 27) rfl))) (by decide) (t := .long) (t' := .long) (by decide) (by decide)))
  have F_o0_roomPenalty_8 := F_o0_roomPenalty_7.same W8
  have N8 := Fr.snoc X8 N7 g_o0
  have Z8 : n0 ≤ h8.size := Nat.le_trans Z7 (Nat.le_of_eq W8.size.symm)
  have K8 := K7.wr W8 (Or.inl (by simp))
  refine Fin.by (B := T8.setTop (mkF m 44 #[.val (.ref o0), .val (.long v1), .second, .val (.long v3), .second, .val (.long v5), .second, .val (.long v7), .second, .val (.long v9), .second, .val (.long v11), .second, .val (.long v13), .second] [])) (fun t k => st8 t k) ?_
  subst hr
  exact own_ret0 X8 hx hlk hret (hb hby d1_44) (by decide) (by decide) ⟨rfl, N8, (by rw [e8]; exact K8), (by rw [e8]; exact E_o0_8), (by rw [e8]; exact F_o0_twoInARow_8), (by rw [e8]; exact F_o0_twoInADay_8), (by rw [e8]; exact F_o0_periodSpread_8), (by rw [e8]; exact F_o0_mixedDurations_8), (by rw [e8]; exact F_o0_frontLoad_8), (by rw [e8]; exact F_o0_periodPenalty_8), (by rw [e8]; exact F_o0_roomPenalty_8)⟩
theorem ef_1 (m : MethodId) (o0 : Addr) (v1 : Int64) (v3 : Int64) (v5 : Int64) (v7 : Int64) (v9 : Int64) (v11 : Int64) (v13 : Int64) : entryFrame m #[(.ref o0), (.long v1), (.long v3), (.long v5), (.long v7), (.long v9), (.long v11), (.long v13)] 15 = (mkF m 0 #[.val (.ref o0), .val (.long v1), .second, .val (.long v3), .second, .val (.long v5), .second, .val (.long v7), .second, .val (.long v9), .second, .val (.long v11), .second, .val (.long v13), .second] []) := by first | (simp [entryFrame, mkF, argsToLocals, Value.category]; done) | rfl
set_option maxRecDepth 65536 in
set_option maxHeartbeats 40000000 in
theorem rm1 (l : Launch) (Z : State) (a0 : Array Value) (hw : ∀ d ∈ tables_1, d.before a0 Z = true) (ws : List Jvm.Cond) (o0 : Addr) (v1 : Int64) (v3 : Int64) (v5 : Int64) (v7 : Int64) (v9 : Int64) (v11 : Int64) (v13 : Int64) (o0_twoInARow : Int64) (o0_twoInADay : Int64) (o0_periodSpread : Int64) (o0_mixedDurations : Int64) (o0_frontLoad : Int64) (o0_periodPenalty : Int64) (o0_roomPenalty : Int64) (h0 : Heap) (n0 : Nat) (Z0 : n0 ≤ h0.size) (E_o0 : Exa Z h0 o0 "com/example/sittings/sittings/core/ItcTimetable$SoftPenalty") (F_o0_twoInARow : Fld Z h0 o0 "com/example/sittings/sittings/core/ItcTimetable$SoftPenalty" "twoInARow" "J" (.long o0_twoInARow)) (F_o0_twoInADay : Fld Z h0 o0 "com/example/sittings/sittings/core/ItcTimetable$SoftPenalty" "twoInADay" "J" (.long o0_twoInADay)) (F_o0_periodSpread : Fld Z h0 o0 "com/example/sittings/sittings/core/ItcTimetable$SoftPenalty" "periodSpread" "J" (.long o0_periodSpread)) (F_o0_mixedDurations : Fld Z h0 o0 "com/example/sittings/sittings/core/ItcTimetable$SoftPenalty" "mixedDurations" "J" (.long o0_mixedDurations)) (F_o0_frontLoad : Fld Z h0 o0 "com/example/sittings/sittings/core/ItcTimetable$SoftPenalty" "frontLoad" "J" (.long o0_frontLoad)) (F_o0_periodPenalty : Fld Z h0 o0 "com/example/sittings/sittings/core/ItcTimetable$SoftPenalty" "periodPenalty" "J" (.long o0_periodPenalty)) (F_o0_roomPenalty : Fld Z h0 o0 "com/example/sittings/sittings/core/ItcTimetable$SoftPenalty" "roomPenalty" "J" (.long o0_roomPenalty)) (g_o0 : n0 ≤ o0) :
    MetFree l (⟨"com/example/sittings/sittings/core/ItcTimetable$SoftPenalty", "<init>", "(JJJJJJJ)V"⟩ : MethodName) (head1 (Jvm.Cond.code (⟨"com/example/sittings/sittings/core/ItcTimetable$SoftPenalty", "<init>", "(JJJJJJJ)V"⟩ : MethodName) prog_30_method_1_code 15 none :: ws) R1) (fun a U => a = #[(.ref o0), (.long v1), (.long v3), (.long v5), (.long v7), (.long v9), (.long v11), (.long v13)] ∧ Z.Warmed39 U.vm ∧ U.heap = h0) (fun _ _ _ _ _ => True) (fun _ U o U' => ∃ v L, o = .returned v ∧ (Q1 Z o0 h0 n0 (f1_0 v1 v3 v5 v7 v9 v11 v13 o0_twoInARow o0_twoInADay o0_periodSpread o0_mixedDurations o0_frontLoad o0_periodPenalty o0_roomPenalty)) v U'.heap L ∧ FrameEnd U o U' L R1.cells R1.slots) := by
  refine MetFree.of_bodySF (plainFor_of_name pn_1) hisR ?_
  intro p e s m args below meth c s₁ Bd hml0 hP hK
  obtain ⟨rfl, hZ, hh⟩ := hP
  have B : Ctx p Z s a0 m meth c "com/example/sittings/sittings/core/ItcTimetable$SoftPenalty" "<init>" prog_30_method_1_code 15 none := ⟨Bd.exec, hZ, hw, Bd.bytes, hml0, Bd.returns, findClass_of_methodNamed Bd.named, (name_of_methodNamed Bd.named Bd.method).1, Bd.notSynchronized⟩
  have X0 : Stand p l e R1 s m #[(.ref o0), (.long v1), (.long v3), (.long v5), (.long v7), (.long v9), (.long v11), (.long v13)] below meth c s₁ [] 0 0 := Stand.of_body Bd
  have e0 : s₁.heap = h0 := by rw [← hh, Bd.state]; rfl
  have K := Keep.refl h0 [o0]
  show Fin p e below s R1.cells R1.slots (Q1 Z o0 h0 n0 (f1_0 v1 v3 v5 v7 v9 v11 v13 o0_twoInARow o0_twoInADay o0_periodSpread o0_mixedDurations o0_frontLoad o0_periodPenalty o0_roomPenalty)) (s₁.setTop (entryFrame m #[(.ref o0), (.long v1), (.long v3), (.long v5), (.long v7), (.long v9), (.long v11), (.long v13)] 15))
  refine Fin.by (fun t k => castTop (ef_1 m o0 v1 v3 v5 v7 v9 v11 v13) k) ?_
  exact b1_0 B h0 n0 o0 v1 v3 v5 v7 v9 v11 v13 o0_twoInARow o0_twoInADay o0_periodSpread o0_mixedDurations o0_frontLoad o0_periodPenalty o0_roomPenalty X0 e0 (Fr.nil n0) Z0 K E_o0 F_o0_twoInARow F_o0_twoInADay F_o0_periodSpread F_o0_mixedDurations F_o0_frontLoad F_o0_periodPenalty F_o0_roomPenalty g_o0 _ rfl
theorem pd_1 : parseMethodDescriptor "(JJJJJJJ)V" = some ⟨[.long, .long, .long, .long, .long, .long, .long], none⟩ := by decide +kernel
theorem d4_0 : decode prog_30_method_2_code 0 = .ok (.aload_n 0, 1) := by decide +kernel
theorem d4_1 : decode prog_30_method_2_code 1 = .ok (.getfield 7, 3) := by decide +kernel
theorem d4_4 : decode prog_30_method_2_code 4 = .ok (.aload_n 0, 1) := by decide +kernel
theorem d4_5 : decode prog_30_method_2_code 5 = .ok (.getfield 13, 3) := by decide +kernel
theorem d4_8 : decode prog_30_method_2_code 8 = .ok (.ladd, 1) := by decide +kernel
theorem d4_9 : decode prog_30_method_2_code 9 = .ok (.aload_n 0, 1) := by decide +kernel
theorem d4_10 : decode prog_30_method_2_code 10 = .ok (.getfield 16, 3) := by decide +kernel
theorem d4_13 : decode prog_30_method_2_code 13 = .ok (.ladd, 1) := by decide +kernel
theorem d4_14 : decode prog_30_method_2_code 14 = .ok (.aload_n 0, 1) := by decide +kernel
theorem d4_15 : decode prog_30_method_2_code 15 = .ok (.getfield 19, 3) := by decide +kernel
theorem d4_18 : decode prog_30_method_2_code 18 = .ok (.ladd, 1) := by decide +kernel
theorem d4_19 : decode prog_30_method_2_code 19 = .ok (.aload_n 0, 1) := by decide +kernel
theorem d4_20 : decode prog_30_method_2_code 20 = .ok (.getfield 22, 3) := by decide +kernel
theorem d4_23 : decode prog_30_method_2_code 23 = .ok (.ladd, 1) := by decide +kernel
theorem d4_24 : decode prog_30_method_2_code 24 = .ok (.aload_n 0, 1) := by decide +kernel
theorem d4_25 : decode prog_30_method_2_code 25 = .ok (.getfield 25, 3) := by decide +kernel
theorem d4_28 : decode prog_30_method_2_code 28 = .ok (.ladd, 1) := by decide +kernel
theorem d4_29 : decode prog_30_method_2_code 29 = .ok (.aload_n 0, 1) := by decide +kernel
theorem d4_30 : decode prog_30_method_2_code 30 = .ok (.getfield 28, 3) := by decide +kernel
theorem d4_33 : decode prog_30_method_2_code 33 = .ok (.ladd, 1) := by decide +kernel
theorem d4_34 : decode prog_30_method_2_code 34 = .ok (.lreturn, 1) := by decide +kernel
theorem pn_4 : plainName "com/example/sittings/sittings/core/ItcTimetable$SoftPenalty" = true := by first | (simp [plainName, overriddenIn]; done) | decide +kernel
def R4 : Room := { frames := 0, cells := 0, slots := 0, locals := 0 }
def Q4 (Z : State)  (h0 : Heap) (n0 : Nat) (r : Int64) (v : Option Value) (h : Heap) (L : List Loc) : Prop := v = some (.long r) ∧ Fr n0 L ∧ h = h0
def f4_0 (o0_twoInARow : Int64) (o0_twoInADay : Int64) (o0_periodSpread : Int64) (o0_mixedDurations : Int64) (o0_frontLoad : Int64) (o0_periodPenalty : Int64) (o0_roomPenalty : Int64) : Int64 := ((((((o0_twoInARow + o0_twoInADay) + o0_periodSpread) + o0_mixedDurations) + o0_frontLoad) + o0_periodPenalty) + o0_roomPenalty)
set_option maxRecDepth 65536 in
set_option maxHeartbeats 40000000 in
theorem b4_0 {p : Program} {l : Launch} {e : Env} {s : State} {m : MethodId} {args : Array Value} {below : List Frame} {meth : Method} {c : Code} {Z : State} {a0 : Array Value} (B : Ctx p Z s a0 m meth c "com/example/sittings/sittings/core/ItcTimetable$SoftPenalty" "total" prog_30_method_2_code 1 (some .long)) {T0 : State} {locs : List Loc} {h : Heap} (h0 : Heap) (n0 : Nat) (o0 : Addr) (o0_twoInARow : Int64) (o0_twoInADay : Int64) (o0_periodSpread : Int64) (o0_mixedDurations : Int64) (o0_frontLoad : Int64) (o0_periodPenalty : Int64) (o0_roomPenalty : Int64) (X0 : Stand p l e R4 s m args below meth c T0 locs 0 0) (e0 : T0.heap = h) (N0 : Fr n0 locs) (Z0 : n0 ≤ h.size) (hh0 : h = h0) (E_o0 : Exa Z h o0 "com/example/sittings/sittings/core/ItcTimetable$SoftPenalty") (F_o0_twoInARow : Fld Z h o0 "com/example/sittings/sittings/core/ItcTimetable$SoftPenalty" "twoInARow" "J" (.long o0_twoInARow)) (F_o0_twoInADay : Fld Z h o0 "com/example/sittings/sittings/core/ItcTimetable$SoftPenalty" "twoInADay" "J" (.long o0_twoInADay)) (F_o0_periodSpread : Fld Z h o0 "com/example/sittings/sittings/core/ItcTimetable$SoftPenalty" "periodSpread" "J" (.long o0_periodSpread)) (F_o0_mixedDurations : Fld Z h o0 "com/example/sittings/sittings/core/ItcTimetable$SoftPenalty" "mixedDurations" "J" (.long o0_mixedDurations)) (F_o0_frontLoad : Fld Z h o0 "com/example/sittings/sittings/core/ItcTimetable$SoftPenalty" "frontLoad" "J" (.long o0_frontLoad)) (F_o0_periodPenalty : Fld Z h o0 "com/example/sittings/sittings/core/ItcTimetable$SoftPenalty" "periodPenalty" "J" (.long o0_periodPenalty)) (F_o0_roomPenalty : Fld Z h o0 "com/example/sittings/sittings/core/ItcTimetable$SoftPenalty" "roomPenalty" "J" (.long o0_roomPenalty)) (r : Int64) (hr : f4_0 o0_twoInARow o0_twoInADay o0_periodSpread o0_mixedDurations o0_frontLoad o0_periodPenalty o0_roomPenalty = r) :
    Fin p e below s R4.cells R4.slots (Q4 Z  h0 n0 r) (T0.setTop (mkF m 0 #[.val (.ref o0)] [])) := by
  obtain ⟨hx, hZ, hw, hby, hml, hret, hown, hnm, hlk⟩ := B
  unfold f4_0 at hr
  refine Fin.by (B := T0.setTop (mkF m 1 #[.val (.ref o0)] [(.ref o0)])) (fun t k => ?_) ?_
  · show Steps p.tables e below (T0.setTop (mkF m 0 #[.val (.ref o0)] [])) _
    refine XS.aloadN X0.here hx rfl (hb hby d4_0) rfl rfl ?_
    exact k
  obtain ⟨T1, X1, e1, st1⟩ := getF X0 hx hZ hown (host := "") (Or.inl (hw _ (List.mem_of_getElem? (i := 14) rfl))) Via.refl e0 F_o0_twoInARow (g := (mkF m 1 #[.val (.ref o0)] [(.ref o0)])) rfl rfl (hb hby d4_1)
  refine Fin.by (B := T1.setTop (mkF m 4 #[.val (.ref o0)] [(.long o0_twoInARow)])) (fun t k => st1 t k) ?_
  refine Fin.by (B := T1.setTop (mkF m 5 #[.val (.ref o0)] [(.ref o0), (.long o0_twoInARow)])) (fun t k => ?_) ?_
  · show Steps p.tables e below (T1.setTop (mkF m 4 #[.val (.ref o0)] [(.long o0_twoInARow)])) _
    refine XS.aloadN X1.here hx rfl (hb hby d4_4) rfl rfl ?_
    exact k
  obtain ⟨T2, X2, e2, st2⟩ := getF X1 hx hZ hown (host := "") (Or.inl (hw _ (List.mem_of_getElem? (i := 16) rfl))) Via.refl e1 F_o0_twoInADay (g := (mkF m 5 #[.val (.ref o0)] [(.ref o0), (.long o0_twoInARow)])) rfl rfl (hb hby d4_5)
  refine Fin.by (B := T2.setTop (mkF m 8 #[.val (.ref o0)] [(.long o0_twoInADay), (.long o0_twoInARow)])) (fun t k => st2 t k) ?_
  refine Fin.by (B := T2.setTop (mkF m 10 #[.val (.ref o0)] [(.ref o0), (.long (o0_twoInARow + o0_twoInADay))])) (fun t k => ?_) ?_
  · show Steps p.tables e below (T2.setTop (mkF m 8 #[.val (.ref o0)] [(.long o0_twoInADay), (.long o0_twoInARow)])) _
    refine XS.ladd X2.here hx rfl (hb hby d4_8) rfl ?_
    show Steps p.tables e below (T2.setTop (mkF m 9 #[.val (.ref o0)] [(.long (o0_twoInARow + o0_twoInADay))])) _
    refine XS.aloadN X2.here hx rfl (hb hby d4_9) rfl rfl ?_
    exact k
  obtain ⟨T3, X3, e3, st3⟩ := getF X2 hx hZ hown (host := "") (Or.inl (hw _ (List.mem_of_getElem? (i := 18) rfl))) Via.refl e2 F_o0_periodSpread (g := (mkF m 10 #[.val (.ref o0)] [(.ref o0), (.long (o0_twoInARow + o0_twoInADay))])) rfl rfl (hb hby d4_10)
  refine Fin.by (B := T3.setTop (mkF m 13 #[.val (.ref o0)] [(.long o0_periodSpread), (.long (o0_twoInARow + o0_twoInADay))])) (fun t k => st3 t k) ?_
  refine Fin.by (B := T3.setTop (mkF m 15 #[.val (.ref o0)] [(.ref o0), (.long ((o0_twoInARow + o0_twoInADay) + o0_periodSpread))])) (fun t k => ?_) ?_
  · show Steps p.tables e below (T3.setTop (mkF m 13 #[.val (.ref o0)] [(.long o0_periodSpread), (.long (o0_twoInARow + o0_twoInADay))])) _
    refine XS.ladd X3.here hx rfl (hb hby d4_13) rfl ?_
    show Steps p.tables e below (T3.setTop (mkF m 14 #[.val (.ref o0)] [(.long ((o0_twoInARow + o0_twoInADay) + o0_periodSpread))])) _
    refine XS.aloadN X3.here hx rfl (hb hby d4_14) rfl rfl ?_
    exact k
  obtain ⟨T4, X4, e4, st4⟩ := getF X3 hx hZ hown (host := "") (Or.inl (hw _ (List.mem_of_getElem? (i := 20) rfl))) Via.refl e3 F_o0_mixedDurations (g := (mkF m 15 #[.val (.ref o0)] [(.ref o0), (.long ((o0_twoInARow + o0_twoInADay) + o0_periodSpread))])) rfl rfl (hb hby d4_15)
  refine Fin.by (B := T4.setTop (mkF m 18 #[.val (.ref o0)] [(.long o0_mixedDurations), (.long ((o0_twoInARow + o0_twoInADay) + o0_periodSpread))])) (fun t k => st4 t k) ?_
  refine Fin.by (B := T4.setTop (mkF m 20 #[.val (.ref o0)] [(.ref o0), (.long (((o0_twoInARow + o0_twoInADay) + o0_periodSpread) + o0_mixedDurations))])) (fun t k => ?_) ?_
  · show Steps p.tables e below (T4.setTop (mkF m 18 #[.val (.ref o0)] [(.long o0_mixedDurations), (.long ((o0_twoInARow + o0_twoInADay) + o0_periodSpread))])) _
    refine XS.ladd X4.here hx rfl (hb hby d4_18) rfl ?_
    show Steps p.tables e below (T4.setTop (mkF m 19 #[.val (.ref o0)] [(.long (((o0_twoInARow + o0_twoInADay) + o0_periodSpread) + o0_mixedDurations))])) _
    refine XS.aloadN X4.here hx rfl (hb hby d4_19) rfl rfl ?_
    exact k
  obtain ⟨T5, X5, e5, st5⟩ := getF X4 hx hZ hown (host := "") (Or.inl (hw _ (List.mem_of_getElem? (i := 22) rfl))) Via.refl e4 F_o0_frontLoad (g := (mkF m 20 #[.val (.ref o0)] [(.ref o0), (.long (((o0_twoInARow + o0_twoInADay) + o0_periodSpread) + o0_mixedDurations))])) rfl rfl (hb hby d4_20)
  refine Fin.by (B := T5.setTop (mkF m 23 #[.val (.ref o0)] [(.long o0_frontLoad), (.long (((o0_twoInARow + o0_twoInADay) + o0_periodSpread) + o0_mixedDurations))])) (fun t k => st5 t k) ?_
  refine Fin.by (B := T5.setTop (mkF m 25 #[.val (.ref o0)] [(.ref o0), (.long ((((o0_twoInARow + o0_twoInADay) + o0_periodSpread) + o0_mixedDurations) + o0_frontLoad))])) (fun t k => ?_) ?_
  · show Steps p.tables e below (T5.setTop (mkF m 23 #[.val (.ref o0)] [(.long o0_frontLoad), (.long (((o0_twoInARow + o0_twoInADay) + o0_periodSpread) + o0_mixedDurations))])) _
    refine XS.ladd X5.here hx rfl (hb hby d4_23) rfl ?_
    show Steps p.tables e below (T5.setTop (mkF m 24 #[.val (.ref o0)] [(.long ((((o0_twoInARow + o0_twoInADay) + o0_periodSpread) + o0_mixedDurations) + o0_frontLoad))])) _
    refine XS.aloadN X5.here hx rfl (hb hby d4_24) rfl rfl ?_
    exact k
  obtain ⟨T6, X6, e6, st6⟩ := getF X5 hx hZ hown (host := "") (Or.inl (hw _ (List.mem_of_getElem? (i := 24) rfl))) Via.refl e5 F_o0_periodPenalty (g := (mkF m 25 #[.val (.ref o0)] [(.ref o0), (.long ((((o0_twoInARow + o0_twoInADay) + o0_periodSpread) + o0_mixedDurations) + o0_frontLoad))])) rfl rfl (hb hby d4_25)
  refine Fin.by (B := T6.setTop (mkF m 28 #[.val (.ref o0)] [(.long o0_periodPenalty), (.long ((((o0_twoInARow + o0_twoInADay) + o0_periodSpread) + o0_mixedDurations) + o0_frontLoad))])) (fun t k => st6 t k) ?_
  refine Fin.by (B := T6.setTop (mkF m 30 #[.val (.ref o0)] [(.ref o0), (.long (((((o0_twoInARow + o0_twoInADay) + o0_periodSpread) + o0_mixedDurations) + o0_frontLoad) + o0_periodPenalty))])) (fun t k => ?_) ?_
  · show Steps p.tables e below (T6.setTop (mkF m 28 #[.val (.ref o0)] [(.long o0_periodPenalty), (.long ((((o0_twoInARow + o0_twoInADay) + o0_periodSpread) + o0_mixedDurations) + o0_frontLoad))])) _
    refine XS.ladd X6.here hx rfl (hb hby d4_28) rfl ?_
    show Steps p.tables e below (T6.setTop (mkF m 29 #[.val (.ref o0)] [(.long (((((o0_twoInARow + o0_twoInADay) + o0_periodSpread) + o0_mixedDurations) + o0_frontLoad) + o0_periodPenalty))])) _
    refine XS.aloadN X6.here hx rfl (hb hby d4_29) rfl rfl ?_
    exact k
  obtain ⟨T7, X7, e7, st7⟩ := getF X6 hx hZ hown (host := "") (Or.inl (hw _ (List.mem_of_getElem? (i := 26) rfl))) Via.refl e6 F_o0_roomPenalty (g := (mkF m 30 #[.val (.ref o0)] [(.ref o0), (.long (((((o0_twoInARow + o0_twoInADay) + o0_periodSpread) + o0_mixedDurations) + o0_frontLoad) + o0_periodPenalty))])) rfl rfl (hb hby d4_30)
  refine Fin.by (B := T7.setTop (mkF m 33 #[.val (.ref o0)] [(.long o0_roomPenalty), (.long (((((o0_twoInARow + o0_twoInADay) + o0_periodSpread) + o0_mixedDurations) + o0_frontLoad) + o0_periodPenalty))])) (fun t k => st7 t k) ?_
  refine Fin.by (B := T7.setTop (mkF m 34 #[.val (.ref o0)] [(.long ((((((o0_twoInARow + o0_twoInADay) + o0_periodSpread) + o0_mixedDurations) + o0_frontLoad) + o0_periodPenalty) + o0_roomPenalty))])) (fun t k => ?_) ?_
  · show Steps p.tables e below (T7.setTop (mkF m 33 #[.val (.ref o0)] [(.long o0_roomPenalty), (.long (((((o0_twoInARow + o0_twoInADay) + o0_periodSpread) + o0_mixedDurations) + o0_frontLoad) + o0_periodPenalty))])) _
    refine XS.ladd X7.here hx rfl (hb hby d4_33) rfl ?_
    exact k
  subst hr
  exact own_retJ X7 hx hlk hret (hb hby d4_34) (by decide) (by decide) ⟨rfl, N0, (e7.trans hh0)⟩
theorem ef_4 (m : MethodId) (o0 : Addr) : entryFrame m #[(.ref o0)] 1 = (mkF m 0 #[.val (.ref o0)] []) := by first | (simp [entryFrame, mkF, argsToLocals, Value.category]; done) | rfl
set_option maxRecDepth 65536 in
set_option maxHeartbeats 40000000 in
theorem rm4 (l : Launch) (Z : State) (a0 : Array Value) (hw : ∀ d ∈ tables_1, d.before a0 Z = true) (ws : List Jvm.Cond) (o0 : Addr) (o0_twoInARow : Int64) (o0_twoInADay : Int64) (o0_periodSpread : Int64) (o0_mixedDurations : Int64) (o0_frontLoad : Int64) (o0_periodPenalty : Int64) (o0_roomPenalty : Int64) (h0 : Heap) (n0 : Nat) (Z0 : n0 ≤ h0.size) (E_o0 : Exa Z h0 o0 "com/example/sittings/sittings/core/ItcTimetable$SoftPenalty") (F_o0_twoInARow : Fld Z h0 o0 "com/example/sittings/sittings/core/ItcTimetable$SoftPenalty" "twoInARow" "J" (.long o0_twoInARow)) (F_o0_twoInADay : Fld Z h0 o0 "com/example/sittings/sittings/core/ItcTimetable$SoftPenalty" "twoInADay" "J" (.long o0_twoInADay)) (F_o0_periodSpread : Fld Z h0 o0 "com/example/sittings/sittings/core/ItcTimetable$SoftPenalty" "periodSpread" "J" (.long o0_periodSpread)) (F_o0_mixedDurations : Fld Z h0 o0 "com/example/sittings/sittings/core/ItcTimetable$SoftPenalty" "mixedDurations" "J" (.long o0_mixedDurations)) (F_o0_frontLoad : Fld Z h0 o0 "com/example/sittings/sittings/core/ItcTimetable$SoftPenalty" "frontLoad" "J" (.long o0_frontLoad)) (F_o0_periodPenalty : Fld Z h0 o0 "com/example/sittings/sittings/core/ItcTimetable$SoftPenalty" "periodPenalty" "J" (.long o0_periodPenalty)) (F_o0_roomPenalty : Fld Z h0 o0 "com/example/sittings/sittings/core/ItcTimetable$SoftPenalty" "roomPenalty" "J" (.long o0_roomPenalty)) :
    MetFree l (⟨"com/example/sittings/sittings/core/ItcTimetable$SoftPenalty", "total", "()J"⟩ : MethodName) (head1 (Jvm.Cond.code (⟨"com/example/sittings/sittings/core/ItcTimetable$SoftPenalty", "total", "()J"⟩ : MethodName) prog_30_method_2_code 1 (some .long) :: ws) R4) (fun a U => a = #[(.ref o0)] ∧ Z.Warmed39 U.vm ∧ U.heap = h0) (fun _ _ _ _ _ => True) (fun _ U o U' => ∃ v L, o = .returned v ∧ (Q4 Z  h0 n0 (f4_0 o0_twoInARow o0_twoInADay o0_periodSpread o0_mixedDurations o0_frontLoad o0_periodPenalty o0_roomPenalty)) v U'.heap L ∧ FrameEnd U o U' L R4.cells R4.slots) := by
  refine MetFree.of_bodySF (plainFor_of_name pn_4) hisR ?_
  intro p e s m args below meth c s₁ Bd hml0 hP hK
  obtain ⟨rfl, hZ, hh⟩ := hP
  have B : Ctx p Z s a0 m meth c "com/example/sittings/sittings/core/ItcTimetable$SoftPenalty" "total" prog_30_method_2_code 1 (some .long) := ⟨Bd.exec, hZ, hw, Bd.bytes, hml0, Bd.returns, findClass_of_methodNamed Bd.named, (name_of_methodNamed Bd.named Bd.method).1, Bd.notSynchronized⟩
  have X0 : Stand p l e R4 s m #[(.ref o0)] below meth c s₁ [] 0 0 := Stand.of_body Bd
  have e0 : s₁.heap = h0 := by rw [← hh, Bd.state]; rfl
  have K := Keep.refl h0 []
  show Fin p e below s R4.cells R4.slots (Q4 Z  h0 n0 (f4_0 o0_twoInARow o0_twoInADay o0_periodSpread o0_mixedDurations o0_frontLoad o0_periodPenalty o0_roomPenalty)) (s₁.setTop (entryFrame m #[(.ref o0)] 1))
  refine Fin.by (fun t k => castTop (ef_4 m o0) k) ?_
  exact b4_0 B h0 n0 o0 o0_twoInARow o0_twoInADay o0_periodSpread o0_mixedDurations o0_frontLoad o0_periodPenalty o0_roomPenalty X0 e0 (Fr.nil n0) Z0 rfl E_o0 F_o0_twoInARow F_o0_twoInADay F_o0_periodSpread F_o0_mixedDurations F_o0_frontLoad F_o0_periodPenalty F_o0_roomPenalty _ rfl
theorem pd_2 : parseMethodDescriptor "()J" = some ⟨[], some .long⟩ := by decide +kernel
theorem pn_0 : plainName "com/example/sittings/sittings/core/SoftPenaltyTotalPinLaw" = true := by first | (simp [plainName, overriddenIn]; done) | decide +kernel
def Q0 (n0 : Nat) (r : Int32) (v : Option Value) (h : Heap) (L : List Loc) : Prop := v = some (.int r) ∧ Fr n0 L
def f0_26 (v0 : Int64) (v2 : Int64) (v4 : Int64) (v6 : Int64) (v8 : Int64) (v10 : Int64) (v12 : Int64) (b7_twoInARow : Int64) (b7_twoInADay : Int64) (b7_periodSpread : Int64) (b7_mixedDurations : Int64) (b7_frontLoad : Int64) (b7_periodPenalty : Int64) (b7_roomPenalty : Int64) : Int32 := (if (f4_0 b7_twoInARow b7_twoInADay b7_periodSpread b7_mixedDurations b7_frontLoad b7_periodPenalty b7_roomPenalty) = ((v12 + v10) + ((v8 + v6) + ((v4 + v2) + v0))) then (1 : Int32) else (0 : Int32))
set_option maxRecDepth 65536 in
set_option maxHeartbeats 40000000 in
theorem b0_26 {p : Program} {l : Launch} {e : Env} {s : State} {m : MethodId} {args : Array Value} {below : List Frame} {meth : Method} {c : Code} {Z : State} {a0 : Array Value} (B : Ctx p Z s a0 m meth c "com/example/sittings/sittings/core/SoftPenaltyTotalPinLaw" "law" code 17 (some .boolean)) {T0 : State} {locs : List Loc} {h : Heap} (h0 : Heap) (n0 : Nat) (v0 : Int64) (v2 : Int64) (v4 : Int64) (v6 : Int64) (v8 : Int64) (v10 : Int64) (v12 : Int64) (b7 : Addr) (b7_twoInARow : Int64) (b7_twoInADay : Int64) (b7_periodSpread : Int64) (b7_mixedDurations : Int64) (b7_frontLoad : Int64) (b7_periodPenalty : Int64) (b7_roomPenalty : Int64) (X0 : Stand p l e room_1 s m args below meth c T0 locs 1 7) (e0 : T0.heap = h) (N0 : Fr n0 locs) (Z0 : n0 ≤ h.size) (E_b7 : Exa Z h b7 "com/example/sittings/sittings/core/ItcTimetable$SoftPenalty") (F_b7_twoInARow : Fld Z h b7 "com/example/sittings/sittings/core/ItcTimetable$SoftPenalty" "twoInARow" "J" (.long b7_twoInARow)) (F_b7_twoInADay : Fld Z h b7 "com/example/sittings/sittings/core/ItcTimetable$SoftPenalty" "twoInADay" "J" (.long b7_twoInADay)) (F_b7_periodSpread : Fld Z h b7 "com/example/sittings/sittings/core/ItcTimetable$SoftPenalty" "periodSpread" "J" (.long b7_periodSpread)) (F_b7_mixedDurations : Fld Z h b7 "com/example/sittings/sittings/core/ItcTimetable$SoftPenalty" "mixedDurations" "J" (.long b7_mixedDurations)) (F_b7_frontLoad : Fld Z h b7 "com/example/sittings/sittings/core/ItcTimetable$SoftPenalty" "frontLoad" "J" (.long b7_frontLoad)) (F_b7_periodPenalty : Fld Z h b7 "com/example/sittings/sittings/core/ItcTimetable$SoftPenalty" "periodPenalty" "J" (.long b7_periodPenalty)) (F_b7_roomPenalty : Fld Z h b7 "com/example/sittings/sittings/core/ItcTimetable$SoftPenalty" "roomPenalty" "J" (.long b7_roomPenalty)) (g_b7 : n0 ≤ b7) (r : Int32) (hr : f0_26 v0 v2 v4 v6 v8 v10 v12 b7_twoInARow b7_twoInADay b7_periodSpread b7_mixedDurations b7_frontLoad b7_periodPenalty b7_roomPenalty = r) :
    Fin p e below s 1 7 (Q0 n0 r) (T0.setTop (mkF m 26 #[.val (.long v0), .second, .val (.long v2), .second, .val (.long v4), .second, .val (.long v6), .second, .val (.long v8), .second, .val (.long v10), .second, .val (.long v12), .second, .unset, .unset, .unset] [(.ref b7)])) := by
  obtain ⟨hx, hZ, hw, hby, hml, hret, hown, hnm, hlk⟩ := B
  unfold f0_26 at hr
  refine Fin.by (B := T0.setTop (mkF m 50 #[.val (.long v0), .second, .val (.long v2), .second, .val (.long v4), .second, .val (.long v6), .second, .val (.long v8), .second, .val (.long v10), .second, .val (.long v12), .second, .val (.ref b7), .val (.long ((v12 + v10) + ((v8 + v6) + ((v4 + v2) + v0)))), .second] [(.ref b7)])) (fun t k => ?_) ?_
  · show Steps p.tables e below (T0.setTop (mkF m 26 #[.val (.long v0), .second, .val (.long v2), .second, .val (.long v4), .second, .val (.long v6), .second, .val (.long v8), .second, .val (.long v10), .second, .val (.long v12), .second, .unset, .unset, .unset] [(.ref b7)])) _
    refine XS.astore X0.here hx rfl (hb hby at_26) rfl rfl (l' := #[.val (.long v0), .second, .val (.long v2), .second, .val (.long v4), .second, .val (.long v6), .second, .val (.long v8), .second, .val (.long v10), .second, .val (.long v12), .second, .val (.ref b7), .unset, .unset]) rfl ?_
    show Steps p.tables e below (T0.setTop (mkF m 28 #[.val (.long v0), .second, .val (.long v2), .second, .val (.long v4), .second, .val (.long v6), .second, .val (.long v8), .second, .val (.long v10), .second, .val (.long v12), .second, .val (.ref b7), .unset, .unset] [])) _
    refine XS.lload X0.here hx rfl (hb hby at_28) rfl  ?_
    show Steps p.tables e below (T0.setTop (mkF m 30 #[.val (.long v0), .second, .val (.long v2), .second, .val (.long v4), .second, .val (.long v6), .second, .val (.long v8), .second, .val (.long v10), .second, .val (.long v12), .second, .val (.ref b7), .unset, .unset] [(.long v12)])) _
    refine XS.lload X0.here hx rfl (hb hby at_30) rfl  ?_
    show Steps p.tables e below (T0.setTop (mkF m 32 #[.val (.long v0), .second, .val (.long v2), .second, .val (.long v4), .second, .val (.long v6), .second, .val (.long v8), .second, .val (.long v10), .second, .val (.long v12), .second, .val (.ref b7), .unset, .unset] [(.long v10), (.long v12)])) _
    refine XS.ladd X0.here hx rfl (hb hby at_32) rfl ?_
    show Steps p.tables e below (T0.setTop (mkF m 33 #[.val (.long v0), .second, .val (.long v2), .second, .val (.long v4), .second, .val (.long v6), .second, .val (.long v8), .second, .val (.long v10), .second, .val (.long v12), .second, .val (.ref b7), .unset, .unset] [(.long (v12 + v10))])) _
    refine XS.lload X0.here hx rfl (hb hby at_33) rfl  ?_
    show Steps p.tables e below (T0.setTop (mkF m 35 #[.val (.long v0), .second, .val (.long v2), .second, .val (.long v4), .second, .val (.long v6), .second, .val (.long v8), .second, .val (.long v10), .second, .val (.long v12), .second, .val (.ref b7), .unset, .unset] [(.long v8), (.long (v12 + v10))])) _
    refine XS.lload X0.here hx rfl (hb hby at_35) rfl  ?_
    show Steps p.tables e below (T0.setTop (mkF m 37 #[.val (.long v0), .second, .val (.long v2), .second, .val (.long v4), .second, .val (.long v6), .second, .val (.long v8), .second, .val (.long v10), .second, .val (.long v12), .second, .val (.ref b7), .unset, .unset] [(.long v6), (.long v8), (.long (v12 + v10))])) _
    refine XS.ladd X0.here hx rfl (hb hby at_37) rfl ?_
    show Steps p.tables e below (T0.setTop (mkF m 38 #[.val (.long v0), .second, .val (.long v2), .second, .val (.long v4), .second, .val (.long v6), .second, .val (.long v8), .second, .val (.long v10), .second, .val (.long v12), .second, .val (.ref b7), .unset, .unset] [(.long (v8 + v6)), (.long (v12 + v10))])) _
    refine XS.lload X0.here hx rfl (hb hby at_38) rfl  ?_
    show Steps p.tables e below (T0.setTop (mkF m 40 #[.val (.long v0), .second, .val (.long v2), .second, .val (.long v4), .second, .val (.long v6), .second, .val (.long v8), .second, .val (.long v10), .second, .val (.long v12), .second, .val (.ref b7), .unset, .unset] [(.long v4), (.long (v8 + v6)), (.long (v12 + v10))])) _
    refine XS.lloadN X0.here hx rfl (hb hby at_40) rfl  ?_
    show Steps p.tables e below (T0.setTop (mkF m 41 #[.val (.long v0), .second, .val (.long v2), .second, .val (.long v4), .second, .val (.long v6), .second, .val (.long v8), .second, .val (.long v10), .second, .val (.long v12), .second, .val (.ref b7), .unset, .unset] [(.long v2), (.long v4), (.long (v8 + v6)), (.long (v12 + v10))])) _
    refine XS.ladd X0.here hx rfl (hb hby at_41) rfl ?_
    show Steps p.tables e below (T0.setTop (mkF m 42 #[.val (.long v0), .second, .val (.long v2), .second, .val (.long v4), .second, .val (.long v6), .second, .val (.long v8), .second, .val (.long v10), .second, .val (.long v12), .second, .val (.ref b7), .unset, .unset] [(.long (v4 + v2)), (.long (v8 + v6)), (.long (v12 + v10))])) _
    refine XS.lloadN X0.here hx rfl (hb hby at_42) rfl  ?_
    show Steps p.tables e below (T0.setTop (mkF m 43 #[.val (.long v0), .second, .val (.long v2), .second, .val (.long v4), .second, .val (.long v6), .second, .val (.long v8), .second, .val (.long v10), .second, .val (.long v12), .second, .val (.ref b7), .unset, .unset] [(.long v0), (.long (v4 + v2)), (.long (v8 + v6)), (.long (v12 + v10))])) _
    refine XS.ladd X0.here hx rfl (hb hby at_43) rfl ?_
    show Steps p.tables e below (T0.setTop (mkF m 44 #[.val (.long v0), .second, .val (.long v2), .second, .val (.long v4), .second, .val (.long v6), .second, .val (.long v8), .second, .val (.long v10), .second, .val (.long v12), .second, .val (.ref b7), .unset, .unset] [(.long ((v4 + v2) + v0)), (.long (v8 + v6)), (.long (v12 + v10))])) _
    refine XS.ladd X0.here hx rfl (hb hby at_44) rfl ?_
    show Steps p.tables e below (T0.setTop (mkF m 45 #[.val (.long v0), .second, .val (.long v2), .second, .val (.long v4), .second, .val (.long v6), .second, .val (.long v8), .second, .val (.long v10), .second, .val (.long v12), .second, .val (.ref b7), .unset, .unset] [(.long ((v8 + v6) + ((v4 + v2) + v0))), (.long (v12 + v10))])) _
    refine XS.ladd X0.here hx rfl (hb hby at_45) rfl ?_
    show Steps p.tables e below (T0.setTop (mkF m 46 #[.val (.long v0), .second, .val (.long v2), .second, .val (.long v4), .second, .val (.long v6), .second, .val (.long v8), .second, .val (.long v10), .second, .val (.long v12), .second, .val (.ref b7), .unset, .unset] [(.long ((v12 + v10) + ((v8 + v6) + ((v4 + v2) + v0))))])) _
    refine XS.lstore X0.here hx rfl (hb hby at_46) rfl (l' := #[.val (.long v0), .second, .val (.long v2), .second, .val (.long v4), .second, .val (.long v6), .second, .val (.long v8), .second, .val (.long v10), .second, .val (.long v12), .second, .val (.ref b7), .val (.long ((v12 + v10) + ((v8 + v6) + ((v4 + v2) + v0)))), .second]) rfl ?_
    show Steps p.tables e below (T0.setTop (mkF m 48 #[.val (.long v0), .second, .val (.long v2), .second, .val (.long v4), .second, .val (.long v6), .second, .val (.long v8), .second, .val (.long v10), .second, .val (.long v12), .second, .val (.ref b7), .val (.long ((v12 + v10) + ((v8 + v6) + ((v4 + v2) + v0)))), .second] [])) _
    refine XS.aload X0.here hx rfl (hb hby at_48) rfl rfl ?_
    exact k
  -- pc 50: com/example/sittings/sittings/core/ItcTimetable$SoftPenalty.total
  obtain ⟨cq3, kq3, q3a, q3b, q3c⟩ := isOf hZ e0 E_b7
  obtain ⟨_, _, ⟨T3, L3, k3, n3⟩, -, X3, ⟨Lc3, hQ3, l3, y3, z3⟩, st3⟩ := X0.virtualBack hx (y := (⟨"com/example/sittings/sittings/core/ItcTimetable$SoftPenalty", "total", "()J"⟩ : MethodName)) (z := (⟨"com/example/sittings/sittings/core/ItcTimetable$SoftPenalty", "total", "()J"⟩ : MethodName)) hown (mvT hZ (hw _ (List.mem_of_getElem? (i := 28) rfl))) (mvT hZ (hw _ (List.mem_of_getElem? (i := 29) rfl))) (notFace_of_selects (args := #[]) (mvT hZ (hw _ (List.mem_of_getElem? (i := 31) rfl)))) (mvT hZ (hw _ (List.mem_of_getElem? (i := 31) rfl))) (mvT hZ (hw _ (List.mem_of_getElem? (i := 30) rfl))) (by decide) (backOf (W := 0) (rm4 l Z a0 hw [] b7 b7_twoInARow b7_twoInADay b7_periodSpread b7_mixedDurations b7_frontLoad b7_periodPenalty b7_roomPenalty h n0 Z0 E_b7 F_b7_twoInARow F_b7_twoInADay F_b7_periodSpread F_b7_mixedDurations F_b7_frontLoad F_b7_periodPenalty F_b7_roomPenalty) hZ (hw _ (List.mem_of_getElem? (i := 32) rfl)) (hw _ (List.mem_of_getElem? (i := 2) rfl)) (by decide) (by decide)) q3a q3c (g := (mkF m 50 #[.val (.long v0), .second, .val (.long v2), .second, .val (.long v4), .second, .val (.long v6), .second, .val (.long v8), .second, .val (.long v10), .second, .val (.long v12), .second, .val (.ref b7), .val (.long ((v12 + v10) + ((v8 + v6) + ((v4 + v2) + v0)))), .second] [(.ref b7)])) rfl (by rw [hml]; rfl) (Steps.refl _) (argsL := []) (rest := []) (lenOf pd_2 rfl) rfl (by show 2 * 0 + _ ≤ _; exact Nat.le_of_eq rfl) (hb hby at_50) (fun _ _ => ⟨rfl, e0, (by decide : 1 + R4.cells ≤ _), (by decide : 7 + R4.slots ≤ _)⟩)
  dsimp only [Pt.U, Pt.locs, Pt.cells, Pt.slots] at X3 l3 y3 z3 st3 hQ3
  subst l3 y3 z3
  obtain ⟨rfl, Nq3, e3⟩ := hQ3
  have N3 := Fr.app N0 Nq3
  refine Fin.by (B := T3.setTop (mkF m 53 #[.val (.long v0), .second, .val (.long v2), .second, .val (.long v4), .second, .val (.long v6), .second, .val (.long v8), .second, .val (.long v10), .second, .val (.long v12), .second, .val (.ref b7), .val (.long ((v12 + v10) + ((v8 + v6) + ((v4 + v2) + v0)))), .second] [(.long (f4_0 b7_twoInARow b7_twoInADay b7_periodSpread b7_mixedDurations b7_frontLoad b7_periodPenalty b7_roomPenalty))])) (fun t k => st3.trans k) ?_
  refine Fin.by (B := T3.setTop (mkF m 56 #[.val (.long v0), .second, .val (.long v2), .second, .val (.long v4), .second, .val (.long v6), .second, .val (.long v8), .second, .val (.long v10), .second, .val (.long v12), .second, .val (.ref b7), .val (.long ((v12 + v10) + ((v8 + v6) + ((v4 + v2) + v0)))), .second] [(.int (lcmpW (f4_0 b7_twoInARow b7_twoInADay b7_periodSpread b7_mixedDurations b7_frontLoad b7_periodPenalty b7_roomPenalty) ((v12 + v10) + ((v8 + v6) + ((v4 + v2) + v0)))))])) (fun t k => ?_) ?_
  · show Steps p.tables e below (T3.setTop (mkF m 53 #[.val (.long v0), .second, .val (.long v2), .second, .val (.long v4), .second, .val (.long v6), .second, .val (.long v8), .second, .val (.long v10), .second, .val (.long v12), .second, .val (.ref b7), .val (.long ((v12 + v10) + ((v8 + v6) + ((v4 + v2) + v0)))), .second] [(.long (f4_0 b7_twoInARow b7_twoInADay b7_periodSpread b7_mixedDurations b7_frontLoad b7_periodPenalty b7_roomPenalty))])) _
    refine XS.lload X3.here hx rfl (hb hby at_53) rfl  ?_
    show Steps p.tables e below (T3.setTop (mkF m 55 #[.val (.long v0), .second, .val (.long v2), .second, .val (.long v4), .second, .val (.long v6), .second, .val (.long v8), .second, .val (.long v10), .second, .val (.long v12), .second, .val (.ref b7), .val (.long ((v12 + v10) + ((v8 + v6) + ((v4 + v2) + v0)))), .second] [(.long ((v12 + v10) + ((v8 + v6) + ((v4 + v2) + v0)))), (.long (f4_0 b7_twoInARow b7_twoInADay b7_periodSpread b7_mixedDurations b7_frontLoad b7_periodPenalty b7_roomPenalty))])) _
    refine XS.lcmp X3.here hx rfl (hb hby at_55) rfl ?_
    exact k
  by_cases hc56 : (f4_0 b7_twoInARow b7_twoInADay b7_periodSpread b7_mixedDurations b7_frontLoad b7_periodPenalty b7_roomPenalty) = ((v12 + v10) + ((v8 + v6) + ((v4 + v2) + v0)))
  · rw [if_pos hc56] at hr
    refine Fin.by (B := T3.setTop (mkF m 59 #[.val (.long v0), .second, .val (.long v2), .second, .val (.long v4), .second, .val (.long v6), .second, .val (.long v8), .second, .val (.long v10), .second, .val (.long v12), .second, .val (.ref b7), .val (.long ((v12 + v10) + ((v8 + v6) + ((v4 + v2) + v0)))), .second] [])) (fun t k => ?_) ?_
    · show Steps p.tables e below (T3.setTop (mkF m 56 #[.val (.long v0), .second, .val (.long v2), .second, .val (.long v4), .second, .val (.long v6), .second, .val (.long v8), .second, .val (.long v10), .second, .val (.long v12), .second, .val (.ref b7), .val (.long ((v12 + v10) + ((v8 + v6) + ((v4 + v2) + v0)))), .second] [(.int (lcmpW (f4_0 b7_twoInARow b7_twoInADay b7_periodSpread b7_mixedDurations b7_frontLoad b7_periodPenalty b7_roomPenalty) ((v12 + v10) + ((v8 + v6) + ((v4 + v2) + v0)))))])) _
      exact XS.ifNo X3.here hx rfl (hb hby at_56) rfl ((if0 _ _).trans (teq ((lw_eq _ _).mpr hc56)).2) k
    refine Fin.by (B := T3.setTop (mkF m 64 #[.val (.long v0), .second, .val (.long v2), .second, .val (.long v4), .second, .val (.long v6), .second, .val (.long v8), .second, .val (.long v10), .second, .val (.long v12), .second, .val (.ref b7), .val (.long ((v12 + v10) + ((v8 + v6) + ((v4 + v2) + v0)))), .second] [(.int (1 : Int32))])) (fun t k => ?_) ?_
    · show Steps p.tables e below (T3.setTop (mkF m 59 #[.val (.long v0), .second, .val (.long v2), .second, .val (.long v4), .second, .val (.long v6), .second, .val (.long v8), .second, .val (.long v10), .second, .val (.long v12), .second, .val (.ref b7), .val (.long ((v12 + v10) + ((v8 + v6) + ((v4 + v2) + v0)))), .second] [])) _
      refine XS.iconst X3.here hx rfl (hb hby at_59) ?_
      show Steps p.tables e below (T3.setTop (mkF m 60 #[.val (.long v0), .second, .val (.long v2), .second, .val (.long v4), .second, .val (.long v6), .second, .val (.long v8), .second, .val (.long v10), .second, .val (.long v12), .second, .val (.ref b7), .val (.long ((v12 + v10) + ((v8 + v6) + ((v4 + v2) + v0)))), .second] [(.int (1 : Int32))])) _
      refine XS.goto X3.here hx rfl (pc0 := 60) (pc' := 64) rfl (hb hby at_60) (by decide) (by decide) ?_
      exact k
    subst hr
    exact own_retN X3 hx hlk (t := .boolean) hret (by simp) (hb hby at_64) (by decide) (by decide) ⟨rfl, N3⟩
  · rw [if_neg hc56] at hr
    refine Fin.by (B := T3.setTop (mkF m 63 #[.val (.long v0), .second, .val (.long v2), .second, .val (.long v4), .second, .val (.long v6), .second, .val (.long v8), .second, .val (.long v10), .second, .val (.long v12), .second, .val (.ref b7), .val (.long ((v12 + v10) + ((v8 + v6) + ((v4 + v2) + v0)))), .second] [])) (fun t k => ?_) ?_
    · show Steps p.tables e below (T3.setTop (mkF m 56 #[.val (.long v0), .second, .val (.long v2), .second, .val (.long v4), .second, .val (.long v6), .second, .val (.long v8), .second, .val (.long v10), .second, .val (.long v12), .second, .val (.ref b7), .val (.long ((v12 + v10) + ((v8 + v6) + ((v4 + v2) + v0)))), .second] [(.int (lcmpW (f4_0 b7_twoInARow b7_twoInADay b7_periodSpread b7_mixedDurations b7_frontLoad b7_periodPenalty b7_roomPenalty) ((v12 + v10) + ((v8 + v6) + ((v4 + v2) + v0)))))])) _
      exact XS.ifYes X3.here hx rfl (pc0 := 56) (pc' := 63) rfl (hb hby at_56) rfl ((if0 _ _).trans (feq (fun q => hc56 ((lw_eq _ _).mp q))).2) (by decide) (by decide) k
    refine Fin.by (B := T3.setTop (mkF m 64 #[.val (.long v0), .second, .val (.long v2), .second, .val (.long v4), .second, .val (.long v6), .second, .val (.long v8), .second, .val (.long v10), .second, .val (.long v12), .second, .val (.ref b7), .val (.long ((v12 + v10) + ((v8 + v6) + ((v4 + v2) + v0)))), .second] [(.int (0 : Int32))])) (fun t k => ?_) ?_
    · show Steps p.tables e below (T3.setTop (mkF m 63 #[.val (.long v0), .second, .val (.long v2), .second, .val (.long v4), .second, .val (.long v6), .second, .val (.long v8), .second, .val (.long v10), .second, .val (.long v12), .second, .val (.ref b7), .val (.long ((v12 + v10) + ((v8 + v6) + ((v4 + v2) + v0)))), .second] [])) _
      refine XS.iconst X3.here hx rfl (hb hby at_63) ?_
      exact k
    subst hr
    exact own_retN X3 hx hlk (t := .boolean) hret (by simp) (hb hby at_64) (by decide) (by decide) ⟨rfl, N3⟩
def f0_0 (v0 : Int64) (v2 : Int64) (v4 : Int64) (v6 : Int64) (v8 : Int64) (v10 : Int64) : Int32 := (f0_26 v0 v2 v4 v6 v8 v10 (v0 ^^^ ((v2.toUInt64 >>> ((3 : Int32) &&& 0x3f).toInt64.toUInt64).toInt64)) ((f1_0 v0 v2 v4 v6 v8 v10 (v0 ^^^ ((v2.toUInt64 >>> ((3 : Int32) &&& 0x3f).toInt64.toUInt64).toInt64)) (0 : Int64) (0 : Int64) (0 : Int64) (0 : Int64) (0 : Int64) (0 : Int64) (0 : Int64)).1) ((f1_0 v0 v2 v4 v6 v8 v10 (v0 ^^^ ((v2.toUInt64 >>> ((3 : Int32) &&& 0x3f).toInt64.toUInt64).toInt64)) (0 : Int64) (0 : Int64) (0 : Int64) (0 : Int64) (0 : Int64) (0 : Int64) (0 : Int64)).2.1) ((f1_0 v0 v2 v4 v6 v8 v10 (v0 ^^^ ((v2.toUInt64 >>> ((3 : Int32) &&& 0x3f).toInt64.toUInt64).toInt64)) (0 : Int64) (0 : Int64) (0 : Int64) (0 : Int64) (0 : Int64) (0 : Int64) (0 : Int64)).2.2.1) ((f1_0 v0 v2 v4 v6 v8 v10 (v0 ^^^ ((v2.toUInt64 >>> ((3 : Int32) &&& 0x3f).toInt64.toUInt64).toInt64)) (0 : Int64) (0 : Int64) (0 : Int64) (0 : Int64) (0 : Int64) (0 : Int64) (0 : Int64)).2.2.2.1) ((f1_0 v0 v2 v4 v6 v8 v10 (v0 ^^^ ((v2.toUInt64 >>> ((3 : Int32) &&& 0x3f).toInt64.toUInt64).toInt64)) (0 : Int64) (0 : Int64) (0 : Int64) (0 : Int64) (0 : Int64) (0 : Int64) (0 : Int64)).2.2.2.2.1) ((f1_0 v0 v2 v4 v6 v8 v10 (v0 ^^^ ((v2.toUInt64 >>> ((3 : Int32) &&& 0x3f).toInt64.toUInt64).toInt64)) (0 : Int64) (0 : Int64) (0 : Int64) (0 : Int64) (0 : Int64) (0 : Int64) (0 : Int64)).2.2.2.2.2.1) ((f1_0 v0 v2 v4 v6 v8 v10 (v0 ^^^ ((v2.toUInt64 >>> ((3 : Int32) &&& 0x3f).toInt64.toUInt64).toInt64)) (0 : Int64) (0 : Int64) (0 : Int64) (0 : Int64) (0 : Int64) (0 : Int64) (0 : Int64)).2.2.2.2.2.2))
set_option maxRecDepth 65536 in
set_option maxHeartbeats 40000000 in
theorem b0_0 {p : Program} {l : Launch} {e : Env} {s : State} {m : MethodId} {args : Array Value} {below : List Frame} {meth : Method} {c : Code} {Z : State} {a0 : Array Value} (B : Ctx p Z s a0 m meth c "com/example/sittings/sittings/core/SoftPenaltyTotalPinLaw" "law" code 17 (some .boolean)) {T0 : State} {locs : List Loc} {h : Heap} (h0 : Heap) (n0 : Nat) (v0 : Int64) (v2 : Int64) (v4 : Int64) (v6 : Int64) (v8 : Int64) (v10 : Int64) (X0 : Stand p l e room_1 s m args below meth c T0 locs 0 0) (e0 : T0.heap = h) (N0 : Fr n0 locs) (Z0 : n0 ≤ h.size) (r : Int32) (hr : f0_0 v0 v2 v4 v6 v8 v10 = r) :
    Fin p e below s 1 7 (Q0 n0 r) (T0.setTop (mkF m 0 #[.val (.long v0), .second, .val (.long v2), .second, .val (.long v4), .second, .val (.long v6), .second, .val (.long v8), .second, .val (.long v10), .second, .unset, .unset, .unset, .unset, .unset] [])) := by
  obtain ⟨hx, hZ, hw, hby, hml, hret, hown, hnm, hlk⟩ := B
  unfold f0_0 at hr
  refine Fin.by (B := T0.setTop (mkF m 7 #[.val (.long v0), .second, .val (.long v2), .second, .val (.long v4), .second, .val (.long v6), .second, .val (.long v8), .second, .val (.long v10), .second, .val (.long (v0 ^^^ ((v2.toUInt64 >>> ((3 : Int32) &&& 0x3f).toInt64.toUInt64).toInt64))), .second, .unset, .unset, .unset] [])) (fun t k => ?_) ?_
  · show Steps p.tables e below (T0.setTop (mkF m 0 #[.val (.long v0), .second, .val (.long v2), .second, .val (.long v4), .second, .val (.long v6), .second, .val (.long v8), .second, .val (.long v10), .second, .unset, .unset, .unset, .unset, .unset] [])) _
    refine XS.lloadN X0.here hx rfl (hb hby at_0) rfl  ?_
    show Steps p.tables e below (T0.setTop (mkF m 1 #[.val (.long v0), .second, .val (.long v2), .second, .val (.long v4), .second, .val (.long v6), .second, .val (.long v8), .second, .val (.long v10), .second, .unset, .unset, .unset, .unset, .unset] [(.long v0)])) _
    refine XS.lloadN X0.here hx rfl (hb hby at_1) rfl  ?_
    show Steps p.tables e below (T0.setTop (mkF m 2 #[.val (.long v0), .second, .val (.long v2), .second, .val (.long v4), .second, .val (.long v6), .second, .val (.long v8), .second, .val (.long v10), .second, .unset, .unset, .unset, .unset, .unset] [(.long v2), (.long v0)])) _
    refine XS.iconst X0.here hx rfl (hb hby at_2) ?_
    show Steps p.tables e below (T0.setTop (mkF m 3 #[.val (.long v0), .second, .val (.long v2), .second, .val (.long v4), .second, .val (.long v6), .second, .val (.long v8), .second, .val (.long v10), .second, .unset, .unset, .unset, .unset, .unset] [(.int (3 : Int32)), (.long v2), (.long v0)])) _
    refine XS.lushr X0.here hx rfl (hb hby at_3) rfl ?_
    show Steps p.tables e below (T0.setTop (mkF m 4 #[.val (.long v0), .second, .val (.long v2), .second, .val (.long v4), .second, .val (.long v6), .second, .val (.long v8), .second, .val (.long v10), .second, .unset, .unset, .unset, .unset, .unset] [(.long ((v2.toUInt64 >>> ((3 : Int32) &&& 0x3f).toInt64.toUInt64).toInt64)), (.long v0)])) _
    refine XS.lxor X0.here hx rfl (hb hby at_4) rfl ?_
    show Steps p.tables e below (T0.setTop (mkF m 5 #[.val (.long v0), .second, .val (.long v2), .second, .val (.long v4), .second, .val (.long v6), .second, .val (.long v8), .second, .val (.long v10), .second, .unset, .unset, .unset, .unset, .unset] [(.long (v0 ^^^ ((v2.toUInt64 >>> ((3 : Int32) &&& 0x3f).toInt64.toUInt64).toInt64)))])) _
    refine XS.lstore X0.here hx rfl (hb hby at_5) rfl (l' := #[.val (.long v0), .second, .val (.long v2), .second, .val (.long v4), .second, .val (.long v6), .second, .val (.long v8), .second, .val (.long v10), .second, .val (.long (v0 ^^^ ((v2.toUInt64 >>> ((3 : Int32) &&& 0x3f).toInt64.toUInt64).toInt64))), .second, .unset, .unset, .unset]) rfl ?_
    exact k
  obtain ⟨T1, h1, X1, e1, X1e, A1, D1, -, st1⟩ := newO X0 hx hZ hown (hw _ (List.mem_of_getElem? (i := 0) rfl)) (hw _ (List.mem_of_getElem? (i := 1) rfl)) (hw _ (List.mem_of_getElem? (i := 2) rfl)) e0 (g := (mkF m 7 #[.val (.long v0), .second, .val (.long v2), .second, .val (.long v4), .second, .val (.long v6), .second, .val (.long v8), .second, .val (.long v10), .second, .val (.long (v0 ^^^ ((v2.toUInt64 >>> ((3 : Int32) &&& 0x3f).toInt64.toUInt64).toInt64))), .second, .unset, .unset, .unset] [])) rfl (hb hby at_7) (by decide) (by decide)
  obtain ⟨b7, g1⟩ : ∃ z, z = h.size := ⟨_, rfl⟩
  rw [← g1] at A1 D1 st1
  have g_b7 : n0 ≤ b7 := Nat.le_trans Z0 (Nat.le_of_eq g1.symm)
  have Z1 : n0 ≤ h1.size := Nat.le_trans Z0 X1e.1
  have E_b7_1 := A1
  have F_b7_twoInARow_1 : Fld Z h1 b7 "com/example/sittings/sittings/core/ItcTimetable$SoftPenalty" "twoInARow" "J" (.long (0 : Int64)) := D1 (Or.inr (hw _ (List.mem_of_getElem? (i := 15) rfl))) (ty := .long) (by decide)
  have F_b7_twoInADay_1 : Fld Z h1 b7 "com/example/sittings/sittings/core/ItcTimetable$SoftPenalty" "twoInADay" "J" (.long (0 : Int64)) := D1 (Or.inr (hw _ (List.mem_of_getElem? (i := 17) rfl))) (ty := .long) (by decide)
  have F_b7_periodSpread_1 : Fld Z h1 b7 "com/example/sittings/sittings/core/ItcTimetable$SoftPenalty" "periodSpread" "J" (.long (0 : Int64)) := D1 (Or.inr (hw _ (List.mem_of_getElem? (i := 19) rfl))) (ty := .long) (by decide)
  have F_b7_mixedDurations_1 : Fld Z h1 b7 "com/example/sittings/sittings/core/ItcTimetable$SoftPenalty" "mixedDurations" "J" (.long (0 : Int64)) := D1 (Or.inr (hw _ (List.mem_of_getElem? (i := 21) rfl))) (ty := .long) (by decide)
  have F_b7_frontLoad_1 : Fld Z h1 b7 "com/example/sittings/sittings/core/ItcTimetable$SoftPenalty" "frontLoad" "J" (.long (0 : Int64)) := D1 (Or.inr (hw _ (List.mem_of_getElem? (i := 23) rfl))) (ty := .long) (by decide)
  have F_b7_periodPenalty_1 : Fld Z h1 b7 "com/example/sittings/sittings/core/ItcTimetable$SoftPenalty" "periodPenalty" "J" (.long (0 : Int64)) := D1 (Or.inr (hw _ (List.mem_of_getElem? (i := 25) rfl))) (ty := .long) (by decide)
  have F_b7_roomPenalty_1 : Fld Z h1 b7 "com/example/sittings/sittings/core/ItcTimetable$SoftPenalty" "roomPenalty" "J" (.long (0 : Int64)) := D1 (Or.inr (hw _ (List.mem_of_getElem? (i := 27) rfl))) (ty := .long) (by decide)
  refine Fin.by (B := T1.setTop (mkF m 10 #[.val (.long v0), .second, .val (.long v2), .second, .val (.long v4), .second, .val (.long v6), .second, .val (.long v8), .second, .val (.long v10), .second, .val (.long (v0 ^^^ ((v2.toUInt64 >>> ((3 : Int32) &&& 0x3f).toInt64.toUInt64).toInt64))), .second, .unset, .unset, .unset] [(.ref b7)])) (fun t k => st1 t k) ?_
  refine Fin.by (B := T1.setTop (mkF m 23 #[.val (.long v0), .second, .val (.long v2), .second, .val (.long v4), .second, .val (.long v6), .second, .val (.long v8), .second, .val (.long v10), .second, .val (.long (v0 ^^^ ((v2.toUInt64 >>> ((3 : Int32) &&& 0x3f).toInt64.toUInt64).toInt64))), .second, .unset, .unset, .unset] [(.long (v0 ^^^ ((v2.toUInt64 >>> ((3 : Int32) &&& 0x3f).toInt64.toUInt64).toInt64))), (.long v10), (.long v8), (.long v6), (.long v4), (.long v2), (.long v0), (.ref b7), (.ref b7)])) (fun t k => ?_) ?_
  · show Steps p.tables e below (T1.setTop (mkF m 10 #[.val (.long v0), .second, .val (.long v2), .second, .val (.long v4), .second, .val (.long v6), .second, .val (.long v8), .second, .val (.long v10), .second, .val (.long (v0 ^^^ ((v2.toUInt64 >>> ((3 : Int32) &&& 0x3f).toInt64.toUInt64).toInt64))), .second, .unset, .unset, .unset] [(.ref b7)])) _
    refine XS.dup X1.here hx rfl (hb hby at_10) rfl rfl ?_
    show Steps p.tables e below (T1.setTop (mkF m 11 #[.val (.long v0), .second, .val (.long v2), .second, .val (.long v4), .second, .val (.long v6), .second, .val (.long v8), .second, .val (.long v10), .second, .val (.long (v0 ^^^ ((v2.toUInt64 >>> ((3 : Int32) &&& 0x3f).toInt64.toUInt64).toInt64))), .second, .unset, .unset, .unset] [(.ref b7), (.ref b7)])) _
    refine XS.lloadN X1.here hx rfl (hb hby at_11) rfl  ?_
    show Steps p.tables e below (T1.setTop (mkF m 12 #[.val (.long v0), .second, .val (.long v2), .second, .val (.long v4), .second, .val (.long v6), .second, .val (.long v8), .second, .val (.long v10), .second, .val (.long (v0 ^^^ ((v2.toUInt64 >>> ((3 : Int32) &&& 0x3f).toInt64.toUInt64).toInt64))), .second, .unset, .unset, .unset] [(.long v0), (.ref b7), (.ref b7)])) _
    refine XS.lloadN X1.here hx rfl (hb hby at_12) rfl  ?_
    show Steps p.tables e below (T1.setTop (mkF m 13 #[.val (.long v0), .second, .val (.long v2), .second, .val (.long v4), .second, .val (.long v6), .second, .val (.long v8), .second, .val (.long v10), .second, .val (.long (v0 ^^^ ((v2.toUInt64 >>> ((3 : Int32) &&& 0x3f).toInt64.toUInt64).toInt64))), .second, .unset, .unset, .unset] [(.long v2), (.long v0), (.ref b7), (.ref b7)])) _
    refine XS.lload X1.here hx rfl (hb hby at_13) rfl  ?_
    show Steps p.tables e below (T1.setTop (mkF m 15 #[.val (.long v0), .second, .val (.long v2), .second, .val (.long v4), .second, .val (.long v6), .second, .val (.long v8), .second, .val (.long v10), .second, .val (.long (v0 ^^^ ((v2.toUInt64 >>> ((3 : Int32) &&& 0x3f).toInt64.toUInt64).toInt64))), .second, .unset, .unset, .unset] [(.long v4), (.long v2), (.long v0), (.ref b7), (.ref b7)])) _
    refine XS.lload X1.here hx rfl (hb hby at_15) rfl  ?_
    show Steps p.tables e below (T1.setTop (mkF m 17 #[.val (.long v0), .second, .val (.long v2), .second, .val (.long v4), .second, .val (.long v6), .second, .val (.long v8), .second, .val (.long v10), .second, .val (.long (v0 ^^^ ((v2.toUInt64 >>> ((3 : Int32) &&& 0x3f).toInt64.toUInt64).toInt64))), .second, .unset, .unset, .unset] [(.long v6), (.long v4), (.long v2), (.long v0), (.ref b7), (.ref b7)])) _
    refine XS.lload X1.here hx rfl (hb hby at_17) rfl  ?_
    show Steps p.tables e below (T1.setTop (mkF m 19 #[.val (.long v0), .second, .val (.long v2), .second, .val (.long v4), .second, .val (.long v6), .second, .val (.long v8), .second, .val (.long v10), .second, .val (.long (v0 ^^^ ((v2.toUInt64 >>> ((3 : Int32) &&& 0x3f).toInt64.toUInt64).toInt64))), .second, .unset, .unset, .unset] [(.long v8), (.long v6), (.long v4), (.long v2), (.long v0), (.ref b7), (.ref b7)])) _
    refine XS.lload X1.here hx rfl (hb hby at_19) rfl  ?_
    show Steps p.tables e below (T1.setTop (mkF m 21 #[.val (.long v0), .second, .val (.long v2), .second, .val (.long v4), .second, .val (.long v6), .second, .val (.long v8), .second, .val (.long v10), .second, .val (.long (v0 ^^^ ((v2.toUInt64 >>> ((3 : Int32) &&& 0x3f).toInt64.toUInt64).toInt64))), .second, .unset, .unset, .unset] [(.long v10), (.long v8), (.long v6), (.long v4), (.long v2), (.long v0), (.ref b7), (.ref b7)])) _
    refine XS.lload X1.here hx rfl (hb hby at_21) rfl  ?_
    exact k
  -- pc 23: com/example/sittings/sittings/core/ItcTimetable$SoftPenalty.<init>
  obtain ⟨_, _, ⟨T2, L2, k2, n2⟩, -, X2, ⟨Lc2, hQ2, l2, y2, z2⟩, st2⟩ := X1.specialBack hx (y := (⟨"com/example/sittings/sittings/core/ItcTimetable$SoftPenalty", "<init>", "(JJJJJJJ)V"⟩ : MethodName)) rfl hown (mvT hZ (hw _ (List.mem_of_getElem? (i := 3) rfl))) (mvT hZ (hw _ (List.mem_of_getElem? (i := 4) rfl))) (mvT hZ (hw _ (List.mem_of_getElem? (i := 5) rfl))) (by decide) (backOf (W := 1) (rm1 l Z a0 hw [] b7 v0 v2 v4 v6 v8 v10 (v0 ^^^ ((v2.toUInt64 >>> ((3 : Int32) &&& 0x3f).toInt64.toUInt64).toInt64)) (0 : Int64) (0 : Int64) (0 : Int64) (0 : Int64) (0 : Int64) (0 : Int64) (0 : Int64) h1 n0 Z1 E_b7_1 F_b7_twoInARow_1 F_b7_twoInADay_1 F_b7_periodSpread_1 F_b7_mixedDurations_1 F_b7_frontLoad_1 F_b7_periodPenalty_1 F_b7_roomPenalty_1 g_b7) hZ (hw _ (List.mem_of_getElem? (i := 5) rfl)) (hw _ (List.mem_of_getElem? (i := 2) rfl)) (by decide) (by decide)) (g := (mkF m 23 #[.val (.long v0), .second, .val (.long v2), .second, .val (.long v4), .second, .val (.long v6), .second, .val (.long v8), .second, .val (.long v10), .second, .val (.long (v0 ^^^ ((v2.toUInt64 >>> ((3 : Int32) &&& 0x3f).toInt64.toUInt64).toInt64))), .second, .unset, .unset, .unset] [(.long (v0 ^^^ ((v2.toUInt64 >>> ((3 : Int32) &&& 0x3f).toInt64.toUInt64).toInt64))), (.long v10), (.long v8), (.long v6), (.long v4), (.long v2), (.long v0), (.ref b7), (.ref b7)])) rfl (by rw [hml]; rfl) (Steps.refl _) (a := b7) (argsL := [(.long v0), (.long v2), (.long v4), (.long v6), (.long v8), (.long v10), (.long (v0 ^^^ ((v2.toUInt64 >>> ((3 : Int32) &&& 0x3f).toInt64.toUInt64).toInt64)))]) (rest := [(.ref b7)]) (lenOf pd_1 rfl) rfl (by show 2 * 0 + _ ≤ _; exact Nat.le_of_eq rfl) (hb hby at_23) (fun _ _ => ⟨rfl, e1, (by decide : 1 + R1.cells ≤ _), (by decide : 7 + R1.slots ≤ _)⟩)
  dsimp only [Pt.U, Pt.locs, Pt.cells, Pt.slots] at X2 l2 y2 z2 st2 hQ2
  subst l2 y2 z2
  obtain ⟨rfl, Nq2, Kq2, E_b7_2, F_b7_twoInARow_2, F_b7_twoInADay_2, F_b7_periodSpread_2, F_b7_mixedDurations_2, F_b7_frontLoad_2, F_b7_periodPenalty_2, F_b7_roomPenalty_2⟩ := hQ2
  obtain ⟨h2, e2⟩ : ∃ z, T2.heap = z := ⟨_, rfl⟩
  rw [e2] at Kq2 E_b7_2 F_b7_twoInARow_2 F_b7_twoInADay_2 F_b7_periodSpread_2 F_b7_mixedDurations_2 F_b7_frontLoad_2 F_b7_periodPenalty_2 F_b7_roomPenalty_2
  have N2 := Fr.app N0 Nq2
  have Z2 : n0 ≤ h2.size := Nat.le_trans Z1 Kq2.1
  refine Fin.by (B := T2.setTop (mkF m 26 #[.val (.long v0), .second, .val (.long v2), .second, .val (.long v4), .second, .val (.long v6), .second, .val (.long v8), .second, .val (.long v10), .second, .val (.long (v0 ^^^ ((v2.toUInt64 >>> ((3 : Int32) &&& 0x3f).toInt64.toUInt64).toInt64))), .second, .unset, .unset, .unset] [(.ref b7)])) (fun t k => st2.trans k) ?_
  exact b0_26 ⟨hx, hZ, hw, hby, hml, hret, hown, hnm, hlk⟩ h0 n0 v0 v2 v4 v6 v8 v10 (v0 ^^^ ((v2.toUInt64 >>> ((3 : Int32) &&& 0x3f).toInt64.toUInt64).toInt64)) b7 ((f1_0 v0 v2 v4 v6 v8 v10 (v0 ^^^ ((v2.toUInt64 >>> ((3 : Int32) &&& 0x3f).toInt64.toUInt64).toInt64)) (0 : Int64) (0 : Int64) (0 : Int64) (0 : Int64) (0 : Int64) (0 : Int64) (0 : Int64)).1) ((f1_0 v0 v2 v4 v6 v8 v10 (v0 ^^^ ((v2.toUInt64 >>> ((3 : Int32) &&& 0x3f).toInt64.toUInt64).toInt64)) (0 : Int64) (0 : Int64) (0 : Int64) (0 : Int64) (0 : Int64) (0 : Int64) (0 : Int64)).2.1) ((f1_0 v0 v2 v4 v6 v8 v10 (v0 ^^^ ((v2.toUInt64 >>> ((3 : Int32) &&& 0x3f).toInt64.toUInt64).toInt64)) (0 : Int64) (0 : Int64) (0 : Int64) (0 : Int64) (0 : Int64) (0 : Int64) (0 : Int64)).2.2.1) ((f1_0 v0 v2 v4 v6 v8 v10 (v0 ^^^ ((v2.toUInt64 >>> ((3 : Int32) &&& 0x3f).toInt64.toUInt64).toInt64)) (0 : Int64) (0 : Int64) (0 : Int64) (0 : Int64) (0 : Int64) (0 : Int64) (0 : Int64)).2.2.2.1) ((f1_0 v0 v2 v4 v6 v8 v10 (v0 ^^^ ((v2.toUInt64 >>> ((3 : Int32) &&& 0x3f).toInt64.toUInt64).toInt64)) (0 : Int64) (0 : Int64) (0 : Int64) (0 : Int64) (0 : Int64) (0 : Int64) (0 : Int64)).2.2.2.2.1) ((f1_0 v0 v2 v4 v6 v8 v10 (v0 ^^^ ((v2.toUInt64 >>> ((3 : Int32) &&& 0x3f).toInt64.toUInt64).toInt64)) (0 : Int64) (0 : Int64) (0 : Int64) (0 : Int64) (0 : Int64) (0 : Int64) (0 : Int64)).2.2.2.2.2.1) ((f1_0 v0 v2 v4 v6 v8 v10 (v0 ^^^ ((v2.toUInt64 >>> ((3 : Int32) &&& 0x3f).toInt64.toUInt64).toInt64)) (0 : Int64) (0 : Int64) (0 : Int64) (0 : Int64) (0 : Int64) (0 : Int64) (0 : Int64)).2.2.2.2.2.2) X2 e2 N2 Z2 E_b7_2 F_b7_twoInARow_2 F_b7_twoInADay_2 F_b7_periodSpread_2 F_b7_mixedDurations_2 F_b7_frontLoad_2 F_b7_periodPenalty_2 F_b7_roomPenalty_2 g_b7 _ hr
theorem ef_0 (m : MethodId) (v0 : Int64) (v2 : Int64) (v4 : Int64) (v6 : Int64) (v8 : Int64) (v10 : Int64) : entryFrame m #[(.long v0), (.long v2), (.long v4), (.long v6), (.long v8), (.long v10)] maxLocals = (mkF m 0 #[.val (.long v0), .second, .val (.long v2), .second, .val (.long v4), .second, .val (.long v6), .second, .val (.long v8), .second, .val (.long v10), .second, .unset, .unset, .unset, .unset, .unset] []) := by first | (simp [entryFrame, mkF, argsToLocals, Value.category, maxLocals]; done) | rfl
set_option maxRecDepth 65536 in
set_option maxHeartbeats 40000000 in
theorem rm0 (l : Launch) (Z : State) (a0 : Array Value) (hw : ∀ d ∈ tables_1, d.before a0 Z = true) (ws : List Jvm.Cond) (v0 : Int64) (v2 : Int64) (v4 : Int64) (v6 : Int64) (v8 : Int64) (v10 : Int64) (h0 : Heap) (n0 : Nat) (Z0 : n0 ≤ h0.size) :
    MetFree l x (head1 (Jvm.Cond.code x code maxLocals ret :: ws) room_1) (fun a U => a = #[(.long v0), (.long v2), (.long v4), (.long v6), (.long v8), (.long v10)] ∧ Z.Warmed39 U.vm ∧ U.heap = h0) (fun _ _ _ _ _ => True) (fun _ U o U' => ∃ v L, o = .returned v ∧ (Q0 n0 (f0_0 v0 v2 v4 v6 v8 v10)) v U'.heap L ∧ FrameEnd U o U' L 1 7) := by
  refine MetFree.of_bodySF (plainFor_of_name pn_0) hisR ?_
  intro p e s m args below meth c s₁ Bd hml0 hP hK
  obtain ⟨rfl, hZ, hh⟩ := hP
  have B : Ctx p Z s a0 m meth c "com/example/sittings/sittings/core/SoftPenaltyTotalPinLaw" "law" code 17 (some .boolean) := ⟨Bd.exec, hZ, hw, Bd.bytes, hml0, Bd.returns, findClass_of_methodNamed Bd.named, (name_of_methodNamed Bd.named Bd.method).1, Bd.notSynchronized⟩
  have X0 : Stand p l e room_1 s m #[(.long v0), (.long v2), (.long v4), (.long v6), (.long v8), (.long v10)] below meth c s₁ [] 0 0 := Stand.of_body Bd
  have e0 : s₁.heap = h0 := by rw [← hh, Bd.state]; rfl
  have K := Keep.refl h0 []
  show Fin p e below s 1 7 (Q0 n0 (f0_0 v0 v2 v4 v6 v8 v10)) (s₁.setTop (entryFrame m #[(.long v0), (.long v2), (.long v4), (.long v6), (.long v8), (.long v10)] maxLocals))
  refine Fin.by (fun t k => castTop (ef_0 m v0 v2 v4 v6 v8 v10) k) ?_
  exact b0_0 B h0 n0 v0 v2 v4 v6 v8 v10 X0 e0 (Fr.nil n0) Z0  _ rfl

theorem own_law (a b c d e f : Int64) : f0_0 a b c d e f = 1 := by
  unfold f0_0
  generalize (a ^^^ ((b.toUInt64 >>> ((3 : Int32) &&& 0x3f).toInt64.toUInt64).toInt64)) = g
  show f0_26 a b c d e f g a b c d e f g = 1
  unfold f0_26
  rw [if_pos]
  show a + b + c + d + e + f + g = g + f + (e + d + (c + b + a))
  ac_rfl

set_option maxRecDepth 65536 in
set_option maxHeartbeats 40000000 in
theorem comes_1 {Post : Tables → Env → Array Value → State → Outcome → State → Prop} (hpost : ∀ tb e args s v u, (limb_1_1.after args s (.returned v) u = true ∧ limb_1_2.after args s (.returned v) u = true ∧ True) → FrameEnd s (.returned v) u (Jvm.fieldLocs frame_1_writes args s ++ Jvm.arrayLocs frame_1_arrays args s ++ Jvm.staticLocs frame_1_statics s) 16 128 → Post tb e args s (.returned v) u) :
    ArmFor flags0 classFile x code maxLocals ret World_1 tables_1 room_1 Calls_1 rest_1 Pre_1 Post := by
  intro l hfl _ _ p e ha hc hk s m args below hf hA hF happ hP
  obtain ⟨hcalls, hrest, hpre⟩ := hP
  obtain ⟨-, -, -, hnamed, -, -, -, hat⟩ := (Spec.applies_iff hf).mp happ
  obtain ⟨hg, hn⟩ := and_e (Cond.before_iff.mp (show (Jvm.Cond.and given_1 narrow_1).before args s = true from hpre))
  obtain ⟨gg1, gg2⟩ := and_e hg
  obtain ⟨gg3, gg4⟩ := and_e gg2
  obtain ⟨gg5, gg6⟩ := and_e gg4
  obtain ⟨gg7, gg8⟩ := and_e gg6
  obtain ⟨gg9, gg10⟩ := and_e gg8
  obtain ⟨gg11, gg12⟩ := and_e gg10
  obtain ⟨w0, w1, w2, w3, w4, w5, rfl⟩ : ∃ w0 w1 w2 w3 w4 w5 : Value, args = #[w0, w1, w2, w3, w4, w5] := by
    have hs : args.size = 6 := by simpa [Cond.value, given_1] using gg1
    obtain ⟨L⟩ := args
    match L, hs with
    | [w0, w1, w2, w3, w4, w5], _ => exact ⟨w0, w1, w2, w3, w4, w5, rfl⟩
  have hw := fun d (hd : d ∈ tables_1) => atoms_spec (ws := Jvm.Cond.code x code maxLocals ret :: tables_1) hat d (List.mem_cons_of_mem _ hd)
  have hfit : Fit s := fun {y c} hc i hi => by
    obtain ⟨ha, rfl⟩ := Array.getElem?_eq_some_iff.mp hc
    have q := List.all_eq_true.mp ((Array.all_eq_true_iff_forall_mem.mp hF) _ (Array.getElem_mem ha)) i (List.mem_range.mpr hi)
    simpa [Array.getElem?_eq_getElem hi] using q
  obtain ⟨i0, ei0⟩ := isL_v gg3
  obtain rfl : w0 = (.long i0) := Option.some.inj ei0
  obtain ⟨i1, ei1⟩ := isL_v gg5
  obtain rfl : w1 = (.long i1) := Option.some.inj ei1
  obtain ⟨i2, ei2⟩ := isL_v gg7
  obtain rfl : w2 = (.long i2) := Option.some.inj ei2
  obtain ⟨i3, ei3⟩ := isL_v gg9
  obtain rfl : w3 = (.long i3) := Option.some.inj ei3
  obtain ⟨i4, ei4⟩ := isL_v gg11
  obtain rfl : w4 = (.long i4) := Option.some.inj ei4
  obtain ⟨i5, ei5⟩ := isL_v gg12
  obtain rfl : w5 = (.long i5) := Option.some.inj ei5
  obtain ⟨n, o, h1, h2, h3, _, L, rfl, ⟨rfl, N⟩, hq⟩ := rm0 l s _ hw tables_1 i0 i1 i2 i3 i4 i5 s.heap s.heap.size (Nat.le_refl _)  p e ha hc hk s m _ below hf ((Spec.applies_iff_loose hf).mp happ).1 ⟨rfl, State.Warmed39.refl s, rfl⟩ trivial
  refine ⟨n, _, h1, h2, h3, hpost _ _ _ _ _ _ ⟨Cond.after_iff.mpr rfl, Cond.after_iff.mpr (eq_i res_at (Term.int_eval (1)) (congrArg Value.int (own_law i0 i1 i2 i3 i4 i5))), trivial⟩ ⟨hq.1, hq.2.1, (hq.2.2.sift fun y hy => Or.inr (N y hy)).mono (by decide) (by decide)⟩⟩
theorem main_1_1 : Claimed_1_1 := comes_1 fun _ _ _ _ _ _ h hF => ⟨h.1, hF⟩
theorem main_1_2 : Claimed_1_2 := comes_1 fun _ _ _ _ _ _ h hF => ⟨h.2.1, hF⟩
end Jvm.Pilot.@@N@@
namespace Jvm.Pilot.@@N@@
open Jvm Jvm.ClassFile Sem Op Lib Jvm.Free Jvm.Stand Jvm.Pilot.@@N@@.Jvm.D
/-! MADE BY PROGRAM (witnessworld.py) out of the Statement's table words and the real class files: 10 classes; the members and pool entries that the words name. The judged class is class 1, her method 1. -/
namespace start1
open Jvm.ClassFile
def u (s : String) : CpInfo := .utf8 (stringToUtf16 s)
/-- a pool by its gaps: so many unusable entries, then the entry; so many at the end -/
def gap : Nat → List CpInfo → List CpInfo
  | 0, r => r
  | n + 1, r => .unusable :: gap n r
def poolList (es : List (Nat × CpInfo)) (last : Nat) : List CpInfo := es.foldr (fun e r => gap e.1 (e.2 :: r)) (gap last [])
def pool (es : List (Nat × CpInfo)) (last : Nat) : Array CpInfo := ⟨poolList es last⟩
def fileOf (pool : Array CpInfo) (this : Nat) (attrs : Array Attribute := #[]) (ms : Array MethodInfo := #[]) (fl : Nat := 33) (sup : Nat := 0) (ifs : Array Nat := #[]) (fds : Array FieldInfo := #[]) : ClassFile where
  minorVersion := 0
  majorVersion := 65
  constantPool := pool
  accessFlags := fl
  thisClass := this
  superClass := sup
  interfaces := ifs
  fields := fds
  methods := ms
  attributes := attrs
def plain (name : String) (sup : Option ClassId) : Class where
  name := name
  kind := .ordinary
  loader := none
  accessFlags := 33
  super := sup
  interfaces := #[]
  cf := none
  fields := #[]
  methods := #[]
  instanceTypes := #[]
  staticTypes := #[]
  resolved := #[]
  callSites := []
  init := .initialized
  statics := none
  mirror := none

def pool0 : Array CpInfo := pool [(5, u "<init>"), (0, u "()V"), (1, .class_ 10), (1, u "java/lang/Object")] 113

def k0c0 : Code := { maxStack := 0, maxLocals := 1, code := object_method_1_code, exceptionTable := #[], attributes := #[] }
def k0m0 : Method := { name := "<init>", desc := "()V", sig := { parameters := [], returnType := none }, accessFlags := 1, code := some k0c0 }
/-- java/lang/Object -/
def k0 : Class := { plain "java/lang/Object" none with
  accessFlags := 33
  interfaces := #[]
  cf := some (fileOf pool0 8 #[] #[{ accessFlags := 1, nameIndex := 5, descriptorIndex := 6, attributes := #[] }] 33 0 #[] #[])
  fields := #[]
  methods := #[k0m0]
  instanceTypes := #[]
  staticTypes := #[]
  resolved := Array.replicate 124 none
  statics := none }

def pool1 : Array CpInfo := pool [(2, .class_ 4), (1, u "java/lang/Object"), (0, u "<init>"), (0, u "()V"), (0, .class_ 8), (0, u "com/example/sittings/sittings/core/ItcTimetable$SoftPenalty"), (0, .methodref 7 10), (0, .nameAndType 5 11), (0, u "(JJJJJJJ)V"), (0, .methodref 7 13), (0, .nameAndType 14 15), (0, u "total"), (0, u "()J"), (0, .class_ 17), (0, u "com/example/sittings/sittings/core/SoftPenaltyTotalPinLaw"), (2, u "law"), (0, u "(JJJJJJ)Z")] 7

def k1m0 : Method := { name := "<init>", desc := "()V", sig := { parameters := [], returnType := none }, accessFlags := 2, code := none }
def k1c1 : Code := { maxStack := 16, maxLocals := 17, code := code, exceptionTable := #[], attributes := #[] }
def k1m1 : Method := { name := "law", desc := "(JJJJJJ)Z", sig := { parameters := [.long, .long, .long, .long, .long, .long], returnType := some .boolean }, accessFlags := 9, code := some k1c1 }
/-- com/example/sittings/sittings/core/SoftPenaltyTotalPinLaw -/
def k1 : Class := { plain "com/example/sittings/sittings/core/SoftPenaltyTotalPinLaw" (some 0) with
  accessFlags := 49
  interfaces := #[]
  cf := some (fileOf pool1 16 #[] #[{ accessFlags := 2, nameIndex := 5, descriptorIndex := 6, attributes := #[] }, { accessFlags := 9, nameIndex := 20, descriptorIndex := 21, attributes := #[] }] 49 2 #[] #[])
  fields := #[]
  methods := #[k1m0, k1m1]
  instanceTypes := #[]
  staticTypes := #[]
  resolved := Array.replicate 29 none
  statics := none }

def pool2 : Array CpInfo := pool [(1, .methodref 2 3), (0, .class_ 4), (0, .nameAndType 5 6), (0, u "java/lang/Object"), (0, u "<init>"), (0, u "()V"), (0, .class_ 8), (0, u "java/lang/Record")] 13

def k2c0 : Code := { maxStack := 1, maxLocals := 1, code := jdk_30_method_1_code, exceptionTable := #[], attributes := #[] }
def k2m0 : Method := { name := "<init>", desc := "()V", sig := { parameters := [], returnType := none }, accessFlags := 4, code := some k2c0 }
/-- java/lang/Record -/
def k2 : Class := { plain "java/lang/Record" (some 0) with
  accessFlags := 1057
  interfaces := #[]
  cf := some (fileOf pool2 7 #[] #[{ accessFlags := 4, nameIndex := 5, descriptorIndex := 6, attributes := #[] }] 1057 2 #[] #[])
  fields := #[]
  methods := #[k2m0]
  instanceTypes := #[]
  staticTypes := #[]
  resolved := Array.replicate 22 none
  statics := none }

def pool3 : Array CpInfo := pool [(1, .methodref 2 3), (0, .class_ 4), (0, .nameAndType 5 6), (0, u "java/lang/Record"), (0, u "<init>"), (0, u "()V"), (0, .fieldref 8 9), (0, .class_ 10), (0, .nameAndType 11 12), (0, u "com/example/sittings/sittings/core/ItcTimetable$SoftPenalty"), (0, u "twoInARow"), (0, u "J"), (0, .fieldref 8 14), (0, .nameAndType 15 12), (0, u "twoInADay"), (0, .fieldref 8 17), (0, .nameAndType 18 12), (0, u "periodSpread"), (0, .fieldref 8 20), (0, .nameAndType 21 12), (0, u "mixedDurations"), (0, .fieldref 8 23), (0, .nameAndType 24 12), (0, u "frontLoad"), (0, .fieldref 8 26), (0, .nameAndType 27 12), (0, u "periodPenalty"), (0, .fieldref 8 29), (0, .nameAndType 30 12), (0, u "roomPenalty"), (12, u "(JJJJJJJ)V"), (3, u "total"), (0, u "()J"), (6, .class_ 56), (0, u "com/example/sittings/sittings/core/ItcTimetable")] 25

def k3c0 : Code := { maxStack := 3, maxLocals := 15, code := prog_30_method_1_code, exceptionTable := #[], attributes := #[] }
def k3m0 : Method := { name := "<init>", desc := "(JJJJJJJ)V", sig := { parameters := [.long, .long, .long, .long, .long, .long, .long], returnType := none }, accessFlags := 1, code := some k3c0 }
def k3c1 : Code := { maxStack := 4, maxLocals := 1, code := prog_30_method_2_code, exceptionTable := #[], attributes := #[] }
def k3m1 : Method := { name := "total", desc := "()J", sig := { parameters := [], returnType := some .long }, accessFlags := 1, code := some k3c1 }
/-- com/example/sittings/sittings/core/ItcTimetable$SoftPenalty -/
def k3 : Class := { plain "com/example/sittings/sittings/core/ItcTimetable$SoftPenalty" (some 2) with
  accessFlags := 49
  interfaces := #[]
  cf := some (fileOf pool3 8 #[.nestHost 55] #[{ accessFlags := 1, nameIndex := 5, descriptorIndex := 43, attributes := #[] }, { accessFlags := 1, nameIndex := 47, descriptorIndex := 48, attributes := #[] }] 49 2 #[] #[{ accessFlags := 18, nameIndex := 11, descriptorIndex := 12, attributes := #[] }, { accessFlags := 18, nameIndex := 15, descriptorIndex := 12, attributes := #[] }, { accessFlags := 18, nameIndex := 18, descriptorIndex := 12, attributes := #[] }, { accessFlags := 18, nameIndex := 21, descriptorIndex := 12, attributes := #[] }, { accessFlags := 18, nameIndex := 24, descriptorIndex := 12, attributes := #[] }, { accessFlags := 18, nameIndex := 27, descriptorIndex := 12, attributes := #[] }, { accessFlags := 18, nameIndex := 30, descriptorIndex := 12, attributes := #[] }])
  fields := #[{ name := "twoInARow", type := .long, accessFlags := 18, slot := 0, constantValue := 0 }, { name := "twoInADay", type := .long, accessFlags := 18, slot := 1, constantValue := 0 }, { name := "periodSpread", type := .long, accessFlags := 18, slot := 2, constantValue := 0 }, { name := "mixedDurations", type := .long, accessFlags := 18, slot := 3, constantValue := 0 }, { name := "frontLoad", type := .long, accessFlags := 18, slot := 4, constantValue := 0 }, { name := "periodPenalty", type := .long, accessFlags := 18, slot := 5, constantValue := 0 }, { name := "roomPenalty", type := .long, accessFlags := 18, slot := 6, constantValue := 0 }]
  methods := #[k3m0, k3m1]
  instanceTypes := #[.long, .long, .long, .long, .long, .long, .long]
  staticTypes := #[]
  resolved := Array.replicate 82 none
  statics := none }

def pool4 : Array CpInfo := pool [(1, u "java/lang/Cloneable"), (0, .class_ 1), (0, u "java/lang/Object"), (0, .class_ 3)] 3

/-- java/lang/Cloneable -/
def k4 : Class := { plain "java/lang/Cloneable" (some 0) with
  accessFlags := 1537
  interfaces := #[]
  cf := some (fileOf pool4 2 #[] #[] 1537 4 #[] #[])
  fields := #[]
  methods := #[]
  instanceTypes := #[]
  staticTypes := #[]
  resolved := Array.replicate 8 none
  statics := none }

def pool5 : Array CpInfo := pool [(1, u "java/io/Serializable"), (0, .class_ 1), (0, u "java/lang/Object"), (0, .class_ 3)] 3

/-- java/io/Serializable -/
def k5 : Class := { plain "java/io/Serializable" (some 0) with
  accessFlags := 1537
  interfaces := #[]
  cf := some (fileOf pool5 2 #[] #[] 1537 4 #[] #[])
  fields := #[]
  methods := #[]
  instanceTypes := #[]
  staticTypes := #[]
  resolved := Array.replicate 8 none
  statics := none }

/-- the primitive byte -/
def k6 : Class := { plain "byte" none with kind := .primitive 'B', accessFlags := 0x411 }
/-- [B -/
def k7 : Class := { plain "[B" (some 0) with kind := .array 6 .byte, interfaces := #[4, 5], accessFlags := 1041 }

/-- the primitive int -/
def k8 : Class := { plain "int" none with kind := .primitive 'I', accessFlags := 0x411 }
/-- [I -/
def k9 : Class := { plain "[I" (some 0) with kind := .array 8 .int, interfaces := #[4, 5], accessFlags := 1041 }

def heap : Heap := #[]
def classes : Array Class := #[k0, k1, k2, k3, k4, k5, k6, k7, k8, k9]
def interned : List (Array UInt16 × Addr) := []
def slotsUsed : Nat := 0
def theMethod : MethodId := ⟨1, 1⟩
def args0 : Array Value := #[.long 1, .long 2, .long 3, .long 4, .long 5, .long 6]
def aboutOver (below : List Frame) : State where
  vm := { classes := classes, interned := interned.toArray }
  heap := heap
  slotsUsed := slotsUsed
  threads := #[{ frames := .invoking theMethod args0 :: below }]
def below0 : List Frame := [.native { method := ⟨0, 0⟩, args := #[] }]
def about1 : State := aboutOver below0
def p0 : Program := .bare "" "" ""
def e0 : Env := launch0.env 0 0 0
theorem w_frames : about1.frames = Frame.invoking theMethod args0 :: below0 := rfl
set_option maxRecDepth 65536 in
theorem w_args : argsFit about1.vm theMethod args0 = true := by decide +kernel
set_option maxRecDepth 65536 in
theorem w_heap : heapFits about1 = true := by decide +kernel
set_option maxRecDepth 65536 in
theorem w_runnable : about1.curStatus? = some .runnable := by decide +kernel
set_option maxRecDepth 65536 in
theorem w_alone : about1.alone = true := by decide +kernel
set_option maxRecDepth 65536 in
theorem w_named : about1.methodNamed? x = some theMethod := by decide +kernel
set_option maxRecDepth 65536 in
theorem w_hears : about1.hears theMethod below0 = true := by decide +kernel
set_option maxRecDepth 65536 in
theorem w_ripe : about1.ripe theMethod args0 below0 = true := by decide +kernel
theorem w_running : about1.status = .running := rfl
set_option maxRecDepth 65536 in
theorem w_room : about1.hasRoom e0.platform room_1 = true :=
  launch0.hasRoom_least _ room_1 (by decide +kernel) (by decide +kernel) (by decide +kernel) (by decide +kernel) (by decide +kernel) (by decide +kernel)
theorem allAtoms_all (ts : List Jvm.Cond) (a : Array Jvm.Value) (st : Jvm.State) : (allAtoms ts).before a st = ts.all (fun c => c.before a st) := by
  induction ts with
  | nil => rfl
  | cons c t ih =>
    show (Jvm.Cond.and c (allAtoms t)).before a st = _
    rw [Jvm.Cond.before_and, ih, List.all_cons]
def words1 : List Jvm.Cond := Jvm.Cond.code x code maxLocals ret :: tables_1
/-- a 'code' word, met by the world's own term for the bytes: nothing is compared byte by byte -/
theorem code_word {y : MethodName} {bytes : ByteArray} {mx : Nat} {rt : Option FieldType} {a : Array Value} {s : State} {m : MethodId} {meth : Method} {c : Code} (h1 : s.methodNamed? y = some m) (h2 : s.vm.method? m = some meth) (h3 : meth.code = some c) (h4 : c.code = bytes)
    (h5 : (c.maxLocals == mx && c.exceptionTable.isEmpty && decide (c.maxStack ≤ mostOperands) && decide (meth.sig.returnType = rt) && !meth.locks && decide (parseMethodDescriptor y.desc = some meth.sig)) = true) : (Jvm.Cond.code y bytes mx rt).before a s = true := by
  simp only [Bool.and_eq_true, beq_iff_eq, Bool.not_eq_true', decide_eq_true_eq] at h5
  obtain ⟨⟨⟨⟨⟨g1, g2⟩, g3⟩, g4⟩, g5⟩, g6⟩ := h5
  simp [Cond.before, Cond.holds, Cond.value, h1, h2, h3, h4, g1, g2, g3, g4, g5, g6]
def isCode : Jvm.Cond → Bool
  | .code _ _ _ _ => true
  | _ => false
theorem all_split {L : List Jvm.Cond} {P : Jvm.Cond → Bool} (h1 : L.all (fun c => isCode c || P c) = true) (h2 : ∀ c ∈ L.filter isCode, P c = true) : L.all P = true := by
  refine List.all_eq_true.mpr fun c hc => ?_
  have h := List.all_eq_true.mp h1 c hc
  rcases Bool.eq_false_or_eq_true (isCode c) with hi | hi
  · exact h2 c (List.mem_filter.mpr ⟨hc, hi⟩)
  · simpa [hi] using h
set_option maxRecDepth 65536 in
theorem w_c0 : (Jvm.Cond.code x code maxLocals ret).before args0 about1 = true := code_word (m := ⟨1, 1⟩) (meth := k1m1) (c := k1c1) (by decide +kernel) rfl rfl rfl (by decide +kernel)
set_option maxRecDepth 65536 in
theorem w_c1 : (Jvm.Cond.code ({ cls := "com/example/sittings/sittings/core/ItcTimetable$SoftPenalty", name := "<init>", desc := "(JJJJJJJ)V" } : Jvm.MethodName) prog_30_method_1_code (15 : Nat) (Option.none : Option Jvm.ClassFile.FieldType)).before args0 about1 = true := code_word (m := ⟨3, 0⟩) (meth := k3m0) (c := k3c0) (by decide +kernel) rfl rfl rfl (by decide +kernel)
set_option maxRecDepth 65536 in
theorem w_c2 : (Jvm.Cond.code ({ cls := "java/lang/Record", name := "<init>", desc := "()V" } : Jvm.MethodName) jdk_30_method_1_code (1 : Nat) (Option.none : Option Jvm.ClassFile.FieldType)).before args0 about1 = true := code_word (m := ⟨2, 0⟩) (meth := k2m0) (c := k2c0) (by decide +kernel) rfl rfl rfl (by decide +kernel)
set_option maxRecDepth 65536 in
theorem w_c3 : (Jvm.Cond.code ({ cls := "java/lang/Object", name := "<init>", desc := "()V" } : Jvm.MethodName) object_method_1_code (1 : Nat) (Option.none : Option Jvm.ClassFile.FieldType)).before args0 about1 = true := code_word (m := ⟨0, 0⟩) (meth := k0m0) (c := k0c0) (by decide +kernel) rfl rfl rfl (by decide +kernel)
set_option maxRecDepth 65536 in
theorem w_c4 : (Jvm.Cond.code ({ cls := "com/example/sittings/sittings/core/ItcTimetable$SoftPenalty", name := "total", desc := "()J" } : Jvm.MethodName) prog_30_method_2_code (1 : Nat) (Option.some Jvm.ClassFile.FieldType.long)).before args0 about1 = true := code_word (m := ⟨3, 1⟩) (meth := k3m1) (c := k3c1) (by decide +kernel) rfl rfl rfl (by decide +kernel)
def codes1 : List Jvm.Cond := [Jvm.Cond.code x code maxLocals ret, Jvm.Cond.code ({ cls := "com/example/sittings/sittings/core/ItcTimetable$SoftPenalty", name := "<init>", desc := "(JJJJJJJ)V" } : Jvm.MethodName) prog_30_method_1_code (15 : Nat) (Option.none : Option Jvm.ClassFile.FieldType), Jvm.Cond.code ({ cls := "java/lang/Record", name := "<init>", desc := "()V" } : Jvm.MethodName) jdk_30_method_1_code (1 : Nat) (Option.none : Option Jvm.ClassFile.FieldType), Jvm.Cond.code ({ cls := "java/lang/Object", name := "<init>", desc := "()V" } : Jvm.MethodName) object_method_1_code (1 : Nat) (Option.none : Option Jvm.ClassFile.FieldType), Jvm.Cond.code ({ cls := "com/example/sittings/sittings/core/ItcTimetable$SoftPenalty", name := "total", desc := "()J" } : Jvm.MethodName) prog_30_method_2_code (1 : Nat) (Option.some Jvm.ClassFile.FieldType.long)]
set_option maxRecDepth 65536 in
theorem codes_eq : words1.filter isCode = codes1 := rfl
theorem w_codes : ∀ c ∈ words1.filter isCode, c.before args0 about1 = true := by
  rw [codes_eq]
  intro c hc
  simp only [codes1, List.mem_cons, List.not_mem_nil, or_false] at hc
  rcases hc with rfl | rfl | rfl | rfl | rfl
  · exact w_c0
  · exact w_c1
  · exact w_c2
  · exact w_c3
  · exact w_c4
set_option maxRecDepth 65536 in
theorem w_t1 : (words1.take 24).all (fun c => isCode c || c.before args0 about1) = true := by decide +kernel
set_option maxRecDepth 65536 in
theorem w_t2 : (words1.drop 24).all (fun c => isCode c || c.before args0 about1) = true := by decide +kernel
theorem w_tables : (allAtoms (Jvm.Cond.code x code maxLocals ret :: tables_1)).before args0 about1 = true := by
  rw [allAtoms_all]
  show words1.all (fun c => c.before args0 about1) = true
  refine all_split ?_ w_codes
  rw [← List.take_append_drop 24 words1, List.all_append, w_t1, w_t2]
  rfl
set_option maxRecDepth 65536 in
theorem w_case : (Jvm.Cond.and given_1 narrow_1).before args0 about1 = true := by decide +kernel
theorem w_applies : (headSpec (Jvm.Cond.code x code maxLocals ret :: tables_1) room_1).applies x e0.platform about1 = true :=
  (Spec.applies_iff w_frames).mpr ⟨w_running, w_runnable, w_alone, w_named, w_hears, w_ripe, w_room, w_tables⟩
theorem atStart : AtStart classFile x code maxLocals ret World_1 tables_1 room_1 Calls_1 rest_1 Pre_1 launch0 p0 e0 about1 theMethod args0 below0 :=
  ⟨lists_1, trivial, launch0.admits_env _ _ _, launch0.least_env, fairChoices_fair.cas, fairChoices_fair.clock, w_frames, w_args, w_heap, w_applies, trivial, trivial, w_case⟩
end start1
theorem witness_1 : WitnessClaimed_1 := ⟨start1.p0, start1.e0, start1.about1, start1.theMethod, start1.args0, start1.below0, start1.atStart⟩
end Jvm.Pilot.@@N@@
