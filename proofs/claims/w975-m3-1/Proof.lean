import JvmDerived
import JvmDerived.Pilot.@@N@@Statement
import JvmDerived.Pilot.@@N@@Code
set_option linter.unusedVariables false
set_option linter.unusedSimpArgs false
namespace Jvm.RoadKit
open Sem ClassFile Op Lib Jvm.Stand Jvm.Free Jvm.LawKit
section New
variable {p : Program} {l : Launch} {e : Env} {R : Room} {s : State} {m : MethodId} {args : Array Value} {below : List Frame} {meth : Method} {c : Code} {T : State} {locs : List Loc} {cells slots : Nat}
theorem retI (X : Stand p l e R s m args below meth c T locs cells slots) (hx : p.tables.exec = Jvm.exec) {pc : Nat} {Ls : Array Slot} {z : Int32} {rest : List Value} (hret : meth.sig.returnType = some .int) (hd : decode c.code pc = .ok (.ireturn, 1)) {fs : List Frame}
    (hl : ∀ (f : JFrame) (acts : List Action), f.method = m → f.locked = none → f.entered = [] → (doReturn e (T.setTop f) acts (some (.int z))).1 = T.setFrames fs) : Steps p.tables e below (T.setTop (mkF m pc Ls (.int z :: rest))) (T.setFrames fs) := by
  have hm' : T.vm.method? m = some meth := X.method'
  have hn : narrow .int (.int z) = .int z := rfl
  show Steps p.tables e below (T.setTop { method := m, pc := pc, locals := Ls, stack := _ :: rest, locked := none }) _
  jvm_step X.here [X.here.top, hx, hd, hm', hret, hn]
  first | (intro acts; rw [hl _ acts rfl rfl rfl]) | rw [hl _ _ rfl rfl rfl]
  exact Steps.refl _
end New
end Jvm.RoadKit
namespace Jvm.Pilot.@@N@@
open Jvm Jvm.ClassFile Sem Op Lib Jvm.Free Jvm.Stand Jvm.LawKit Jvm.RoadKit Bundle Jvm.Pilot.@@N@@.Jvm.D
/-! what every block of a body's walk is given -/
def Ctx (p : Program) (Z s : State) (a0 : Array Value) (m : MethodId) (meth : Method) (c : Code) (own nm : String) (bytes : ByteArray) (maxl : Nat) (rt : Option FieldType) : Prop :=
  p.tables.exec = Jvm.exec ∧ Z.Warmed39 s.vm ∧ (∀ d ∈ tables_1, d.before a0 Z = true) ∧ c.code = bytes ∧ c.maxLocals = maxl ∧ meth.sig.returnType = rt ∧ s.vm.findClass own = some m.cls ∧ meth.name = nm ∧ meth.locks = false
/-- from the state A the body's run ends, returns, and leaves what Q says -/
def Fin (p : Program) (e : Env) (below : List Frame) (s : State) (cells slots : Nat) (Q : Option Value → Heap → List Loc → Prop) (A : State) : Prop :=
  ∃ s₂ o, Steps p.tables e below A s₂ ∧ s₂.status = .running ∧ Ended s₂ below o ∧ ∃ v L, o = .returned v ∧ Q v s₂.heap L ∧ FrameEnd s o s₂ L cells slots
section Ends
variable {p : Program} {l : Launch} {e : Env} {R : Room} {s : State} {m : MethodId} {args : Array Value} {below : List Frame} {meth : Method} {c : Code} {T : State} {locs : List Loc} {cells slots : Nat} {C S : Nat} {Q : Option Value → Heap → List Loc → Prop}
theorem Fin.by {A B : State} (h : ∀ t, Steps p.tables e below B t → Steps p.tables e below A t) (k : Fin p e below s C S Q B) : Fin p e below s C S Q A := by
  obtain ⟨s₂, o, h1, r⟩ := k
  exact ⟨s₂, o, h _ h1, r⟩
theorem own_retI (X : Stand p l e R s m args below meth c T locs cells slots) (hx : p.tables.exec = Jvm.exec) (hlk : meth.locks = false) {pc : Nat} {Ls : Array Slot} {z : Int32} {rest : List Value} (hret : meth.sig.returnType = some .int) (hd : decode c.code pc = .ok (.ireturn, 1)) (hc : cells ≤ C) (hs : slots ≤ S)
    (hq : Q (some (.int z)) T.heap locs) : Fin p e below s C S Q (T.setTop (mkF m pc Ls (.int z :: rest))) := by
  obtain ⟨fs, hr, hrun, hended, hW, hsame⟩ := X.leave (v := some (.int z)) (fun h => by rw [hret] at h; cases h) hlk
  exact ⟨_, _, retI X hx hret hd hr, hrun, hended, _, _, rfl, hq, ⟨_, rfl⟩, hW, hsame.mono hc hs⟩
theorem own_retN (X : Stand p l e R s m args below meth c T locs cells slots) (hx : p.tables.exec = Jvm.exec) (hlk : meth.locks = false) {pc : Nat} {Ls : Array Slot} {z : Int32} {rest : List Value} {t : FieldType} (hret : meth.sig.returnType = some t) (ht : t = .boolean ∨ t = .byte ∨ t = .char ∨ t = .short) (hd : decode c.code pc = .ok (.ireturn, 1)) (hc : cells ≤ C) (hs : slots ≤ S)
    (hq : Q (some (.int (nar t z))) T.heap locs) : Fin p e below s C S Q (T.setTop (mkF m pc Ls (.int z :: rest))) := by
  obtain ⟨fs, hr, hrun, hended, hW, hsame⟩ := X.leave (v := some (.int (nar t z))) (fun h => by rw [hret] at h; cases h) hlk
  exact ⟨_, _, retN X hx hret ht hd hr, hrun, hended, _, _, rfl, hq, ⟨_, rfl⟩, hW, hsame.mono hc hs⟩
theorem own_retJ (X : Stand p l e R s m args below meth c T locs cells slots) (hx : p.tables.exec = Jvm.exec) (hlk : meth.locks = false) {pc : Nat} {Ls : Array Slot} {z : Int64} (hret : meth.sig.returnType = some .long) (hd : decode c.code pc = .ok (.lreturn, 1)) (hc : cells ≤ C) (hs : slots ≤ S)
    (hq : Q (some (.long z)) T.heap locs) : Fin p e below s C S Q (T.setTop (mkF m pc Ls [.long z])) := by
  obtain ⟨fs, hr, hrun, hended, hW, hsame⟩ := X.leave (v := some (.long z)) (fun h => by rw [hret] at h; cases h) hlk
  exact ⟨_, _, X.lreturnOut hx hret hd hr, hrun, hended, _, _, rfl, hq, ⟨_, rfl⟩, hW, hsame.mono hc hs⟩
theorem own_retR (X : Stand p l e R s m args below meth c T locs cells slots) (hx : p.tables.exec = Jvm.exec) (hlk : meth.locks = false) {pc : Nat} {Ls : Array Slot} {z : Addr} {t : FieldType} (hret : meth.sig.returnType = some t) (ht : t.isReference = true) (hd : decode c.code pc = .ok (.areturn, 1)) (hc : cells ≤ C) (hs : slots ≤ S)
    (hq : Q (some (.ref z)) T.heap locs) : Fin p e below s C S Q (T.setTop (mkF m pc Ls [.ref z])) := by
  obtain ⟨fs, hr, hrun, hended, hW, hsame⟩ := X.leave (v := some (.ref z)) (fun h => by rw [hret] at h; cases h) hlk
  exact ⟨_, _, X.areturnOut hx rfl hret ht hd hr, hrun, hended, _, _, rfl, hq, ⟨_, rfl⟩, hW, hsame.mono hc hs⟩
theorem own_ret0 (X : Stand p l e R s m args below meth c T locs cells slots) (hx : p.tables.exec = Jvm.exec) (hlk : meth.locks = false) {pc : Nat} {Ls : Array Slot} (hret : meth.sig.returnType = none) (hd : decode c.code pc = .ok (.return_, 1)) (hc : cells ≤ C) (hs : slots ≤ S)
    (hq : Q none T.heap locs) : Fin p e below s C S Q (T.setTop (mkF m pc Ls [])) := by
  obtain ⟨fs, hr, hrun, hended, hW, hsame⟩ := X.leave (v := none) (fun _ => rfl) hlk
  exact ⟨_, _, X.returnOut hx hret hd hr, hrun, hended, _, _, rfl, hq, ⟨_, rfl⟩, hW, hsame.mono hc hs⟩
end Ends
section Arrays
variable {Z : State} {h h' : Heap} {a : Addr} {k : ClassId} {ty : FieldType} {n j : Int32} {vs : List Value} {d : Value}
/-- what an array of ints holds at the place j -/
def own_at (xs : List Int32) (j : Int32) : Int32 := xs.getD j.toNatClampNeg 0
def own_atJ (xs : List Int64) (j : Int32) : Int64 := xs.getD j.toNatClampNeg 0
theorem own_mapD (xs : List Int32) (i : Nat) : (xs.map Value.int).getD i (.int 0) = .int (xs.getD i 0) := by
  rw [List.getD_eq_getElem?_getD, List.getD_eq_getElem?_getD, List.getElem?_map]; cases xs[i]? <;> rfl
theorem own_mapDJ (xs : List Int64) (i : Nat) : (xs.map Value.long).getD i (.long 0) = .long (xs.getD i 0) := by
  rw [List.getD_eq_getElem?_getD, List.getD_eq_getElem?_getD, List.getElem?_map]; cases xs[i]? <;> rfl
theorem own_open (V : Arv Z h a k ty n vs d) (hj : ¬ (j < 0) ∧ j < n) : ∃ cl, Arr Z h a cl ty ∧ ¬ (j < 0 ∨ cl.slots.size ≤ j.toNatClampNeg) ∧ True := by
  obtain ⟨cl, Ar, -, S, -, -, -⟩ := V
  exact ⟨cl, Ar, inb_of S hj, trivial⟩
theorem own_readI {xs : List Int32} (V : Arv Z h a k ty n (xs.map Value.int) (.int 0)) (hj : ¬ (j < 0) ∧ j < n) (i : Nat) (hi : j.toNatClampNeg = i) : ∃ cl, Arr Z h a cl ty ∧ ¬ (j < 0 ∨ cl.slots.size ≤ j.toNatClampNeg) ∧ cl.slots[j.toNatClampNeg]? = some (.int (xs.getD i 0)) := by
  obtain ⟨cl, Ar, -, S, -, H, -⟩ := V
  have q := inb_of S hj
  refine ⟨cl, Ar, q, ?_⟩
  rw [H _ (Nat.lt_of_not_le fun y => q (Or.inr y)), own_mapD, hi]
theorem own_readJ {xs : List Int64} (V : Arv Z h a k ty n (xs.map Value.long) (.long 0)) (hj : ¬ (j < 0) ∧ j < n) (i : Nat) (hi : j.toNatClampNeg = i) : ∃ cl, Arr Z h a cl ty ∧ ¬ (j < 0 ∨ cl.slots.size ≤ j.toNatClampNeg) ∧ cl.slots[j.toNatClampNeg]? = some (.long (xs.getD i 0)) := by
  obtain ⟨cl, Ar, -, S, -, H, -⟩ := V
  have q := inb_of S hj
  refine ⟨cl, Ar, q, ?_⟩
  rw [H _ (Nat.lt_of_not_le fun y => q (Or.inr y)), own_mapDJ, hi]
theorem own_setI {xs : List Int32} {v : Int32} (V : Arv Z h a k ty n (xs.map Value.int) (.int 0)) (ln : xs.length = n.toNatClampNeg) (hj : ¬ (j < 0) ∧ j < n) (W : Wr h h' a j.toNatClampNeg (.int v)) (hf : fits ty (.int v) = true) (i : Nat) (hi : j.toNatClampNeg = i) :
    Arv Z h' a k ty n ((xs.set i v).map Value.int) (.int 0) ∧ (xs.set i v).length = n.toNatClampNeg := by
  subst hi
  obtain ⟨cl, Ar, q1, S, q3, H, G⟩ := V
  have q := inb_of S hj
  have W2 := Arv.set Ar q1 S q3 H G hf W j.toNatClampNeg rfl (by rw [List.length_map, ln, ← S]; exact Nat.lt_of_not_le fun y => q (Or.inr y))
  rw [List.map_set]
  exact ⟨W2, by rw [List.length_set]; exact ln⟩
theorem own_setJ {xs : List Int64} {v : Int64} (V : Arv Z h a k ty n (xs.map Value.long) (.long 0)) (ln : xs.length = n.toNatClampNeg) (hj : ¬ (j < 0) ∧ j < n) (W : Wr h h' a j.toNatClampNeg (.long v)) (hf : fits ty (.long v) = true) (i : Nat) (hi : j.toNatClampNeg = i) :
    Arv Z h' a k ty n ((xs.set i v).map Value.long) (.long 0) ∧ (xs.set i v).length = n.toNatClampNeg := by
  subst hi
  obtain ⟨cl, Ar, q1, S, q3, H, G⟩ := V
  have q := inb_of S hj
  have W2 := Arv.set Ar q1 S q3 H G hf W j.toNatClampNeg rfl (by rw [List.length_map, ln, ← S]; exact Nat.lt_of_not_le fun y => q (Or.inr y))
  rw [List.map_set]
  exact ⟨W2, by rw [List.length_set]; exact ln⟩
theorem own_newI (A : Arr Z h a (newA k ty n) ty) (hd : defaultValue ty = .int 0) (q : ¬ n < 0) {xs : List Int32} (hxs : xs = List.replicate n.toNatClampNeg 0) : Arv Z h a k ty n (xs.map Value.int) (.int 0) ∧ xs.length = n.toNatClampNeg := by
  subst hxs
  have V := Arv.new A q
  rw [hd] at V
  have V2 := V.pad (pad_rep [] (.int 0) n.toNatClampNeg)
  rw [List.map_replicate]
  exact ⟨V2, by rw [List.length_replicate]⟩
theorem own_newJ (A : Arr Z h a (newA k ty n) ty) (hd : defaultValue ty = .long 0) (q : ¬ n < 0) {xs : List Int64} (hxs : xs = List.replicate n.toNatClampNeg 0) : Arv Z h a k ty n (xs.map Value.long) (.long 0) ∧ xs.length = n.toNatClampNeg := by
  subst hxs
  have V := Arv.new A q
  rw [hd] at V
  have V2 := V.pad (pad_rep [] (.long 0) n.toNatClampNeg)
  rw [List.map_replicate]
  exact ⟨V2, by rw [List.length_replicate]⟩
end Arrays
theorem d2_0 : decode jdk_30_method_1_code 0 = .ok (.aload_n 0, 1) := by decide +kernel
theorem d2_1 : decode jdk_30_method_1_code 1 = .ok (.invokespecial 1, 3) := by decide +kernel
theorem d2_4 : decode jdk_30_method_1_code 4 = .ok (.return_, 1) := by decide +kernel
theorem pn_2 : plainName "java/lang/Record" = true := by first | (simp [plainName, overriddenIn]; done) | decide +kernel
def R2 : Room := { frames := 1, cells := 0, slots := 0, locals := 12 }
def Q2 (Z : State)  (h0 : Heap) (n0 : Nat) (r : Unit) (v : Option Value) (h : Heap) (L : List Loc) : Prop := v = none ∧ Fr n0 L ∧ h = h0
def f2_0  : Unit := ()
set_option maxRecDepth 65536 in
set_option maxHeartbeats 40000000 in
theorem b2_0 {p : Program} {l : Launch} {e : Env} {s : State} {m : MethodId} {args : Array Value} {below : List Frame} {meth : Method} {c : Code} {Z : State} {a0 : Array Value} (B : Ctx p Z s a0 m meth c "java/lang/Record" "<init>" jdk_30_method_1_code 1 none) {T0 : State} {locs : List Loc} {h : Heap} (h0 : Heap) (n0 : Nat) (o0 : Addr) (X0 : Stand p l e R2 s m args below meth c T0 locs 0 0) (e0 : T0.heap = h) (N0 : Fr n0 locs) (Z0 : n0 ≤ h.size) (hh0 : h = h0) (r : Unit) (hr : f2_0  = r) :
    Fin p e below s R2.cells R2.slots (Q2 Z  h0 n0 r) (T0.setTop (mkF m 0 #[.val (.ref o0)] [])) := by
  obtain ⟨hx, hZ, hw, hby, hml, hret, hown, hnm, hlk⟩ := B
  unfold f2_0 at hr
  refine Fin.by (B := T0.setTop (mkF m 1 #[.val (.ref o0)] [(.ref o0)])) (fun t k => ?_) ?_
  · show Steps p.tables e below (T0.setTop (mkF m 0 #[.val (.ref o0)] [])) _
    refine XS.aloadN X0.here hx rfl (hb hby d2_0) rfl rfl ?_
    exact k
  obtain ⟨T1, X1, e1, st1⟩ := initO X0 hx hZ hown (hw _ (List.mem_of_getElem? (i := 11) rfl)) (hw _ (List.mem_of_getElem? (i := 12) rfl)) (hw _ (List.mem_of_getElem? (i := 13) rfl)) e0 (g := (mkF m 1 #[.val (.ref o0)] [(.ref o0)])) rfl (by rw [hml]; rfl) rfl (hb hby d2_1) (by decide) (W := 0) (by show 2 * 0 + _ ≤ _; exact Nat.le_of_eq rfl) (by decide)
  refine Fin.by (B := T1.setTop (mkF m 4 #[.val (.ref o0)] [])) (fun t k => st1 t k) ?_
  subst hr
  exact own_ret0 X1 hx hlk hret (hb hby d2_4) (by decide) (by decide) ⟨rfl, N0, (e1.trans hh0)⟩
theorem ef_2 (m : MethodId) (o0 : Addr) : entryFrame m #[(.ref o0)] 1 = (mkF m 0 #[.val (.ref o0)] []) := by first | (simp [entryFrame, mkF, argsToLocals, Value.category]; done) | rfl
set_option maxRecDepth 65536 in
set_option maxHeartbeats 40000000 in
theorem rm2 (l : Launch) (Z : State) (a0 : Array Value) (hw : ∀ d ∈ tables_1, d.before a0 Z = true) (ws : List Jvm.Cond) (o0 : Addr) (h0 : Heap) (n0 : Nat) (Z0 : n0 ≤ h0.size) :
    MetFree l (⟨"java/lang/Record", "<init>", "()V"⟩ : MethodName) (head1 (Jvm.Cond.code (⟨"java/lang/Record", "<init>", "()V"⟩ : MethodName) jdk_30_method_1_code 1 none :: ws) R2) (fun a U => a = #[(.ref o0)] ∧ Z.Warmed39 U.vm ∧ U.heap = h0) (fun _ _ _ _ _ => True) (fun _ U o U' => ∃ v L, o = .returned v ∧ (Q2 Z  h0 n0 f2_0) v U'.heap L ∧ FrameEnd U o U' L R2.cells R2.slots) := by
  refine MetFree.of_bodySF (plainFor_of_name pn_2) hisR ?_
  intro p e s m args below meth c s₁ Bd hml0 hP hK
  obtain ⟨rfl, hZ, hh⟩ := hP
  have B : Ctx p Z s a0 m meth c "java/lang/Record" "<init>" jdk_30_method_1_code 1 none := ⟨Bd.exec, hZ, hw, Bd.bytes, hml0, Bd.returns, findClass_of_methodNamed Bd.named, (name_of_methodNamed Bd.named Bd.method).1, Bd.notSynchronized⟩
  have X0 : Stand p l e R2 s m #[(.ref o0)] below meth c s₁ [] 0 0 := Stand.of_body Bd
  have e0 : s₁.heap = h0 := by rw [← hh, Bd.state]; rfl
  have K := Keep.refl h0 []
  show Fin p e below s R2.cells R2.slots (Q2 Z  h0 n0 f2_0) (s₁.setTop (entryFrame m #[(.ref o0)] 1))
  refine Fin.by (fun t k => castTop (ef_2 m o0) k) ?_
  exact b2_0 B h0 n0 o0 X0 e0 (Fr.nil n0) Z0 rfl  _ rfl
theorem pd_0 : parseMethodDescriptor "()V" = some ⟨[], none⟩ := by decide +kernel
theorem d1_0 : decode prog_35_method_1_code 0 = .ok (.aload_n 0, 1) := by decide +kernel
theorem d1_1 : decode prog_35_method_1_code 1 = .ok (.invokespecial 1, 3) := by decide +kernel
theorem d1_4 : decode prog_35_method_1_code 4 = .ok (.aload_n 0, 1) := by decide +kernel
theorem d1_5 : decode prog_35_method_1_code 5 = .ok (.lload_n 1, 1) := by decide +kernel
theorem d1_6 : decode prog_35_method_1_code 6 = .ok (.putfield 7, 3) := by decide +kernel
theorem d1_9 : decode prog_35_method_1_code 9 = .ok (.aload_n 0, 1) := by decide +kernel
theorem d1_10 : decode prog_35_method_1_code 10 = .ok (.iload_n 3, 1) := by decide +kernel
theorem d1_11 : decode prog_35_method_1_code 11 = .ok (.putfield 13, 3) := by decide +kernel
theorem d1_14 : decode prog_35_method_1_code 14 = .ok (.aload_n 0, 1) := by decide +kernel
theorem d1_15 : decode prog_35_method_1_code 15 = .ok (.iload 4, 2) := by decide +kernel
theorem d1_17 : decode prog_35_method_1_code 17 = .ok (.putfield 17, 3) := by decide +kernel
theorem d1_20 : decode prog_35_method_1_code 20 = .ok (.aload_n 0, 1) := by decide +kernel
theorem d1_21 : decode prog_35_method_1_code 21 = .ok (.lload 5, 2) := by decide +kernel
theorem d1_23 : decode prog_35_method_1_code 23 = .ok (.putfield 20, 3) := by decide +kernel
theorem d1_26 : decode prog_35_method_1_code 26 = .ok (.return_, 1) := by decide +kernel
theorem pn_1 : plainName "com/example/sittings/sittings/core/TorontoTimetable$Score" = true := by first | (simp [plainName, overriddenIn]; done) | decide +kernel
def R1 : Room := { frames := 2, cells := 0, slots := 0, locals := 24 }
def Q1 (Z : State) (o0 : Addr) (h0 : Heap) (n0 : Nat) (r : Int64 × Int32 × Int32 × Int64) (v : Option Value) (h : Heap) (L : List Loc) : Prop := v = none ∧ Fr n0 L ∧ Keep h0 h [o0] ∧ Exa Z h o0 "com/example/sittings/sittings/core/TorontoTimetable$Score" ∧ Fld Z h o0 "com/example/sittings/sittings/core/TorontoTimetable$Score" "clashes" "J" (.long r.1) ∧ Fld Z h o0 "com/example/sittings/sittings/core/TorontoTimetable$Score" "periodsOutOfRange" "I" (.int r.2.1) ∧ Fld Z h o0 "com/example/sittings/sittings/core/TorontoTimetable$Score" "missingExams" "I" (.int r.2.2.1) ∧ Fld Z h o0 "com/example/sittings/sittings/core/TorontoTimetable$Score" "proximityCost" "J" (.long r.2.2.2)
def f1_0 (v1 : Int64) (v3 : Int32) (v4 : Int32) (v5 : Int64) (o0_clashes : Int64) (o0_periodsOutOfRange : Int32) (o0_missingExams : Int32) (o0_proximityCost : Int64) : Int64 × Int32 × Int32 × Int64 := (v1, v3, v4, v5)
set_option maxRecDepth 65536 in
set_option maxHeartbeats 40000000 in
theorem b1_0 {p : Program} {l : Launch} {e : Env} {s : State} {m : MethodId} {args : Array Value} {below : List Frame} {meth : Method} {c : Code} {Z : State} {a0 : Array Value} (B : Ctx p Z s a0 m meth c "com/example/sittings/sittings/core/TorontoTimetable$Score" "<init>" prog_35_method_1_code 7 none) {T0 : State} {locs : List Loc} {h : Heap} (h0 : Heap) (n0 : Nat) (o0 : Addr) (v1 : Int64) (v3 : Int32) (v4 : Int32) (v5 : Int64) (o0_clashes : Int64) (o0_periodsOutOfRange : Int32) (o0_missingExams : Int32) (o0_proximityCost : Int64) (X0 : Stand p l e R1 s m args below meth c T0 locs 0 0) (e0 : T0.heap = h) (N0 : Fr n0 locs) (Z0 : n0 ≤ h.size) (K : Keep h0 h [o0]) (E_o0 : Exa Z h o0 "com/example/sittings/sittings/core/TorontoTimetable$Score") (F_o0_clashes : Fld Z h o0 "com/example/sittings/sittings/core/TorontoTimetable$Score" "clashes" "J" (.long o0_clashes)) (F_o0_periodsOutOfRange : Fld Z h o0 "com/example/sittings/sittings/core/TorontoTimetable$Score" "periodsOutOfRange" "I" (.int o0_periodsOutOfRange)) (F_o0_missingExams : Fld Z h o0 "com/example/sittings/sittings/core/TorontoTimetable$Score" "missingExams" "I" (.int o0_missingExams)) (F_o0_proximityCost : Fld Z h o0 "com/example/sittings/sittings/core/TorontoTimetable$Score" "proximityCost" "J" (.long o0_proximityCost)) (g_o0 : n0 ≤ o0) (r : Int64 × Int32 × Int32 × Int64) (hr : f1_0 v1 v3 v4 v5 o0_clashes o0_periodsOutOfRange o0_missingExams o0_proximityCost = r) :
    Fin p e below s R1.cells R1.slots (Q1 Z o0 h0 n0 r) (T0.setTop (mkF m 0 #[.val (.ref o0), .val (.long v1), .second, .val (.int v3), .val (.int v4), .val (.long v5), .second] [])) := by
  obtain ⟨hx, hZ, hw, hby, hml, hret, hown, hnm, hlk⟩ := B
  unfold f1_0 at hr
  refine Fin.by (B := T0.setTop (mkF m 1 #[.val (.ref o0), .val (.long v1), .second, .val (.int v3), .val (.int v4), .val (.long v5), .second] [(.ref o0)])) (fun t k => ?_) ?_
  · show Steps p.tables e below (T0.setTop (mkF m 0 #[.val (.ref o0), .val (.long v1), .second, .val (.int v3), .val (.int v4), .val (.long v5), .second] [])) _
    refine XS.aloadN X0.here hx rfl (hb hby d1_0) rfl rfl ?_
    exact k
  -- pc 1: java/lang/Record.<init>
  obtain ⟨_, _, ⟨T1, L1, k1, n1⟩, -, X1, ⟨Lc1, hQ1, l1, y1, z1⟩, st1⟩ := X0.specialBack hx (y := (⟨"java/lang/Record", "<init>", "()V"⟩ : MethodName)) rfl hown (mvT hZ (hw _ (List.mem_of_getElem? (i := 6) rfl))) (mvT hZ (hw _ (List.mem_of_getElem? (i := 7) rfl))) (mvT hZ (hw _ (List.mem_of_getElem? (i := 10) rfl))) (by decide) (backOf (W := 0) (rm2 l Z a0 hw [] o0 h n0 Z0 ) hZ (hw _ (List.mem_of_getElem? (i := 10) rfl)) (hw _ (List.mem_of_getElem? (i := 9) rfl)) (by decide) (by decide)) (g := (mkF m 1 #[.val (.ref o0), .val (.long v1), .second, .val (.int v3), .val (.int v4), .val (.long v5), .second] [(.ref o0)])) rfl (by rw [hml]; rfl) (Steps.refl _) (a := o0) (argsL := []) (rest := []) (lenOf pd_0 rfl) rfl (by show 2 * 0 + _ ≤ _; exact Nat.le_of_eq rfl) (hb hby d1_1) (fun _ _ => ⟨rfl, e0, (by decide : 0 + R2.cells ≤ _), (by decide : 0 + R2.slots ≤ _)⟩)
  dsimp only [Pt.U, Pt.locs, Pt.cells, Pt.slots] at X1 l1 y1 z1 st1 hQ1
  subst l1 y1 z1
  obtain ⟨rfl, Nq1, e1⟩ := hQ1
  have N1 := Fr.app N0 Nq1
  refine Fin.by (B := T1.setTop (mkF m 4 #[.val (.ref o0), .val (.long v1), .second, .val (.int v3), .val (.int v4), .val (.long v5), .second] [])) (fun t k => st1.trans k) ?_
  refine Fin.by (B := T1.setTop (mkF m 6 #[.val (.ref o0), .val (.long v1), .second, .val (.int v3), .val (.int v4), .val (.long v5), .second] [(.long v1), (.ref o0)])) (fun t k => ?_) ?_
  · show Steps p.tables e below (T1.setTop (mkF m 4 #[.val (.ref o0), .val (.long v1), .second, .val (.int v3), .val (.int v4), .val (.long v5), .second] [])) _
    refine XS.aloadN X1.here hx rfl (hb hby d1_4) rfl rfl ?_
    show Steps p.tables e below (T1.setTop (mkF m 5 #[.val (.ref o0), .val (.long v1), .second, .val (.int v3), .val (.int v4), .val (.long v5), .second] [(.ref o0)])) _
    refine XS.lloadN X1.here hx rfl (hb hby d1_5) rfl  ?_
    exact k
  obtain ⟨T2, h2, X2, e2, W2, st2⟩ := putF X1 hx hZ hown (host := "") (Or.inl (hw _ (List.mem_of_getElem? (i := 14) rfl))) Via.refl e1 F_o0_clashes E_o0 (Or.inr ⟨(hw _ (List.mem_of_getElem? (i := 15) rfl)), rfl, hnm⟩) (hw _ (List.mem_of_getElem? (i := 1) rfl)) (ty := .long) (by decide) rfl rfl (g := (mkF m 6 #[.val (.ref o0), .val (.long v1), .second, .val (.int v3), .val (.int v4), .val (.long v5), .second] [(.long v1), (.ref o0)])) rfl rfl (hb hby d1_6)
  have E_o0_2 := E_o0.wr W2
  have F_o0_clashes_2 := F_o0_clashes.same W2
  have F_o0_periodsOutOfRange_2 := F_o0_periodsOutOfRange.other W2 (Or.inr (slot_ne (Or.inr (hw _ (List.mem_of_getElem? (i := 17) rfl))) (Or.inr (hw _ (List.mem_of_getElem? (i := 15) rfl))) (by decide) (t := .int) (t' := .long) (by decide) (by decide)))
  have F_o0_missingExams_2 := F_o0_missingExams.other W2 (Or.inr (slot_ne (Or.inr (hw _ (List.mem_of_getElem? (i := 19) rfl))) (Or.inr (hw _ (List.mem_of_getElem? (i := 15) rfl))) (by decide) (t := .int) (t' := .long) (by decide) (by decide)))
  have F_o0_proximityCost_2 := F_o0_proximityCost.other W2 (Or.inr (slot_ne (Or.inr (hw _ (List.mem_of_getElem? (i := 21) rfl))) (Or.inr (hw _ (List.mem_of_getElem? (i := 15) rfl))) (by decide) (t := .long) (t' := .long) (by decide) (by decide)))
  have N2 := Fr.snoc X2 N1 g_o0
  have Z2 : n0 ≤ h2.size := Nat.le_trans Z0 (Nat.le_of_eq W2.size.symm)
  have K2 := K.wr W2 (Or.inl (by simp))
  refine Fin.by (B := T2.setTop (mkF m 9 #[.val (.ref o0), .val (.long v1), .second, .val (.int v3), .val (.int v4), .val (.long v5), .second] [])) (fun t k => st2 t k) ?_
  refine Fin.by (B := T2.setTop (mkF m 11 #[.val (.ref o0), .val (.long v1), .second, .val (.int v3), .val (.int v4), .val (.long v5), .second] [(.int v3), (.ref o0)])) (fun t k => ?_) ?_
  · show Steps p.tables e below (T2.setTop (mkF m 9 #[.val (.ref o0), .val (.long v1), .second, .val (.int v3), .val (.int v4), .val (.long v5), .second] [])) _
    refine XS.aloadN X2.here hx rfl (hb hby d1_9) rfl rfl ?_
    show Steps p.tables e below (T2.setTop (mkF m 10 #[.val (.ref o0), .val (.long v1), .second, .val (.int v3), .val (.int v4), .val (.long v5), .second] [(.ref o0)])) _
    refine XS.iloadN X2.here hx rfl (hb hby d1_10) rfl  ?_
    exact k
  obtain ⟨T3, h3, X3, e3, W3, st3⟩ := putF X2 hx hZ hown (host := "") (Or.inl (hw _ (List.mem_of_getElem? (i := 16) rfl))) Via.refl e2 F_o0_periodsOutOfRange_2 E_o0_2 (Or.inr ⟨(hw _ (List.mem_of_getElem? (i := 17) rfl)), rfl, hnm⟩) (hw _ (List.mem_of_getElem? (i := 1) rfl)) (ty := .int) (by decide) rfl rfl (g := (mkF m 11 #[.val (.ref o0), .val (.long v1), .second, .val (.int v3), .val (.int v4), .val (.long v5), .second] [(.int v3), (.ref o0)])) rfl rfl (hb hby d1_11)
  have E_o0_3 := E_o0_2.wr W3
  have F_o0_clashes_3 := F_o0_clashes_2.other W3 (Or.inr (slot_ne (Or.inr (hw _ (List.mem_of_getElem? (i := 15) rfl))) (Or.inr (hw _ (List.mem_of_getElem? (i := 17) rfl))) (by decide) (t := .long) (t' := .int) (by decide) (by decide)))
  have F_o0_periodsOutOfRange_3 := F_o0_periodsOutOfRange_2.same W3
  have F_o0_missingExams_3 := F_o0_missingExams_2.other W3 (Or.inr (slot_ne (Or.inr (hw _ (List.mem_of_getElem? (i := 19) rfl))) (Or.inr (hw _ (List.mem_of_getElem? (i := 17) rfl))) (by decide) (t := .int) (t' := .int) (by decide) (by decide)))
  have F_o0_proximityCost_3 := F_o0_proximityCost_2.other W3 (Or.inr (slot_ne (Or.inr (hw _ (List.mem_of_getElem? (i := 21) rfl))) (Or.inr (hw _ (List.mem_of_getElem? (i := 17) rfl))) (by decide) (t := .long) (t' := .int) (by decide) (by decide)))
  have N3 := Fr.snoc X3 N2 g_o0
  have Z3 : n0 ≤ h3.size := Nat.le_trans Z2 (Nat.le_of_eq W3.size.symm)
  have K3 := K2.wr W3 (Or.inl (by simp))
  refine Fin.by (B := T3.setTop (mkF m 14 #[.val (.ref o0), .val (.long v1), .second, .val (.int v3), .val (.int v4), .val (.long v5), .second] [])) (fun t k => st3 t k) ?_
  refine Fin.by (B := T3.setTop (mkF m 17 #[.val (.ref o0), .val (.long v1), .second, .val (.int v3), .val (.int v4), .val (.long v5), .second] [(.int v4), (.ref o0)])) (fun t k => ?_) ?_
  · show Steps p.tables e below (T3.setTop (mkF m 14 #[.val (.ref o0), .val (.long v1), .second, .val (.int v3), .val (.int v4), .val (.long v5), .second] [])) _
    refine XS.aloadN X3.here hx rfl (hb hby d1_14) rfl rfl ?_
    show Steps p.tables e below (T3.setTop (mkF m 15 #[.val (.ref o0), .val (.long v1), .second, .val (.int v3), .val (.int v4), .val (.long v5), .second] [(.ref o0)])) _
    refine XS.iload X3.here hx rfl (hb hby d1_15) rfl  ?_
    exact k
  obtain ⟨T4, h4, X4, e4, W4, st4⟩ := putF X3 hx hZ hown (host := "") (Or.inl (hw _ (List.mem_of_getElem? (i := 18) rfl))) Via.refl e3 F_o0_missingExams_3 E_o0_3 (Or.inr ⟨(hw _ (List.mem_of_getElem? (i := 19) rfl)), rfl, hnm⟩) (hw _ (List.mem_of_getElem? (i := 1) rfl)) (ty := .int) (by decide) rfl rfl (g := (mkF m 17 #[.val (.ref o0), .val (.long v1), .second, .val (.int v3), .val (.int v4), .val (.long v5), .second] [(.int v4), (.ref o0)])) rfl rfl (hb hby d1_17)
  have E_o0_4 := E_o0_3.wr W4
  have F_o0_clashes_4 := F_o0_clashes_3.other W4 (Or.inr (slot_ne (Or.inr (hw _ (List.mem_of_getElem? (i := 15) rfl))) (Or.inr (hw _ (List.mem_of_getElem? (i := 19) rfl))) (by decide) (t := .long) (t' := .int) (by decide) (by decide)))
  have F_o0_periodsOutOfRange_4 := F_o0_periodsOutOfRange_3.other W4 (Or.inr (slot_ne (Or.inr (hw _ (List.mem_of_getElem? (i := 17) rfl))) (Or.inr (hw _ (List.mem_of_getElem? (i := 19) rfl))) (by decide) (t := .int) (t' := .int) (by decide) (by decide)))
  have F_o0_missingExams_4 := F_o0_missingExams_3.same W4
  have F_o0_proximityCost_4 := F_o0_proximityCost_3.other W4 (Or.inr (slot_ne (Or.inr (hw _ (List.mem_of_getElem? (i := 21) rfl))) (Or.inr (hw _ (List.mem_of_getElem? (i := 19) rfl))) (by decide) (t := .long) (t' := .int) (by decide) (by decide)))
  have N4 := Fr.snoc X4 N3 g_o0
  have Z4 : n0 ≤ h4.size := Nat.le_trans Z3 (Nat.le_of_eq W4.size.symm)
  have K4 := K3.wr W4 (Or.inl (by simp))
  refine Fin.by (B := T4.setTop (mkF m 20 #[.val (.ref o0), .val (.long v1), .second, .val (.int v3), .val (.int v4), .val (.long v5), .second] [])) (fun t k => st4 t k) ?_
  refine Fin.by (B := T4.setTop (mkF m 23 #[.val (.ref o0), .val (.long v1), .second, .val (.int v3), .val (.int v4), .val (.long v5), .second] [(.long v5), (.ref o0)])) (fun t k => ?_) ?_
  · show Steps p.tables e below (T4.setTop (mkF m 20 #[.val (.ref o0), .val (.long v1), .second, .val (.int v3), .val (.int v4), .val (.long v5), .second] [])) _
    refine XS.aloadN X4.here hx rfl (hb hby d1_20) rfl rfl ?_
    show Steps p.tables e below (T4.setTop (mkF m 21 #[.val (.ref o0), .val (.long v1), .second, .val (.int v3), .val (.int v4), .val (.long v5), .second] [(.ref o0)])) _
    refine XS.lload X4.here hx rfl (hb hby d1_21) rfl  ?_
    exact k
  obtain ⟨T5, h5, X5, e5, W5, st5⟩ := putF X4 hx hZ hown (host := "") (Or.inl (hw _ (List.mem_of_getElem? (i := 20) rfl))) Via.refl e4 F_o0_proximityCost_4 E_o0_4 (Or.inr ⟨(hw _ (List.mem_of_getElem? (i := 21) rfl)), rfl, hnm⟩) (hw _ (List.mem_of_getElem? (i := 1) rfl)) (ty := .long) (by decide) rfl rfl (g := (mkF m 23 #[.val (.ref o0), .val (.long v1), .second, .val (.int v3), .val (.int v4), .val (.long v5), .second] [(.long v5), (.ref o0)])) rfl rfl (hb hby d1_23)
  have E_o0_5 := E_o0_4.wr W5
  have F_o0_clashes_5 := F_o0_clashes_4.other W5 (Or.inr (slot_ne (Or.inr (hw _ (List.mem_of_getElem? (i := 15) rfl))) (Or.inr (hw _ (List.mem_of_getElem? (i := 21) rfl))) (by decide) (t := .long) (t' := .long) (by decide) (by decide)))
  have F_o0_periodsOutOfRange_5 := F_o0_periodsOutOfRange_4.other W5 (Or.inr (slot_ne (Or.inr (hw _ (List.mem_of_getElem? (i := 17) rfl))) (Or.inr (hw _ (List.mem_of_getElem? (i := 21) rfl))) (by decide) (t := .int) (t' := .long) (by decide) (by decide)))
  have F_o0_missingExams_5 := F_o0_missingExams_4.other W5 (Or.inr (slot_ne (Or.inr (hw _ (List.mem_of_getElem? (i := 19) rfl))) (Or.inr (hw _ (List.mem_of_getElem? (i := 21) rfl))) (by decide) (t := .int) (t' := .long) (by decide) (by decide)))
  have F_o0_proximityCost_5 := F_o0_proximityCost_4.same W5
  have N5 := Fr.snoc X5 N4 g_o0
  have Z5 : n0 ≤ h5.size := Nat.le_trans Z4 (Nat.le_of_eq W5.size.symm)
  have K5 := K4.wr W5 (Or.inl (by simp))
  refine Fin.by (B := T5.setTop (mkF m 26 #[.val (.ref o0), .val (.long v1), .second, .val (.int v3), .val (.int v4), .val (.long v5), .second] [])) (fun t k => st5 t k) ?_
  subst hr
  exact own_ret0 X5 hx hlk hret (hb hby d1_26) (by decide) (by decide) ⟨rfl, N5, (by rw [e5]; exact K5), (by rw [e5]; exact E_o0_5), (by rw [e5]; exact F_o0_clashes_5), (by rw [e5]; exact F_o0_periodsOutOfRange_5), (by rw [e5]; exact F_o0_missingExams_5), (by rw [e5]; exact F_o0_proximityCost_5)⟩
theorem ef_1 (m : MethodId) (o0 : Addr) (v1 : Int64) (v3 : Int32) (v4 : Int32) (v5 : Int64) : entryFrame m #[(.ref o0), (.long v1), (.int v3), (.int v4), (.long v5)] 7 = (mkF m 0 #[.val (.ref o0), .val (.long v1), .second, .val (.int v3), .val (.int v4), .val (.long v5), .second] []) := by first | (simp [entryFrame, mkF, argsToLocals, Value.category]; done) | rfl
set_option maxRecDepth 65536 in
set_option maxHeartbeats 40000000 in
theorem rm1 (l : Launch) (Z : State) (a0 : Array Value) (hw : ∀ d ∈ tables_1, d.before a0 Z = true) (ws : List Jvm.Cond) (o0 : Addr) (v1 : Int64) (v3 : Int32) (v4 : Int32) (v5 : Int64) (o0_clashes : Int64) (o0_periodsOutOfRange : Int32) (o0_missingExams : Int32) (o0_proximityCost : Int64) (h0 : Heap) (n0 : Nat) (Z0 : n0 ≤ h0.size) (E_o0 : Exa Z h0 o0 "com/example/sittings/sittings/core/TorontoTimetable$Score") (F_o0_clashes : Fld Z h0 o0 "com/example/sittings/sittings/core/TorontoTimetable$Score" "clashes" "J" (.long o0_clashes)) (F_o0_periodsOutOfRange : Fld Z h0 o0 "com/example/sittings/sittings/core/TorontoTimetable$Score" "periodsOutOfRange" "I" (.int o0_periodsOutOfRange)) (F_o0_missingExams : Fld Z h0 o0 "com/example/sittings/sittings/core/TorontoTimetable$Score" "missingExams" "I" (.int o0_missingExams)) (F_o0_proximityCost : Fld Z h0 o0 "com/example/sittings/sittings/core/TorontoTimetable$Score" "proximityCost" "J" (.long o0_proximityCost)) (g_o0 : n0 ≤ o0) :
    MetFree l (⟨"com/example/sittings/sittings/core/TorontoTimetable$Score", "<init>", "(JIIJ)V"⟩ : MethodName) (head1 (Jvm.Cond.code (⟨"com/example/sittings/sittings/core/TorontoTimetable$Score", "<init>", "(JIIJ)V"⟩ : MethodName) prog_35_method_1_code 7 none :: ws) R1) (fun a U => a = #[(.ref o0), (.long v1), (.int v3), (.int v4), (.long v5)] ∧ Z.Warmed39 U.vm ∧ U.heap = h0) (fun _ _ _ _ _ => True) (fun _ U o U' => ∃ v L, o = .returned v ∧ (Q1 Z o0 h0 n0 (f1_0 v1 v3 v4 v5 o0_clashes o0_periodsOutOfRange o0_missingExams o0_proximityCost)) v U'.heap L ∧ FrameEnd U o U' L R1.cells R1.slots) := by
  refine MetFree.of_bodySF (plainFor_of_name pn_1) hisR ?_
  intro p e s m args below meth c s₁ Bd hml0 hP hK
  obtain ⟨rfl, hZ, hh⟩ := hP
  have B : Ctx p Z s a0 m meth c "com/example/sittings/sittings/core/TorontoTimetable$Score" "<init>" prog_35_method_1_code 7 none := ⟨Bd.exec, hZ, hw, Bd.bytes, hml0, Bd.returns, findClass_of_methodNamed Bd.named, (name_of_methodNamed Bd.named Bd.method).1, Bd.notSynchronized⟩
  have X0 : Stand p l e R1 s m #[(.ref o0), (.long v1), (.int v3), (.int v4), (.long v5)] below meth c s₁ [] 0 0 := Stand.of_body Bd
  have e0 : s₁.heap = h0 := by rw [← hh, Bd.state]; rfl
  have K := Keep.refl h0 [o0]
  show Fin p e below s R1.cells R1.slots (Q1 Z o0 h0 n0 (f1_0 v1 v3 v4 v5 o0_clashes o0_periodsOutOfRange o0_missingExams o0_proximityCost)) (s₁.setTop (entryFrame m #[(.ref o0), (.long v1), (.int v3), (.int v4), (.long v5)] 7))
  refine Fin.by (fun t k => castTop (ef_1 m o0 v1 v3 v4 v5) k) ?_
  exact b1_0 B h0 n0 o0 v1 v3 v4 v5 o0_clashes o0_periodsOutOfRange o0_missingExams o0_proximityCost X0 e0 (Fr.nil n0) Z0 K E_o0 F_o0_clashes F_o0_periodsOutOfRange F_o0_missingExams F_o0_proximityCost g_o0 _ rfl
theorem pd_1 : parseMethodDescriptor "(JIIJ)V" = some ⟨[.long, .int, .int, .long], none⟩ := by decide +kernel
theorem d4_0 : decode prog_35_method_2_code 0 = .ok (.aload_n 0, 1) := by decide +kernel
theorem d4_1 : decode prog_35_method_2_code 1 = .ok (.getfield 7, 3) := by decide +kernel
theorem d4_4 : decode prog_35_method_2_code 4 = .ok (.lconst 0, 1) := by decide +kernel
theorem d4_5 : decode prog_35_method_2_code 5 = .ok (.lcmp, 1) := by decide +kernel
theorem d4_6 : decode prog_35_method_2_code 6 = .ok (.ifCond .gt 17, 3) := by decide +kernel
theorem d4_9 : decode prog_35_method_2_code 9 = .ok (.aload_n 0, 1) := by decide +kernel
theorem d4_10 : decode prog_35_method_2_code 10 = .ok (.getfield 13, 3) := by decide +kernel
theorem d4_13 : decode prog_35_method_2_code 13 = .ok (.ifCond .gt 10, 3) := by decide +kernel
theorem d4_16 : decode prog_35_method_2_code 16 = .ok (.aload_n 0, 1) := by decide +kernel
theorem d4_17 : decode prog_35_method_2_code 17 = .ok (.getfield 17, 3) := by decide +kernel
theorem d4_20 : decode prog_35_method_2_code 20 = .ok (.ifCond .le 7, 3) := by decide +kernel
theorem d4_23 : decode prog_35_method_2_code 23 = .ok (.iconst 1, 1) := by decide +kernel
theorem d4_24 : decode prog_35_method_2_code 24 = .ok (.goto 4, 3) := by decide +kernel
theorem d4_27 : decode prog_35_method_2_code 27 = .ok (.iconst 0, 1) := by decide +kernel
theorem d4_28 : decode prog_35_method_2_code 28 = .ok (.ireturn, 1) := by decide +kernel
theorem pn_4 : plainName "com/example/sittings/sittings/core/TorontoTimetable$Score" = true := by first | (simp [plainName, overriddenIn]; done) | decide +kernel
def R4 : Room := { frames := 0, cells := 0, slots := 0, locals := 0 }
def Q4 (Z : State)  (h0 : Heap) (n0 : Nat) (r : Int32) (v : Option Value) (h : Heap) (L : List Loc) : Prop := v = some (.int r) ∧ Fr n0 L ∧ h = h0
def f4_23 (o0_clashes : Int64) (o0_periodsOutOfRange : Int32) (o0_missingExams : Int32) (o0_proximityCost : Int64) : Int32 := (1 : Int32)
set_option maxRecDepth 65536 in
set_option maxHeartbeats 40000000 in
theorem b4_23 {p : Program} {l : Launch} {e : Env} {s : State} {m : MethodId} {args : Array Value} {below : List Frame} {meth : Method} {c : Code} {Z : State} {a0 : Array Value} (B : Ctx p Z s a0 m meth c "com/example/sittings/sittings/core/TorontoTimetable$Score" "breaksHardConstraint" prog_35_method_2_code 1 (some .boolean)) {T0 : State} {locs : List Loc} {h : Heap} (h0 : Heap) (n0 : Nat) (o0 : Addr) (o0_clashes : Int64) (o0_periodsOutOfRange : Int32) (o0_missingExams : Int32) (o0_proximityCost : Int64) (X0 : Stand p l e R4 s m args below meth c T0 locs 0 0) (e0 : T0.heap = h) (N0 : Fr n0 locs) (Z0 : n0 ≤ h.size) (hh0 : h = h0) (E_o0 : Exa Z h o0 "com/example/sittings/sittings/core/TorontoTimetable$Score") (F_o0_clashes : Fld Z h o0 "com/example/sittings/sittings/core/TorontoTimetable$Score" "clashes" "J" (.long o0_clashes)) (F_o0_periodsOutOfRange : Fld Z h o0 "com/example/sittings/sittings/core/TorontoTimetable$Score" "periodsOutOfRange" "I" (.int o0_periodsOutOfRange)) (F_o0_missingExams : Fld Z h o0 "com/example/sittings/sittings/core/TorontoTimetable$Score" "missingExams" "I" (.int o0_missingExams)) (F_o0_proximityCost : Fld Z h o0 "com/example/sittings/sittings/core/TorontoTimetable$Score" "proximityCost" "J" (.long o0_proximityCost)) (r : Int32) (hr : f4_23 o0_clashes o0_periodsOutOfRange o0_missingExams o0_proximityCost = r) :
    Fin p e below s R4.cells R4.slots (Q4 Z  h0 n0 r) (T0.setTop (mkF m 23 #[.val (.ref o0)] [])) := by
  obtain ⟨hx, hZ, hw, hby, hml, hret, hown, hnm, hlk⟩ := B
  unfold f4_23 at hr
  refine Fin.by (B := T0.setTop (mkF m 28 #[.val (.ref o0)] [(.int (1 : Int32))])) (fun t k => ?_) ?_
  · show Steps p.tables e below (T0.setTop (mkF m 23 #[.val (.ref o0)] [])) _
    refine XS.iconst X0.here hx rfl (hb hby d4_23) ?_
    show Steps p.tables e below (T0.setTop (mkF m 24 #[.val (.ref o0)] [(.int (1 : Int32))])) _
    refine XS.goto X0.here hx rfl (pc0 := 24) (pc' := 28) rfl (hb hby d4_24) (by decide) (by decide) ?_
    exact k
  subst hr
  exact own_retN X0 hx hlk (t := .boolean) hret (by simp) (hb hby d4_28) (by decide) (by decide) ⟨rfl, N0, (e0.trans hh0)⟩
def f4_0 (o0_clashes : Int64) (o0_periodsOutOfRange : Int32) (o0_missingExams : Int32) (o0_proximityCost : Int64) : Int32 := (if (0 : Int64) < o0_clashes then (f4_23 o0_clashes o0_periodsOutOfRange o0_missingExams o0_proximityCost) else (if (0 : Int32) < o0_periodsOutOfRange then (f4_23 o0_clashes o0_periodsOutOfRange o0_missingExams o0_proximityCost) else (if (0 : Int32) < o0_missingExams then (f4_23 o0_clashes o0_periodsOutOfRange o0_missingExams o0_proximityCost) else (0 : Int32))))
set_option maxRecDepth 65536 in
set_option maxHeartbeats 40000000 in
theorem b4_0 {p : Program} {l : Launch} {e : Env} {s : State} {m : MethodId} {args : Array Value} {below : List Frame} {meth : Method} {c : Code} {Z : State} {a0 : Array Value} (B : Ctx p Z s a0 m meth c "com/example/sittings/sittings/core/TorontoTimetable$Score" "breaksHardConstraint" prog_35_method_2_code 1 (some .boolean)) {T0 : State} {locs : List Loc} {h : Heap} (h0 : Heap) (n0 : Nat) (o0 : Addr) (o0_clashes : Int64) (o0_periodsOutOfRange : Int32) (o0_missingExams : Int32) (o0_proximityCost : Int64) (X0 : Stand p l e R4 s m args below meth c T0 locs 0 0) (e0 : T0.heap = h) (N0 : Fr n0 locs) (Z0 : n0 ≤ h.size) (hh0 : h = h0) (E_o0 : Exa Z h o0 "com/example/sittings/sittings/core/TorontoTimetable$Score") (F_o0_clashes : Fld Z h o0 "com/example/sittings/sittings/core/TorontoTimetable$Score" "clashes" "J" (.long o0_clashes)) (F_o0_periodsOutOfRange : Fld Z h o0 "com/example/sittings/sittings/core/TorontoTimetable$Score" "periodsOutOfRange" "I" (.int o0_periodsOutOfRange)) (F_o0_missingExams : Fld Z h o0 "com/example/sittings/sittings/core/TorontoTimetable$Score" "missingExams" "I" (.int o0_missingExams)) (F_o0_proximityCost : Fld Z h o0 "com/example/sittings/sittings/core/TorontoTimetable$Score" "proximityCost" "J" (.long o0_proximityCost)) (r : Int32) (hr : f4_0 o0_clashes o0_periodsOutOfRange o0_missingExams o0_proximityCost = r) :
    Fin p e below s R4.cells R4.slots (Q4 Z  h0 n0 r) (T0.setTop (mkF m 0 #[.val (.ref o0)] [])) := by
  obtain ⟨hx, hZ, hw, hby, hml, hret, hown, hnm, hlk⟩ := B
  unfold f4_0 at hr
  refine Fin.by (B := T0.setTop (mkF m 1 #[.val (.ref o0)] [(.ref o0)])) (fun t k => ?_) ?_
  · show Steps p.tables e below (T0.setTop (mkF m 0 #[.val (.ref o0)] [])) _
    refine XS.aloadN X0.here hx rfl (hb hby d4_0) rfl rfl ?_
    exact k
  obtain ⟨T1, X1, e1, st1⟩ := getF X0 hx hZ hown (host := "") (Or.inl (hw _ (List.mem_of_getElem? (i := 14) rfl))) Via.refl e0 F_o0_clashes (g := (mkF m 1 #[.val (.ref o0)] [(.ref o0)])) rfl rfl (hb hby d4_1)
  refine Fin.by (B := T1.setTop (mkF m 4 #[.val (.ref o0)] [(.long o0_clashes)])) (fun t k => st1 t k) ?_
  refine Fin.by (B := T1.setTop (mkF m 6 #[.val (.ref o0)] [(.int (lcmpW o0_clashes (0 : Int64)))])) (fun t k => ?_) ?_
  · show Steps p.tables e below (T1.setTop (mkF m 4 #[.val (.ref o0)] [(.long o0_clashes)])) _
    refine XS.lconst X1.here hx rfl (hb hby d4_4) ?_
    show Steps p.tables e below (T1.setTop (mkF m 5 #[.val (.ref o0)] [(.long (0 : Int64)), (.long o0_clashes)])) _
    refine XS.lcmp X1.here hx rfl (hb hby d4_5) rfl ?_
    exact k
  by_cases hc6 : (0 : Int64) < o0_clashes
  · rw [if_pos hc6] at hr
    refine Fin.by (B := T1.setTop (mkF m 23 #[.val (.ref o0)] [])) (fun t k => ?_) ?_
    · show Steps p.tables e below (T1.setTop (mkF m 6 #[.val (.ref o0)] [(.int (lcmpW o0_clashes (0 : Int64)))])) _
      exact XS.ifYes X1.here hx rfl (pc0 := 6) (pc' := 23) rfl (hb hby d4_6) rfl ((if0 _ _).trans (tlt ((lw_gt _ _).mpr hc6)).2.2.1) (by decide) (by decide) k
    exact b4_23 ⟨hx, hZ, hw, hby, hml, hret, hown, hnm, hlk⟩ h0 n0 o0 o0_clashes o0_periodsOutOfRange o0_missingExams o0_proximityCost X1 e1 N0 Z0 hh0 E_o0 F_o0_clashes F_o0_periodsOutOfRange F_o0_missingExams F_o0_proximityCost _ hr
  · rw [if_neg hc6] at hr
    refine Fin.by (B := T1.setTop (mkF m 9 #[.val (.ref o0)] [])) (fun t k => ?_) ?_
    · show Steps p.tables e below (T1.setTop (mkF m 6 #[.val (.ref o0)] [(.int (lcmpW o0_clashes (0 : Int64)))])) _
      exact XS.ifNo X1.here hx rfl (hb hby d4_6) rfl ((if0 _ _).trans (flt (fun q => hc6 ((lw_gt _ _).mp q))).2.2.1) k
    refine Fin.by (B := T1.setTop (mkF m 10 #[.val (.ref o0)] [(.ref o0)])) (fun t k => ?_) ?_
    · show Steps p.tables e below (T1.setTop (mkF m 9 #[.val (.ref o0)] [])) _
      refine XS.aloadN X1.here hx rfl (hb hby d4_9) rfl rfl ?_
      exact k
    obtain ⟨T2, X2, e2, st2⟩ := getF X1 hx hZ hown (host := "") (Or.inl (hw _ (List.mem_of_getElem? (i := 16) rfl))) Via.refl e1 F_o0_periodsOutOfRange (g := (mkF m 10 #[.val (.ref o0)] [(.ref o0)])) rfl rfl (hb hby d4_10)
    refine Fin.by (B := T2.setTop (mkF m 13 #[.val (.ref o0)] [(.int o0_periodsOutOfRange)])) (fun t k => st2 t k) ?_
    by_cases hc13 : (0 : Int32) < o0_periodsOutOfRange
    · rw [if_pos hc13] at hr
      refine Fin.by (B := T2.setTop (mkF m 23 #[.val (.ref o0)] [])) (fun t k => ?_) ?_
      · show Steps p.tables e below (T2.setTop (mkF m 13 #[.val (.ref o0)] [(.int o0_periodsOutOfRange)])) _
        exact XS.ifYes X2.here hx rfl (pc0 := 13) (pc' := 23) rfl (hb hby d4_13) rfl ((if0 _ _).trans (tlt hc13).2.2.1) (by decide) (by decide) k
      exact b4_23 ⟨hx, hZ, hw, hby, hml, hret, hown, hnm, hlk⟩ h0 n0 o0 o0_clashes o0_periodsOutOfRange o0_missingExams o0_proximityCost X2 e2 N0 Z0 hh0 E_o0 F_o0_clashes F_o0_periodsOutOfRange F_o0_missingExams F_o0_proximityCost _ hr
    · rw [if_neg hc13] at hr
      refine Fin.by (B := T2.setTop (mkF m 16 #[.val (.ref o0)] [])) (fun t k => ?_) ?_
      · show Steps p.tables e below (T2.setTop (mkF m 13 #[.val (.ref o0)] [(.int o0_periodsOutOfRange)])) _
        exact XS.ifNo X2.here hx rfl (hb hby d4_13) rfl ((if0 _ _).trans (flt hc13).2.2.1) k
      refine Fin.by (B := T2.setTop (mkF m 17 #[.val (.ref o0)] [(.ref o0)])) (fun t k => ?_) ?_
      · show Steps p.tables e below (T2.setTop (mkF m 16 #[.val (.ref o0)] [])) _
        refine XS.aloadN X2.here hx rfl (hb hby d4_16) rfl rfl ?_
        exact k
      obtain ⟨T3, X3, e3, st3⟩ := getF X2 hx hZ hown (host := "") (Or.inl (hw _ (List.mem_of_getElem? (i := 18) rfl))) Via.refl e2 F_o0_missingExams (g := (mkF m 17 #[.val (.ref o0)] [(.ref o0)])) rfl rfl (hb hby d4_17)
      refine Fin.by (B := T3.setTop (mkF m 20 #[.val (.ref o0)] [(.int o0_missingExams)])) (fun t k => st3 t k) ?_
      by_cases hc20 : (0 : Int32) < o0_missingExams
      · rw [if_pos hc20] at hr
        refine Fin.by (B := T3.setTop (mkF m 23 #[.val (.ref o0)] [])) (fun t k => ?_) ?_
        · show Steps p.tables e below (T3.setTop (mkF m 20 #[.val (.ref o0)] [(.int o0_missingExams)])) _
          exact XS.ifNo X3.here hx rfl (hb hby d4_20) rfl ((if0 _ _).trans (tlt hc20).2.2.2) k
        exact b4_23 ⟨hx, hZ, hw, hby, hml, hret, hown, hnm, hlk⟩ h0 n0 o0 o0_clashes o0_periodsOutOfRange o0_missingExams o0_proximityCost X3 e3 N0 Z0 hh0 E_o0 F_o0_clashes F_o0_periodsOutOfRange F_o0_missingExams F_o0_proximityCost _ hr
      · rw [if_neg hc20] at hr
        refine Fin.by (B := T3.setTop (mkF m 27 #[.val (.ref o0)] [])) (fun t k => ?_) ?_
        · show Steps p.tables e below (T3.setTop (mkF m 20 #[.val (.ref o0)] [(.int o0_missingExams)])) _
          exact XS.ifYes X3.here hx rfl (pc0 := 20) (pc' := 27) rfl (hb hby d4_20) rfl ((if0 _ _).trans (flt hc20).2.2.2) (by decide) (by decide) k
        refine Fin.by (B := T3.setTop (mkF m 28 #[.val (.ref o0)] [(.int (0 : Int32))])) (fun t k => ?_) ?_
        · show Steps p.tables e below (T3.setTop (mkF m 27 #[.val (.ref o0)] [])) _
          refine XS.iconst X3.here hx rfl (hb hby d4_27) ?_
          exact k
        subst hr
        exact own_retN X3 hx hlk (t := .boolean) hret (by simp) (hb hby d4_28) (by decide) (by decide) ⟨rfl, N0, (e3.trans hh0)⟩
theorem ef_4 (m : MethodId) (o0 : Addr) : entryFrame m #[(.ref o0)] 1 = (mkF m 0 #[.val (.ref o0)] []) := by first | (simp [entryFrame, mkF, argsToLocals, Value.category]; done) | rfl
set_option maxRecDepth 65536 in
set_option maxHeartbeats 40000000 in
theorem rm4 (l : Launch) (Z : State) (a0 : Array Value) (hw : ∀ d ∈ tables_1, d.before a0 Z = true) (ws : List Jvm.Cond) (o0 : Addr) (o0_clashes : Int64) (o0_periodsOutOfRange : Int32) (o0_missingExams : Int32) (o0_proximityCost : Int64) (h0 : Heap) (n0 : Nat) (Z0 : n0 ≤ h0.size) (E_o0 : Exa Z h0 o0 "com/example/sittings/sittings/core/TorontoTimetable$Score") (F_o0_clashes : Fld Z h0 o0 "com/example/sittings/sittings/core/TorontoTimetable$Score" "clashes" "J" (.long o0_clashes)) (F_o0_periodsOutOfRange : Fld Z h0 o0 "com/example/sittings/sittings/core/TorontoTimetable$Score" "periodsOutOfRange" "I" (.int o0_periodsOutOfRange)) (F_o0_missingExams : Fld Z h0 o0 "com/example/sittings/sittings/core/TorontoTimetable$Score" "missingExams" "I" (.int o0_missingExams)) (F_o0_proximityCost : Fld Z h0 o0 "com/example/sittings/sittings/core/TorontoTimetable$Score" "proximityCost" "J" (.long o0_proximityCost)) :
    MetFree l (⟨"com/example/sittings/sittings/core/TorontoTimetable$Score", "breaksHardConstraint", "()Z"⟩ : MethodName) (head1 (Jvm.Cond.code (⟨"com/example/sittings/sittings/core/TorontoTimetable$Score", "breaksHardConstraint", "()Z"⟩ : MethodName) prog_35_method_2_code 1 (some .boolean) :: ws) R4) (fun a U => a = #[(.ref o0)] ∧ Z.Warmed39 U.vm ∧ U.heap = h0) (fun _ _ _ _ _ => True) (fun _ U o U' => ∃ v L, o = .returned v ∧ (Q4 Z  h0 n0 (f4_0 o0_clashes o0_periodsOutOfRange o0_missingExams o0_proximityCost)) v U'.heap L ∧ FrameEnd U o U' L R4.cells R4.slots) := by
  refine MetFree.of_bodySF (plainFor_of_name pn_4) hisR ?_
  intro p e s m args below meth c s₁ Bd hml0 hP hK
  obtain ⟨rfl, hZ, hh⟩ := hP
  have B : Ctx p Z s a0 m meth c "com/example/sittings/sittings/core/TorontoTimetable$Score" "breaksHardConstraint" prog_35_method_2_code 1 (some .boolean) := ⟨Bd.exec, hZ, hw, Bd.bytes, hml0, Bd.returns, findClass_of_methodNamed Bd.named, (name_of_methodNamed Bd.named Bd.method).1, Bd.notSynchronized⟩
  have X0 : Stand p l e R4 s m #[(.ref o0)] below meth c s₁ [] 0 0 := Stand.of_body Bd
  have e0 : s₁.heap = h0 := by rw [← hh, Bd.state]; rfl
  have K := Keep.refl h0 []
  show Fin p e below s R4.cells R4.slots (Q4 Z  h0 n0 (f4_0 o0_clashes o0_periodsOutOfRange o0_missingExams o0_proximityCost)) (s₁.setTop (entryFrame m #[(.ref o0)] 1))
  refine Fin.by (fun t k => castTop (ef_4 m o0) k) ?_
  exact b4_0 B h0 n0 o0 o0_clashes o0_periodsOutOfRange o0_missingExams o0_proximityCost X0 e0 (Fr.nil n0) Z0 rfl E_o0 F_o0_clashes F_o0_periodsOutOfRange F_o0_missingExams F_o0_proximityCost _ rfl
theorem pd_2 : parseMethodDescriptor "()Z" = some ⟨[], some .boolean⟩ := by decide +kernel
theorem pn_0 : plainName "com/example/sittings/sittings/core/ScoreBreaksHardConstraintPinLaw" = true := by first | (simp [plainName, overriddenIn]; done) | decide +kernel
def Q0 (n0 : Nat) (r : Int32) (v : Option Value) (h : Heap) (L : List Loc) : Prop := v = some (.int r) ∧ Fr n0 L
def f0_50 (v0 : Int64) (v2 : Int32) (v3 : Int32) (v4 : Int64) (v7 : Int32) (t0 : Int32) (t1 : Int32) (b0_clashes : Int64) (b0_periodsOutOfRange : Int32) (b0_missingExams : Int32) (b0_proximityCost : Int64) : Int32 := (if t1 = t0 then (1 : Int32) else (0 : Int32))
set_option maxRecDepth 65536 in
set_option maxHeartbeats 40000000 in
theorem b0_50 {p : Program} {l : Launch} {e : Env} {s : State} {m : MethodId} {args : Array Value} {below : List Frame} {meth : Method} {c : Code} {Z : State} {a0 : Array Value} (B : Ctx p Z s a0 m meth c "com/example/sittings/sittings/core/ScoreBreaksHardConstraintPinLaw" "law" code 8 (some .boolean)) {T0 : State} {locs : List Loc} {h : Heap} (h0 : Heap) (n0 : Nat) (v0 : Int64) (v2 : Int32) (v3 : Int32) (v4 : Int64) (b0 : Addr) (v7 : Int32) (t0 : Int32) (t1 : Int32) (b0_clashes : Int64) (b0_periodsOutOfRange : Int32) (b0_missingExams : Int32) (b0_proximityCost : Int64) (X0 : Stand p l e room_1 s m args below meth c T0 locs 1 4) (e0 : T0.heap = h) (N0 : Fr n0 locs) (Z0 : n0 ≤ h.size) (E_b0 : Exa Z h b0 "com/example/sittings/sittings/core/TorontoTimetable$Score") (F_b0_clashes : Fld Z h b0 "com/example/sittings/sittings/core/TorontoTimetable$Score" "clashes" "J" (.long b0_clashes)) (F_b0_periodsOutOfRange : Fld Z h b0 "com/example/sittings/sittings/core/TorontoTimetable$Score" "periodsOutOfRange" "I" (.int b0_periodsOutOfRange)) (F_b0_missingExams : Fld Z h b0 "com/example/sittings/sittings/core/TorontoTimetable$Score" "missingExams" "I" (.int b0_missingExams)) (F_b0_proximityCost : Fld Z h b0 "com/example/sittings/sittings/core/TorontoTimetable$Score" "proximityCost" "J" (.long b0_proximityCost)) (g_b0 : n0 ≤ b0) (r : Int32) (hr : f0_50 v0 v2 v3 v4 v7 t0 t1 b0_clashes b0_periodsOutOfRange b0_missingExams b0_proximityCost = r) :
    Fin p e below s 1 4 (Q0 n0 r) (T0.setTop (mkF m 50 #[.val (.long v0), .second, .val (.int v2), .val (.int v3), .val (.long v4), .second, .val (.ref b0), .val (.int v7)] [(.int t0), (.int t1)])) := by
  obtain ⟨hx, hZ, hw, hby, hml, hret, hown, hnm, hlk⟩ := B
  unfold f0_50 at hr
  by_cases hc50 : t1 = t0
  · rw [if_pos hc50] at hr
    refine Fin.by (B := T0.setTop (mkF m 53 #[.val (.long v0), .second, .val (.int v2), .val (.int v3), .val (.long v4), .second, .val (.ref b0), .val (.int v7)] [])) (fun t k => ?_) ?_
    · show Steps p.tables e below (T0.setTop (mkF m 50 #[.val (.long v0), .second, .val (.int v2), .val (.int v3), .val (.long v4), .second, .val (.ref b0), .val (.int v7)] [(.int t0), (.int t1)])) _
      exact XS.icmpNo X0.here hx rfl (hb hby at_50) rfl (teq hc50).2 k
    refine Fin.by (B := T0.setTop (mkF m 58 #[.val (.long v0), .second, .val (.int v2), .val (.int v3), .val (.long v4), .second, .val (.ref b0), .val (.int v7)] [(.int (1 : Int32))])) (fun t k => ?_) ?_
    · show Steps p.tables e below (T0.setTop (mkF m 53 #[.val (.long v0), .second, .val (.int v2), .val (.int v3), .val (.long v4), .second, .val (.ref b0), .val (.int v7)] [])) _
      refine XS.iconst X0.here hx rfl (hb hby at_53) ?_
      show Steps p.tables e below (T0.setTop (mkF m 54 #[.val (.long v0), .second, .val (.int v2), .val (.int v3), .val (.long v4), .second, .val (.ref b0), .val (.int v7)] [(.int (1 : Int32))])) _
      refine XS.goto X0.here hx rfl (pc0 := 54) (pc' := 58) rfl (hb hby at_54) (by decide) (by decide) ?_
      exact k
    subst hr
    exact own_retN X0 hx hlk (t := .boolean) hret (by simp) (hb hby at_58) (by decide) (by decide) ⟨rfl, N0⟩
  · rw [if_neg hc50] at hr
    refine Fin.by (B := T0.setTop (mkF m 57 #[.val (.long v0), .second, .val (.int v2), .val (.int v3), .val (.long v4), .second, .val (.ref b0), .val (.int v7)] [])) (fun t k => ?_) ?_
    · show Steps p.tables e below (T0.setTop (mkF m 50 #[.val (.long v0), .second, .val (.int v2), .val (.int v3), .val (.long v4), .second, .val (.ref b0), .val (.int v7)] [(.int t0), (.int t1)])) _
      exact XS.icmpYes X0.here hx rfl (pc0 := 50) (pc' := 57) rfl (hb hby at_50) rfl (feq hc50).2 (by decide) (by decide) k
    refine Fin.by (B := T0.setTop (mkF m 58 #[.val (.long v0), .second, .val (.int v2), .val (.int v3), .val (.long v4), .second, .val (.ref b0), .val (.int v7)] [(.int (0 : Int32))])) (fun t k => ?_) ?_
    · show Steps p.tables e below (T0.setTop (mkF m 57 #[.val (.long v0), .second, .val (.int v2), .val (.int v3), .val (.long v4), .second, .val (.ref b0), .val (.int v7)] [])) _
      refine XS.iconst X0.here hx rfl (hb hby at_57) ?_
      exact k
    subst hr
    exact own_retN X0 hx hlk (t := .boolean) hret (by simp) (hb hby at_58) (by decide) (by decide) ⟨rfl, N0⟩
def f0_33 (v0 : Int64) (v2 : Int32) (v3 : Int32) (v4 : Int64) (t0 : Int32) (b0_clashes : Int64) (b0_periodsOutOfRange : Int32) (b0_missingExams : Int32) (b0_proximityCost : Int64) : Int32 := (if t0 = (0 : Int32) then (f0_50 v0 v2 v3 v4 t0 (1 : Int32) (f4_0 b0_clashes b0_periodsOutOfRange b0_missingExams b0_proximityCost) b0_clashes b0_periodsOutOfRange b0_missingExams b0_proximityCost) else (f0_50 v0 v2 v3 v4 t0 (0 : Int32) (f4_0 b0_clashes b0_periodsOutOfRange b0_missingExams b0_proximityCost) b0_clashes b0_periodsOutOfRange b0_missingExams b0_proximityCost))
set_option maxRecDepth 65536 in
set_option maxHeartbeats 40000000 in
theorem b0_33 {p : Program} {l : Launch} {e : Env} {s : State} {m : MethodId} {args : Array Value} {below : List Frame} {meth : Method} {c : Code} {Z : State} {a0 : Array Value} (B : Ctx p Z s a0 m meth c "com/example/sittings/sittings/core/ScoreBreaksHardConstraintPinLaw" "law" code 8 (some .boolean)) {T0 : State} {locs : List Loc} {h : Heap} (h0 : Heap) (n0 : Nat) (v0 : Int64) (v2 : Int32) (v3 : Int32) (v4 : Int64) (b0 : Addr) (t0 : Int32) (b0_clashes : Int64) (b0_periodsOutOfRange : Int32) (b0_missingExams : Int32) (b0_proximityCost : Int64) (X0 : Stand p l e room_1 s m args below meth c T0 locs 1 4) (e0 : T0.heap = h) (N0 : Fr n0 locs) (Z0 : n0 ≤ h.size) (E_b0 : Exa Z h b0 "com/example/sittings/sittings/core/TorontoTimetable$Score") (F_b0_clashes : Fld Z h b0 "com/example/sittings/sittings/core/TorontoTimetable$Score" "clashes" "J" (.long b0_clashes)) (F_b0_periodsOutOfRange : Fld Z h b0 "com/example/sittings/sittings/core/TorontoTimetable$Score" "periodsOutOfRange" "I" (.int b0_periodsOutOfRange)) (F_b0_missingExams : Fld Z h b0 "com/example/sittings/sittings/core/TorontoTimetable$Score" "missingExams" "I" (.int b0_missingExams)) (F_b0_proximityCost : Fld Z h b0 "com/example/sittings/sittings/core/TorontoTimetable$Score" "proximityCost" "J" (.long b0_proximityCost)) (g_b0 : n0 ≤ b0) (r : Int32) (hr : f0_33 v0 v2 v3 v4 t0 b0_clashes b0_periodsOutOfRange b0_missingExams b0_proximityCost = r) :
    Fin p e below s 1 4 (Q0 n0 r) (T0.setTop (mkF m 33 #[.val (.long v0), .second, .val (.int v2), .val (.int v3), .val (.long v4), .second, .val (.ref b0), .unset] [(.int t0)])) := by
  obtain ⟨hx, hZ, hw, hby, hml, hret, hown, hnm, hlk⟩ := B
  unfold f0_33 at hr
  refine Fin.by (B := T0.setTop (mkF m 37 #[.val (.long v0), .second, .val (.int v2), .val (.int v3), .val (.long v4), .second, .val (.ref b0), .val (.int t0)] [(.ref b0)])) (fun t k => ?_) ?_
  · show Steps p.tables e below (T0.setTop (mkF m 33 #[.val (.long v0), .second, .val (.int v2), .val (.int v3), .val (.long v4), .second, .val (.ref b0), .unset] [(.int t0)])) _
    refine XS.istore X0.here hx rfl (hb hby at_33) rfl (l' := #[.val (.long v0), .second, .val (.int v2), .val (.int v3), .val (.long v4), .second, .val (.ref b0), .val (.int t0)]) rfl ?_
    show Steps p.tables e below (T0.setTop (mkF m 35 #[.val (.long v0), .second, .val (.int v2), .val (.int v3), .val (.long v4), .second, .val (.ref b0), .val (.int t0)] [])) _
    refine XS.aload X0.here hx rfl (hb hby at_35) rfl rfl ?_
    exact k
  -- pc 37: com/example/sittings/sittings/core/TorontoTimetable$Score.breaksHardConstraint
  obtain ⟨cq3, kq3, q3a, q3b, q3c⟩ := isOf hZ e0 E_b0
  obtain ⟨_, _, ⟨T3, L3, k3, n3⟩, -, X3, ⟨Lc3, hQ3, l3, y3, z3⟩, st3⟩ := X0.virtualBack hx (y := (⟨"com/example/sittings/sittings/core/TorontoTimetable$Score", "breaksHardConstraint", "()Z"⟩ : MethodName)) (z := (⟨"com/example/sittings/sittings/core/TorontoTimetable$Score", "breaksHardConstraint", "()Z"⟩ : MethodName)) hown (mvT hZ (hw _ (List.mem_of_getElem? (i := 22) rfl))) (mvT hZ (hw _ (List.mem_of_getElem? (i := 23) rfl))) (notFace_of_selects (args := #[]) (mvT hZ (hw _ (List.mem_of_getElem? (i := 25) rfl)))) (mvT hZ (hw _ (List.mem_of_getElem? (i := 25) rfl))) (mvT hZ (hw _ (List.mem_of_getElem? (i := 24) rfl))) (by decide) (backOf (W := 0) (rm4 l Z a0 hw [] b0 b0_clashes b0_periodsOutOfRange b0_missingExams b0_proximityCost h n0 Z0 E_b0 F_b0_clashes F_b0_periodsOutOfRange F_b0_missingExams F_b0_proximityCost) hZ (hw _ (List.mem_of_getElem? (i := 26) rfl)) (hw _ (List.mem_of_getElem? (i := 2) rfl)) (by decide) (by decide)) q3a q3c (g := (mkF m 37 #[.val (.long v0), .second, .val (.int v2), .val (.int v3), .val (.long v4), .second, .val (.ref b0), .val (.int t0)] [(.ref b0)])) rfl (by rw [hml]; rfl) (Steps.refl _) (argsL := []) (rest := []) (lenOf pd_2 rfl) rfl (by show 2 * 0 + _ ≤ _; exact Nat.le_of_eq rfl) (hb hby at_37) (fun _ _ => ⟨rfl, e0, (by decide : 1 + R4.cells ≤ _), (by decide : 4 + R4.slots ≤ _)⟩)
  dsimp only [Pt.U, Pt.locs, Pt.cells, Pt.slots] at X3 l3 y3 z3 st3 hQ3
  subst l3 y3 z3
  obtain ⟨rfl, Nq3, e3⟩ := hQ3
  have N3 := Fr.app N0 Nq3
  refine Fin.by (B := T3.setTop (mkF m 40 #[.val (.long v0), .second, .val (.int v2), .val (.int v3), .val (.long v4), .second, .val (.ref b0), .val (.int t0)] [(.int (f4_0 b0_clashes b0_periodsOutOfRange b0_missingExams b0_proximityCost))])) (fun t k => st3.trans k) ?_
  refine Fin.by (B := T3.setTop (mkF m 42 #[.val (.long v0), .second, .val (.int v2), .val (.int v3), .val (.long v4), .second, .val (.ref b0), .val (.int t0)] [(.int t0), (.int (f4_0 b0_clashes b0_periodsOutOfRange b0_missingExams b0_proximityCost))])) (fun t k => ?_) ?_
  · show Steps p.tables e below (T3.setTop (mkF m 40 #[.val (.long v0), .second, .val (.int v2), .val (.int v3), .val (.long v4), .second, .val (.ref b0), .val (.int t0)] [(.int (f4_0 b0_clashes b0_periodsOutOfRange b0_missingExams b0_proximityCost))])) _
    refine XS.iload X3.here hx rfl (hb hby at_40) rfl  ?_
    exact k
  by_cases hc42 : t0 = (0 : Int32)
  · rw [if_pos hc42] at hr
    refine Fin.by (B := T3.setTop (mkF m 45 #[.val (.long v0), .second, .val (.int v2), .val (.int v3), .val (.long v4), .second, .val (.ref b0), .val (.int t0)] [(.int (f4_0 b0_clashes b0_periodsOutOfRange b0_missingExams b0_proximityCost))])) (fun t k => ?_) ?_
    · show Steps p.tables e below (T3.setTop (mkF m 42 #[.val (.long v0), .second, .val (.int v2), .val (.int v3), .val (.long v4), .second, .val (.ref b0), .val (.int t0)] [(.int t0), (.int (f4_0 b0_clashes b0_periodsOutOfRange b0_missingExams b0_proximityCost))])) _
      exact XS.ifNo X3.here hx rfl (hb hby at_42) rfl ((if0 _ _).trans (teq hc42).2) k
    refine Fin.by (B := T3.setTop (mkF m 50 #[.val (.long v0), .second, .val (.int v2), .val (.int v3), .val (.long v4), .second, .val (.ref b0), .val (.int t0)] [(.int (1 : Int32)), (.int (f4_0 b0_clashes b0_periodsOutOfRange b0_missingExams b0_proximityCost))])) (fun t k => ?_) ?_
    · show Steps p.tables e below (T3.setTop (mkF m 45 #[.val (.long v0), .second, .val (.int v2), .val (.int v3), .val (.long v4), .second, .val (.ref b0), .val (.int t0)] [(.int (f4_0 b0_clashes b0_periodsOutOfRange b0_missingExams b0_proximityCost))])) _
      refine XS.iconst X3.here hx rfl (hb hby at_45) ?_
      show Steps p.tables e below (T3.setTop (mkF m 46 #[.val (.long v0), .second, .val (.int v2), .val (.int v3), .val (.long v4), .second, .val (.ref b0), .val (.int t0)] [(.int (1 : Int32)), (.int (f4_0 b0_clashes b0_periodsOutOfRange b0_missingExams b0_proximityCost))])) _
      refine XS.goto X3.here hx rfl (pc0 := 46) (pc' := 50) rfl (hb hby at_46) (by decide) (by decide) ?_
      exact k
    exact b0_50 ⟨hx, hZ, hw, hby, hml, hret, hown, hnm, hlk⟩ h0 n0 v0 v2 v3 v4 b0 t0 (1 : Int32) (f4_0 b0_clashes b0_periodsOutOfRange b0_missingExams b0_proximityCost) b0_clashes b0_periodsOutOfRange b0_missingExams b0_proximityCost X3 e3 N3 Z0 E_b0 F_b0_clashes F_b0_periodsOutOfRange F_b0_missingExams F_b0_proximityCost g_b0 _ hr
  · rw [if_neg hc42] at hr
    refine Fin.by (B := T3.setTop (mkF m 49 #[.val (.long v0), .second, .val (.int v2), .val (.int v3), .val (.long v4), .second, .val (.ref b0), .val (.int t0)] [(.int (f4_0 b0_clashes b0_periodsOutOfRange b0_missingExams b0_proximityCost))])) (fun t k => ?_) ?_
    · show Steps p.tables e below (T3.setTop (mkF m 42 #[.val (.long v0), .second, .val (.int v2), .val (.int v3), .val (.long v4), .second, .val (.ref b0), .val (.int t0)] [(.int t0), (.int (f4_0 b0_clashes b0_periodsOutOfRange b0_missingExams b0_proximityCost))])) _
      exact XS.ifYes X3.here hx rfl (pc0 := 42) (pc' := 49) rfl (hb hby at_42) rfl ((if0 _ _).trans (feq hc42).2) (by decide) (by decide) k
    refine Fin.by (B := T3.setTop (mkF m 50 #[.val (.long v0), .second, .val (.int v2), .val (.int v3), .val (.long v4), .second, .val (.ref b0), .val (.int t0)] [(.int (0 : Int32)), (.int (f4_0 b0_clashes b0_periodsOutOfRange b0_missingExams b0_proximityCost))])) (fun t k => ?_) ?_
    · show Steps p.tables e below (T3.setTop (mkF m 49 #[.val (.long v0), .second, .val (.int v2), .val (.int v3), .val (.long v4), .second, .val (.ref b0), .val (.int t0)] [(.int (f4_0 b0_clashes b0_periodsOutOfRange b0_missingExams b0_proximityCost))])) _
      refine XS.iconst X3.here hx rfl (hb hby at_49) ?_
      exact k
    exact b0_50 ⟨hx, hZ, hw, hby, hml, hret, hown, hnm, hlk⟩ h0 n0 v0 v2 v3 v4 b0 t0 (0 : Int32) (f4_0 b0_clashes b0_periodsOutOfRange b0_missingExams b0_proximityCost) b0_clashes b0_periodsOutOfRange b0_missingExams b0_proximityCost X3 e3 N3 Z0 E_b0 F_b0_clashes F_b0_periodsOutOfRange F_b0_missingExams F_b0_proximityCost g_b0 _ hr
def f0_32 (v0 : Int64) (v2 : Int32) (v3 : Int32) (v4 : Int64) (b0_clashes : Int64) (b0_periodsOutOfRange : Int32) (b0_missingExams : Int32) (b0_proximityCost : Int64) : Int32 := (f0_33 v0 v2 v3 v4 (0 : Int32) b0_clashes b0_periodsOutOfRange b0_missingExams b0_proximityCost)
set_option maxRecDepth 65536 in
set_option maxHeartbeats 40000000 in
theorem b0_32 {p : Program} {l : Launch} {e : Env} {s : State} {m : MethodId} {args : Array Value} {below : List Frame} {meth : Method} {c : Code} {Z : State} {a0 : Array Value} (B : Ctx p Z s a0 m meth c "com/example/sittings/sittings/core/ScoreBreaksHardConstraintPinLaw" "law" code 8 (some .boolean)) {T0 : State} {locs : List Loc} {h : Heap} (h0 : Heap) (n0 : Nat) (v0 : Int64) (v2 : Int32) (v3 : Int32) (v4 : Int64) (b0 : Addr) (b0_clashes : Int64) (b0_periodsOutOfRange : Int32) (b0_missingExams : Int32) (b0_proximityCost : Int64) (X0 : Stand p l e room_1 s m args below meth c T0 locs 1 4) (e0 : T0.heap = h) (N0 : Fr n0 locs) (Z0 : n0 ≤ h.size) (E_b0 : Exa Z h b0 "com/example/sittings/sittings/core/TorontoTimetable$Score") (F_b0_clashes : Fld Z h b0 "com/example/sittings/sittings/core/TorontoTimetable$Score" "clashes" "J" (.long b0_clashes)) (F_b0_periodsOutOfRange : Fld Z h b0 "com/example/sittings/sittings/core/TorontoTimetable$Score" "periodsOutOfRange" "I" (.int b0_periodsOutOfRange)) (F_b0_missingExams : Fld Z h b0 "com/example/sittings/sittings/core/TorontoTimetable$Score" "missingExams" "I" (.int b0_missingExams)) (F_b0_proximityCost : Fld Z h b0 "com/example/sittings/sittings/core/TorontoTimetable$Score" "proximityCost" "J" (.long b0_proximityCost)) (g_b0 : n0 ≤ b0) (r : Int32) (hr : f0_32 v0 v2 v3 v4 b0_clashes b0_periodsOutOfRange b0_missingExams b0_proximityCost = r) :
    Fin p e below s 1 4 (Q0 n0 r) (T0.setTop (mkF m 32 #[.val (.long v0), .second, .val (.int v2), .val (.int v3), .val (.long v4), .second, .val (.ref b0), .unset] [])) := by
  obtain ⟨hx, hZ, hw, hby, hml, hret, hown, hnm, hlk⟩ := B
  unfold f0_32 at hr
  refine Fin.by (B := T0.setTop (mkF m 33 #[.val (.long v0), .second, .val (.int v2), .val (.int v3), .val (.long v4), .second, .val (.ref b0), .unset] [(.int (0 : Int32))])) (fun t k => ?_) ?_
  · show Steps p.tables e below (T0.setTop (mkF m 32 #[.val (.long v0), .second, .val (.int v2), .val (.int v3), .val (.long v4), .second, .val (.ref b0), .unset] [])) _
    refine XS.iconst X0.here hx rfl (hb hby at_32) ?_
    exact k
  exact b0_33 ⟨hx, hZ, hw, hby, hml, hret, hown, hnm, hlk⟩ h0 n0 v0 v2 v3 v4 b0 (0 : Int32) b0_clashes b0_periodsOutOfRange b0_missingExams b0_proximityCost X0 e0 N0 Z0 E_b0 F_b0_clashes F_b0_periodsOutOfRange F_b0_missingExams F_b0_proximityCost g_b0 _ hr
def f0_12 (v0 : Int64) (v2 : Int32) (v3 : Int32) (v4 : Int64) (b0_clashes : Int64) (b0_periodsOutOfRange : Int32) (b0_missingExams : Int32) (b0_proximityCost : Int64) : Int32 := (if (0 : Int64) < v0 then (f0_32 v0 v2 v3 v4 b0_clashes b0_periodsOutOfRange b0_missingExams b0_proximityCost) else (if (0 : Int32) < v2 then (f0_32 v0 v2 v3 v4 b0_clashes b0_periodsOutOfRange b0_missingExams b0_proximityCost) else (if (0 : Int32) < v3 then (f0_32 v0 v2 v3 v4 b0_clashes b0_periodsOutOfRange b0_missingExams b0_proximityCost) else (f0_33 v0 v2 v3 v4 (1 : Int32) b0_clashes b0_periodsOutOfRange b0_missingExams b0_proximityCost))))
set_option maxRecDepth 65536 in
set_option maxHeartbeats 40000000 in
theorem b0_12 {p : Program} {l : Launch} {e : Env} {s : State} {m : MethodId} {args : Array Value} {below : List Frame} {meth : Method} {c : Code} {Z : State} {a0 : Array Value} (B : Ctx p Z s a0 m meth c "com/example/sittings/sittings/core/ScoreBreaksHardConstraintPinLaw" "law" code 8 (some .boolean)) {T0 : State} {locs : List Loc} {h : Heap} (h0 : Heap) (n0 : Nat) (v0 : Int64) (v2 : Int32) (v3 : Int32) (v4 : Int64) (b0 : Addr) (b0_clashes : Int64) (b0_periodsOutOfRange : Int32) (b0_missingExams : Int32) (b0_proximityCost : Int64) (X0 : Stand p l e room_1 s m args below meth c T0 locs 1 4) (e0 : T0.heap = h) (N0 : Fr n0 locs) (Z0 : n0 ≤ h.size) (E_b0 : Exa Z h b0 "com/example/sittings/sittings/core/TorontoTimetable$Score") (F_b0_clashes : Fld Z h b0 "com/example/sittings/sittings/core/TorontoTimetable$Score" "clashes" "J" (.long b0_clashes)) (F_b0_periodsOutOfRange : Fld Z h b0 "com/example/sittings/sittings/core/TorontoTimetable$Score" "periodsOutOfRange" "I" (.int b0_periodsOutOfRange)) (F_b0_missingExams : Fld Z h b0 "com/example/sittings/sittings/core/TorontoTimetable$Score" "missingExams" "I" (.int b0_missingExams)) (F_b0_proximityCost : Fld Z h b0 "com/example/sittings/sittings/core/TorontoTimetable$Score" "proximityCost" "J" (.long b0_proximityCost)) (g_b0 : n0 ≤ b0) (r : Int32) (hr : f0_12 v0 v2 v3 v4 b0_clashes b0_periodsOutOfRange b0_missingExams b0_proximityCost = r) :
    Fin p e below s 1 4 (Q0 n0 r) (T0.setTop (mkF m 12 #[.val (.long v0), .second, .val (.int v2), .val (.int v3), .val (.long v4), .second, .unset, .unset] [(.ref b0)])) := by
  obtain ⟨hx, hZ, hw, hby, hml, hret, hown, hnm, hlk⟩ := B
  unfold f0_12 at hr
  refine Fin.by (B := T0.setTop (mkF m 17 #[.val (.long v0), .second, .val (.int v2), .val (.int v3), .val (.long v4), .second, .val (.ref b0), .unset] [(.int (lcmpW v0 (0 : Int64)))])) (fun t k => ?_) ?_
  · show Steps p.tables e below (T0.setTop (mkF m 12 #[.val (.long v0), .second, .val (.int v2), .val (.int v3), .val (.long v4), .second, .unset, .unset] [(.ref b0)])) _
    refine XS.astore X0.here hx rfl (hb hby at_12) rfl rfl (l' := #[.val (.long v0), .second, .val (.int v2), .val (.int v3), .val (.long v4), .second, .val (.ref b0), .unset]) rfl ?_
    show Steps p.tables e below (T0.setTop (mkF m 14 #[.val (.long v0), .second, .val (.int v2), .val (.int v3), .val (.long v4), .second, .val (.ref b0), .unset] [])) _
    refine XS.lloadN X0.here hx rfl (hb hby at_14) rfl  ?_
    show Steps p.tables e below (T0.setTop (mkF m 15 #[.val (.long v0), .second, .val (.int v2), .val (.int v3), .val (.long v4), .second, .val (.ref b0), .unset] [(.long v0)])) _
    refine XS.lconst X0.here hx rfl (hb hby at_15) ?_
    show Steps p.tables e below (T0.setTop (mkF m 16 #[.val (.long v0), .second, .val (.int v2), .val (.int v3), .val (.long v4), .second, .val (.ref b0), .unset] [(.long (0 : Int64)), (.long v0)])) _
    refine XS.lcmp X0.here hx rfl (hb hby at_16) rfl ?_
    exact k
  by_cases hc17 : (0 : Int64) < v0
  · rw [if_pos hc17] at hr
    refine Fin.by (B := T0.setTop (mkF m 32 #[.val (.long v0), .second, .val (.int v2), .val (.int v3), .val (.long v4), .second, .val (.ref b0), .unset] [])) (fun t k => ?_) ?_
    · show Steps p.tables e below (T0.setTop (mkF m 17 #[.val (.long v0), .second, .val (.int v2), .val (.int v3), .val (.long v4), .second, .val (.ref b0), .unset] [(.int (lcmpW v0 (0 : Int64)))])) _
      exact XS.ifYes X0.here hx rfl (pc0 := 17) (pc' := 32) rfl (hb hby at_17) rfl ((if0 _ _).trans (tlt ((lw_gt _ _).mpr hc17)).2.2.1) (by decide) (by decide) k
    exact b0_32 ⟨hx, hZ, hw, hby, hml, hret, hown, hnm, hlk⟩ h0 n0 v0 v2 v3 v4 b0 b0_clashes b0_periodsOutOfRange b0_missingExams b0_proximityCost X0 e0 N0 Z0 E_b0 F_b0_clashes F_b0_periodsOutOfRange F_b0_missingExams F_b0_proximityCost g_b0 _ hr
  · rw [if_neg hc17] at hr
    refine Fin.by (B := T0.setTop (mkF m 20 #[.val (.long v0), .second, .val (.int v2), .val (.int v3), .val (.long v4), .second, .val (.ref b0), .unset] [])) (fun t k => ?_) ?_
    · show Steps p.tables e below (T0.setTop (mkF m 17 #[.val (.long v0), .second, .val (.int v2), .val (.int v3), .val (.long v4), .second, .val (.ref b0), .unset] [(.int (lcmpW v0 (0 : Int64)))])) _
      exact XS.ifNo X0.here hx rfl (hb hby at_17) rfl ((if0 _ _).trans (flt (fun q => hc17 ((lw_gt _ _).mp q))).2.2.1) k
    refine Fin.by (B := T0.setTop (mkF m 21 #[.val (.long v0), .second, .val (.int v2), .val (.int v3), .val (.long v4), .second, .val (.ref b0), .unset] [(.int v2)])) (fun t k => ?_) ?_
    · show Steps p.tables e below (T0.setTop (mkF m 20 #[.val (.long v0), .second, .val (.int v2), .val (.int v3), .val (.long v4), .second, .val (.ref b0), .unset] [])) _
      refine XS.iloadN X0.here hx rfl (hb hby at_20) rfl  ?_
      exact k
    by_cases hc21 : (0 : Int32) < v2
    · rw [if_pos hc21] at hr
      refine Fin.by (B := T0.setTop (mkF m 32 #[.val (.long v0), .second, .val (.int v2), .val (.int v3), .val (.long v4), .second, .val (.ref b0), .unset] [])) (fun t k => ?_) ?_
      · show Steps p.tables e below (T0.setTop (mkF m 21 #[.val (.long v0), .second, .val (.int v2), .val (.int v3), .val (.long v4), .second, .val (.ref b0), .unset] [(.int v2)])) _
        exact XS.ifYes X0.here hx rfl (pc0 := 21) (pc' := 32) rfl (hb hby at_21) rfl ((if0 _ _).trans (tlt hc21).2.2.1) (by decide) (by decide) k
      exact b0_32 ⟨hx, hZ, hw, hby, hml, hret, hown, hnm, hlk⟩ h0 n0 v0 v2 v3 v4 b0 b0_clashes b0_periodsOutOfRange b0_missingExams b0_proximityCost X0 e0 N0 Z0 E_b0 F_b0_clashes F_b0_periodsOutOfRange F_b0_missingExams F_b0_proximityCost g_b0 _ hr
    · rw [if_neg hc21] at hr
      refine Fin.by (B := T0.setTop (mkF m 24 #[.val (.long v0), .second, .val (.int v2), .val (.int v3), .val (.long v4), .second, .val (.ref b0), .unset] [])) (fun t k => ?_) ?_
      · show Steps p.tables e below (T0.setTop (mkF m 21 #[.val (.long v0), .second, .val (.int v2), .val (.int v3), .val (.long v4), .second, .val (.ref b0), .unset] [(.int v2)])) _
        exact XS.ifNo X0.here hx rfl (hb hby at_21) rfl ((if0 _ _).trans (flt hc21).2.2.1) k
      refine Fin.by (B := T0.setTop (mkF m 25 #[.val (.long v0), .second, .val (.int v2), .val (.int v3), .val (.long v4), .second, .val (.ref b0), .unset] [(.int v3)])) (fun t k => ?_) ?_
      · show Steps p.tables e below (T0.setTop (mkF m 24 #[.val (.long v0), .second, .val (.int v2), .val (.int v3), .val (.long v4), .second, .val (.ref b0), .unset] [])) _
        refine XS.iloadN X0.here hx rfl (hb hby at_24) rfl  ?_
        exact k
      by_cases hc25 : (0 : Int32) < v3
      · rw [if_pos hc25] at hr
        refine Fin.by (B := T0.setTop (mkF m 32 #[.val (.long v0), .second, .val (.int v2), .val (.int v3), .val (.long v4), .second, .val (.ref b0), .unset] [])) (fun t k => ?_) ?_
        · show Steps p.tables e below (T0.setTop (mkF m 25 #[.val (.long v0), .second, .val (.int v2), .val (.int v3), .val (.long v4), .second, .val (.ref b0), .unset] [(.int v3)])) _
          exact XS.ifYes X0.here hx rfl (pc0 := 25) (pc' := 32) rfl (hb hby at_25) rfl ((if0 _ _).trans (tlt hc25).2.2.1) (by decide) (by decide) k
        exact b0_32 ⟨hx, hZ, hw, hby, hml, hret, hown, hnm, hlk⟩ h0 n0 v0 v2 v3 v4 b0 b0_clashes b0_periodsOutOfRange b0_missingExams b0_proximityCost X0 e0 N0 Z0 E_b0 F_b0_clashes F_b0_periodsOutOfRange F_b0_missingExams F_b0_proximityCost g_b0 _ hr
      · rw [if_neg hc25] at hr
        refine Fin.by (B := T0.setTop (mkF m 28 #[.val (.long v0), .second, .val (.int v2), .val (.int v3), .val (.long v4), .second, .val (.ref b0), .unset] [])) (fun t k => ?_) ?_
        · show Steps p.tables e below (T0.setTop (mkF m 25 #[.val (.long v0), .second, .val (.int v2), .val (.int v3), .val (.long v4), .second, .val (.ref b0), .unset] [(.int v3)])) _
          exact XS.ifNo X0.here hx rfl (hb hby at_25) rfl ((if0 _ _).trans (flt hc25).2.2.1) k
        refine Fin.by (B := T0.setTop (mkF m 33 #[.val (.long v0), .second, .val (.int v2), .val (.int v3), .val (.long v4), .second, .val (.ref b0), .unset] [(.int (1 : Int32))])) (fun t k => ?_) ?_
        · show Steps p.tables e below (T0.setTop (mkF m 28 #[.val (.long v0), .second, .val (.int v2), .val (.int v3), .val (.long v4), .second, .val (.ref b0), .unset] [])) _
          refine XS.iconst X0.here hx rfl (hb hby at_28) ?_
          show Steps p.tables e below (T0.setTop (mkF m 29 #[.val (.long v0), .second, .val (.int v2), .val (.int v3), .val (.long v4), .second, .val (.ref b0), .unset] [(.int (1 : Int32))])) _
          refine XS.goto X0.here hx rfl (pc0 := 29) (pc' := 33) rfl (hb hby at_29) (by decide) (by decide) ?_
          exact k
        exact b0_33 ⟨hx, hZ, hw, hby, hml, hret, hown, hnm, hlk⟩ h0 n0 v0 v2 v3 v4 b0 (1 : Int32) b0_clashes b0_periodsOutOfRange b0_missingExams b0_proximityCost X0 e0 N0 Z0 E_b0 F_b0_clashes F_b0_periodsOutOfRange F_b0_missingExams F_b0_proximityCost g_b0 _ hr
def f0_0 (v0 : Int64) (v2 : Int32) (v3 : Int32) (v4 : Int64) : Int32 := (f0_12 v0 v2 v3 v4 ((f1_0 v0 v2 v3 v4 (0 : Int64) (0 : Int32) (0 : Int32) (0 : Int64)).1) ((f1_0 v0 v2 v3 v4 (0 : Int64) (0 : Int32) (0 : Int32) (0 : Int64)).2.1) ((f1_0 v0 v2 v3 v4 (0 : Int64) (0 : Int32) (0 : Int32) (0 : Int64)).2.2.1) ((f1_0 v0 v2 v3 v4 (0 : Int64) (0 : Int32) (0 : Int32) (0 : Int64)).2.2.2))
set_option maxRecDepth 65536 in
set_option maxHeartbeats 40000000 in
theorem b0_0 {p : Program} {l : Launch} {e : Env} {s : State} {m : MethodId} {args : Array Value} {below : List Frame} {meth : Method} {c : Code} {Z : State} {a0 : Array Value} (B : Ctx p Z s a0 m meth c "com/example/sittings/sittings/core/ScoreBreaksHardConstraintPinLaw" "law" code 8 (some .boolean)) {T0 : State} {locs : List Loc} {h : Heap} (h0 : Heap) (n0 : Nat) (v0 : Int64) (v2 : Int32) (v3 : Int32) (v4 : Int64) (X0 : Stand p l e room_1 s m args below meth c T0 locs 0 0) (e0 : T0.heap = h) (N0 : Fr n0 locs) (Z0 : n0 ≤ h.size) (r : Int32) (hr : f0_0 v0 v2 v3 v4 = r) :
    Fin p e below s 1 4 (Q0 n0 r) (T0.setTop (mkF m 0 #[.val (.long v0), .second, .val (.int v2), .val (.int v3), .val (.long v4), .second, .unset, .unset] [])) := by
  obtain ⟨hx, hZ, hw, hby, hml, hret, hown, hnm, hlk⟩ := B
  unfold f0_0 at hr
  obtain ⟨T1, h1, X1, e1, X1e, A1, D1, -, st1⟩ := newO X0 hx hZ hown (hw _ (List.mem_of_getElem? (i := 0) rfl)) (hw _ (List.mem_of_getElem? (i := 1) rfl)) (hw _ (List.mem_of_getElem? (i := 2) rfl)) e0 (g := (mkF m 0 #[.val (.long v0), .second, .val (.int v2), .val (.int v3), .val (.long v4), .second, .unset, .unset] [])) rfl (hb hby at_0) (by decide) (by decide)
  obtain ⟨b0, g1⟩ : ∃ z, z = h.size := ⟨_, rfl⟩
  rw [← g1] at A1 D1 st1
  have g_b0 : n0 ≤ b0 := Nat.le_trans Z0 (Nat.le_of_eq g1.symm)
  have Z1 : n0 ≤ h1.size := Nat.le_trans Z0 X1e.1
  have E_b0_1 := A1
  have F_b0_clashes_1 : Fld Z h1 b0 "com/example/sittings/sittings/core/TorontoTimetable$Score" "clashes" "J" (.long (0 : Int64)) := D1 (Or.inr (hw _ (List.mem_of_getElem? (i := 15) rfl))) (ty := .long) (by decide)
  have F_b0_periodsOutOfRange_1 : Fld Z h1 b0 "com/example/sittings/sittings/core/TorontoTimetable$Score" "periodsOutOfRange" "I" (.int (0 : Int32)) := D1 (Or.inr (hw _ (List.mem_of_getElem? (i := 17) rfl))) (ty := .int) (by decide)
  have F_b0_missingExams_1 : Fld Z h1 b0 "com/example/sittings/sittings/core/TorontoTimetable$Score" "missingExams" "I" (.int (0 : Int32)) := D1 (Or.inr (hw _ (List.mem_of_getElem? (i := 19) rfl))) (ty := .int) (by decide)
  have F_b0_proximityCost_1 : Fld Z h1 b0 "com/example/sittings/sittings/core/TorontoTimetable$Score" "proximityCost" "J" (.long (0 : Int64)) := D1 (Or.inr (hw _ (List.mem_of_getElem? (i := 21) rfl))) (ty := .long) (by decide)
  refine Fin.by (B := T1.setTop (mkF m 3 #[.val (.long v0), .second, .val (.int v2), .val (.int v3), .val (.long v4), .second, .unset, .unset] [(.ref b0)])) (fun t k => st1 t k) ?_
  refine Fin.by (B := T1.setTop (mkF m 9 #[.val (.long v0), .second, .val (.int v2), .val (.int v3), .val (.long v4), .second, .unset, .unset] [(.long v4), (.int v3), (.int v2), (.long v0), (.ref b0), (.ref b0)])) (fun t k => ?_) ?_
  · show Steps p.tables e below (T1.setTop (mkF m 3 #[.val (.long v0), .second, .val (.int v2), .val (.int v3), .val (.long v4), .second, .unset, .unset] [(.ref b0)])) _
    refine XS.dup X1.here hx rfl (hb hby at_3) rfl rfl ?_
    show Steps p.tables e below (T1.setTop (mkF m 4 #[.val (.long v0), .second, .val (.int v2), .val (.int v3), .val (.long v4), .second, .unset, .unset] [(.ref b0), (.ref b0)])) _
    refine XS.lloadN X1.here hx rfl (hb hby at_4) rfl  ?_
    show Steps p.tables e below (T1.setTop (mkF m 5 #[.val (.long v0), .second, .val (.int v2), .val (.int v3), .val (.long v4), .second, .unset, .unset] [(.long v0), (.ref b0), (.ref b0)])) _
    refine XS.iloadN X1.here hx rfl (hb hby at_5) rfl  ?_
    show Steps p.tables e below (T1.setTop (mkF m 6 #[.val (.long v0), .second, .val (.int v2), .val (.int v3), .val (.long v4), .second, .unset, .unset] [(.int v2), (.long v0), (.ref b0), (.ref b0)])) _
    refine XS.iloadN X1.here hx rfl (hb hby at_6) rfl  ?_
    show Steps p.tables e below (T1.setTop (mkF m 7 #[.val (.long v0), .second, .val (.int v2), .val (.int v3), .val (.long v4), .second, .unset, .unset] [(.int v3), (.int v2), (.long v0), (.ref b0), (.ref b0)])) _
    refine XS.lload X1.here hx rfl (hb hby at_7) rfl  ?_
    exact k
  -- pc 9: com/example/sittings/sittings/core/TorontoTimetable$Score.<init>
  obtain ⟨_, _, ⟨T2, L2, k2, n2⟩, -, X2, ⟨Lc2, hQ2, l2, y2, z2⟩, st2⟩ := X1.specialBack hx (y := (⟨"com/example/sittings/sittings/core/TorontoTimetable$Score", "<init>", "(JIIJ)V"⟩ : MethodName)) rfl hown (mvT hZ (hw _ (List.mem_of_getElem? (i := 3) rfl))) (mvT hZ (hw _ (List.mem_of_getElem? (i := 4) rfl))) (mvT hZ (hw _ (List.mem_of_getElem? (i := 5) rfl))) (by decide) (backOf (W := 1) (rm1 l Z a0 hw [] b0 v0 v2 v3 v4 (0 : Int64) (0 : Int32) (0 : Int32) (0 : Int64) h1 n0 Z1 E_b0_1 F_b0_clashes_1 F_b0_periodsOutOfRange_1 F_b0_missingExams_1 F_b0_proximityCost_1 g_b0) hZ (hw _ (List.mem_of_getElem? (i := 5) rfl)) (hw _ (List.mem_of_getElem? (i := 2) rfl)) (by decide) (by decide)) (g := (mkF m 9 #[.val (.long v0), .second, .val (.int v2), .val (.int v3), .val (.long v4), .second, .unset, .unset] [(.long v4), (.int v3), (.int v2), (.long v0), (.ref b0), (.ref b0)])) rfl (by rw [hml]; rfl) (Steps.refl _) (a := b0) (argsL := [(.long v0), (.int v2), (.int v3), (.long v4)]) (rest := [(.ref b0)]) (lenOf pd_1 rfl) rfl (by show 2 * 0 + _ ≤ _; exact Nat.le_of_eq rfl) (hb hby at_9) (fun _ _ => ⟨rfl, e1, (by decide : 1 + R1.cells ≤ _), (by decide : 4 + R1.slots ≤ _)⟩)
  dsimp only [Pt.U, Pt.locs, Pt.cells, Pt.slots] at X2 l2 y2 z2 st2 hQ2
  subst l2 y2 z2
  obtain ⟨rfl, Nq2, Kq2, E_b0_2, F_b0_clashes_2, F_b0_periodsOutOfRange_2, F_b0_missingExams_2, F_b0_proximityCost_2⟩ := hQ2
  obtain ⟨h2, e2⟩ : ∃ z, T2.heap = z := ⟨_, rfl⟩
  rw [e2] at Kq2 E_b0_2 F_b0_clashes_2 F_b0_periodsOutOfRange_2 F_b0_missingExams_2 F_b0_proximityCost_2
  have N2 := Fr.app N0 Nq2
  have Z2 : n0 ≤ h2.size := Nat.le_trans Z1 Kq2.1
  refine Fin.by (B := T2.setTop (mkF m 12 #[.val (.long v0), .second, .val (.int v2), .val (.int v3), .val (.long v4), .second, .unset, .unset] [(.ref b0)])) (fun t k => st2.trans k) ?_
  exact b0_12 ⟨hx, hZ, hw, hby, hml, hret, hown, hnm, hlk⟩ h0 n0 v0 v2 v3 v4 b0 ((f1_0 v0 v2 v3 v4 (0 : Int64) (0 : Int32) (0 : Int32) (0 : Int64)).1) ((f1_0 v0 v2 v3 v4 (0 : Int64) (0 : Int32) (0 : Int32) (0 : Int64)).2.1) ((f1_0 v0 v2 v3 v4 (0 : Int64) (0 : Int32) (0 : Int32) (0 : Int64)).2.2.1) ((f1_0 v0 v2 v3 v4 (0 : Int64) (0 : Int32) (0 : Int32) (0 : Int64)).2.2.2) X2 e2 N2 Z2 E_b0_2 F_b0_clashes_2 F_b0_periodsOutOfRange_2 F_b0_missingExams_2 F_b0_proximityCost_2 g_b0 _ hr
theorem ef_0 (m : MethodId) (v0 : Int64) (v2 : Int32) (v3 : Int32) (v4 : Int64) : entryFrame m #[(.long v0), (.int v2), (.int v3), (.long v4)] maxLocals = (mkF m 0 #[.val (.long v0), .second, .val (.int v2), .val (.int v3), .val (.long v4), .second, .unset, .unset] []) := by first | (simp [entryFrame, mkF, argsToLocals, Value.category, maxLocals]; done) | rfl
set_option maxRecDepth 65536 in
set_option maxHeartbeats 40000000 in
theorem rm0 (l : Launch) (Z : State) (a0 : Array Value) (hw : ∀ d ∈ tables_1, d.before a0 Z = true) (ws : List Jvm.Cond) (v0 : Int64) (v2 : Int32) (v3 : Int32) (v4 : Int64) (h0 : Heap) (n0 : Nat) (Z0 : n0 ≤ h0.size) :
    MetFree l x (head1 (Jvm.Cond.code x code maxLocals ret :: ws) room_1) (fun a U => a = #[(.long v0), (.int v2), (.int v3), (.long v4)] ∧ Z.Warmed39 U.vm ∧ U.heap = h0) (fun _ _ _ _ _ => True) (fun _ U o U' => ∃ v L, o = .returned v ∧ (Q0 n0 (f0_0 v0 v2 v3 v4)) v U'.heap L ∧ FrameEnd U o U' L 1 4) := by
  refine MetFree.of_bodySF (plainFor_of_name pn_0) hisR ?_
  intro p e s m args below meth c s₁ Bd hml0 hP hK
  obtain ⟨rfl, hZ, hh⟩ := hP
  have B : Ctx p Z s a0 m meth c "com/example/sittings/sittings/core/ScoreBreaksHardConstraintPinLaw" "law" code 8 (some .boolean) := ⟨Bd.exec, hZ, hw, Bd.bytes, hml0, Bd.returns, findClass_of_methodNamed Bd.named, (name_of_methodNamed Bd.named Bd.method).1, Bd.notSynchronized⟩
  have X0 : Stand p l e room_1 s m #[(.long v0), (.int v2), (.int v3), (.long v4)] below meth c s₁ [] 0 0 := Stand.of_body Bd
  have e0 : s₁.heap = h0 := by rw [← hh, Bd.state]; rfl
  have K := Keep.refl h0 []
  show Fin p e below s 1 4 (Q0 n0 (f0_0 v0 v2 v3 v4)) (s₁.setTop (entryFrame m #[(.long v0), (.int v2), (.int v3), (.long v4)] maxLocals))
  refine Fin.by (fun t k => castTop (ef_0 m v0 v2 v3 v4) k) ?_
  exact b0_0 B h0 n0 v0 v2 v3 v4 X0 e0 (Fr.nil n0) Z0  _ rfl

theorem own_33 (a : Int64) (b c : Int32) (d : Int64) (t : Int32) (h : (t = 1 ∧ ¬ (0 < a) ∧ ¬ (0 < b) ∧ ¬ (0 < c)) ∨ (t = 0 ∧ (0 < a ∨ 0 < b ∨ 0 < c))) : f0_33 a b c d t a b c d = 1 := by
  unfold f0_33 f0_50
  rcases h with ⟨rfl, h1, h2, h3⟩ | ⟨rfl, h⟩
  · have e : f4_0 a b c d = 0 := by unfold f4_0; rw [if_neg h1, if_neg h2, if_neg h3]
    rw [e]; decide
  · have e : f4_0 a b c d = 1 := by
      unfold f4_0 f4_23
      by_cases h1 : 0 < a
      · rw [if_pos h1]
      · rw [if_neg h1]
        by_cases h2 : 0 < b
        · rw [if_pos h2]
        · rw [if_neg h2]
          by_cases h3 : 0 < c
          · rw [if_pos h3]
          · exact absurd h (by simp only [h1, h2, h3]; decide)
    rw [e]; decide
theorem own_law (a : Int64) (b c : Int32) (d : Int64) : f0_0 a b c d = 1 := by
  show f0_12 a b c d a b c d = 1
  unfold f0_12 f0_32
  by_cases h1 : 0 < a
  · rw [if_pos h1]; exact own_33 a b c d 0 (Or.inr ⟨rfl, Or.inl h1⟩)
  · rw [if_neg h1]
    by_cases h2 : 0 < b
    · rw [if_pos h2]; exact own_33 a b c d 0 (Or.inr ⟨rfl, Or.inr (Or.inl h2)⟩)
    · rw [if_neg h2]
      by_cases h3 : 0 < c
      · rw [if_pos h3]; exact own_33 a b c d 0 (Or.inr ⟨rfl, Or.inr (Or.inr h3)⟩)
      · rw [if_neg h3]; exact own_33 a b c d 1 (Or.inl ⟨rfl, h1, h2, h3⟩)

set_option maxRecDepth 65536 in
set_option maxHeartbeats 40000000 in
theorem comes_1 {Post : Tables → Env → Array Value → State → Outcome → State → Prop} (hpost : ∀ tb e args s v u, (limb_1_1.after args s (.returned v) u = true ∧ limb_1_2.after args s (.returned v) u = true ∧ True) → FrameEnd s (.returned v) u (Jvm.fieldLocs frame_1_writes args s ++ Jvm.arrayLocs frame_1_arrays args s ++ Jvm.staticLocs frame_1_statics s) 16 128 → Post tb e args s (.returned v) u) :
    ArmFor flags0 classFile x code maxLocals ret World_1 tables_1 room_1 Calls_1 rest_1 Pre_1 Post := by
  intro l hfl _ _ p e ha hc hk s m args below hf hA hF happ hP
  obtain ⟨hcalls, hrest, hpre⟩ := hP
  obtain ⟨-, -, -, hnamed, -, -, -, hat⟩ := (Spec.applies_iff hf).mp happ
  obtain ⟨hg, hn⟩ := and_e (Cond.before_iff.mp (show (Jvm.Cond.and given_1 narrow_1).before args s = true from hpre))
  obtain ⟨gg1, gg2⟩ := and_e hg
  obtain ⟨gg3, gg4⟩ := and_e gg2
  obtain ⟨gg5, gg6⟩ := and_e gg4
  obtain ⟨gg7, gg8⟩ := and_e gg6
  obtain ⟨w0, w1, w2, w3, rfl⟩ : ∃ w0 w1 w2 w3 : Value, args = #[w0, w1, w2, w3] := by
    have hs : args.size = 4 := by simpa [Cond.value, given_1] using gg1
    obtain ⟨L⟩ := args
    match L, hs with
    | [w0, w1, w2, w3], _ => exact ⟨w0, w1, w2, w3, rfl⟩
  have hw := fun d (hd : d ∈ tables_1) => atoms_spec (ws := Jvm.Cond.code x code maxLocals ret :: tables_1) hat d (List.mem_cons_of_mem _ hd)
  have hfit : Fit s := fun {y c} hc i hi => by
    obtain ⟨ha, rfl⟩ := Array.getElem?_eq_some_iff.mp hc
    have q := List.all_eq_true.mp ((Array.all_eq_true_iff_forall_mem.mp hF) _ (Array.getElem_mem ha)) i (List.mem_range.mpr hi)
    simpa [Array.getElem?_eq_getElem hi] using q
  obtain ⟨i0, ei0⟩ := isL_v gg3
  obtain rfl : w0 = (.long i0) := Option.some.inj ei0
  obtain ⟨i1, ei1⟩ := is_v gg5
  obtain rfl : w1 = (.int i1) := Option.some.inj ei1
  obtain ⟨i2, ei2⟩ := is_v gg7
  obtain rfl : w2 = (.int i2) := Option.some.inj ei2
  obtain ⟨i3, ei3⟩ := isL_v gg8
  obtain rfl : w3 = (.long i3) := Option.some.inj ei3
  obtain ⟨n, o, h1, h2, h3, _, L, rfl, ⟨rfl, N⟩, hq⟩ := rm0 l s _ hw tables_1 i0 i1 i2 i3 s.heap s.heap.size (Nat.le_refl _)  p e ha hc hk s m _ below hf ((Spec.applies_iff_loose hf).mp happ).1 ⟨rfl, State.Warmed39.refl s, rfl⟩ trivial
  refine ⟨n, _, h1, h2, h3, hpost _ _ _ _ _ _ ⟨Cond.after_iff.mpr rfl, Cond.after_iff.mpr (eq_i res_at (Term.int_eval (1)) (congrArg Value.int (own_law i0 i1 i2 i3))), trivial⟩ ⟨hq.1, hq.2.1, (hq.2.2.sift fun y hy => Or.inr (N y hy)).mono (by decide) (by decide)⟩⟩
theorem main_1_1 : Claimed_1_1 := comes_1 fun _ _ _ _ _ _ h hF => ⟨h.1, hF⟩
theorem main_1_2 : Claimed_1_2 := comes_1 fun _ _ _ _ _ _ h hF => ⟨h.2.1, hF⟩
end Jvm.Pilot.@@N@@
namespace Jvm.Pilot.@@N@@
open Jvm Jvm.ClassFile Sem Op Lib Jvm.Free Jvm.Stand Jvm.Pilot.@@N@@.Jvm.D
/-! MADE BY PROGRAM (witnessworld.py) out of the Statement's table words and the real class files: 10 classes; the members and pool entries that the words name. The judged class is class 1, her method 1. -/
namespace start1
open Jvm.ClassFile
def u (s : String) : CpInfo := .utf8 (stringToUtf16 s)
/-- a pool by its gaps: so many unusable entries, then the entry; so many at the end -/
def gap : Nat → List CpInfo → List CpInfo
  | 0, r => r
  | n + 1, r => .unusable :: gap n r
def poolList (es : List (Nat × CpInfo)) (last : Nat) : List CpInfo := es.foldr (fun e r => gap e.1 (e.2 :: r)) (gap last [])
def pool (es : List (Nat × CpInfo)) (last : Nat) : Array CpInfo := ⟨poolList es last⟩
def fileOf (pool : Array CpInfo) (this : Nat) (attrs : Array Attribute := #[]) (ms : Array MethodInfo := #[]) (fl : Nat := 33) (sup : Nat := 0) (ifs : Array Nat := #[]) (fds : Array FieldInfo := #[]) : ClassFile where
  minorVersion := 0
  majorVersion := 65
  constantPool := pool
  accessFlags := fl
  thisClass := this
  superClass := sup
  interfaces := ifs
  fields := fds
  methods := ms
  attributes := attrs
def plain (name : String) (sup : Option ClassId) : Class where
  name := name
  kind := .ordinary
  loader := none
  accessFlags := 33
  super := sup
  interfaces := #[]
  cf := none
  fields := #[]
  methods := #[]
  instanceTypes := #[]
  staticTypes := #[]
  resolved := #[]
  callSites := []
  init := .initialized
  statics := none
  mirror := none

def pool0 : Array CpInfo := pool [(5, u "<init>"), (0, u "()V"), (1, .class_ 10), (1, u "java/lang/Object")] 113

def k0c0 : Code := { maxStack := 0, maxLocals := 1, code := object_method_1_code, exceptionTable := #[], attributes := #[] }
def k0m0 : Method := { name := "<init>", desc := "()V", sig := { parameters := [], returnType := none }, accessFlags := 1, code := some k0c0 }
/-- java/lang/Object -/
def k0 : Class := { plain "java/lang/Object" none with
  accessFlags := 33
  interfaces := #[]
  cf := some (fileOf pool0 8 #[] #[{ accessFlags := 1, nameIndex := 5, descriptorIndex := 6, attributes := #[] }] 33 0 #[] #[])
  fields := #[]
  methods := #[k0m0]
  instanceTypes := #[]
  staticTypes := #[]
  resolved := Array.replicate 124 none
  statics := none }

def pool1 : Array CpInfo := pool [(2, .class_ 4), (1, u "java/lang/Object"), (0, u "<init>"), (0, u "()V"), (0, .class_ 8), (0, u "com/example/sittings/sittings/core/TorontoTimetable$Score"), (0, .methodref 7 10), (0, .nameAndType 5 11), (0, u "(JIIJ)V"), (0, .methodref 7 13), (0, .nameAndType 14 15), (0, u "breaksHardConstraint"), (0, u "()Z"), (0, .class_ 17), (0, u "com/example/sittings/sittings/core/ScoreBreaksHardConstraintPinLaw"), (2, u "law"), (0, u "(JIIJ)Z")] 7

def k1m0 : Method := { name := "<init>", desc := "()V", sig := { parameters := [], returnType := none }, accessFlags := 2, code := none }
def k1c1 : Code := { maxStack := 8, maxLocals := 8, code := code, exceptionTable := #[], attributes := #[] }
def k1m1 : Method := { name := "law", desc := "(JIIJ)Z", sig := { parameters := [.long, .int, .int, .long], returnType := some .boolean }, accessFlags := 9, code := some k1c1 }
/-- com/example/sittings/sittings/core/ScoreBreaksHardConstraintPinLaw -/
def k1 : Class := { plain "com/example/sittings/sittings/core/ScoreBreaksHardConstraintPinLaw" (some 0) with
  accessFlags := 49
  interfaces := #[]
  cf := some (fileOf pool1 16 #[] #[{ accessFlags := 2, nameIndex := 5, descriptorIndex := 6, attributes := #[] }, { accessFlags := 9, nameIndex := 20, descriptorIndex := 21, attributes := #[] }] 49 2 #[] #[])
  fields := #[]
  methods := #[k1m0, k1m1]
  instanceTypes := #[]
  staticTypes := #[]
  resolved := Array.replicate 29 none
  statics := none }

def pool2 : Array CpInfo := pool [(1, .methodref 2 3), (0, .class_ 4), (0, .nameAndType 5 6), (0, u "java/lang/Object"), (0, u "<init>"), (0, u "()V"), (0, .class_ 8), (0, u "java/lang/Record")] 13

def k2c0 : Code := { maxStack := 1, maxLocals := 1, code := jdk_30_method_1_code, exceptionTable := #[], attributes := #[] }
def k2m0 : Method := { name := "<init>", desc := "()V", sig := { parameters := [], returnType := none }, accessFlags := 4, code := some k2c0 }
/-- java/lang/Record -/
def k2 : Class := { plain "java/lang/Record" (some 0) with
  accessFlags := 1057
  interfaces := #[]
  cf := some (fileOf pool2 7 #[] #[{ accessFlags := 4, nameIndex := 5, descriptorIndex := 6, attributes := #[] }] 1057 2 #[] #[])
  fields := #[]
  methods := #[k2m0]
  instanceTypes := #[]
  staticTypes := #[]
  resolved := Array.replicate 22 none
  statics := none }

def pool3 : Array CpInfo := pool [(1, .methodref 2 3), (0, .class_ 4), (0, .nameAndType 5 6), (0, u "java/lang/Record"), (0, u "<init>"), (0, u "()V"), (0, .fieldref 8 9), (0, .class_ 10), (0, .nameAndType 11 12), (0, u "com/example/sittings/sittings/core/TorontoTimetable$Score"), (0, u "clashes"), (0, u "J"), (0, .fieldref 8 14), (0, .nameAndType 15 16), (0, u "periodsOutOfRange"), (0, u "I"), (0, .fieldref 8 18), (0, .nameAndType 19 16), (0, u "missingExams"), (0, .fieldref 8 21), (0, .nameAndType 22 12), (0, u "proximityCost"), (12, u "(JIIJ)V"), (3, u "breaksHardConstraint"), (0, u "()Z"), (8, .class_ 50), (0, u "com/example/sittings/sittings/core/TorontoTimetable")] 22

def k3c0 : Code := { maxStack := 3, maxLocals := 7, code := prog_35_method_1_code, exceptionTable := #[], attributes := #[] }
def k3m0 : Method := { name := "<init>", desc := "(JIIJ)V", sig := { parameters := [.long, .int, .int, .long], returnType := none }, accessFlags := 1, code := some k3c0 }
def k3c1 : Code := { maxStack := 4, maxLocals := 1, code := prog_35_method_2_code, exceptionTable := #[], attributes := #[] }
def k3m1 : Method := { name := "breaksHardConstraint", desc := "()Z", sig := { parameters := [], returnType := some .boolean }, accessFlags := 1, code := some k3c1 }
/-- com/example/sittings/sittings/core/TorontoTimetable$Score -/
def k3 : Class := { plain "com/example/sittings/sittings/core/TorontoTimetable$Score" (some 2) with
  accessFlags := 49
  interfaces := #[]
  cf := some (fileOf pool3 8 #[.nestHost 49] #[{ accessFlags := 1, nameIndex := 5, descriptorIndex := 35, attributes := #[] }, { accessFlags := 1, nameIndex := 39, descriptorIndex := 40, attributes := #[] }] 49 2 #[] #[{ accessFlags := 18, nameIndex := 11, descriptorIndex := 12, attributes := #[] }, { accessFlags := 18, nameIndex := 15, descriptorIndex := 16, attributes := #[] }, { accessFlags := 18, nameIndex := 19, descriptorIndex := 16, attributes := #[] }, { accessFlags := 18, nameIndex := 22, descriptorIndex := 12, attributes := #[] }])
  fields := #[{ name := "clashes", type := .long, accessFlags := 18, slot := 0, constantValue := 0 }, { name := "periodsOutOfRange", type := .int, accessFlags := 18, slot := 1, constantValue := 0 }, { name := "missingExams", type := .int, accessFlags := 18, slot := 2, constantValue := 0 }, { name := "proximityCost", type := .long, accessFlags := 18, slot := 3, constantValue := 0 }]
  methods := #[k3m0, k3m1]
  instanceTypes := #[.long, .int, .int, .long]
  staticTypes := #[]
  resolved := Array.replicate 73 none
  statics := none }

def pool4 : Array CpInfo := pool [(1, u "java/lang/Cloneable"), (0, .class_ 1), (0, u "java/lang/Object"), (0, .class_ 3)] 3

/-- java/lang/Cloneable -/
def k4 : Class := { plain "java/lang/Cloneable" (some 0) with
  accessFlags := 1537
  interfaces := #[]
  cf := some (fileOf pool4 2 #[] #[] 1537 4 #[] #[])
  fields := #[]
  methods := #[]
  instanceTypes := #[]
  staticTypes := #[]
  resolved := Array.replicate 8 none
  statics := none }

def pool5 : Array CpInfo := pool [(1, u "java/io/Serializable"), (0, .class_ 1), (0, u "java/lang/Object"), (0, .class_ 3)] 3

/-- java/io/Serializable -/
def k5 : Class := { plain "java/io/Serializable" (some 0) with
  accessFlags := 1537
  interfaces := #[]
  cf := some (fileOf pool5 2 #[] #[] 1537 4 #[] #[])
  fields := #[]
  methods := #[]
  instanceTypes := #[]
  staticTypes := #[]
  resolved := Array.replicate 8 none
  statics := none }

/-- the primitive byte -/
def k6 : Class := { plain "byte" none with kind := .primitive 'B', accessFlags := 0x411 }
/-- [B -/
def k7 : Class := { plain "[B" (some 0) with kind := .array 6 .byte, interfaces := #[4, 5], accessFlags := 1041 }

/-- the primitive int -/
def k8 : Class := { plain "int" none with kind := .primitive 'I', accessFlags := 0x411 }
/-- [I -/
def k9 : Class := { plain "[I" (some 0) with kind := .array 8 .int, interfaces := #[4, 5], accessFlags := 1041 }

def heap : Heap := #[]
def classes : Array Class := #[k0, k1, k2, k3, k4, k5, k6, k7, k8, k9]
def interned : List (Array UInt16 × Addr) := []
def slotsUsed : Nat := 0
def theMethod : MethodId := ⟨1, 1⟩
def args0 : Array Value := #[.long 1, .int 0, .int 0, .long 3]
def aboutOver (below : List Frame) : State where
  vm := { classes := classes, interned := interned.toArray }
  heap := heap
  slotsUsed := slotsUsed
  threads := #[{ frames := .invoking theMethod args0 :: below }]
def below0 : List Frame := [.native { method := ⟨0, 0⟩, args := #[] }]
def about1 : State := aboutOver below0
def p0 : Program := .bare "" "" ""
def e0 : Env := launch0.env 0 0 0
theorem w_frames : about1.frames = Frame.invoking theMethod args0 :: below0 := rfl
set_option maxRecDepth 65536 in
theorem w_args : argsFit about1.vm theMethod args0 = true := by decide +kernel
set_option maxRecDepth 65536 in
theorem w_heap : heapFits about1 = true := by decide +kernel
set_option maxRecDepth 65536 in
theorem w_runnable : about1.curStatus? = some .runnable := by decide +kernel
set_option maxRecDepth 65536 in
theorem w_alone : about1.alone = true := by decide +kernel
set_option maxRecDepth 65536 in
theorem w_named : about1.methodNamed? x = some theMethod := by decide +kernel
set_option maxRecDepth 65536 in
theorem w_hears : about1.hears theMethod below0 = true := by decide +kernel
set_option maxRecDepth 65536 in
theorem w_ripe : about1.ripe theMethod args0 below0 = true := by decide +kernel
theorem w_running : about1.status = .running := rfl
set_option maxRecDepth 65536 in
theorem w_room : about1.hasRoom e0.platform room_1 = true :=
  launch0.hasRoom_least _ room_1 (by decide +kernel) (by decide +kernel) (by decide +kernel) (by decide +kernel) (by decide +kernel) (by decide +kernel)
theorem allAtoms_all (ts : List Jvm.Cond) (a : Array Jvm.Value) (st : Jvm.State) : (allAtoms ts).before a st = ts.all (fun c => c.before a st) := by
  induction ts with
  | nil => rfl
  | cons c t ih =>
    show (Jvm.Cond.and c (allAtoms t)).before a st = _
    rw [Jvm.Cond.before_and, ih, List.all_cons]
def words1 : List Jvm.Cond := Jvm.Cond.code x code maxLocals ret :: tables_1
/-- a 'code' word, met by the world's own term for the bytes: nothing is compared byte by byte -/
theorem code_word {y : MethodName} {bytes : ByteArray} {mx : Nat} {rt : Option FieldType} {a : Array Value} {s : State} {m : MethodId} {meth : Method} {c : Code} (h1 : s.methodNamed? y = some m) (h2 : s.vm.method? m = some meth) (h3 : meth.code = some c) (h4 : c.code = bytes)
    (h5 : (c.maxLocals == mx && c.exceptionTable.isEmpty && decide (c.maxStack ≤ mostOperands) && decide (meth.sig.returnType = rt) && !meth.locks && decide (parseMethodDescriptor y.desc = some meth.sig)) = true) : (Jvm.Cond.code y bytes mx rt).before a s = true := by
  simp only [Bool.and_eq_true, beq_iff_eq, Bool.not_eq_true', decide_eq_true_eq] at h5
  obtain ⟨⟨⟨⟨⟨g1, g2⟩, g3⟩, g4⟩, g5⟩, g6⟩ := h5
  simp [Cond.before, Cond.holds, Cond.value, h1, h2, h3, h4, g1, g2, g3, g4, g5, g6]
def isCode : Jvm.Cond → Bool
  | .code _ _ _ _ => true
  | _ => false
theorem all_split {L : List Jvm.Cond} {P : Jvm.Cond → Bool} (h1 : L.all (fun c => isCode c || P c) = true) (h2 : ∀ c ∈ L.filter isCode, P c = true) : L.all P = true := by
  refine List.all_eq_true.mpr fun c hc => ?_
  have h := List.all_eq_true.mp h1 c hc
  rcases Bool.eq_false_or_eq_true (isCode c) with hi | hi
  · exact h2 c (List.mem_filter.mpr ⟨hc, hi⟩)
  · simpa [hi] using h
set_option maxRecDepth 65536 in
theorem w_c0 : (Jvm.Cond.code x code maxLocals ret).before args0 about1 = true := code_word (m := ⟨1, 1⟩) (meth := k1m1) (c := k1c1) (by decide +kernel) rfl rfl rfl (by decide +kernel)
set_option maxRecDepth 65536 in
theorem w_c1 : (Jvm.Cond.code ({ cls := "com/example/sittings/sittings/core/TorontoTimetable$Score", name := "<init>", desc := "(JIIJ)V" } : Jvm.MethodName) prog_35_method_1_code (7 : Nat) (Option.none : Option Jvm.ClassFile.FieldType)).before args0 about1 = true := code_word (m := ⟨3, 0⟩) (meth := k3m0) (c := k3c0) (by decide +kernel) rfl rfl rfl (by decide +kernel)
set_option maxRecDepth 65536 in
theorem w_c2 : (Jvm.Cond.code ({ cls := "java/lang/Record", name := "<init>", desc := "()V" } : Jvm.MethodName) jdk_30_method_1_code (1 : Nat) (Option.none : Option Jvm.ClassFile.FieldType)).before args0 about1 = true := code_word (m := ⟨2, 0⟩) (meth := k2m0) (c := k2c0) (by decide +kernel) rfl rfl rfl (by decide +kernel)
set_option maxRecDepth 65536 in
theorem w_c3 : (Jvm.Cond.code ({ cls := "java/lang/Object", name := "<init>", desc := "()V" } : Jvm.MethodName) object_method_1_code (1 : Nat) (Option.none : Option Jvm.ClassFile.FieldType)).before args0 about1 = true := code_word (m := ⟨0, 0⟩) (meth := k0m0) (c := k0c0) (by decide +kernel) rfl rfl rfl (by decide +kernel)
set_option maxRecDepth 65536 in
theorem w_c4 : (Jvm.Cond.code ({ cls := "com/example/sittings/sittings/core/TorontoTimetable$Score", name := "breaksHardConstraint", desc := "()Z" } : Jvm.MethodName) prog_35_method_2_code (1 : Nat) (Option.some Jvm.ClassFile.FieldType.boolean)).before args0 about1 = true := code_word (m := ⟨3, 1⟩) (meth := k3m1) (c := k3c1) (by decide +kernel) rfl rfl rfl (by decide +kernel)
def codes1 : List Jvm.Cond := [Jvm.Cond.code x code maxLocals ret, Jvm.Cond.code ({ cls := "com/example/sittings/sittings/core/TorontoTimetable$Score", name := "<init>", desc := "(JIIJ)V" } : Jvm.MethodName) prog_35_method_1_code (7 : Nat) (Option.none : Option Jvm.ClassFile.FieldType), Jvm.Cond.code ({ cls := "java/lang/Record", name := "<init>", desc := "()V" } : Jvm.MethodName) jdk_30_method_1_code (1 : Nat) (Option.none : Option Jvm.ClassFile.FieldType), Jvm.Cond.code ({ cls := "java/lang/Object", name := "<init>", desc := "()V" } : Jvm.MethodName) object_method_1_code (1 : Nat) (Option.none : Option Jvm.ClassFile.FieldType), Jvm.Cond.code ({ cls := "com/example/sittings/sittings/core/TorontoTimetable$Score", name := "breaksHardConstraint", desc := "()Z" } : Jvm.MethodName) prog_35_method_2_code (1 : Nat) (Option.some Jvm.ClassFile.FieldType.boolean)]
set_option maxRecDepth 65536 in
theorem codes_eq : words1.filter isCode = codes1 := rfl
theorem w_codes : ∀ c ∈ words1.filter isCode, c.before args0 about1 = true := by
  rw [codes_eq]
  intro c hc
  simp only [codes1, List.mem_cons, List.not_mem_nil, or_false] at hc
  rcases hc with rfl | rfl | rfl | rfl | rfl
  · exact w_c0
  · exact w_c1
  · exact w_c2
  · exact w_c3
  · exact w_c4
set_option maxRecDepth 65536 in
theorem w_t1 : (words1.take 24).all (fun c => isCode c || c.before args0 about1) = true := by decide +kernel
set_option maxRecDepth 65536 in
theorem w_t2 : (words1.drop 24).all (fun c => isCode c || c.before args0 about1) = true := by decide +kernel
theorem w_tables : (allAtoms (Jvm.Cond.code x code maxLocals ret :: tables_1)).before args0 about1 = true := by
  rw [allAtoms_all]
  show words1.all (fun c => c.before args0 about1) = true
  refine all_split ?_ w_codes
  rw [← List.take_append_drop 24 words1, List.all_append, w_t1, w_t2]
  rfl
set_option maxRecDepth 65536 in
theorem w_case : (Jvm.Cond.and given_1 narrow_1).before args0 about1 = true := by decide +kernel
theorem w_applies : (headSpec (Jvm.Cond.code x code maxLocals ret :: tables_1) room_1).applies x e0.platform about1 = true :=
  (Spec.applies_iff w_frames).mpr ⟨w_running, w_runnable, w_alone, w_named, w_hears, w_ripe, w_room, w_tables⟩
theorem atStart : AtStart classFile x code maxLocals ret World_1 tables_1 room_1 Calls_1 rest_1 Pre_1 launch0 p0 e0 about1 theMethod args0 below0 :=
  ⟨lists_1, trivial, launch0.admits_env _ _ _, launch0.least_env, fairChoices_fair.cas, fairChoices_fair.clock, w_frames, w_args, w_heap, w_applies, trivial, trivial, w_case⟩
end start1
theorem witness_1 : WitnessClaimed_1 := ⟨start1.p0, start1.e0, start1.about1, start1.theMethod, start1.args0, start1.below0, start1.atStart⟩
end Jvm.Pilot.@@N@@
