import JvmDerived
import JvmDerived.Pilot.@@N@@Statement
import JvmDerived.Pilot.@@N@@Code
set_option linter.unusedVariables false
set_option linter.unusedSimpArgs false
namespace Jvm.RoadKit
open Sem ClassFile Op Lib Jvm.Stand Jvm.Free Jvm.LawKit
section New
variable {p : Program} {l : Launch} {e : Env} {R : Room} {s : State} {m : MethodId} {args : Array Value} {below : List Frame} {meth : Method} {c : Code} {T : State} {locs : List Loc} {cells slots : Nat}
theorem retI (X : Stand p l e R s m args below meth c T locs cells slots) (hx : p.tables.exec = Jvm.exec) {pc : Nat} {Ls : Array Slot} {z : Int32} {rest : List Value} (hret : meth.sig.returnType = some .int) (hd : decode c.code pc = .ok (.ireturn, 1)) {fs : List Frame}
    (hl : ∀ (f : JFrame) (acts : List Action), f.method = m → f.locked = none → f.entered = [] → (doReturn e (T.setTop f) acts (some (.int z))).1 = T.setFrames fs) : Steps p.tables e below (T.setTop (mkF m pc Ls (.int z :: rest))) (T.setFrames fs) := by
  have hm' : T.vm.method? m = some meth := X.method'
  have hn : narrow .int (.int z) = .int z := rfl
  show Steps p.tables e below (T.setTop { method := m, pc := pc, locals := Ls, stack := _ :: rest, locked := none }) _
  jvm_step X.here [X.here.top, hx, hd, hm', hret, hn]
  first | (intro acts; rw [hl _ acts rfl rfl rfl]) | rw [hl _ _ rfl rfl rfl]
  exact Steps.refl _
end New
end Jvm.RoadKit
namespace Jvm.Pilot.@@N@@
open Jvm Jvm.ClassFile Sem Op Lib Jvm.Free Jvm.Stand Jvm.LawKit Jvm.RoadKit Bundle Jvm.Pilot.@@N@@.Jvm.D
/-! what every block of a body's walk is given -/
def Ctx (p : Program) (Z s : State) (a0 : Array Value) (m : MethodId) (meth : Method) (c : Code) (own nm : String) (bytes : ByteArray) (maxl : Nat) (rt : Option FieldType) : Prop :=
  p.tables.exec = Jvm.exec ∧ Z.Warmed39 s.vm ∧ (∀ d ∈ tables_1, d.before a0 Z = true) ∧ c.code = bytes ∧ c.maxLocals = maxl ∧ meth.sig.returnType = rt ∧ s.vm.findClass own = some m.cls ∧ meth.name = nm ∧ meth.locks = false
/-- from the state A the body's run ends, returns, and leaves what Q says -/
def Fin (p : Program) (e : Env) (below : List Frame) (s : State) (cells slots : Nat) (Q : Option Value → Heap → List Loc → Prop) (A : State) : Prop :=
  ∃ s₂ o, Steps p.tables e below A s₂ ∧ s₂.status = .running ∧ Ended s₂ below o ∧ ∃ v L, o = .returned v ∧ Q v s₂.heap L ∧ FrameEnd s o s₂ L cells slots
section Ends
variable {p : Program} {l : Launch} {e : Env} {R : Room} {s : State} {m : MethodId} {args : Array Value} {below : List Frame} {meth : Method} {c : Code} {T : State} {locs : List Loc} {cells slots : Nat} {C S : Nat} {Q : Option Value → Heap → List Loc → Prop}
theorem Fin.by {A B : State} (h : ∀ t, Steps p.tables e below B t → Steps p.tables e below A t) (k : Fin p e below s C S Q B) : Fin p e below s C S Q A := by
  obtain ⟨s₂, o, h1, r⟩ := k
  exact ⟨s₂, o, h _ h1, r⟩
theorem own_retI (X : Stand p l e R s m args below meth c T locs cells slots) (hx : p.tables.exec = Jvm.exec) (hlk : meth.locks = false) {pc : Nat} {Ls : Array Slot} {z : Int32} {rest : List Value} (hret : meth.sig.returnType = some .int) (hd : decode c.code pc = .ok (.ireturn, 1)) (hc : cells ≤ C) (hs : slots ≤ S)
    (hq : Q (some (.int z)) T.heap locs) : Fin p e below s C S Q (T.setTop (mkF m pc Ls (.int z :: rest))) := by
  obtain ⟨fs, hr, hrun, hended, hW, hsame⟩ := X.leave (v := some (.int z)) (fun h => by rw [hret] at h; cases h) hlk
  exact ⟨_, _, retI X hx hret hd hr, hrun, hended, _, _, rfl, hq, ⟨_, rfl⟩, hW, hsame.mono hc hs⟩
theorem own_retN (X : Stand p l e R s m args below meth c T locs cells slots) (hx : p.tables.exec = Jvm.exec) (hlk : meth.locks = false) {pc : Nat} {Ls : Array Slot} {z : Int32} {rest : List Value} {t : FieldType} (hret : meth.sig.returnType = some t) (ht : t = .boolean ∨ t = .byte ∨ t = .char ∨ t = .short) (hd : decode c.code pc = .ok (.ireturn, 1)) (hc : cells ≤ C) (hs : slots ≤ S)
    (hq : Q (some (.int (nar t z))) T.heap locs) : Fin p e below s C S Q (T.setTop (mkF m pc Ls (.int z :: rest))) := by
  obtain ⟨fs, hr, hrun, hended, hW, hsame⟩ := X.leave (v := some (.int (nar t z))) (fun h => by rw [hret] at h; cases h) hlk
  exact ⟨_, _, retN X hx hret ht hd hr, hrun, hended, _, _, rfl, hq, ⟨_, rfl⟩, hW, hsame.mono hc hs⟩
theorem own_retJ (X : Stand p l e R s m args below meth c T locs cells slots) (hx : p.tables.exec = Jvm.exec) (hlk : meth.locks = false) {pc : Nat} {Ls : Array Slot} {z : Int64} (hret : meth.sig.returnType = some .long) (hd : decode c.code pc = .ok (.lreturn, 1)) (hc : cells ≤ C) (hs : slots ≤ S)
    (hq : Q (some (.long z)) T.heap locs) : Fin p e below s C S Q (T.setTop (mkF m pc Ls [.long z])) := by
  obtain ⟨fs, hr, hrun, hended, hW, hsame⟩ := X.leave (v := some (.long z)) (fun h => by rw [hret] at h; cases h) hlk
  exact ⟨_, _, X.lreturnOut hx hret hd hr, hrun, hended, _, _, rfl, hq, ⟨_, rfl⟩, hW, hsame.mono hc hs⟩
theorem own_retR (X : Stand p l e R s m args below meth c T locs cells slots) (hx : p.tables.exec = Jvm.exec) (hlk : meth.locks = false) {pc : Nat} {Ls : Array Slot} {z : Addr} {t : FieldType} (hret : meth.sig.returnType = some t) (ht : t.isReference = true) (hd : decode c.code pc = .ok (.areturn, 1)) (hc : cells ≤ C) (hs : slots ≤ S)
    (hq : Q (some (.ref z)) T.heap locs) : Fin p e below s C S Q (T.setTop (mkF m pc Ls [.ref z])) := by
  obtain ⟨fs, hr, hrun, hended, hW, hsame⟩ := X.leave (v := some (.ref z)) (fun h => by rw [hret] at h; cases h) hlk
  exact ⟨_, _, X.areturnOut hx rfl hret ht hd hr, hrun, hended, _, _, rfl, hq, ⟨_, rfl⟩, hW, hsame.mono hc hs⟩
theorem own_ret0 (X : Stand p l e R s m args below meth c T locs cells slots) (hx : p.tables.exec = Jvm.exec) (hlk : meth.locks = false) {pc : Nat} {Ls : Array Slot} (hret : meth.sig.returnType = none) (hd : decode c.code pc = .ok (.return_, 1)) (hc : cells ≤ C) (hs : slots ≤ S)
    (hq : Q none T.heap locs) : Fin p e below s C S Q (T.setTop (mkF m pc Ls [])) := by
  obtain ⟨fs, hr, hrun, hended, hW, hsame⟩ := X.leave (v := none) (fun _ => rfl) hlk
  exact ⟨_, _, X.returnOut hx hret hd hr, hrun, hended, _, _, rfl, hq, ⟨_, rfl⟩, hW, hsame.mono hc hs⟩
end Ends
section Arrays
variable {Z : State} {h h' : Heap} {a : Addr} {k : ClassId} {ty : FieldType} {n j : Int32} {vs : List Value} {d : Value}
/-- what an array of ints holds at the place j -/
def own_at (xs : List Int32) (j : Int32) : Int32 := xs.getD j.toNatClampNeg 0
def own_atJ (xs : List Int64) (j : Int32) : Int64 := xs.getD j.toNatClampNeg 0
theorem own_mapD (xs : List Int32) (i : Nat) : (xs.map Value.int).getD i (.int 0) = .int (xs.getD i 0) := by
  rw [List.getD_eq_getElem?_getD, List.getD_eq_getElem?_getD, List.getElem?_map]; cases xs[i]? <;> rfl
theorem own_mapDJ (xs : List Int64) (i : Nat) : (xs.map Value.long).getD i (.long 0) = .long (xs.getD i 0) := by
  rw [List.getD_eq_getElem?_getD, List.getD_eq_getElem?_getD, List.getElem?_map]; cases xs[i]? <;> rfl
theorem own_open (V : Arv Z h a k ty n vs d) (hj : ¬ (j < 0) ∧ j < n) : ∃ cl, Arr Z h a cl ty ∧ ¬ (j < 0 ∨ cl.slots.size ≤ j.toNatClampNeg) ∧ True := by
  obtain ⟨cl, Ar, -, S, -, -, -⟩ := V
  exact ⟨cl, Ar, inb_of S hj, trivial⟩
theorem own_readI {xs : List Int32} (V : Arv Z h a k ty n (xs.map Value.int) (.int 0)) (hj : ¬ (j < 0) ∧ j < n) (i : Nat) (hi : j.toNatClampNeg = i) : ∃ cl, Arr Z h a cl ty ∧ ¬ (j < 0 ∨ cl.slots.size ≤ j.toNatClampNeg) ∧ cl.slots[j.toNatClampNeg]? = some (.int (xs.getD i 0)) := by
  obtain ⟨cl, Ar, -, S, -, H, -⟩ := V
  have q := inb_of S hj
  refine ⟨cl, Ar, q, ?_⟩
  rw [H _ (Nat.lt_of_not_le fun y => q (Or.inr y)), own_mapD, hi]
theorem own_readJ {xs : List Int64} (V : Arv Z h a k ty n (xs.map Value.long) (.long 0)) (hj : ¬ (j < 0) ∧ j < n) (i : Nat) (hi : j.toNatClampNeg = i) : ∃ cl, Arr Z h a cl ty ∧ ¬ (j < 0 ∨ cl.slots.size ≤ j.toNatClampNeg) ∧ cl.slots[j.toNatClampNeg]? = some (.long (xs.getD i 0)) := by
  obtain ⟨cl, Ar, -, S, -, H, -⟩ := V
  have q := inb_of S hj
  refine ⟨cl, Ar, q, ?_⟩
  rw [H _ (Nat.lt_of_not_le fun y => q (Or.inr y)), own_mapDJ, hi]
theorem own_setI {xs : List Int32} {v : Int32} (V : Arv Z h a k ty n (xs.map Value.int) (.int 0)) (ln : xs.length = n.toNatClampNeg) (hj : ¬ (j < 0) ∧ j < n) (W : Wr h h' a j.toNatClampNeg (.int v)) (hf : fits ty (.int v) = true) (i : Nat) (hi : j.toNatClampNeg = i) :
    Arv Z h' a k ty n ((xs.set i v).map Value.int) (.int 0) ∧ (xs.set i v).length = n.toNatClampNeg := by
  subst hi
  obtain ⟨cl, Ar, q1, S, q3, H, G⟩ := V
  have q := inb_of S hj
  have W2 := Arv.set Ar q1 S q3 H G hf W j.toNatClampNeg rfl (by rw [List.length_map, ln, ← S]; exact Nat.lt_of_not_le fun y => q (Or.inr y))
  rw [List.map_set]
  exact ⟨W2, by rw [List.length_set]; exact ln⟩
theorem own_setJ {xs : List Int64} {v : Int64} (V : Arv Z h a k ty n (xs.map Value.long) (.long 0)) (ln : xs.length = n.toNatClampNeg) (hj : ¬ (j < 0) ∧ j < n) (W : Wr h h' a j.toNatClampNeg (.long v)) (hf : fits ty (.long v) = true) (i : Nat) (hi : j.toNatClampNeg = i) :
    Arv Z h' a k ty n ((xs.set i v).map Value.long) (.long 0) ∧ (xs.set i v).length = n.toNatClampNeg := by
  subst hi
  obtain ⟨cl, Ar, q1, S, q3, H, G⟩ := V
  have q := inb_of S hj
  have W2 := Arv.set Ar q1 S q3 H G hf W j.toNatClampNeg rfl (by rw [List.length_map, ln, ← S]; exact Nat.lt_of_not_le fun y => q (Or.inr y))
  rw [List.map_set]
  exact ⟨W2, by rw [List.length_set]; exact ln⟩
theorem own_newI (A : Arr Z h a (newA k ty n) ty) (hd : defaultValue ty = .int 0) (q : ¬ n < 0) {xs : List Int32} (hxs : xs = List.replicate n.toNatClampNeg 0) : Arv Z h a k ty n (xs.map Value.int) (.int 0) ∧ xs.length = n.toNatClampNeg := by
  subst hxs
  have V := Arv.new A q
  rw [hd] at V
  have V2 := V.pad (pad_rep [] (.int 0) n.toNatClampNeg)
  rw [List.map_replicate]
  exact ⟨V2, by rw [List.length_replicate]⟩
theorem own_newJ (A : Arr Z h a (newA k ty n) ty) (hd : defaultValue ty = .long 0) (q : ¬ n < 0) {xs : List Int64} (hxs : xs = List.replicate n.toNatClampNeg 0) : Arv Z h a k ty n (xs.map Value.long) (.long 0) ∧ xs.length = n.toNatClampNeg := by
  subst hxs
  have V := Arv.new A q
  rw [hd] at V
  have V2 := V.pad (pad_rep [] (.long 0) n.toNatClampNeg)
  rw [List.map_replicate]
  exact ⟨V2, by rw [List.length_replicate]⟩
end Arrays
theorem d1_0 : decode prog_58_method_1_code 0 = .ok (.aload_n 0, 1) := by decide +kernel
theorem d1_1 : decode prog_58_method_1_code 1 = .ok (.invokespecial 1, 3) := by decide +kernel
theorem d1_4 : decode prog_58_method_1_code 4 = .ok (.return_, 1) := by decide +kernel
theorem pn_1 : plainName "com/example/quietwire/quietwire/protocol/Overdue" = true := by first | (simp [plainName, overriddenIn]; done) | decide +kernel
def R1 : Room := { frames := 1, cells := 0, slots := 0, locals := 12 }
def Q1 (Z : State)  (h0 : Heap) (n0 : Nat) (r : Unit) (v : Option Value) (h : Heap) (L : List Loc) : Prop := v = none ∧ Fr n0 L ∧ h = h0
def f1_0 (o0_overdue : Int32) (o0_gap : Int64) (o0_nextProbe : Int64) : Unit := ()
set_option maxRecDepth 65536 in
set_option maxHeartbeats 40000000 in
theorem b1_0 {p : Program} {l : Launch} {e : Env} {s : State} {m : MethodId} {args : Array Value} {below : List Frame} {meth : Method} {c : Code} {Z : State} {a0 : Array Value} (B : Ctx p Z s a0 m meth c "com/example/quietwire/quietwire/protocol/Overdue" "<init>" prog_58_method_1_code 1 none) {T0 : State} {locs : List Loc} {h : Heap} (h0 : Heap) (n0 : Nat) (o0 : Addr) (o0_overdue : Int32) (o0_gap : Int64) (o0_nextProbe : Int64) (X0 : Stand p l e R1 s m args below meth c T0 locs 0 0) (e0 : T0.heap = h) (N0 : Fr n0 locs) (Z0 : n0 ≤ h.size) (hh0 : h = h0) (E_o0 : Exa Z h o0 "com/example/quietwire/quietwire/protocol/Overdue") (F_o0_overdue : Fld Z h o0 "com/example/quietwire/quietwire/protocol/Overdue" "overdue" "Z" (.int o0_overdue)) (F_o0_gap : Fld Z h o0 "com/example/quietwire/quietwire/protocol/Overdue" "gap" "J" (.long o0_gap)) (F_o0_nextProbe : Fld Z h o0 "com/example/quietwire/quietwire/protocol/Overdue" "nextProbe" "J" (.long o0_nextProbe)) (r : Unit) (hr : f1_0 o0_overdue o0_gap o0_nextProbe = r) :
    Fin p e below s R1.cells R1.slots (Q1 Z  h0 n0 r) (T0.setTop (mkF m 0 #[.val (.ref o0)] [])) := by
  obtain ⟨hx, hZ, hw, hby, hml, hret, hown, hnm, hlk⟩ := B
  unfold f1_0 at hr
  refine Fin.by (B := T0.setTop (mkF m 1 #[.val (.ref o0)] [(.ref o0)])) (fun t k => ?_) ?_
  · show Steps p.tables e below (T0.setTop (mkF m 0 #[.val (.ref o0)] [])) _
    refine XS.aloadN X0.here hx rfl (hb hby d1_0) rfl rfl ?_
    exact k
  obtain ⟨T1, X1, e1, st1⟩ := initO X0 hx hZ hown (hw _ (List.mem_of_getElem? (i := 6) rfl)) (hw _ (List.mem_of_getElem? (i := 7) rfl)) (hw _ (List.mem_of_getElem? (i := 8) rfl)) e0 (g := (mkF m 1 #[.val (.ref o0)] [(.ref o0)])) rfl (by rw [hml]; rfl) rfl (hb hby d1_1) (by decide) (W := 0) (by show 2 * 0 + _ ≤ _; exact Nat.le_of_eq rfl) (by decide)
  refine Fin.by (B := T1.setTop (mkF m 4 #[.val (.ref o0)] [])) (fun t k => st1 t k) ?_
  subst hr
  exact own_ret0 X1 hx hlk hret (hb hby d1_4) (by decide) (by decide) ⟨rfl, N0, (e1.trans hh0)⟩
theorem ef_1 (m : MethodId) (o0 : Addr) : entryFrame m #[(.ref o0)] 1 = (mkF m 0 #[.val (.ref o0)] []) := by first | (simp [entryFrame, mkF, argsToLocals, Value.category]; done) | rfl
set_option maxRecDepth 65536 in
set_option maxHeartbeats 40000000 in
theorem rm1 (l : Launch) (Z : State) (a0 : Array Value) (hw : ∀ d ∈ tables_1, d.before a0 Z = true) (ws : List Jvm.Cond) (o0 : Addr) (o0_overdue : Int32) (o0_gap : Int64) (o0_nextProbe : Int64) (h0 : Heap) (n0 : Nat) (Z0 : n0 ≤ h0.size) (E_o0 : Exa Z h0 o0 "com/example/quietwire/quietwire/protocol/Overdue") (F_o0_overdue : Fld Z h0 o0 "com/example/quietwire/quietwire/protocol/Overdue" "overdue" "Z" (.int o0_overdue)) (F_o0_gap : Fld Z h0 o0 "com/example/quietwire/quietwire/protocol/Overdue" "gap" "J" (.long o0_gap)) (F_o0_nextProbe : Fld Z h0 o0 "com/example/quietwire/quietwire/protocol/Overdue" "nextProbe" "J" (.long o0_nextProbe)) :
    MetFree l (⟨"com/example/quietwire/quietwire/protocol/Overdue", "<init>", "()V"⟩ : MethodName) (head1 (Jvm.Cond.code (⟨"com/example/quietwire/quietwire/protocol/Overdue", "<init>", "()V"⟩ : MethodName) prog_58_method_1_code 1 none :: ws) R1) (fun a U => a = #[(.ref o0)] ∧ Z.Warmed39 U.vm ∧ U.heap = h0) (fun _ _ _ _ _ => True) (fun _ U o U' => ∃ v L, o = .returned v ∧ (Q1 Z  h0 n0 (f1_0 o0_overdue o0_gap o0_nextProbe)) v U'.heap L ∧ FrameEnd U o U' L R1.cells R1.slots) := by
  refine MetFree.of_bodySF (plainFor_of_name pn_1) hisR ?_
  intro p e s m args below meth c s₁ Bd hml0 hP hK
  obtain ⟨rfl, hZ, hh⟩ := hP
  have B : Ctx p Z s a0 m meth c "com/example/quietwire/quietwire/protocol/Overdue" "<init>" prog_58_method_1_code 1 none := ⟨Bd.exec, hZ, hw, Bd.bytes, hml0, Bd.returns, findClass_of_methodNamed Bd.named, (name_of_methodNamed Bd.named Bd.method).1, Bd.notSynchronized⟩
  have X0 : Stand p l e R1 s m #[(.ref o0)] below meth c s₁ [] 0 0 := Stand.of_body Bd
  have e0 : s₁.heap = h0 := by rw [← hh, Bd.state]; rfl
  have K := Keep.refl h0 []
  show Fin p e below s R1.cells R1.slots (Q1 Z  h0 n0 (f1_0 o0_overdue o0_gap o0_nextProbe)) (s₁.setTop (entryFrame m #[(.ref o0)] 1))
  refine Fin.by (fun t k => castTop (ef_1 m o0) k) ?_
  exact b1_0 B h0 n0 o0 o0_overdue o0_gap o0_nextProbe X0 e0 (Fr.nil n0) Z0 rfl E_o0 F_o0_overdue F_o0_gap F_o0_nextProbe _ rfl
theorem pd_0 : parseMethodDescriptor "()V" = some ⟨[], none⟩ := by decide +kernel
theorem d3_0 : decode prog_58_method_3_code 0 = .ok (.iload 4, 2) := by decide +kernel
theorem d3_2 : decode prog_58_method_3_code 2 = .ok (.ifCond .eq 8, 3) := by decide +kernel
theorem d3_5 : decode prog_58_method_3_code 5 = .ok (.iload 5, 2) := by decide +kernel
theorem d3_7 : decode prog_58_method_3_code 7 = .ok (.goto 4, 3) := by decide +kernel
theorem d3_10 : decode prog_58_method_3_code 10 = .ok (.iload_n 3, 1) := by decide +kernel
theorem d3_11 : decode prog_58_method_3_code 11 = .ok (.istore 6, 2) := by decide +kernel
theorem d3_13 : decode prog_58_method_3_code 13 = .ok (.aload_n 0, 1) := by decide +kernel
theorem d3_14 : decode prog_58_method_3_code 14 = .ok (.iload_n 3, 1) := by decide +kernel
theorem d3_15 : decode prog_58_method_3_code 15 = .ok (.ifCond .ne 8, 3) := by decide +kernel
theorem d3_18 : decode prog_58_method_3_code 18 = .ok (.iload 6, 2) := by decide +kernel
theorem d3_20 : decode prog_58_method_3_code 20 = .ok (.ifCond .eq 7, 3) := by decide +kernel
theorem d3_23 : decode prog_58_method_3_code 23 = .ok (.iconst 1, 1) := by decide +kernel
theorem d3_24 : decode prog_58_method_3_code 24 = .ok (.goto 4, 3) := by decide +kernel
theorem d3_27 : decode prog_58_method_3_code 27 = .ok (.iconst 0, 1) := by decide +kernel
theorem d3_28 : decode prog_58_method_3_code 28 = .ok (.putfield 7, 3) := by decide +kernel
theorem d3_31 : decode prog_58_method_3_code 31 = .ok (.iload 6, 2) := by decide +kernel
theorem d3_33 : decode prog_58_method_3_code 33 = .ok (.ifCond .ne 11, 3) := by decide +kernel
theorem d3_36 : decode prog_58_method_3_code 36 = .ok (.aload_n 0, 1) := by decide +kernel
theorem d3_37 : decode prog_58_method_3_code 37 = .ok (.lconst 0, 1) := by decide +kernel
theorem d3_38 : decode prog_58_method_3_code 38 = .ok (.putfield 13, 3) := by decide +kernel
theorem d3_41 : decode prog_58_method_3_code 41 = .ok (.goto 22, 3) := by decide +kernel
theorem d3_44 : decode prog_58_method_3_code 44 = .ok (.aload_n 0, 1) := by decide +kernel
theorem d3_45 : decode prog_58_method_3_code 45 = .ok (.getfield 13, 3) := by decide +kernel
theorem d3_48 : decode prog_58_method_3_code 48 = .ok (.lconst 0, 1) := by decide +kernel
theorem d3_49 : decode prog_58_method_3_code 49 = .ok (.lcmp, 1) := by decide +kernel
theorem d3_50 : decode prog_58_method_3_code 50 = .ok (.ifCond .ne 13, 3) := by decide +kernel
theorem d3_53 : decode prog_58_method_3_code 53 = .ok (.aload_n 0, 1) := by decide +kernel
theorem d3_54 : decode prog_58_method_3_code 54 = .ok (.lload_n 1, 1) := by decide +kernel
theorem d3_55 : decode prog_58_method_3_code 55 = .ok (.putfield 17, 3) := by decide +kernel
theorem d3_58 : decode prog_58_method_3_code 58 = .ok (.aload_n 0, 1) := by decide +kernel
theorem d3_59 : decode prog_58_method_3_code 59 = .ok (.lconst 1, 1) := by decide +kernel
theorem d3_60 : decode prog_58_method_3_code 60 = .ok (.putfield 13, 3) := by decide +kernel
theorem d3_63 : decode prog_58_method_3_code 63 = .ok (.return_, 1) := by decide +kernel
theorem pn_3 : plainName "com/example/quietwire/quietwire/protocol/Overdue" = true := by first | (simp [plainName, overriddenIn]; done) | decide +kernel
def R3 : Room := { frames := 0, cells := 0, slots := 0, locals := 0 }
def Q3 (Z : State) (o0 : Addr) (h0 : Heap) (n0 : Nat) (r : Int32 × Int64 × Int64) (v : Option Value) (h : Heap) (L : List Loc) : Prop := v = none ∧ Fr n0 L ∧ Keep h0 h [o0] ∧ Exa Z h o0 "com/example/quietwire/quietwire/protocol/Overdue" ∧ Fld Z h o0 "com/example/quietwire/quietwire/protocol/Overdue" "overdue" "Z" (.int r.1) ∧ Fld Z h o0 "com/example/quietwire/quietwire/protocol/Overdue" "gap" "J" (.long r.2.1) ∧ Fld Z h o0 "com/example/quietwire/quietwire/protocol/Overdue" "nextProbe" "J" (.long r.2.2)
def f3_28 (v1 : Int64) (v3 : Int32) (v4 : Int32) (v5 : Int32) (v6 : Int32) (t0 : Int32) (o0_overdue : Int32) (o0_gap : Int64) (o0_nextProbe : Int64) : Int32 × Int64 × Int64 := (if v6 = (0 : Int32) then ((nar .boolean t0), (0 : Int64), o0_nextProbe) else (if o0_gap = (0 : Int64) then ((nar .boolean t0), (1 : Int64), v1) else ((nar .boolean t0), o0_gap, o0_nextProbe)))
set_option maxRecDepth 65536 in
set_option maxHeartbeats 40000000 in
theorem b3_28 {p : Program} {l : Launch} {e : Env} {s : State} {m : MethodId} {args : Array Value} {below : List Frame} {meth : Method} {c : Code} {Z : State} {a0 : Array Value} (B : Ctx p Z s a0 m meth c "com/example/quietwire/quietwire/protocol/Overdue" "judge" prog_58_method_3_code 7 none) {T0 : State} {locs : List Loc} {h : Heap} (h0 : Heap) (n0 : Nat) (o0 : Addr) (v1 : Int64) (v3 : Int32) (v4 : Int32) (v5 : Int32) (v6 : Int32) (t0 : Int32) (o0_overdue : Int32) (o0_gap : Int64) (o0_nextProbe : Int64) (X0 : Stand p l e R3 s m args below meth c T0 locs 0 0) (e0 : T0.heap = h) (N0 : Fr n0 locs) (Z0 : n0 ≤ h.size) (K : Keep h0 h [o0]) (E_o0 : Exa Z h o0 "com/example/quietwire/quietwire/protocol/Overdue") (F_o0_overdue : Fld Z h o0 "com/example/quietwire/quietwire/protocol/Overdue" "overdue" "Z" (.int o0_overdue)) (F_o0_gap : Fld Z h o0 "com/example/quietwire/quietwire/protocol/Overdue" "gap" "J" (.long o0_gap)) (F_o0_nextProbe : Fld Z h o0 "com/example/quietwire/quietwire/protocol/Overdue" "nextProbe" "J" (.long o0_nextProbe)) (g_o0 : n0 ≤ o0) (r : Int32 × Int64 × Int64) (hr : f3_28 v1 v3 v4 v5 v6 t0 o0_overdue o0_gap o0_nextProbe = r) :
    Fin p e below s R3.cells R3.slots (Q3 Z o0 h0 n0 r) (T0.setTop (mkF m 28 #[.val (.ref o0), .val (.long v1), .second, .val (.int v3), .val (.int v4), .val (.int v5), .val (.int v6)] [(.int t0), (.ref o0)])) := by
  obtain ⟨hx, hZ, hw, hby, hml, hret, hown, hnm, hlk⟩ := B
  unfold f3_28 at hr
  obtain ⟨T1, h1, X1, e1, W1, st1⟩ := putFN X0 hx hZ hown (hw _ (List.mem_of_getElem? (i := 14) rfl)) Via.refl e0 F_o0_overdue E_o0 (Or.inl (hw _ (List.mem_of_getElem? (i := 15) rfl))) (hw _ (List.mem_of_getElem? (i := 1) rfl)) (ty := .boolean) (v' := (.int (nar .boolean t0))) (by decide) rfl (fits_nar_bool _) (g := (mkF m 28 #[.val (.ref o0), .val (.long v1), .second, .val (.int v3), .val (.int v4), .val (.int v5), .val (.int v6)] [(.int t0), (.ref o0)])) rfl rfl (hb hby d3_28)
  have E_o0_1 := E_o0.wr W1
  have F_o0_overdue_1 := F_o0_overdue.same W1
  have F_o0_gap_1 := F_o0_gap.other W1 (Or.inr (slot_ne (Or.inl (hw _ (List.mem_of_getElem? (i := 17) rfl))) (Or.inl (hw _ (List.mem_of_getElem? (i := 15) rfl))) (by decide) (t := .long) (t' := .boolean) (by decide) (by decide)))
  have F_o0_nextProbe_1 := F_o0_nextProbe.other W1 (Or.inr (slot_ne (Or.inl (hw _ (List.mem_of_getElem? (i := 34) rfl))) (Or.inl (hw _ (List.mem_of_getElem? (i := 15) rfl))) (by decide) (t := .long) (t' := .boolean) (by decide) (by decide)))
  have N1 := Fr.snoc X1 N0 g_o0
  have Z1 : n0 ≤ h1.size := Nat.le_trans Z0 (Nat.le_of_eq W1.size.symm)
  have K1 := K.wr W1 (Or.inl (by simp))
  refine Fin.by (B := T1.setTop (mkF m 31 #[.val (.ref o0), .val (.long v1), .second, .val (.int v3), .val (.int v4), .val (.int v5), .val (.int v6)] [])) (fun t k => st1 t k) ?_
  refine Fin.by (B := T1.setTop (mkF m 33 #[.val (.ref o0), .val (.long v1), .second, .val (.int v3), .val (.int v4), .val (.int v5), .val (.int v6)] [(.int v6)])) (fun t k => ?_) ?_
  · show Steps p.tables e below (T1.setTop (mkF m 31 #[.val (.ref o0), .val (.long v1), .second, .val (.int v3), .val (.int v4), .val (.int v5), .val (.int v6)] [])) _
    refine XS.iload X1.here hx rfl (hb hby d3_31) rfl  ?_
    exact k
  by_cases hc33 : v6 = (0 : Int32)
  · rw [if_pos hc33] at hr
    refine Fin.by (B := T1.setTop (mkF m 36 #[.val (.ref o0), .val (.long v1), .second, .val (.int v3), .val (.int v4), .val (.int v5), .val (.int v6)] [])) (fun t k => ?_) ?_
    · show Steps p.tables e below (T1.setTop (mkF m 33 #[.val (.ref o0), .val (.long v1), .second, .val (.int v3), .val (.int v4), .val (.int v5), .val (.int v6)] [(.int v6)])) _
      exact XS.ifNo X1.here hx rfl (hb hby d3_33) rfl ((if0 _ _).trans (teq hc33).2) k
    refine Fin.by (B := T1.setTop (mkF m 38 #[.val (.ref o0), .val (.long v1), .second, .val (.int v3), .val (.int v4), .val (.int v5), .val (.int v6)] [(.long (0 : Int64)), (.ref o0)])) (fun t k => ?_) ?_
    · show Steps p.tables e below (T1.setTop (mkF m 36 #[.val (.ref o0), .val (.long v1), .second, .val (.int v3), .val (.int v4), .val (.int v5), .val (.int v6)] [])) _
      refine XS.aloadN X1.here hx rfl (hb hby d3_36) rfl rfl ?_
      show Steps p.tables e below (T1.setTop (mkF m 37 #[.val (.ref o0), .val (.long v1), .second, .val (.int v3), .val (.int v4), .val (.int v5), .val (.int v6)] [(.ref o0)])) _
      refine XS.lconst X1.here hx rfl (hb hby d3_37) ?_
      exact k
    obtain ⟨T2, h2, X2, e2, W2, st2⟩ := putF X1 hx hZ hown (host := "") (Or.inl (hw _ (List.mem_of_getElem? (i := 16) rfl))) Via.refl e1 F_o0_gap_1 E_o0_1 (Or.inl (hw _ (List.mem_of_getElem? (i := 17) rfl))) (hw _ (List.mem_of_getElem? (i := 1) rfl)) (ty := .long) (by decide) rfl rfl (g := (mkF m 38 #[.val (.ref o0), .val (.long v1), .second, .val (.int v3), .val (.int v4), .val (.int v5), .val (.int v6)] [(.long (0 : Int64)), (.ref o0)])) rfl rfl (hb hby d3_38)
    have E_o0_2 := E_o0_1.wr W2
    have F_o0_overdue_2 := F_o0_overdue_1.other W2 (Or.inr (slot_ne (Or.inl (hw _ (List.mem_of_getElem? (i := 15) rfl))) (Or.inl (hw _ (List.mem_of_getElem? (i := 17) rfl))) (by decide) (t := .boolean) (t' := .long) (by decide) (by decide)))
    have F_o0_gap_2 := F_o0_gap_1.same W2
    have F_o0_nextProbe_2 := F_o0_nextProbe_1.other W2 (Or.inr (slot_ne (Or.inl (hw _ (List.mem_of_getElem? (i := 34) rfl))) (Or.inl (hw _ (List.mem_of_getElem? (i := 17) rfl))) (by decide) (t := .long) (t' := .long) (by decide) (by decide)))
    have N2 := Fr.snoc X2 N1 g_o0
    have Z2 : n0 ≤ h2.size := Nat.le_trans Z1 (Nat.le_of_eq W2.size.symm)
    have K2 := K1.wr W2 (Or.inl (by simp))
    refine Fin.by (B := T2.setTop (mkF m 41 #[.val (.ref o0), .val (.long v1), .second, .val (.int v3), .val (.int v4), .val (.int v5), .val (.int v6)] [])) (fun t k => st2 t k) ?_
    refine Fin.by (B := T2.setTop (mkF m 63 #[.val (.ref o0), .val (.long v1), .second, .val (.int v3), .val (.int v4), .val (.int v5), .val (.int v6)] [])) (fun t k => ?_) ?_
    · show Steps p.tables e below (T2.setTop (mkF m 41 #[.val (.ref o0), .val (.long v1), .second, .val (.int v3), .val (.int v4), .val (.int v5), .val (.int v6)] [])) _
      refine XS.goto X2.here hx rfl (pc0 := 41) (pc' := 63) rfl (hb hby d3_41) (by decide) (by decide) ?_
      exact k
    subst hr
    exact own_ret0 X2 hx hlk hret (hb hby d3_63) (by decide) (by decide) ⟨rfl, N2, (by rw [e2]; exact K2), (by rw [e2]; exact E_o0_2), (by rw [e2]; exact F_o0_overdue_2), (by rw [e2]; exact F_o0_gap_2), (by rw [e2]; exact F_o0_nextProbe_2)⟩
  · rw [if_neg hc33] at hr
    refine Fin.by (B := T1.setTop (mkF m 44 #[.val (.ref o0), .val (.long v1), .second, .val (.int v3), .val (.int v4), .val (.int v5), .val (.int v6)] [])) (fun t k => ?_) ?_
    · show Steps p.tables e below (T1.setTop (mkF m 33 #[.val (.ref o0), .val (.long v1), .second, .val (.int v3), .val (.int v4), .val (.int v5), .val (.int v6)] [(.int v6)])) _
      exact XS.ifYes X1.here hx rfl (pc0 := 33) (pc' := 44) rfl (hb hby d3_33) rfl ((if0 _ _).trans (feq hc33).2) (by decide) (by decide) k
    refine Fin.by (B := T1.setTop (mkF m 45 #[.val (.ref o0), .val (.long v1), .second, .val (.int v3), .val (.int v4), .val (.int v5), .val (.int v6)] [(.ref o0)])) (fun t k => ?_) ?_
    · show Steps p.tables e below (T1.setTop (mkF m 44 #[.val (.ref o0), .val (.long v1), .second, .val (.int v3), .val (.int v4), .val (.int v5), .val (.int v6)] [])) _
      refine XS.aloadN X1.here hx rfl (hb hby d3_44) rfl rfl ?_
      exact k
    obtain ⟨T3, X3, e3, st3⟩ := getF X1 hx hZ hown (host := "") (Or.inl (hw _ (List.mem_of_getElem? (i := 16) rfl))) Via.refl e1 F_o0_gap_1 (g := (mkF m 45 #[.val (.ref o0), .val (.long v1), .second, .val (.int v3), .val (.int v4), .val (.int v5), .val (.int v6)] [(.ref o0)])) rfl rfl (hb hby d3_45)
    refine Fin.by (B := T3.setTop (mkF m 48 #[.val (.ref o0), .val (.long v1), .second, .val (.int v3), .val (.int v4), .val (.int v5), .val (.int v6)] [(.long o0_gap)])) (fun t k => st3 t k) ?_
    refine Fin.by (B := T3.setTop (mkF m 50 #[.val (.ref o0), .val (.long v1), .second, .val (.int v3), .val (.int v4), .val (.int v5), .val (.int v6)] [(.int (lcmpW o0_gap (0 : Int64)))])) (fun t k => ?_) ?_
    · show Steps p.tables e below (T3.setTop (mkF m 48 #[.val (.ref o0), .val (.long v1), .second, .val (.int v3), .val (.int v4), .val (.int v5), .val (.int v6)] [(.long o0_gap)])) _
      refine XS.lconst X3.here hx rfl (hb hby d3_48) ?_
      show Steps p.tables e below (T3.setTop (mkF m 49 #[.val (.ref o0), .val (.long v1), .second, .val (.int v3), .val (.int v4), .val (.int v5), .val (.int v6)] [(.long (0 : Int64)), (.long o0_gap)])) _
      refine XS.lcmp X3.here hx rfl (hb hby d3_49) rfl ?_
      exact k
    by_cases hc50 : o0_gap = (0 : Int64)
    · rw [if_pos hc50] at hr
      refine Fin.by (B := T3.setTop (mkF m 53 #[.val (.ref o0), .val (.long v1), .second, .val (.int v3), .val (.int v4), .val (.int v5), .val (.int v6)] [])) (fun t k => ?_) ?_
      · show Steps p.tables e below (T3.setTop (mkF m 50 #[.val (.ref o0), .val (.long v1), .second, .val (.int v3), .val (.int v4), .val (.int v5), .val (.int v6)] [(.int (lcmpW o0_gap (0 : Int64)))])) _
        exact XS.ifNo X3.here hx rfl (hb hby d3_50) rfl ((if0 _ _).trans (teq ((lw_eq _ _).mpr hc50)).2) k
      refine Fin.by (B := T3.setTop (mkF m 55 #[.val (.ref o0), .val (.long v1), .second, .val (.int v3), .val (.int v4), .val (.int v5), .val (.int v6)] [(.long v1), (.ref o0)])) (fun t k => ?_) ?_
      · show Steps p.tables e below (T3.setTop (mkF m 53 #[.val (.ref o0), .val (.long v1), .second, .val (.int v3), .val (.int v4), .val (.int v5), .val (.int v6)] [])) _
        refine XS.aloadN X3.here hx rfl (hb hby d3_53) rfl rfl ?_
        show Steps p.tables e below (T3.setTop (mkF m 54 #[.val (.ref o0), .val (.long v1), .second, .val (.int v3), .val (.int v4), .val (.int v5), .val (.int v6)] [(.ref o0)])) _
        refine XS.lloadN X3.here hx rfl (hb hby d3_54) rfl  ?_
        exact k
      obtain ⟨T4, h4, X4, e4, W4, st4⟩ := putF X3 hx hZ hown (host := "") (Or.inl (hw _ (List.mem_of_getElem? (i := 33) rfl))) Via.refl e3 F_o0_nextProbe_1 E_o0_1 (Or.inl (hw _ (List.mem_of_getElem? (i := 34) rfl))) (hw _ (List.mem_of_getElem? (i := 1) rfl)) (ty := .long) (by decide) rfl rfl (g := (mkF m 55 #[.val (.ref o0), .val (.long v1), .second, .val (.int v3), .val (.int v4), .val (.int v5), .val (.int v6)] [(.long v1), (.ref o0)])) rfl rfl (hb hby d3_55)
      have E_o0_4 := E_o0_1.wr W4
      have F_o0_overdue_4 := F_o0_overdue_1.other W4 (Or.inr (slot_ne (Or.inl (hw _ (List.mem_of_getElem? (i := 15) rfl))) (Or.inl (hw _ (List.mem_of_getElem? (i := 34) rfl))) (by decide) (t := .boolean) (t' := .long) (by decide) (by decide)))
      have F_o0_gap_4 := F_o0_gap_1.other W4 (Or.inr (slot_ne (Or.inl (hw _ (List.mem_of_getElem? (i := 17) rfl))) (Or.inl (hw _ (List.mem_of_getElem? (i := 34) rfl))) (by decide) (t := .long) (t' := .long) (by decide) (by decide)))
      have F_o0_nextProbe_4 := F_o0_nextProbe_1.same W4
      have N4 := Fr.snoc X4 N1 g_o0
      have Z4 : n0 ≤ h4.size := Nat.le_trans Z1 (Nat.le_of_eq W4.size.symm)
      have K4 := K1.wr W4 (Or.inl (by simp))
      refine Fin.by (B := T4.setTop (mkF m 58 #[.val (.ref o0), .val (.long v1), .second, .val (.int v3), .val (.int v4), .val (.int v5), .val (.int v6)] [])) (fun t k => st4 t k) ?_
      refine Fin.by (B := T4.setTop (mkF m 60 #[.val (.ref o0), .val (.long v1), .second, .val (.int v3), .val (.int v4), .val (.int v5), .val (.int v6)] [(.long (1 : Int64)), (.ref o0)])) (fun t k => ?_) ?_
      · show Steps p.tables e below (T4.setTop (mkF m 58 #[.val (.ref o0), .val (.long v1), .second, .val (.int v3), .val (.int v4), .val (.int v5), .val (.int v6)] [])) _
        refine XS.aloadN X4.here hx rfl (hb hby d3_58) rfl rfl ?_
        show Steps p.tables e below (T4.setTop (mkF m 59 #[.val (.ref o0), .val (.long v1), .second, .val (.int v3), .val (.int v4), .val (.int v5), .val (.int v6)] [(.ref o0)])) _
        refine XS.lconst X4.here hx rfl (hb hby d3_59) ?_
        exact k
      obtain ⟨T5, h5, X5, e5, W5, st5⟩ := putF X4 hx hZ hown (host := "") (Or.inl (hw _ (List.mem_of_getElem? (i := 16) rfl))) Via.refl e4 F_o0_gap_4 E_o0_4 (Or.inl (hw _ (List.mem_of_getElem? (i := 17) rfl))) (hw _ (List.mem_of_getElem? (i := 1) rfl)) (ty := .long) (by decide) rfl rfl (g := (mkF m 60 #[.val (.ref o0), .val (.long v1), .second, .val (.int v3), .val (.int v4), .val (.int v5), .val (.int v6)] [(.long (1 : Int64)), (.ref o0)])) rfl rfl (hb hby d3_60)
      have E_o0_5 := E_o0_4.wr W5
      have F_o0_overdue_5 := F_o0_overdue_4.other W5 (Or.inr (slot_ne (Or.inl (hw _ (List.mem_of_getElem? (i := 15) rfl))) (Or.inl (hw _ (List.mem_of_getElem? (i := 17) rfl))) (by decide) (t := .boolean) (t' := .long) (by decide) (by decide)))
      have F_o0_gap_5 := F_o0_gap_4.same W5
      have F_o0_nextProbe_5 := F_o0_nextProbe_4.other W5 (Or.inr (slot_ne (Or.inl (hw _ (List.mem_of_getElem? (i := 34) rfl))) (Or.inl (hw _ (List.mem_of_getElem? (i := 17) rfl))) (by decide) (t := .long) (t' := .long) (by decide) (by decide)))
      have N5 := Fr.snoc X5 N4 g_o0
      have Z5 : n0 ≤ h5.size := Nat.le_trans Z4 (Nat.le_of_eq W5.size.symm)
      have K5 := K4.wr W5 (Or.inl (by simp))
      refine Fin.by (B := T5.setTop (mkF m 63 #[.val (.ref o0), .val (.long v1), .second, .val (.int v3), .val (.int v4), .val (.int v5), .val (.int v6)] [])) (fun t k => st5 t k) ?_
      subst hr
      exact own_ret0 X5 hx hlk hret (hb hby d3_63) (by decide) (by decide) ⟨rfl, N5, (by rw [e5]; exact K5), (by rw [e5]; exact E_o0_5), (by rw [e5]; exact F_o0_overdue_5), (by rw [e5]; exact F_o0_gap_5), (by rw [e5]; exact F_o0_nextProbe_5)⟩
    · rw [if_neg hc50] at hr
      refine Fin.by (B := T3.setTop (mkF m 63 #[.val (.ref o0), .val (.long v1), .second, .val (.int v3), .val (.int v4), .val (.int v5), .val (.int v6)] [])) (fun t k => ?_) ?_
      · show Steps p.tables e below (T3.setTop (mkF m 50 #[.val (.ref o0), .val (.long v1), .second, .val (.int v3), .val (.int v4), .val (.int v5), .val (.int v6)] [(.int (lcmpW o0_gap (0 : Int64)))])) _
        exact XS.ifYes X3.here hx rfl (pc0 := 50) (pc' := 63) rfl (hb hby d3_50) rfl ((if0 _ _).trans (feq (fun q => hc50 ((lw_eq _ _).mp q))).2) (by decide) (by decide) k
      subst hr
      exact own_ret0 X3 hx hlk hret (hb hby d3_63) (by decide) (by decide) ⟨rfl, N1, (by rw [e3]; exact K1), (by rw [e3]; exact E_o0_1), (by rw [e3]; exact F_o0_overdue_1), (by rw [e3]; exact F_o0_gap_1), (by rw [e3]; exact F_o0_nextProbe_1)⟩
def f3_23 (v1 : Int64) (v3 : Int32) (v4 : Int32) (v5 : Int32) (v6 : Int32) (o0_overdue : Int32) (o0_gap : Int64) (o0_nextProbe : Int64) : Int32 × Int64 × Int64 := (f3_28 v1 v3 v4 v5 v6 (1 : Int32) o0_overdue o0_gap o0_nextProbe)
set_option maxRecDepth 65536 in
set_option maxHeartbeats 40000000 in
theorem b3_23 {p : Program} {l : Launch} {e : Env} {s : State} {m : MethodId} {args : Array Value} {below : List Frame} {meth : Method} {c : Code} {Z : State} {a0 : Array Value} (B : Ctx p Z s a0 m meth c "com/example/quietwire/quietwire/protocol/Overdue" "judge" prog_58_method_3_code 7 none) {T0 : State} {locs : List Loc} {h : Heap} (h0 : Heap) (n0 : Nat) (o0 : Addr) (v1 : Int64) (v3 : Int32) (v4 : Int32) (v5 : Int32) (v6 : Int32) (o0_overdue : Int32) (o0_gap : Int64) (o0_nextProbe : Int64) (X0 : Stand p l e R3 s m args below meth c T0 locs 0 0) (e0 : T0.heap = h) (N0 : Fr n0 locs) (Z0 : n0 ≤ h.size) (K : Keep h0 h [o0]) (E_o0 : Exa Z h o0 "com/example/quietwire/quietwire/protocol/Overdue") (F_o0_overdue : Fld Z h o0 "com/example/quietwire/quietwire/protocol/Overdue" "overdue" "Z" (.int o0_overdue)) (F_o0_gap : Fld Z h o0 "com/example/quietwire/quietwire/protocol/Overdue" "gap" "J" (.long o0_gap)) (F_o0_nextProbe : Fld Z h o0 "com/example/quietwire/quietwire/protocol/Overdue" "nextProbe" "J" (.long o0_nextProbe)) (g_o0 : n0 ≤ o0) (r : Int32 × Int64 × Int64) (hr : f3_23 v1 v3 v4 v5 v6 o0_overdue o0_gap o0_nextProbe = r) :
    Fin p e below s R3.cells R3.slots (Q3 Z o0 h0 n0 r) (T0.setTop (mkF m 23 #[.val (.ref o0), .val (.long v1), .second, .val (.int v3), .val (.int v4), .val (.int v5), .val (.int v6)] [(.ref o0)])) := by
  obtain ⟨hx, hZ, hw, hby, hml, hret, hown, hnm, hlk⟩ := B
  unfold f3_23 at hr
  refine Fin.by (B := T0.setTop (mkF m 28 #[.val (.ref o0), .val (.long v1), .second, .val (.int v3), .val (.int v4), .val (.int v5), .val (.int v6)] [(.int (1 : Int32)), (.ref o0)])) (fun t k => ?_) ?_
  · show Steps p.tables e below (T0.setTop (mkF m 23 #[.val (.ref o0), .val (.long v1), .second, .val (.int v3), .val (.int v4), .val (.int v5), .val (.int v6)] [(.ref o0)])) _
    refine XS.iconst X0.here hx rfl (hb hby d3_23) ?_
    show Steps p.tables e below (T0.setTop (mkF m 24 #[.val (.ref o0), .val (.long v1), .second, .val (.int v3), .val (.int v4), .val (.int v5), .val (.int v6)] [(.int (1 : Int32)), (.ref o0)])) _
    refine XS.goto X0.here hx rfl (pc0 := 24) (pc' := 28) rfl (hb hby d3_24) (by decide) (by decide) ?_
    exact k
  exact b3_28 ⟨hx, hZ, hw, hby, hml, hret, hown, hnm, hlk⟩ h0 n0 o0 v1 v3 v4 v5 v6 (1 : Int32) o0_overdue o0_gap o0_nextProbe X0 e0 N0 Z0 K E_o0 F_o0_overdue F_o0_gap F_o0_nextProbe g_o0 _ hr
def f3_11 (v1 : Int64) (v3 : Int32) (v4 : Int32) (v5 : Int32) (t0 : Int32) (o0_overdue : Int32) (o0_gap : Int64) (o0_nextProbe : Int64) : Int32 × Int64 × Int64 := (if v3 = (0 : Int32) then (if t0 = (0 : Int32) then (f3_28 v1 v3 v4 v5 t0 (0 : Int32) o0_overdue o0_gap o0_nextProbe) else (f3_23 v1 v3 v4 v5 t0 o0_overdue o0_gap o0_nextProbe)) else (f3_23 v1 v3 v4 v5 t0 o0_overdue o0_gap o0_nextProbe))
set_option maxRecDepth 65536 in
set_option maxHeartbeats 40000000 in
theorem b3_11 {p : Program} {l : Launch} {e : Env} {s : State} {m : MethodId} {args : Array Value} {below : List Frame} {meth : Method} {c : Code} {Z : State} {a0 : Array Value} (B : Ctx p Z s a0 m meth c "com/example/quietwire/quietwire/protocol/Overdue" "judge" prog_58_method_3_code 7 none) {T0 : State} {locs : List Loc} {h : Heap} (h0 : Heap) (n0 : Nat) (o0 : Addr) (v1 : Int64) (v3 : Int32) (v4 : Int32) (v5 : Int32) (t0 : Int32) (o0_overdue : Int32) (o0_gap : Int64) (o0_nextProbe : Int64) (X0 : Stand p l e R3 s m args below meth c T0 locs 0 0) (e0 : T0.heap = h) (N0 : Fr n0 locs) (Z0 : n0 ≤ h.size) (K : Keep h0 h [o0]) (E_o0 : Exa Z h o0 "com/example/quietwire/quietwire/protocol/Overdue") (F_o0_overdue : Fld Z h o0 "com/example/quietwire/quietwire/protocol/Overdue" "overdue" "Z" (.int o0_overdue)) (F_o0_gap : Fld Z h o0 "com/example/quietwire/quietwire/protocol/Overdue" "gap" "J" (.long o0_gap)) (F_o0_nextProbe : Fld Z h o0 "com/example/quietwire/quietwire/protocol/Overdue" "nextProbe" "J" (.long o0_nextProbe)) (g_o0 : n0 ≤ o0) (r : Int32 × Int64 × Int64) (hr : f3_11 v1 v3 v4 v5 t0 o0_overdue o0_gap o0_nextProbe = r) :
    Fin p e below s R3.cells R3.slots (Q3 Z o0 h0 n0 r) (T0.setTop (mkF m 11 #[.val (.ref o0), .val (.long v1), .second, .val (.int v3), .val (.int v4), .val (.int v5), .unset] [(.int t0)])) := by
  obtain ⟨hx, hZ, hw, hby, hml, hret, hown, hnm, hlk⟩ := B
  unfold f3_11 at hr
  refine Fin.by (B := T0.setTop (mkF m 15 #[.val (.ref o0), .val (.long v1), .second, .val (.int v3), .val (.int v4), .val (.int v5), .val (.int t0)] [(.int v3), (.ref o0)])) (fun t k => ?_) ?_
  · show Steps p.tables e below (T0.setTop (mkF m 11 #[.val (.ref o0), .val (.long v1), .second, .val (.int v3), .val (.int v4), .val (.int v5), .unset] [(.int t0)])) _
    refine XS.istore X0.here hx rfl (hb hby d3_11) rfl (l' := #[.val (.ref o0), .val (.long v1), .second, .val (.int v3), .val (.int v4), .val (.int v5), .val (.int t0)]) rfl ?_
    show Steps p.tables e below (T0.setTop (mkF m 13 #[.val (.ref o0), .val (.long v1), .second, .val (.int v3), .val (.int v4), .val (.int v5), .val (.int t0)] [])) _
    refine XS.aloadN X0.here hx rfl (hb hby d3_13) rfl rfl ?_
    show Steps p.tables e below (T0.setTop (mkF m 14 #[.val (.ref o0), .val (.long v1), .second, .val (.int v3), .val (.int v4), .val (.int v5), .val (.int t0)] [(.ref o0)])) _
    refine XS.iloadN X0.here hx rfl (hb hby d3_14) rfl  ?_
    exact k
  by_cases hc15 : v3 = (0 : Int32)
  · rw [if_pos hc15] at hr
    refine Fin.by (B := T0.setTop (mkF m 18 #[.val (.ref o0), .val (.long v1), .second, .val (.int v3), .val (.int v4), .val (.int v5), .val (.int t0)] [(.ref o0)])) (fun t k => ?_) ?_
    · show Steps p.tables e below (T0.setTop (mkF m 15 #[.val (.ref o0), .val (.long v1), .second, .val (.int v3), .val (.int v4), .val (.int v5), .val (.int t0)] [(.int v3), (.ref o0)])) _
      exact XS.ifNo X0.here hx rfl (hb hby d3_15) rfl ((if0 _ _).trans (teq hc15).2) k
    refine Fin.by (B := T0.setTop (mkF m 20 #[.val (.ref o0), .val (.long v1), .second, .val (.int v3), .val (.int v4), .val (.int v5), .val (.int t0)] [(.int t0), (.ref o0)])) (fun t k => ?_) ?_
    · show Steps p.tables e below (T0.setTop (mkF m 18 #[.val (.ref o0), .val (.long v1), .second, .val (.int v3), .val (.int v4), .val (.int v5), .val (.int t0)] [(.ref o0)])) _
      refine XS.iload X0.here hx rfl (hb hby d3_18) rfl  ?_
      exact k
    by_cases hc20 : t0 = (0 : Int32)
    · rw [if_pos hc20] at hr
      refine Fin.by (B := T0.setTop (mkF m 27 #[.val (.ref o0), .val (.long v1), .second, .val (.int v3), .val (.int v4), .val (.int v5), .val (.int t0)] [(.ref o0)])) (fun t k => ?_) ?_
      · show Steps p.tables e below (T0.setTop (mkF m 20 #[.val (.ref o0), .val (.long v1), .second, .val (.int v3), .val (.int v4), .val (.int v5), .val (.int t0)] [(.int t0), (.ref o0)])) _
        exact XS.ifYes X0.here hx rfl (pc0 := 20) (pc' := 27) rfl (hb hby d3_20) rfl ((if0 _ _).trans (teq hc20).1) (by decide) (by decide) k
      refine Fin.by (B := T0.setTop (mkF m 28 #[.val (.ref o0), .val (.long v1), .second, .val (.int v3), .val (.int v4), .val (.int v5), .val (.int t0)] [(.int (0 : Int32)), (.ref o0)])) (fun t k => ?_) ?_
      · show Steps p.tables e below (T0.setTop (mkF m 27 #[.val (.ref o0), .val (.long v1), .second, .val (.int v3), .val (.int v4), .val (.int v5), .val (.int t0)] [(.ref o0)])) _
        refine XS.iconst X0.here hx rfl (hb hby d3_27) ?_
        exact k
      exact b3_28 ⟨hx, hZ, hw, hby, hml, hret, hown, hnm, hlk⟩ h0 n0 o0 v1 v3 v4 v5 t0 (0 : Int32) o0_overdue o0_gap o0_nextProbe X0 e0 N0 Z0 K E_o0 F_o0_overdue F_o0_gap F_o0_nextProbe g_o0 _ hr
    · rw [if_neg hc20] at hr
      refine Fin.by (B := T0.setTop (mkF m 23 #[.val (.ref o0), .val (.long v1), .second, .val (.int v3), .val (.int v4), .val (.int v5), .val (.int t0)] [(.ref o0)])) (fun t k => ?_) ?_
      · show Steps p.tables e below (T0.setTop (mkF m 20 #[.val (.ref o0), .val (.long v1), .second, .val (.int v3), .val (.int v4), .val (.int v5), .val (.int t0)] [(.int t0), (.ref o0)])) _
        exact XS.ifNo X0.here hx rfl (hb hby d3_20) rfl ((if0 _ _).trans (feq hc20).1) k
      exact b3_23 ⟨hx, hZ, hw, hby, hml, hret, hown, hnm, hlk⟩ h0 n0 o0 v1 v3 v4 v5 t0 o0_overdue o0_gap o0_nextProbe X0 e0 N0 Z0 K E_o0 F_o0_overdue F_o0_gap F_o0_nextProbe g_o0 _ hr
  · rw [if_neg hc15] at hr
    refine Fin.by (B := T0.setTop (mkF m 23 #[.val (.ref o0), .val (.long v1), .second, .val (.int v3), .val (.int v4), .val (.int v5), .val (.int t0)] [(.ref o0)])) (fun t k => ?_) ?_
    · show Steps p.tables e below (T0.setTop (mkF m 15 #[.val (.ref o0), .val (.long v1), .second, .val (.int v3), .val (.int v4), .val (.int v5), .val (.int t0)] [(.int v3), (.ref o0)])) _
      exact XS.ifYes X0.here hx rfl (pc0 := 15) (pc' := 23) rfl (hb hby d3_15) rfl ((if0 _ _).trans (feq hc15).2) (by decide) (by decide) k
    exact b3_23 ⟨hx, hZ, hw, hby, hml, hret, hown, hnm, hlk⟩ h0 n0 o0 v1 v3 v4 v5 t0 o0_overdue o0_gap o0_nextProbe X0 e0 N0 Z0 K E_o0 F_o0_overdue F_o0_gap F_o0_nextProbe g_o0 _ hr
def f3_0 (v1 : Int64) (v3 : Int32) (v4 : Int32) (v5 : Int32) (o0_overdue : Int32) (o0_gap : Int64) (o0_nextProbe : Int64) : Int32 × Int64 × Int64 := (if v4 = (0 : Int32) then (f3_11 v1 v3 v4 v5 v3 o0_overdue o0_gap o0_nextProbe) else (f3_11 v1 v3 v4 v5 v5 o0_overdue o0_gap o0_nextProbe))
set_option maxRecDepth 65536 in
set_option maxHeartbeats 40000000 in
theorem b3_0 {p : Program} {l : Launch} {e : Env} {s : State} {m : MethodId} {args : Array Value} {below : List Frame} {meth : Method} {c : Code} {Z : State} {a0 : Array Value} (B : Ctx p Z s a0 m meth c "com/example/quietwire/quietwire/protocol/Overdue" "judge" prog_58_method_3_code 7 none) {T0 : State} {locs : List Loc} {h : Heap} (h0 : Heap) (n0 : Nat) (o0 : Addr) (v1 : Int64) (v3 : Int32) (v4 : Int32) (v5 : Int32) (o0_overdue : Int32) (o0_gap : Int64) (o0_nextProbe : Int64) (X0 : Stand p l e R3 s m args below meth c T0 locs 0 0) (e0 : T0.heap = h) (N0 : Fr n0 locs) (Z0 : n0 ≤ h.size) (K : Keep h0 h [o0]) (E_o0 : Exa Z h o0 "com/example/quietwire/quietwire/protocol/Overdue") (F_o0_overdue : Fld Z h o0 "com/example/quietwire/quietwire/protocol/Overdue" "overdue" "Z" (.int o0_overdue)) (F_o0_gap : Fld Z h o0 "com/example/quietwire/quietwire/protocol/Overdue" "gap" "J" (.long o0_gap)) (F_o0_nextProbe : Fld Z h o0 "com/example/quietwire/quietwire/protocol/Overdue" "nextProbe" "J" (.long o0_nextProbe)) (g_o0 : n0 ≤ o0) (r : Int32 × Int64 × Int64) (hr : f3_0 v1 v3 v4 v5 o0_overdue o0_gap o0_nextProbe = r) :
    Fin p e below s R3.cells R3.slots (Q3 Z o0 h0 n0 r) (T0.setTop (mkF m 0 #[.val (.ref o0), .val (.long v1), .second, .val (.int v3), .val (.int v4), .val (.int v5), .unset] [])) := by
  obtain ⟨hx, hZ, hw, hby, hml, hret, hown, hnm, hlk⟩ := B
  unfold f3_0 at hr
  refine Fin.by (B := T0.setTop (mkF m 2 #[.val (.ref o0), .val (.long v1), .second, .val (.int v3), .val (.int v4), .val (.int v5), .unset] [(.int v4)])) (fun t k => ?_) ?_
  · show Steps p.tables e below (T0.setTop (mkF m 0 #[.val (.ref o0), .val (.long v1), .second, .val (.int v3), .val (.int v4), .val (.int v5), .unset] [])) _
    refine XS.iload X0.here hx rfl (hb hby d3_0) rfl  ?_
    exact k
  by_cases hc2 : v4 = (0 : Int32)
  · rw [if_pos hc2] at hr
    refine Fin.by (B := T0.setTop (mkF m 10 #[.val (.ref o0), .val (.long v1), .second, .val (.int v3), .val (.int v4), .val (.int v5), .unset] [])) (fun t k => ?_) ?_
    · show Steps p.tables e below (T0.setTop (mkF m 2 #[.val (.ref o0), .val (.long v1), .second, .val (.int v3), .val (.int v4), .val (.int v5), .unset] [(.int v4)])) _
      exact XS.ifYes X0.here hx rfl (pc0 := 2) (pc' := 10) rfl (hb hby d3_2) rfl ((if0 _ _).trans (teq hc2).1) (by decide) (by decide) k
    refine Fin.by (B := T0.setTop (mkF m 11 #[.val (.ref o0), .val (.long v1), .second, .val (.int v3), .val (.int v4), .val (.int v5), .unset] [(.int v3)])) (fun t k => ?_) ?_
    · show Steps p.tables e below (T0.setTop (mkF m 10 #[.val (.ref o0), .val (.long v1), .second, .val (.int v3), .val (.int v4), .val (.int v5), .unset] [])) _
      refine XS.iloadN X0.here hx rfl (hb hby d3_10) rfl  ?_
      exact k
    exact b3_11 ⟨hx, hZ, hw, hby, hml, hret, hown, hnm, hlk⟩ h0 n0 o0 v1 v3 v4 v5 v3 o0_overdue o0_gap o0_nextProbe X0 e0 N0 Z0 K E_o0 F_o0_overdue F_o0_gap F_o0_nextProbe g_o0 _ hr
  · rw [if_neg hc2] at hr
    refine Fin.by (B := T0.setTop (mkF m 5 #[.val (.ref o0), .val (.long v1), .second, .val (.int v3), .val (.int v4), .val (.int v5), .unset] [])) (fun t k => ?_) ?_
    · show Steps p.tables e below (T0.setTop (mkF m 2 #[.val (.ref o0), .val (.long v1), .second, .val (.int v3), .val (.int v4), .val (.int v5), .unset] [(.int v4)])) _
      exact XS.ifNo X0.here hx rfl (hb hby d3_2) rfl ((if0 _ _).trans (feq hc2).1) k
    refine Fin.by (B := T0.setTop (mkF m 11 #[.val (.ref o0), .val (.long v1), .second, .val (.int v3), .val (.int v4), .val (.int v5), .unset] [(.int v5)])) (fun t k => ?_) ?_
    · show Steps p.tables e below (T0.setTop (mkF m 5 #[.val (.ref o0), .val (.long v1), .second, .val (.int v3), .val (.int v4), .val (.int v5), .unset] [])) _
      refine XS.iload X0.here hx rfl (hb hby d3_5) rfl  ?_
      show Steps p.tables e below (T0.setTop (mkF m 7 #[.val (.ref o0), .val (.long v1), .second, .val (.int v3), .val (.int v4), .val (.int v5), .unset] [(.int v5)])) _
      refine XS.goto X0.here hx rfl (pc0 := 7) (pc' := 11) rfl (hb hby d3_7) (by decide) (by decide) ?_
      exact k
    exact b3_11 ⟨hx, hZ, hw, hby, hml, hret, hown, hnm, hlk⟩ h0 n0 o0 v1 v3 v4 v5 v5 o0_overdue o0_gap o0_nextProbe X0 e0 N0 Z0 K E_o0 F_o0_overdue F_o0_gap F_o0_nextProbe g_o0 _ hr
theorem ef_3 (m : MethodId) (o0 : Addr) (v1 : Int64) (v3 : Int32) (v4 : Int32) (v5 : Int32) : entryFrame m #[(.ref o0), (.long v1), (.int v3), (.int v4), (.int v5)] 7 = (mkF m 0 #[.val (.ref o0), .val (.long v1), .second, .val (.int v3), .val (.int v4), .val (.int v5), .unset] []) := by first | (simp [entryFrame, mkF, argsToLocals, Value.category]; done) | rfl
set_option maxRecDepth 65536 in
set_option maxHeartbeats 40000000 in
theorem rm3 (l : Launch) (Z : State) (a0 : Array Value) (hw : ∀ d ∈ tables_1, d.before a0 Z = true) (ws : List Jvm.Cond) (o0 : Addr) (v1 : Int64) (v3 : Int32) (v4 : Int32) (v5 : Int32) (o0_overdue : Int32) (o0_gap : Int64) (o0_nextProbe : Int64) (h0 : Heap) (n0 : Nat) (Z0 : n0 ≤ h0.size) (E_o0 : Exa Z h0 o0 "com/example/quietwire/quietwire/protocol/Overdue") (F_o0_overdue : Fld Z h0 o0 "com/example/quietwire/quietwire/protocol/Overdue" "overdue" "Z" (.int o0_overdue)) (F_o0_gap : Fld Z h0 o0 "com/example/quietwire/quietwire/protocol/Overdue" "gap" "J" (.long o0_gap)) (F_o0_nextProbe : Fld Z h0 o0 "com/example/quietwire/quietwire/protocol/Overdue" "nextProbe" "J" (.long o0_nextProbe)) (g_o0 : n0 ≤ o0) :
    MetFree l (⟨"com/example/quietwire/quietwire/protocol/Overdue", "judge", "(JZZZ)V"⟩ : MethodName) (head1 (Jvm.Cond.code (⟨"com/example/quietwire/quietwire/protocol/Overdue", "judge", "(JZZZ)V"⟩ : MethodName) prog_58_method_3_code 7 none :: ws) R3) (fun a U => a = #[(.ref o0), (.long v1), (.int v3), (.int v4), (.int v5)] ∧ Z.Warmed39 U.vm ∧ U.heap = h0) (fun _ _ _ _ _ => True) (fun _ U o U' => ∃ v L, o = .returned v ∧ (Q3 Z o0 h0 n0 (f3_0 v1 v3 v4 v5 o0_overdue o0_gap o0_nextProbe)) v U'.heap L ∧ FrameEnd U o U' L R3.cells R3.slots) := by
  refine MetFree.of_bodySF (plainFor_of_name pn_3) hisR ?_
  intro p e s m args below meth c s₁ Bd hml0 hP hK
  obtain ⟨rfl, hZ, hh⟩ := hP
  have B : Ctx p Z s a0 m meth c "com/example/quietwire/quietwire/protocol/Overdue" "judge" prog_58_method_3_code 7 none := ⟨Bd.exec, hZ, hw, Bd.bytes, hml0, Bd.returns, findClass_of_methodNamed Bd.named, (name_of_methodNamed Bd.named Bd.method).1, Bd.notSynchronized⟩
  have X0 : Stand p l e R3 s m #[(.ref o0), (.long v1), (.int v3), (.int v4), (.int v5)] below meth c s₁ [] 0 0 := Stand.of_body Bd
  have e0 : s₁.heap = h0 := by rw [← hh, Bd.state]; rfl
  have K := Keep.refl h0 [o0]
  show Fin p e below s R3.cells R3.slots (Q3 Z o0 h0 n0 (f3_0 v1 v3 v4 v5 o0_overdue o0_gap o0_nextProbe)) (s₁.setTop (entryFrame m #[(.ref o0), (.long v1), (.int v3), (.int v4), (.int v5)] 7))
  refine Fin.by (fun t k => castTop (ef_3 m o0 v1 v3 v4 v5) k) ?_
  exact b3_0 B h0 n0 o0 v1 v3 v4 v5 o0_overdue o0_gap o0_nextProbe X0 e0 (Fr.nil n0) Z0 K E_o0 F_o0_overdue F_o0_gap F_o0_nextProbe g_o0 _ rfl
theorem pd_1 : parseMethodDescriptor "(JZZZ)V" = some ⟨[.long, .boolean, .boolean, .boolean], none⟩ := by decide +kernel
theorem d4_0 : decode prog_58_method_4_code 0 = .ok (.aload_n 0, 1) := by decide +kernel
theorem d4_1 : decode prog_58_method_4_code 1 = .ok (.getfield 7, 3) := by decide +kernel
theorem d4_4 : decode prog_58_method_4_code 4 = .ok (.ireturn, 1) := by decide +kernel
theorem pn_4 : plainName "com/example/quietwire/quietwire/protocol/Overdue" = true := by first | (simp [plainName, overriddenIn]; done) | decide +kernel
def R4 : Room := { frames := 0, cells := 0, slots := 0, locals := 0 }
def Q4 (Z : State)  (h0 : Heap) (n0 : Nat) (r : Int32) (v : Option Value) (h : Heap) (L : List Loc) : Prop := v = some (.int r) ∧ Fr n0 L ∧ h = h0
def f4_0 (o0_overdue : Int32) (o0_gap : Int64) (o0_nextProbe : Int64) : Int32 := (nar .boolean o0_overdue)
set_option maxRecDepth 65536 in
set_option maxHeartbeats 40000000 in
theorem b4_0 {p : Program} {l : Launch} {e : Env} {s : State} {m : MethodId} {args : Array Value} {below : List Frame} {meth : Method} {c : Code} {Z : State} {a0 : Array Value} (B : Ctx p Z s a0 m meth c "com/example/quietwire/quietwire/protocol/Overdue" "isOverdue" prog_58_method_4_code 1 (some .boolean)) {T0 : State} {locs : List Loc} {h : Heap} (h0 : Heap) (n0 : Nat) (o0 : Addr) (o0_overdue : Int32) (o0_gap : Int64) (o0_nextProbe : Int64) (X0 : Stand p l e R4 s m args below meth c T0 locs 0 0) (e0 : T0.heap = h) (N0 : Fr n0 locs) (Z0 : n0 ≤ h.size) (hh0 : h = h0) (E_o0 : Exa Z h o0 "com/example/quietwire/quietwire/protocol/Overdue") (F_o0_overdue : Fld Z h o0 "com/example/quietwire/quietwire/protocol/Overdue" "overdue" "Z" (.int o0_overdue)) (F_o0_gap : Fld Z h o0 "com/example/quietwire/quietwire/protocol/Overdue" "gap" "J" (.long o0_gap)) (F_o0_nextProbe : Fld Z h o0 "com/example/quietwire/quietwire/protocol/Overdue" "nextProbe" "J" (.long o0_nextProbe)) (r : Int32) (hr : f4_0 o0_overdue o0_gap o0_nextProbe = r) :
    Fin p e below s R4.cells R4.slots (Q4 Z  h0 n0 r) (T0.setTop (mkF m 0 #[.val (.ref o0)] [])) := by
  obtain ⟨hx, hZ, hw, hby, hml, hret, hown, hnm, hlk⟩ := B
  unfold f4_0 at hr
  refine Fin.by (B := T0.setTop (mkF m 1 #[.val (.ref o0)] [(.ref o0)])) (fun t k => ?_) ?_
  · show Steps p.tables e below (T0.setTop (mkF m 0 #[.val (.ref o0)] [])) _
    refine XS.aloadN X0.here hx rfl (hb hby d4_0) rfl rfl ?_
    exact k
  obtain ⟨T1, X1, e1, st1⟩ := getF X0 hx hZ hown (host := "") (Or.inl (hw _ (List.mem_of_getElem? (i := 14) rfl))) Via.refl e0 F_o0_overdue (g := (mkF m 1 #[.val (.ref o0)] [(.ref o0)])) rfl rfl (hb hby d4_1)
  refine Fin.by (B := T1.setTop (mkF m 4 #[.val (.ref o0)] [(.int o0_overdue)])) (fun t k => st1 t k) ?_
  subst hr
  exact own_retN X1 hx hlk (t := .boolean) hret (by simp) (hb hby d4_4) (by decide) (by decide) ⟨rfl, N0, (e1.trans hh0)⟩
theorem ef_4 (m : MethodId) (o0 : Addr) : entryFrame m #[(.ref o0)] 1 = (mkF m 0 #[.val (.ref o0)] []) := by first | (simp [entryFrame, mkF, argsToLocals, Value.category]; done) | rfl
set_option maxRecDepth 65536 in
set_option maxHeartbeats 40000000 in
theorem rm4 (l : Launch) (Z : State) (a0 : Array Value) (hw : ∀ d ∈ tables_1, d.before a0 Z = true) (ws : List Jvm.Cond) (o0 : Addr) (o0_overdue : Int32) (o0_gap : Int64) (o0_nextProbe : Int64) (h0 : Heap) (n0 : Nat) (Z0 : n0 ≤ h0.size) (E_o0 : Exa Z h0 o0 "com/example/quietwire/quietwire/protocol/Overdue") (F_o0_overdue : Fld Z h0 o0 "com/example/quietwire/quietwire/protocol/Overdue" "overdue" "Z" (.int o0_overdue)) (F_o0_gap : Fld Z h0 o0 "com/example/quietwire/quietwire/protocol/Overdue" "gap" "J" (.long o0_gap)) (F_o0_nextProbe : Fld Z h0 o0 "com/example/quietwire/quietwire/protocol/Overdue" "nextProbe" "J" (.long o0_nextProbe)) :
    MetFree l (⟨"com/example/quietwire/quietwire/protocol/Overdue", "isOverdue", "()Z"⟩ : MethodName) (head1 (Jvm.Cond.code (⟨"com/example/quietwire/quietwire/protocol/Overdue", "isOverdue", "()Z"⟩ : MethodName) prog_58_method_4_code 1 (some .boolean) :: ws) R4) (fun a U => a = #[(.ref o0)] ∧ Z.Warmed39 U.vm ∧ U.heap = h0) (fun _ _ _ _ _ => True) (fun _ U o U' => ∃ v L, o = .returned v ∧ (Q4 Z  h0 n0 (f4_0 o0_overdue o0_gap o0_nextProbe)) v U'.heap L ∧ FrameEnd U o U' L R4.cells R4.slots) := by
  refine MetFree.of_bodySF (plainFor_of_name pn_4) hisR ?_
  intro p e s m args below meth c s₁ Bd hml0 hP hK
  obtain ⟨rfl, hZ, hh⟩ := hP
  have B : Ctx p Z s a0 m meth c "com/example/quietwire/quietwire/protocol/Overdue" "isOverdue" prog_58_method_4_code 1 (some .boolean) := ⟨Bd.exec, hZ, hw, Bd.bytes, hml0, Bd.returns, findClass_of_methodNamed Bd.named, (name_of_methodNamed Bd.named Bd.method).1, Bd.notSynchronized⟩
  have X0 : Stand p l e R4 s m #[(.ref o0)] below meth c s₁ [] 0 0 := Stand.of_body Bd
  have e0 : s₁.heap = h0 := by rw [← hh, Bd.state]; rfl
  have K := Keep.refl h0 []
  show Fin p e below s R4.cells R4.slots (Q4 Z  h0 n0 (f4_0 o0_overdue o0_gap o0_nextProbe)) (s₁.setTop (entryFrame m #[(.ref o0)] 1))
  refine Fin.by (fun t k => castTop (ef_4 m o0) k) ?_
  exact b4_0 B h0 n0 o0 o0_overdue o0_gap o0_nextProbe X0 e0 (Fr.nil n0) Z0 rfl E_o0 F_o0_overdue F_o0_gap F_o0_nextProbe _ rfl
theorem pd_2 : parseMethodDescriptor "()Z" = some ⟨[], some .boolean⟩ := by decide +kernel
theorem d5_0 : decode prog_58_method_5_code 0 = .ok (.aload_n 0, 1) := by decide +kernel
theorem d5_1 : decode prog_58_method_5_code 1 = .ok (.getfield 13, 3) := by decide +kernel
theorem d5_4 : decode prog_58_method_5_code 4 = .ok (.lconst 0, 1) := by decide +kernel
theorem d5_5 : decode prog_58_method_5_code 5 = .ok (.lcmp, 1) := by decide +kernel
theorem d5_6 : decode prog_58_method_5_code 6 = .ok (.ifCond .le 7, 3) := by decide +kernel
theorem d5_9 : decode prog_58_method_5_code 9 = .ok (.iconst 1, 1) := by decide +kernel
theorem d5_10 : decode prog_58_method_5_code 10 = .ok (.goto 4, 3) := by decide +kernel
theorem d5_13 : decode prog_58_method_5_code 13 = .ok (.iconst 0, 1) := by decide +kernel
theorem d5_14 : decode prog_58_method_5_code 14 = .ok (.ireturn, 1) := by decide +kernel
theorem pn_5 : plainName "com/example/quietwire/quietwire/protocol/Overdue" = true := by first | (simp [plainName, overriddenIn]; done) | decide +kernel
def R5 : Room := { frames := 0, cells := 0, slots := 0, locals := 0 }
def Q5 (Z : State)  (h0 : Heap) (n0 : Nat) (r : Int32) (v : Option Value) (h : Heap) (L : List Loc) : Prop := v = some (.int r) ∧ Fr n0 L ∧ h = h0
def f5_0 (o0_overdue : Int32) (o0_gap : Int64) (o0_nextProbe : Int64) : Int32 := (if (0 : Int64) < o0_gap then (1 : Int32) else (0 : Int32))
set_option maxRecDepth 65536 in
set_option maxHeartbeats 40000000 in
theorem b5_0 {p : Program} {l : Launch} {e : Env} {s : State} {m : MethodId} {args : Array Value} {below : List Frame} {meth : Method} {c : Code} {Z : State} {a0 : Array Value} (B : Ctx p Z s a0 m meth c "com/example/quietwire/quietwire/protocol/Overdue" "isProbed" prog_58_method_5_code 1 (some .boolean)) {T0 : State} {locs : List Loc} {h : Heap} (h0 : Heap) (n0 : Nat) (o0 : Addr) (o0_overdue : Int32) (o0_gap : Int64) (o0_nextProbe : Int64) (X0 : Stand p l e R5 s m args below meth c T0 locs 0 0) (e0 : T0.heap = h) (N0 : Fr n0 locs) (Z0 : n0 ≤ h.size) (hh0 : h = h0) (E_o0 : Exa Z h o0 "com/example/quietwire/quietwire/protocol/Overdue") (F_o0_overdue : Fld Z h o0 "com/example/quietwire/quietwire/protocol/Overdue" "overdue" "Z" (.int o0_overdue)) (F_o0_gap : Fld Z h o0 "com/example/quietwire/quietwire/protocol/Overdue" "gap" "J" (.long o0_gap)) (F_o0_nextProbe : Fld Z h o0 "com/example/quietwire/quietwire/protocol/Overdue" "nextProbe" "J" (.long o0_nextProbe)) (r : Int32) (hr : f5_0 o0_overdue o0_gap o0_nextProbe = r) :
    Fin p e below s R5.cells R5.slots (Q5 Z  h0 n0 r) (T0.setTop (mkF m 0 #[.val (.ref o0)] [])) := by
  obtain ⟨hx, hZ, hw, hby, hml, hret, hown, hnm, hlk⟩ := B
  unfold f5_0 at hr
  refine Fin.by (B := T0.setTop (mkF m 1 #[.val (.ref o0)] [(.ref o0)])) (fun t k => ?_) ?_
  · show Steps p.tables e below (T0.setTop (mkF m 0 #[.val (.ref o0)] [])) _
    refine XS.aloadN X0.here hx rfl (hb hby d5_0) rfl rfl ?_
    exact k
  obtain ⟨T1, X1, e1, st1⟩ := getF X0 hx hZ hown (host := "") (Or.inl (hw _ (List.mem_of_getElem? (i := 16) rfl))) Via.refl e0 F_o0_gap (g := (mkF m 1 #[.val (.ref o0)] [(.ref o0)])) rfl rfl (hb hby d5_1)
  refine Fin.by (B := T1.setTop (mkF m 4 #[.val (.ref o0)] [(.long o0_gap)])) (fun t k => st1 t k) ?_
  refine Fin.by (B := T1.setTop (mkF m 6 #[.val (.ref o0)] [(.int (lcmpW o0_gap (0 : Int64)))])) (fun t k => ?_) ?_
  · show Steps p.tables e below (T1.setTop (mkF m 4 #[.val (.ref o0)] [(.long o0_gap)])) _
    refine XS.lconst X1.here hx rfl (hb hby d5_4) ?_
    show Steps p.tables e below (T1.setTop (mkF m 5 #[.val (.ref o0)] [(.long (0 : Int64)), (.long o0_gap)])) _
    refine XS.lcmp X1.here hx rfl (hb hby d5_5) rfl ?_
    exact k
  by_cases hc6 : (0 : Int64) < o0_gap
  · rw [if_pos hc6] at hr
    refine Fin.by (B := T1.setTop (mkF m 9 #[.val (.ref o0)] [])) (fun t k => ?_) ?_
    · show Steps p.tables e below (T1.setTop (mkF m 6 #[.val (.ref o0)] [(.int (lcmpW o0_gap (0 : Int64)))])) _
      exact XS.ifNo X1.here hx rfl (hb hby d5_6) rfl ((if0 _ _).trans (tlt ((lw_gt _ _).mpr hc6)).2.2.2) k
    refine Fin.by (B := T1.setTop (mkF m 14 #[.val (.ref o0)] [(.int (1 : Int32))])) (fun t k => ?_) ?_
    · show Steps p.tables e below (T1.setTop (mkF m 9 #[.val (.ref o0)] [])) _
      refine XS.iconst X1.here hx rfl (hb hby d5_9) ?_
      show Steps p.tables e below (T1.setTop (mkF m 10 #[.val (.ref o0)] [(.int (1 : Int32))])) _
      refine XS.goto X1.here hx rfl (pc0 := 10) (pc' := 14) rfl (hb hby d5_10) (by decide) (by decide) ?_
      exact k
    subst hr
    exact own_retN X1 hx hlk (t := .boolean) hret (by simp) (hb hby d5_14) (by decide) (by decide) ⟨rfl, N0, (e1.trans hh0)⟩
  · rw [if_neg hc6] at hr
    refine Fin.by (B := T1.setTop (mkF m 13 #[.val (.ref o0)] [])) (fun t k => ?_) ?_
    · show Steps p.tables e below (T1.setTop (mkF m 6 #[.val (.ref o0)] [(.int (lcmpW o0_gap (0 : Int64)))])) _
      exact XS.ifYes X1.here hx rfl (pc0 := 6) (pc' := 13) rfl (hb hby d5_6) rfl ((if0 _ _).trans (flt (fun q => hc6 ((lw_gt _ _).mp q))).2.2.2) (by decide) (by decide) k
    refine Fin.by (B := T1.setTop (mkF m 14 #[.val (.ref o0)] [(.int (0 : Int32))])) (fun t k => ?_) ?_
    · show Steps p.tables e below (T1.setTop (mkF m 13 #[.val (.ref o0)] [])) _
      refine XS.iconst X1.here hx rfl (hb hby d5_13) ?_
      exact k
    subst hr
    exact own_retN X1 hx hlk (t := .boolean) hret (by simp) (hb hby d5_14) (by decide) (by decide) ⟨rfl, N0, (e1.trans hh0)⟩
theorem ef_5 (m : MethodId) (o0 : Addr) : entryFrame m #[(.ref o0)] 1 = (mkF m 0 #[.val (.ref o0)] []) := by first | (simp [entryFrame, mkF, argsToLocals, Value.category]; done) | rfl
set_option maxRecDepth 65536 in
set_option maxHeartbeats 40000000 in
theorem rm5 (l : Launch) (Z : State) (a0 : Array Value) (hw : ∀ d ∈ tables_1, d.before a0 Z = true) (ws : List Jvm.Cond) (o0 : Addr) (o0_overdue : Int32) (o0_gap : Int64) (o0_nextProbe : Int64) (h0 : Heap) (n0 : Nat) (Z0 : n0 ≤ h0.size) (E_o0 : Exa Z h0 o0 "com/example/quietwire/quietwire/protocol/Overdue") (F_o0_overdue : Fld Z h0 o0 "com/example/quietwire/quietwire/protocol/Overdue" "overdue" "Z" (.int o0_overdue)) (F_o0_gap : Fld Z h0 o0 "com/example/quietwire/quietwire/protocol/Overdue" "gap" "J" (.long o0_gap)) (F_o0_nextProbe : Fld Z h0 o0 "com/example/quietwire/quietwire/protocol/Overdue" "nextProbe" "J" (.long o0_nextProbe)) :
    MetFree l (⟨"com/example/quietwire/quietwire/protocol/Overdue", "isProbed", "()Z"⟩ : MethodName) (head1 (Jvm.Cond.code (⟨"com/example/quietwire/quietwire/protocol/Overdue", "isProbed", "()Z"⟩ : MethodName) prog_58_method_5_code 1 (some .boolean) :: ws) R5) (fun a U => a = #[(.ref o0)] ∧ Z.Warmed39 U.vm ∧ U.heap = h0) (fun _ _ _ _ _ => True) (fun _ U o U' => ∃ v L, o = .returned v ∧ (Q5 Z  h0 n0 (f5_0 o0_overdue o0_gap o0_nextProbe)) v U'.heap L ∧ FrameEnd U o U' L R5.cells R5.slots) := by
  refine MetFree.of_bodySF (plainFor_of_name pn_5) hisR ?_
  intro p e s m args below meth c s₁ Bd hml0 hP hK
  obtain ⟨rfl, hZ, hh⟩ := hP
  have B : Ctx p Z s a0 m meth c "com/example/quietwire/quietwire/protocol/Overdue" "isProbed" prog_58_method_5_code 1 (some .boolean) := ⟨Bd.exec, hZ, hw, Bd.bytes, hml0, Bd.returns, findClass_of_methodNamed Bd.named, (name_of_methodNamed Bd.named Bd.method).1, Bd.notSynchronized⟩
  have X0 : Stand p l e R5 s m #[(.ref o0)] below meth c s₁ [] 0 0 := Stand.of_body Bd
  have e0 : s₁.heap = h0 := by rw [← hh, Bd.state]; rfl
  have K := Keep.refl h0 []
  show Fin p e below s R5.cells R5.slots (Q5 Z  h0 n0 (f5_0 o0_overdue o0_gap o0_nextProbe)) (s₁.setTop (entryFrame m #[(.ref o0)] 1))
  refine Fin.by (fun t k => castTop (ef_5 m o0) k) ?_
  exact b5_0 B h0 n0 o0 o0_overdue o0_gap o0_nextProbe X0 e0 (Fr.nil n0) Z0 rfl E_o0 F_o0_overdue F_o0_gap F_o0_nextProbe _ rfl
theorem d7_0 : decode jdk_29_method_70_code 0 = .ok (.lload_n 0, 1) := by decide +kernel
theorem d7_1 : decode jdk_29_method_70_code 1 = .ok (.lload_n 2, 1) := by decide +kernel
theorem d7_2 : decode jdk_29_method_70_code 2 = .ok (.lcmp, 1) := by decide +kernel
theorem d7_3 : decode jdk_29_method_70_code 3 = .ok (.ifCond .gt 7, 3) := by decide +kernel
theorem d7_6 : decode jdk_29_method_70_code 6 = .ok (.lload_n 0, 1) := by decide +kernel
theorem d7_7 : decode jdk_29_method_70_code 7 = .ok (.goto 4, 3) := by decide +kernel
theorem d7_10 : decode jdk_29_method_70_code 10 = .ok (.lload_n 2, 1) := by decide +kernel
theorem d7_11 : decode jdk_29_method_70_code 11 = .ok (.lreturn, 1) := by decide +kernel
def R7 : Room := { frames := 0, cells := 0, slots := 0, locals := 0 }
def Q7 (Z : State)  (h0 : Heap) (n0 : Nat) (r : Int64) (v : Option Value) (h : Heap) (L : List Loc) : Prop := v = some (.long r) ∧ Fr n0 L ∧ h = h0
def f7_0 (v0 : Int64) (v2 : Int64) : Int64 := (if v2 < v0 then v2 else v0)
set_option maxRecDepth 65536 in
set_option maxHeartbeats 40000000 in
theorem b7_0 {p : Program} {l : Launch} {e : Env} {s : State} {m : MethodId} {args : Array Value} {below : List Frame} {meth : Method} {c : Code} {Z : State} {a0 : Array Value} (B : Ctx p Z s a0 m meth c "java/lang/Math" "min" jdk_29_method_70_code 4 (some .long)) {T0 : State} {locs : List Loc} {h : Heap} (h0 : Heap) (n0 : Nat) (v0 : Int64) (v2 : Int64) (X0 : Stand p l e R7 s m args below meth c T0 locs 0 0) (e0 : T0.heap = h) (N0 : Fr n0 locs) (Z0 : n0 ≤ h.size) (hh0 : h = h0) (r : Int64) (hr : f7_0 v0 v2 = r) :
    Fin p e below s R7.cells R7.slots (Q7 Z  h0 n0 r) (T0.setTop (mkF m 0 #[.val (.long v0), .second, .val (.long v2), .second] [])) := by
  obtain ⟨hx, hZ, hw, hby, hml, hret, hown, hnm, hlk⟩ := B
  unfold f7_0 at hr
  refine Fin.by (B := T0.setTop (mkF m 3 #[.val (.long v0), .second, .val (.long v2), .second] [(.int (lcmpW v0 v2))])) (fun t k => ?_) ?_
  · show Steps p.tables e below (T0.setTop (mkF m 0 #[.val (.long v0), .second, .val (.long v2), .second] [])) _
    refine XS.lloadN X0.here hx rfl (hb hby d7_0) rfl  ?_
    show Steps p.tables e below (T0.setTop (mkF m 1 #[.val (.long v0), .second, .val (.long v2), .second] [(.long v0)])) _
    refine XS.lloadN X0.here hx rfl (hb hby d7_1) rfl  ?_
    show Steps p.tables e below (T0.setTop (mkF m 2 #[.val (.long v0), .second, .val (.long v2), .second] [(.long v2), (.long v0)])) _
    refine XS.lcmp X0.here hx rfl (hb hby d7_2) rfl ?_
    exact k
  by_cases hc3 : v2 < v0
  · rw [if_pos hc3] at hr
    refine Fin.by (B := T0.setTop (mkF m 10 #[.val (.long v0), .second, .val (.long v2), .second] [])) (fun t k => ?_) ?_
    · show Steps p.tables e below (T0.setTop (mkF m 3 #[.val (.long v0), .second, .val (.long v2), .second] [(.int (lcmpW v0 v2))])) _
      exact XS.ifYes X0.here hx rfl (pc0 := 3) (pc' := 10) rfl (hb hby d7_3) rfl ((if0 _ _).trans (tlt ((lw_gt _ _).mpr hc3)).2.2.1) (by decide) (by decide) k
    refine Fin.by (B := T0.setTop (mkF m 11 #[.val (.long v0), .second, .val (.long v2), .second] [(.long v2)])) (fun t k => ?_) ?_
    · show Steps p.tables e below (T0.setTop (mkF m 10 #[.val (.long v0), .second, .val (.long v2), .second] [])) _
      refine XS.lloadN X0.here hx rfl (hb hby d7_10) rfl  ?_
      exact k
    subst hr
    exact own_retJ X0 hx hlk hret (hb hby d7_11) (by decide) (by decide) ⟨rfl, N0, (e0.trans hh0)⟩
  · rw [if_neg hc3] at hr
    refine Fin.by (B := T0.setTop (mkF m 6 #[.val (.long v0), .second, .val (.long v2), .second] [])) (fun t k => ?_) ?_
    · show Steps p.tables e below (T0.setTop (mkF m 3 #[.val (.long v0), .second, .val (.long v2), .second] [(.int (lcmpW v0 v2))])) _
      exact XS.ifNo X0.here hx rfl (hb hby d7_3) rfl ((if0 _ _).trans (flt (fun q => hc3 ((lw_gt _ _).mp q))).2.2.1) k
    refine Fin.by (B := T0.setTop (mkF m 11 #[.val (.long v0), .second, .val (.long v2), .second] [(.long v0)])) (fun t k => ?_) ?_
    · show Steps p.tables e below (T0.setTop (mkF m 6 #[.val (.long v0), .second, .val (.long v2), .second] [])) _
      refine XS.lloadN X0.here hx rfl (hb hby d7_6) rfl  ?_
      show Steps p.tables e below (T0.setTop (mkF m 7 #[.val (.long v0), .second, .val (.long v2), .second] [(.long v0)])) _
      refine XS.goto X0.here hx rfl (pc0 := 7) (pc' := 11) rfl (hb hby d7_7) (by decide) (by decide) ?_
      exact k
    subst hr
    exact own_retJ X0 hx hlk hret (hb hby d7_11) (by decide) (by decide) ⟨rfl, N0, (e0.trans hh0)⟩
theorem ef_7 (m : MethodId) (v0 : Int64) (v2 : Int64) : entryFrame m #[(.long v0), (.long v2)] 4 = (mkF m 0 #[.val (.long v0), .second, .val (.long v2), .second] []) := by first | (simp [entryFrame, mkF, argsToLocals, Value.category]; done) | rfl
set_option maxRecDepth 65536 in
set_option maxHeartbeats 40000000 in
theorem rm7 (l : Launch) (Z : State) (a0 : Array Value) (hw : ∀ d ∈ tables_1, d.before a0 Z = true) (ws : List Jvm.Cond) (v0 : Int64) (v2 : Int64) (h0 : Heap) (n0 : Nat) (Z0 : n0 ≤ h0.size) :
    MetFree l (⟨"java/lang/Math", "min", "(JJ)J"⟩ : MethodName) (head1 (Jvm.Cond.code (⟨"java/lang/Math", "min", "(JJ)J"⟩ : MethodName) jdk_29_method_70_code 4 (some .long) :: ws) R7) (fun a U => a = #[(.long v0), (.long v2)] ∧ Z.Warmed39 U.vm ∧ U.heap = h0) (fun _ _ _ _ _ => True) (fun _ U o U' => ∃ v L, o = .returned v ∧ (Q7 Z  h0 n0 (f7_0 v0 v2)) v U'.heap L ∧ FrameEnd U o U' L R7.cells R7.slots) := by
  refine MetFree.of_bodySF (Jvm.Free.JP.mathPlain rfl (by decide +kernel)) hisR ?_
  intro p e s m args below meth c s₁ Bd hml0 hP hK
  obtain ⟨rfl, hZ, hh⟩ := hP
  have B : Ctx p Z s a0 m meth c "java/lang/Math" "min" jdk_29_method_70_code 4 (some .long) := ⟨Bd.exec, hZ, hw, Bd.bytes, hml0, Bd.returns, findClass_of_methodNamed Bd.named, (name_of_methodNamed Bd.named Bd.method).1, Bd.notSynchronized⟩
  have X0 : Stand p l e R7 s m #[(.long v0), (.long v2)] below meth c s₁ [] 0 0 := Stand.of_body Bd
  have e0 : s₁.heap = h0 := by rw [← hh, Bd.state]; rfl
  have K := Keep.refl h0 []
  show Fin p e below s R7.cells R7.slots (Q7 Z  h0 n0 (f7_0 v0 v2)) (s₁.setTop (entryFrame m #[(.long v0), (.long v2)] 4))
  refine Fin.by (fun t k => castTop (ef_7 m v0 v2) k) ?_
  exact b7_0 B h0 n0 v0 v2 X0 e0 (Fr.nil n0) Z0 rfl  _ rfl
theorem pd_3 : parseMethodDescriptor "(JJ)J" = some ⟨[.long, .long], some .long⟩ := by decide +kernel
theorem d6_0 : decode prog_58_method_6_code 0 = .ok (.aload_n 0, 1) := by decide +kernel
theorem d6_1 : decode prog_58_method_6_code 1 = .ok (.getfield 13, 3) := by decide +kernel
theorem d6_4 : decode prog_58_method_6_code 4 = .ok (.lconst 0, 1) := by decide +kernel
theorem d6_5 : decode prog_58_method_6_code 5 = .ok (.lcmp, 1) := by decide +kernel
theorem d6_6 : decode prog_58_method_6_code 6 = .ok (.ifCond .eq 12, 3) := by decide +kernel
theorem d6_9 : decode prog_58_method_6_code 9 = .ok (.lload_n 1, 1) := by decide +kernel
theorem d6_10 : decode prog_58_method_6_code 10 = .ok (.aload_n 0, 1) := by decide +kernel
theorem d6_11 : decode prog_58_method_6_code 11 = .ok (.getfield 17, 3) := by decide +kernel
theorem d6_14 : decode prog_58_method_6_code 14 = .ok (.lcmp, 1) := by decide +kernel
theorem d6_15 : decode prog_58_method_6_code 15 = .ok (.ifCond .ge 5, 3) := by decide +kernel
theorem d6_18 : decode prog_58_method_6_code 18 = .ok (.iconst 0, 1) := by decide +kernel
theorem d6_19 : decode prog_58_method_6_code 19 = .ok (.ireturn, 1) := by decide +kernel
theorem d6_20 : decode prog_58_method_6_code 20 = .ok (.aload_n 0, 1) := by decide +kernel
theorem d6_21 : decode prog_58_method_6_code 21 = .ok (.ldc2_w 20, 3) := by decide +kernel
theorem d6_24 : decode prog_58_method_6_code 24 = .ok (.aload_n 0, 1) := by decide +kernel
theorem d6_25 : decode prog_58_method_6_code 25 = .ok (.getfield 13, 3) := by decide +kernel
theorem d6_28 : decode prog_58_method_6_code 28 = .ok (.lmul, 1) := by decide +kernel
theorem d6_29 : decode prog_58_method_6_code 29 = .ok (.ldc2_w 22, 3) := by decide +kernel
theorem d6_32 : decode prog_58_method_6_code 32 = .ok (.invokestatic 24, 3) := by decide +kernel
theorem d6_35 : decode prog_58_method_6_code 35 = .ok (.putfield 13, 3) := by decide +kernel
theorem d6_38 : decode prog_58_method_6_code 38 = .ok (.aload_n 0, 1) := by decide +kernel
theorem d6_39 : decode prog_58_method_6_code 39 = .ok (.lload_n 1, 1) := by decide +kernel
theorem d6_40 : decode prog_58_method_6_code 40 = .ok (.aload_n 0, 1) := by decide +kernel
theorem d6_41 : decode prog_58_method_6_code 41 = .ok (.getfield 13, 3) := by decide +kernel
theorem d6_44 : decode prog_58_method_6_code 44 = .ok (.ladd, 1) := by decide +kernel
theorem d6_45 : decode prog_58_method_6_code 45 = .ok (.putfield 17, 3) := by decide +kernel
theorem d6_48 : decode prog_58_method_6_code 48 = .ok (.iconst 1, 1) := by decide +kernel
theorem d6_49 : decode prog_58_method_6_code 49 = .ok (.ireturn, 1) := by decide +kernel
theorem pn_6 : plainName "com/example/quietwire/quietwire/protocol/Overdue" = true := by first | (simp [plainName, overriddenIn]; done) | decide +kernel
def R6 : Room := { frames := 1, cells := 0, slots := 0, locals := 16 }
def Q6 (Z : State) (o0 : Addr) (h0 : Heap) (n0 : Nat) (r : Int32 × Int32 × Int64 × Int64) (v : Option Value) (h : Heap) (L : List Loc) : Prop := v = some (.int r.1) ∧ Fr n0 L ∧ Keep h0 h [o0] ∧ Exa Z h o0 "com/example/quietwire/quietwire/protocol/Overdue" ∧ Fld Z h o0 "com/example/quietwire/quietwire/protocol/Overdue" "overdue" "Z" (.int r.2.1) ∧ Fld Z h o0 "com/example/quietwire/quietwire/protocol/Overdue" "gap" "J" (.long r.2.2.1) ∧ Fld Z h o0 "com/example/quietwire/quietwire/protocol/Overdue" "nextProbe" "J" (.long r.2.2.2)
def f6_0 (v1 : Int64) (o0_overdue : Int32) (o0_gap : Int64) (o0_nextProbe : Int64) : Int32 × Int32 × Int64 × Int64 := (if o0_gap = (0 : Int64) then ((0 : Int32), o0_overdue, o0_gap, o0_nextProbe) else (if v1 < o0_nextProbe then ((0 : Int32), o0_overdue, o0_gap, o0_nextProbe) else ((1 : Int32), o0_overdue, (f7_0 ((2 : Int64) * o0_gap) (64 : Int64)), (v1 + (f7_0 ((2 : Int64) * o0_gap) (64 : Int64))))))
set_option maxRecDepth 65536 in
set_option maxHeartbeats 40000000 in
theorem b6_0 {p : Program} {l : Launch} {e : Env} {s : State} {m : MethodId} {args : Array Value} {below : List Frame} {meth : Method} {c : Code} {Z : State} {a0 : Array Value} (B : Ctx p Z s a0 m meth c "com/example/quietwire/quietwire/protocol/Overdue" "probeDue" prog_58_method_6_code 3 (some .boolean)) {T0 : State} {locs : List Loc} {h : Heap} (h0 : Heap) (n0 : Nat) (o0 : Addr) (v1 : Int64) (o0_overdue : Int32) (o0_gap : Int64) (o0_nextProbe : Int64) (X0 : Stand p l e R6 s m args below meth c T0 locs 0 0) (e0 : T0.heap = h) (N0 : Fr n0 locs) (Z0 : n0 ≤ h.size) (K : Keep h0 h [o0]) (E_o0 : Exa Z h o0 "com/example/quietwire/quietwire/protocol/Overdue") (F_o0_overdue : Fld Z h o0 "com/example/quietwire/quietwire/protocol/Overdue" "overdue" "Z" (.int o0_overdue)) (F_o0_gap : Fld Z h o0 "com/example/quietwire/quietwire/protocol/Overdue" "gap" "J" (.long o0_gap)) (F_o0_nextProbe : Fld Z h o0 "com/example/quietwire/quietwire/protocol/Overdue" "nextProbe" "J" (.long o0_nextProbe)) (g_o0 : n0 ≤ o0) (r : Int32 × Int32 × Int64 × Int64) (hr : f6_0 v1 o0_overdue o0_gap o0_nextProbe = r) :
    Fin p e below s R6.cells R6.slots (Q6 Z o0 h0 n0 r) (T0.setTop (mkF m 0 #[.val (.ref o0), .val (.long v1), .second] [])) := by
  obtain ⟨hx, hZ, hw, hby, hml, hret, hown, hnm, hlk⟩ := B
  unfold f6_0 at hr
  refine Fin.by (B := T0.setTop (mkF m 1 #[.val (.ref o0), .val (.long v1), .second] [(.ref o0)])) (fun t k => ?_) ?_
  · show Steps p.tables e below (T0.setTop (mkF m 0 #[.val (.ref o0), .val (.long v1), .second] [])) _
    refine XS.aloadN X0.here hx rfl (hb hby d6_0) rfl rfl ?_
    exact k
  obtain ⟨T1, X1, e1, st1⟩ := getF X0 hx hZ hown (host := "") (Or.inl (hw _ (List.mem_of_getElem? (i := 16) rfl))) Via.refl e0 F_o0_gap (g := (mkF m 1 #[.val (.ref o0), .val (.long v1), .second] [(.ref o0)])) rfl rfl (hb hby d6_1)
  refine Fin.by (B := T1.setTop (mkF m 4 #[.val (.ref o0), .val (.long v1), .second] [(.long o0_gap)])) (fun t k => st1 t k) ?_
  refine Fin.by (B := T1.setTop (mkF m 6 #[.val (.ref o0), .val (.long v1), .second] [(.int (lcmpW o0_gap (0 : Int64)))])) (fun t k => ?_) ?_
  · show Steps p.tables e below (T1.setTop (mkF m 4 #[.val (.ref o0), .val (.long v1), .second] [(.long o0_gap)])) _
    refine XS.lconst X1.here hx rfl (hb hby d6_4) ?_
    show Steps p.tables e below (T1.setTop (mkF m 5 #[.val (.ref o0), .val (.long v1), .second] [(.long (0 : Int64)), (.long o0_gap)])) _
    refine XS.lcmp X1.here hx rfl (hb hby d6_5) rfl ?_
    exact k
  by_cases hc6 : o0_gap = (0 : Int64)
  · rw [if_pos hc6] at hr
    refine Fin.by (B := T1.setTop (mkF m 18 #[.val (.ref o0), .val (.long v1), .second] [])) (fun t k => ?_) ?_
    · show Steps p.tables e below (T1.setTop (mkF m 6 #[.val (.ref o0), .val (.long v1), .second] [(.int (lcmpW o0_gap (0 : Int64)))])) _
      exact XS.ifYes X1.here hx rfl (pc0 := 6) (pc' := 18) rfl (hb hby d6_6) rfl ((if0 _ _).trans (teq ((lw_eq _ _).mpr hc6)).1) (by decide) (by decide) k
    refine Fin.by (B := T1.setTop (mkF m 19 #[.val (.ref o0), .val (.long v1), .second] [(.int (0 : Int32))])) (fun t k => ?_) ?_
    · show Steps p.tables e below (T1.setTop (mkF m 18 #[.val (.ref o0), .val (.long v1), .second] [])) _
      refine XS.iconst X1.here hx rfl (hb hby d6_18) ?_
      exact k
    subst hr
    exact own_retN X1 hx hlk (t := .boolean) hret (by simp) (hb hby d6_19) (by decide) (by decide) ⟨rfl, N0, (by rw [e1]; exact K), (by rw [e1]; exact E_o0), (by rw [e1]; exact F_o0_overdue), (by rw [e1]; exact F_o0_gap), (by rw [e1]; exact F_o0_nextProbe)⟩
  · rw [if_neg hc6] at hr
    refine Fin.by (B := T1.setTop (mkF m 9 #[.val (.ref o0), .val (.long v1), .second] [])) (fun t k => ?_) ?_
    · show Steps p.tables e below (T1.setTop (mkF m 6 #[.val (.ref o0), .val (.long v1), .second] [(.int (lcmpW o0_gap (0 : Int64)))])) _
      exact XS.ifNo X1.here hx rfl (hb hby d6_6) rfl ((if0 _ _).trans (feq (fun q => hc6 ((lw_eq _ _).mp q))).1) k
    refine Fin.by (B := T1.setTop (mkF m 11 #[.val (.ref o0), .val (.long v1), .second] [(.ref o0), (.long v1)])) (fun t k => ?_) ?_
    · show Steps p.tables e below (T1.setTop (mkF m 9 #[.val (.ref o0), .val (.long v1), .second] [])) _
      refine XS.lloadN X1.here hx rfl (hb hby d6_9) rfl  ?_
      show Steps p.tables e below (T1.setTop (mkF m 10 #[.val (.ref o0), .val (.long v1), .second] [(.long v1)])) _
      refine XS.aloadN X1.here hx rfl (hb hby d6_10) rfl rfl ?_
      exact k
    obtain ⟨T2, X2, e2, st2⟩ := getF X1 hx hZ hown (host := "") (Or.inl (hw _ (List.mem_of_getElem? (i := 33) rfl))) Via.refl e1 F_o0_nextProbe (g := (mkF m 11 #[.val (.ref o0), .val (.long v1), .second] [(.ref o0), (.long v1)])) rfl rfl (hb hby d6_11)
    refine Fin.by (B := T2.setTop (mkF m 14 #[.val (.ref o0), .val (.long v1), .second] [(.long o0_nextProbe), (.long v1)])) (fun t k => st2 t k) ?_
    refine Fin.by (B := T2.setTop (mkF m 15 #[.val (.ref o0), .val (.long v1), .second] [(.int (lcmpW v1 o0_nextProbe))])) (fun t k => ?_) ?_
    · show Steps p.tables e below (T2.setTop (mkF m 14 #[.val (.ref o0), .val (.long v1), .second] [(.long o0_nextProbe), (.long v1)])) _
      refine XS.lcmp X2.here hx rfl (hb hby d6_14) rfl ?_
      exact k
    by_cases hc15 : v1 < o0_nextProbe
    · rw [if_pos hc15] at hr
      refine Fin.by (B := T2.setTop (mkF m 18 #[.val (.ref o0), .val (.long v1), .second] [])) (fun t k => ?_) ?_
      · show Steps p.tables e below (T2.setTop (mkF m 15 #[.val (.ref o0), .val (.long v1), .second] [(.int (lcmpW v1 o0_nextProbe))])) _
        exact XS.ifNo X2.here hx rfl (hb hby d6_15) rfl ((if0 _ _).trans (tlt ((lw_lt _ _).mpr hc15)).2.1) k
      refine Fin.by (B := T2.setTop (mkF m 19 #[.val (.ref o0), .val (.long v1), .second] [(.int (0 : Int32))])) (fun t k => ?_) ?_
      · show Steps p.tables e below (T2.setTop (mkF m 18 #[.val (.ref o0), .val (.long v1), .second] [])) _
        refine XS.iconst X2.here hx rfl (hb hby d6_18) ?_
        exact k
      subst hr
      exact own_retN X2 hx hlk (t := .boolean) hret (by simp) (hb hby d6_19) (by decide) (by decide) ⟨rfl, N0, (by rw [e2]; exact K), (by rw [e2]; exact E_o0), (by rw [e2]; exact F_o0_overdue), (by rw [e2]; exact F_o0_gap), (by rw [e2]; exact F_o0_nextProbe)⟩
    · rw [if_neg hc15] at hr
      refine Fin.by (B := T2.setTop (mkF m 20 #[.val (.ref o0), .val (.long v1), .second] [])) (fun t k => ?_) ?_
      · show Steps p.tables e below (T2.setTop (mkF m 15 #[.val (.ref o0), .val (.long v1), .second] [(.int (lcmpW v1 o0_nextProbe))])) _
        exact XS.ifYes X2.here hx rfl (pc0 := 15) (pc' := 20) rfl (hb hby d6_15) rfl ((if0 _ _).trans (flt (fun q => hc15 ((lw_lt _ _).mp q))).2.1) (by decide) (by decide) k
      refine Fin.by (B := T2.setTop (mkF m 25 #[.val (.ref o0), .val (.long v1), .second] [(.ref o0), (.long (2 : Int64)), (.ref o0)])) (fun t k => ?_) ?_
      · show Steps p.tables e below (T2.setTop (mkF m 20 #[.val (.ref o0), .val (.long v1), .second] [])) _
        refine XS.aloadN X2.here hx rfl (hb hby d6_20) rfl rfl ?_
        show Steps p.tables e below (T2.setTop (mkF m 21 #[.val (.ref o0), .val (.long v1), .second] [(.ref o0)])) _
        refine X2.ldc2Long hx hown (mvT hZ (hw _ (List.mem_of_getElem? (i := 35) rfl))) (g := (mkF m 21 #[.val (.ref o0), .val (.long v1), .second] [(.ref o0)])) rfl (hb hby d6_21) _ ?_
        show Steps p.tables e below (T2.setTop (mkF m 24 #[.val (.ref o0), .val (.long v1), .second] [(.long (2 : Int64)), (.ref o0)])) _
        refine XS.aloadN X2.here hx rfl (hb hby d6_24) rfl rfl ?_
        exact k
      obtain ⟨T3, X3, e3, st3⟩ := getF X2 hx hZ hown (host := "") (Or.inl (hw _ (List.mem_of_getElem? (i := 16) rfl))) Via.refl e2 F_o0_gap (g := (mkF m 25 #[.val (.ref o0), .val (.long v1), .second] [(.ref o0), (.long (2 : Int64)), (.ref o0)])) rfl rfl (hb hby d6_25)
      refine Fin.by (B := T3.setTop (mkF m 28 #[.val (.ref o0), .val (.long v1), .second] [(.long o0_gap), (.long (2 : Int64)), (.ref o0)])) (fun t k => st3 t k) ?_
      refine Fin.by (B := T3.setTop (mkF m 32 #[.val (.ref o0), .val (.long v1), .second] [(.long (64 : Int64)), (.long ((2 : Int64) * o0_gap)), (.ref o0)])) (fun t k => ?_) ?_
      · show Steps p.tables e below (T3.setTop (mkF m 28 #[.val (.ref o0), .val (.long v1), .second] [(.long o0_gap), (.long (2 : Int64)), (.ref o0)])) _
        refine XS.lmul X3.here hx rfl (hb hby d6_28) rfl ?_
        show Steps p.tables e below (T3.setTop (mkF m 29 #[.val (.ref o0), .val (.long v1), .second] [(.long ((2 : Int64) * o0_gap)), (.ref o0)])) _
        refine X3.ldc2Long hx hown (mvT hZ (hw _ (List.mem_of_getElem? (i := 36) rfl))) (g := (mkF m 29 #[.val (.ref o0), .val (.long v1), .second] [(.long ((2 : Int64) * o0_gap)), (.ref o0)])) rfl (hb hby d6_29) _ ?_
        exact k
      -- pc 32: java/lang/Math.min
      obtain ⟨_, _, ⟨T4, L4, k4, n4⟩, -, X4, ⟨Lc4, hQ4, l4, y4, z4⟩, st4⟩ := Jvm.LawKit.callS X3 hx (y := (⟨"java/lang/Math", "min", "(JJ)J"⟩ : MethodName)) hown (mvT hZ (hw _ (List.mem_of_getElem? (i := 37) rfl))) (mvT hZ (hw _ (List.mem_of_getElem? (i := 38) rfl))) (mvT hZ (hw _ (List.mem_of_getElem? (i := 39) rfl))) (mvT hZ (hw _ (List.mem_of_getElem? (i := 40) rfl))) (by decide) (backOf (W := 1) (rm7 l Z a0 hw [] ((2 : Int64) * o0_gap) (64 : Int64) h n0 Z0 ) hZ (hw _ (List.mem_of_getElem? (i := 40) rfl)) (hw _ (List.mem_of_getElem? (i := 39) rfl)) (by decide) (by decide)) (g := (mkF m 32 #[.val (.ref o0), .val (.long v1), .second] [(.long (64 : Int64)), (.long ((2 : Int64) * o0_gap)), (.ref o0)])) rfl (by rw [hml]; rfl) (argsL := [(.long ((2 : Int64) * o0_gap)), (.long (64 : Int64))]) (rest := [(.ref o0)]) (lenOf pd_3 rfl) rfl (by show 2 * 0 + _ ≤ _; exact Nat.le_of_eq rfl) (hb hby d6_32) (fun _ _ => ⟨rfl, e3, (by decide : 0 + R7.cells ≤ _), (by decide : 0 + R7.slots ≤ _)⟩)
      dsimp only [Pt.U, Pt.locs, Pt.cells, Pt.slots] at X4 l4 y4 z4 st4 hQ4
      subst l4 y4 z4
      obtain ⟨rfl, Nq4, e4⟩ := hQ4
      have N4 := Fr.app N0 Nq4
      refine Fin.by (B := T4.setTop (mkF m 35 #[.val (.ref o0), .val (.long v1), .second] [(.long (f7_0 ((2 : Int64) * o0_gap) (64 : Int64))), (.ref o0)])) (fun t k => st4 t k) ?_
      obtain ⟨T5, h5, X5, e5, W5, st5⟩ := putF X4 hx hZ hown (host := "") (Or.inl (hw _ (List.mem_of_getElem? (i := 16) rfl))) Via.refl e4 F_o0_gap E_o0 (Or.inl (hw _ (List.mem_of_getElem? (i := 17) rfl))) (hw _ (List.mem_of_getElem? (i := 1) rfl)) (ty := .long) (by decide) rfl rfl (g := (mkF m 35 #[.val (.ref o0), .val (.long v1), .second] [(.long (f7_0 ((2 : Int64) * o0_gap) (64 : Int64))), (.ref o0)])) rfl rfl (hb hby d6_35)
      have E_o0_5 := E_o0.wr W5
      have F_o0_overdue_5 := F_o0_overdue.other W5 (Or.inr (slot_ne (Or.inl (hw _ (List.mem_of_getElem? (i := 15) rfl))) (Or.inl (hw _ (List.mem_of_getElem? (i := 17) rfl))) (by decide) (t := .boolean) (t' := .long) (by decide) (by decide)))
      have F_o0_gap_5 := F_o0_gap.same W5
      have F_o0_nextProbe_5 := F_o0_nextProbe.other W5 (Or.inr (slot_ne (Or.inl (hw _ (List.mem_of_getElem? (i := 34) rfl))) (Or.inl (hw _ (List.mem_of_getElem? (i := 17) rfl))) (by decide) (t := .long) (t' := .long) (by decide) (by decide)))
      have N5 := Fr.snoc X5 N4 g_o0
      have Z5 : n0 ≤ h5.size := Nat.le_trans Z0 (Nat.le_of_eq W5.size.symm)
      have K5 := K.wr W5 (Or.inl (by simp))
      refine Fin.by (B := T5.setTop (mkF m 38 #[.val (.ref o0), .val (.long v1), .second] [])) (fun t k => st5 t k) ?_
      refine Fin.by (B := T5.setTop (mkF m 41 #[.val (.ref o0), .val (.long v1), .second] [(.ref o0), (.long v1), (.ref o0)])) (fun t k => ?_) ?_
      · show Steps p.tables e below (T5.setTop (mkF m 38 #[.val (.ref o0), .val (.long v1), .second] [])) _
        refine XS.aloadN X5.here hx rfl (hb hby d6_38) rfl rfl ?_
        show Steps p.tables e below (T5.setTop (mkF m 39 #[.val (.ref o0), .val (.long v1), .second] [(.ref o0)])) _
        refine XS.lloadN X5.here hx rfl (hb hby d6_39) rfl  ?_
        show Steps p.tables e below (T5.setTop (mkF m 40 #[.val (.ref o0), .val (.long v1), .second] [(.long v1), (.ref o0)])) _
        refine XS.aloadN X5.here hx rfl (hb hby d6_40) rfl rfl ?_
        exact k
      obtain ⟨T6, X6, e6, st6⟩ := getF X5 hx hZ hown (host := "") (Or.inl (hw _ (List.mem_of_getElem? (i := 16) rfl))) Via.refl e5 F_o0_gap_5 (g := (mkF m 41 #[.val (.ref o0), .val (.long v1), .second] [(.ref o0), (.long v1), (.ref o0)])) rfl rfl (hb hby d6_41)
      refine Fin.by (B := T6.setTop (mkF m 44 #[.val (.ref o0), .val (.long v1), .second] [(.long (f7_0 ((2 : Int64) * o0_gap) (64 : Int64))), (.long v1), (.ref o0)])) (fun t k => st6 t k) ?_
      refine Fin.by (B := T6.setTop (mkF m 45 #[.val (.ref o0), .val (.long v1), .second] [(.long (v1 + (f7_0 ((2 : Int64) * o0_gap) (64 : Int64)))), (.ref o0)])) (fun t k => ?_) ?_
      · show Steps p.tables e below (T6.setTop (mkF m 44 #[.val (.ref o0), .val (.long v1), .second] [(.long (f7_0 ((2 : Int64) * o0_gap) (64 : Int64))), (.long v1), (.ref o0)])) _
        refine XS.ladd X6.here hx rfl (hb hby d6_44) rfl ?_
        exact k
      obtain ⟨T7, h7, X7, e7, W7, st7⟩ := putF X6 hx hZ hown (host := "") (Or.inl (hw _ (List.mem_of_getElem? (i := 33) rfl))) Via.refl e6 F_o0_nextProbe_5 E_o0_5 (Or.inl (hw _ (List.mem_of_getElem? (i := 34) rfl))) (hw _ (List.mem_of_getElem? (i := 1) rfl)) (ty := .long) (by decide) rfl rfl (g := (mkF m 45 #[.val (.ref o0), .val (.long v1), .second] [(.long (v1 + (f7_0 ((2 : Int64) * o0_gap) (64 : Int64)))), (.ref o0)])) rfl rfl (hb hby d6_45)
      have E_o0_7 := E_o0_5.wr W7
      have F_o0_overdue_7 := F_o0_overdue_5.other W7 (Or.inr (slot_ne (Or.inl (hw _ (List.mem_of_getElem? (i := 15) rfl))) (Or.inl (hw _ (List.mem_of_getElem? (i := 34) rfl))) (by decide) (t := .boolean) (t' := .long) (by decide) (by decide)))
      have F_o0_gap_7 := F_o0_gap_5.other W7 (Or.inr (slot_ne (Or.inl (hw _ (List.mem_of_getElem? (i := 17) rfl))) (Or.inl (hw _ (List.mem_of_getElem? (i := 34) rfl))) (by decide) (t := .long) (t' := .long) (by decide) (by decide)))
      have F_o0_nextProbe_7 := F_o0_nextProbe_5.same W7
      have N7 := Fr.snoc X7 N5 g_o0
      have Z7 : n0 ≤ h7.size := Nat.le_trans Z5 (Nat.le_of_eq W7.size.symm)
      have K7 := K5.wr W7 (Or.inl (by simp))
      refine Fin.by (B := T7.setTop (mkF m 48 #[.val (.ref o0), .val (.long v1), .second] [])) (fun t k => st7 t k) ?_
      refine Fin.by (B := T7.setTop (mkF m 49 #[.val (.ref o0), .val (.long v1), .second] [(.int (1 : Int32))])) (fun t k => ?_) ?_
      · show Steps p.tables e below (T7.setTop (mkF m 48 #[.val (.ref o0), .val (.long v1), .second] [])) _
        refine XS.iconst X7.here hx rfl (hb hby d6_48) ?_
        exact k
      subst hr
      exact own_retN X7 hx hlk (t := .boolean) hret (by simp) (hb hby d6_49) (by decide) (by decide) ⟨rfl, N7, (by rw [e7]; exact K7), (by rw [e7]; exact E_o0_7), (by rw [e7]; exact F_o0_overdue_7), (by rw [e7]; exact F_o0_gap_7), (by rw [e7]; exact F_o0_nextProbe_7)⟩
theorem ef_6 (m : MethodId) (o0 : Addr) (v1 : Int64) : entryFrame m #[(.ref o0), (.long v1)] 3 = (mkF m 0 #[.val (.ref o0), .val (.long v1), .second] []) := by first | (simp [entryFrame, mkF, argsToLocals, Value.category]; done) | rfl
set_option maxRecDepth 65536 in
set_option maxHeartbeats 40000000 in
theorem rm6 (l : Launch) (Z : State) (a0 : Array Value) (hw : ∀ d ∈ tables_1, d.before a0 Z = true) (ws : List Jvm.Cond) (o0 : Addr) (v1 : Int64) (o0_overdue : Int32) (o0_gap : Int64) (o0_nextProbe : Int64) (h0 : Heap) (n0 : Nat) (Z0 : n0 ≤ h0.size) (E_o0 : Exa Z h0 o0 "com/example/quietwire/quietwire/protocol/Overdue") (F_o0_overdue : Fld Z h0 o0 "com/example/quietwire/quietwire/protocol/Overdue" "overdue" "Z" (.int o0_overdue)) (F_o0_gap : Fld Z h0 o0 "com/example/quietwire/quietwire/protocol/Overdue" "gap" "J" (.long o0_gap)) (F_o0_nextProbe : Fld Z h0 o0 "com/example/quietwire/quietwire/protocol/Overdue" "nextProbe" "J" (.long o0_nextProbe)) (g_o0 : n0 ≤ o0) :
    MetFree l (⟨"com/example/quietwire/quietwire/protocol/Overdue", "probeDue", "(J)Z"⟩ : MethodName) (head1 (Jvm.Cond.code (⟨"com/example/quietwire/quietwire/protocol/Overdue", "probeDue", "(J)Z"⟩ : MethodName) prog_58_method_6_code 3 (some .boolean) :: ws) R6) (fun a U => a = #[(.ref o0), (.long v1)] ∧ Z.Warmed39 U.vm ∧ U.heap = h0) (fun _ _ _ _ _ => True) (fun _ U o U' => ∃ v L, o = .returned v ∧ (Q6 Z o0 h0 n0 (f6_0 v1 o0_overdue o0_gap o0_nextProbe)) v U'.heap L ∧ FrameEnd U o U' L R6.cells R6.slots) := by
  refine MetFree.of_bodySF (plainFor_of_name pn_6) hisR ?_
  intro p e s m args below meth c s₁ Bd hml0 hP hK
  obtain ⟨rfl, hZ, hh⟩ := hP
  have B : Ctx p Z s a0 m meth c "com/example/quietwire/quietwire/protocol/Overdue" "probeDue" prog_58_method_6_code 3 (some .boolean) := ⟨Bd.exec, hZ, hw, Bd.bytes, hml0, Bd.returns, findClass_of_methodNamed Bd.named, (name_of_methodNamed Bd.named Bd.method).1, Bd.notSynchronized⟩
  have X0 : Stand p l e R6 s m #[(.ref o0), (.long v1)] below meth c s₁ [] 0 0 := Stand.of_body Bd
  have e0 : s₁.heap = h0 := by rw [← hh, Bd.state]; rfl
  have K := Keep.refl h0 [o0]
  show Fin p e below s R6.cells R6.slots (Q6 Z o0 h0 n0 (f6_0 v1 o0_overdue o0_gap o0_nextProbe)) (s₁.setTop (entryFrame m #[(.ref o0), (.long v1)] 3))
  refine Fin.by (fun t k => castTop (ef_6 m o0 v1) k) ?_
  exact b6_0 B h0 n0 o0 v1 o0_overdue o0_gap o0_nextProbe X0 e0 (Fr.nil n0) Z0 K E_o0 F_o0_overdue F_o0_gap F_o0_nextProbe g_o0 _ rfl
theorem pd_4 : parseMethodDescriptor "(J)Z" = some ⟨[.long], some .boolean⟩ := by decide +kernel
theorem pn_0 : plainName "com/example/quietwire/quietwire/protocol/OverdueJudgePinLaw" = true := by first | (simp [plainName, overriddenIn]; done) | decide +kernel
def Q0 (n0 : Nat) (r : Int32) (v : Option Value) (h : Heap) (L : List Loc) : Prop := v = some (.int r) ∧ Fr n0 L
def f0_432 (v0 : Int64) (v2 : Int64) (v4 : Int32) (v5 : Int32) (v6 : Int32) (v7 : Int32) (v8 : Int32) (v9 : Int32) (v10 : Int32) (v11 : Int32) (v12 : Int32) (v13 : Int64) (v16 : Int32) (v17 : Int64) (v19 : Int64) (v21 : Int32) (v22 : Int32) (v23 : Int64) (v25 : Int32) (v26 : Int32) (v27 : Int64) (v29 : Int32) (t0 : Int32) (b131_overdue : Int32) (b131_gap : Int64) (b131_nextProbe : Int64) : Int32 := (if t0 = v29 then (1 : Int32) else (0 : Int32))
set_option maxRecDepth 65536 in
set_option maxHeartbeats 40000000 in
theorem b0_432 {p : Program} {l : Launch} {e : Env} {s : State} {m : MethodId} {args : Array Value} {below : List Frame} {meth : Method} {c : Code} {Z : State} {a0 : Array Value} (B : Ctx p Z s a0 m meth c "com/example/quietwire/quietwire/protocol/OverdueJudgePinLaw" "law" code 31 (some .boolean)) {T0 : State} {locs : List Loc} {h : Heap} (h0 : Heap) (n0 : Nat) (v0 : Int64) (v2 : Int64) (v4 : Int32) (v5 : Int32) (v6 : Int32) (v7 : Int32) (v8 : Int32) (v9 : Int32) (v10 : Int32) (v11 : Int32) (v12 : Int32) (v13 : Int64) (b131 : Addr) (v16 : Int32) (v17 : Int64) (v19 : Int64) (v21 : Int32) (v22 : Int32) (v23 : Int64) (v25 : Int32) (v26 : Int32) (v27 : Int64) (v29 : Int32) (t0 : Int32) (b131_overdue : Int32) (b131_gap : Int64) (b131_nextProbe : Int64) (X0 : Stand p l e room_1 s m args below meth c T0 locs 1 3) (e0 : T0.heap = h) (N0 : Fr n0 locs) (Z0 : n0 ≤ h.size) (E_b131 : Exa Z h b131 "com/example/quietwire/quietwire/protocol/Overdue") (F_b131_overdue : Fld Z h b131 "com/example/quietwire/quietwire/protocol/Overdue" "overdue" "Z" (.int b131_overdue)) (F_b131_gap : Fld Z h b131 "com/example/quietwire/quietwire/protocol/Overdue" "gap" "J" (.long b131_gap)) (F_b131_nextProbe : Fld Z h b131 "com/example/quietwire/quietwire/protocol/Overdue" "nextProbe" "J" (.long b131_nextProbe)) (g_b131 : n0 ≤ b131) (r : Int32) (hr : f0_432 v0 v2 v4 v5 v6 v7 v8 v9 v10 v11 v12 v13 v16 v17 v19 v21 v22 v23 v25 v26 v27 v29 t0 b131_overdue b131_gap b131_nextProbe = r) :
    Fin p e below s 1 3 (Q0 n0 r) (T0.setTop (mkF m 432 #[.val (.long v0), .second, .val (.long v2), .second, .val (.int v4), .val (.int v5), .val (.int v6), .val (.int v7), .val (.int v8), .val (.int v9), .val (.int v10), .val (.int v11), .val (.int v12), .val (.long v13), .second, .val (.ref b131), .val (.int v16), .val (.long v17), .second, .val (.long v19), .second, .val (.int v21), .val (.int v22), .val (.long v23), .second, .val (.int v25), .val (.int v26), .val (.long v27), .second, .val (.int v29), .unset] [(.int t0)])) := by
  obtain ⟨hx, hZ, hw, hby, hml, hret, hown, hnm, hlk⟩ := B
  unfold f0_432 at hr
  refine Fin.by (B := T0.setTop (mkF m 438 #[.val (.long v0), .second, .val (.long v2), .second, .val (.int v4), .val (.int v5), .val (.int v6), .val (.int v7), .val (.int v8), .val (.int v9), .val (.int v10), .val (.int v11), .val (.int v12), .val (.long v13), .second, .val (.ref b131), .val (.int v16), .val (.long v17), .second, .val (.long v19), .second, .val (.int v21), .val (.int v22), .val (.long v23), .second, .val (.int v25), .val (.int v26), .val (.long v27), .second, .val (.int v29), .val (.int t0)] [(.int v29), (.int t0)])) (fun t k => ?_) ?_
  · show Steps p.tables e below (T0.setTop (mkF m 432 #[.val (.long v0), .second, .val (.long v2), .second, .val (.int v4), .val (.int v5), .val (.int v6), .val (.int v7), .val (.int v8), .val (.int v9), .val (.int v10), .val (.int v11), .val (.int v12), .val (.long v13), .second, .val (.ref b131), .val (.int v16), .val (.long v17), .second, .val (.long v19), .second, .val (.int v21), .val (.int v22), .val (.long v23), .second, .val (.int v25), .val (.int v26), .val (.long v27), .second, .val (.int v29), .unset] [(.int t0)])) _
    refine XS.istore X0.here hx rfl (hb hby at_432) rfl (l' := #[.val (.long v0), .second, .val (.long v2), .second, .val (.int v4), .val (.int v5), .val (.int v6), .val (.int v7), .val (.int v8), .val (.int v9), .val (.int v10), .val (.int v11), .val (.int v12), .val (.long v13), .second, .val (.ref b131), .val (.int v16), .val (.long v17), .second, .val (.long v19), .second, .val (.int v21), .val (.int v22), .val (.long v23), .second, .val (.int v25), .val (.int v26), .val (.long v27), .second, .val (.int v29), .val (.int t0)]) rfl ?_
    show Steps p.tables e below (T0.setTop (mkF m 434 #[.val (.long v0), .second, .val (.long v2), .second, .val (.int v4), .val (.int v5), .val (.int v6), .val (.int v7), .val (.int v8), .val (.int v9), .val (.int v10), .val (.int v11), .val (.int v12), .val (.long v13), .second, .val (.ref b131), .val (.int v16), .val (.long v17), .second, .val (.long v19), .second, .val (.int v21), .val (.int v22), .val (.long v23), .second, .val (.int v25), .val (.int v26), .val (.long v27), .second, .val (.int v29), .val (.int t0)] [])) _
    refine XS.iload X0.here hx rfl (hb hby at_434) rfl  ?_
    show Steps p.tables e below (T0.setTop (mkF m 436 #[.val (.long v0), .second, .val (.long v2), .second, .val (.int v4), .val (.int v5), .val (.int v6), .val (.int v7), .val (.int v8), .val (.int v9), .val (.int v10), .val (.int v11), .val (.int v12), .val (.long v13), .second, .val (.ref b131), .val (.int v16), .val (.long v17), .second, .val (.long v19), .second, .val (.int v21), .val (.int v22), .val (.long v23), .second, .val (.int v25), .val (.int v26), .val (.long v27), .second, .val (.int v29), .val (.int t0)] [(.int t0)])) _
    refine XS.iload X0.here hx rfl (hb hby at_436) rfl  ?_
    exact k
  by_cases hc438 : t0 = v29
  · rw [if_pos hc438] at hr
    refine Fin.by (B := T0.setTop (mkF m 441 #[.val (.long v0), .second, .val (.long v2), .second, .val (.int v4), .val (.int v5), .val (.int v6), .val (.int v7), .val (.int v8), .val (.int v9), .val (.int v10), .val (.int v11), .val (.int v12), .val (.long v13), .second, .val (.ref b131), .val (.int v16), .val (.long v17), .second, .val (.long v19), .second, .val (.int v21), .val (.int v22), .val (.long v23), .second, .val (.int v25), .val (.int v26), .val (.long v27), .second, .val (.int v29), .val (.int t0)] [])) (fun t k => ?_) ?_
    · show Steps p.tables e below (T0.setTop (mkF m 438 #[.val (.long v0), .second, .val (.long v2), .second, .val (.int v4), .val (.int v5), .val (.int v6), .val (.int v7), .val (.int v8), .val (.int v9), .val (.int v10), .val (.int v11), .val (.int v12), .val (.long v13), .second, .val (.ref b131), .val (.int v16), .val (.long v17), .second, .val (.long v19), .second, .val (.int v21), .val (.int v22), .val (.long v23), .second, .val (.int v25), .val (.int v26), .val (.long v27), .second, .val (.int v29), .val (.int t0)] [(.int v29), (.int t0)])) _
      exact XS.icmpNo X0.here hx rfl (hb hby at_438) rfl (teq hc438).2 k
    refine Fin.by (B := T0.setTop (mkF m 446 #[.val (.long v0), .second, .val (.long v2), .second, .val (.int v4), .val (.int v5), .val (.int v6), .val (.int v7), .val (.int v8), .val (.int v9), .val (.int v10), .val (.int v11), .val (.int v12), .val (.long v13), .second, .val (.ref b131), .val (.int v16), .val (.long v17), .second, .val (.long v19), .second, .val (.int v21), .val (.int v22), .val (.long v23), .second, .val (.int v25), .val (.int v26), .val (.long v27), .second, .val (.int v29), .val (.int t0)] [(.int (1 : Int32))])) (fun t k => ?_) ?_
    · show Steps p.tables e below (T0.setTop (mkF m 441 #[.val (.long v0), .second, .val (.long v2), .second, .val (.int v4), .val (.int v5), .val (.int v6), .val (.int v7), .val (.int v8), .val (.int v9), .val (.int v10), .val (.int v11), .val (.int v12), .val (.long v13), .second, .val (.ref b131), .val (.int v16), .val (.long v17), .second, .val (.long v19), .second, .val (.int v21), .val (.int v22), .val (.long v23), .second, .val (.int v25), .val (.int v26), .val (.long v27), .second, .val (.int v29), .val (.int t0)] [])) _
      refine XS.iconst X0.here hx rfl (hb hby at_441) ?_
      show Steps p.tables e below (T0.setTop (mkF m 442 #[.val (.long v0), .second, .val (.long v2), .second, .val (.int v4), .val (.int v5), .val (.int v6), .val (.int v7), .val (.int v8), .val (.int v9), .val (.int v10), .val (.int v11), .val (.int v12), .val (.long v13), .second, .val (.ref b131), .val (.int v16), .val (.long v17), .second, .val (.long v19), .second, .val (.int v21), .val (.int v22), .val (.long v23), .second, .val (.int v25), .val (.int v26), .val (.long v27), .second, .val (.int v29), .val (.int t0)] [(.int (1 : Int32))])) _
      refine XS.goto X0.here hx rfl (pc0 := 442) (pc' := 446) rfl (hb hby at_442) (by decide) (by decide) ?_
      exact k
    subst hr
    exact own_retN X0 hx hlk (t := .boolean) hret (by simp) (hb hby at_446) (by decide) (by decide) ⟨rfl, N0⟩
  · rw [if_neg hc438] at hr
    refine Fin.by (B := T0.setTop (mkF m 445 #[.val (.long v0), .second, .val (.long v2), .second, .val (.int v4), .val (.int v5), .val (.int v6), .val (.int v7), .val (.int v8), .val (.int v9), .val (.int v10), .val (.int v11), .val (.int v12), .val (.long v13), .second, .val (.ref b131), .val (.int v16), .val (.long v17), .second, .val (.long v19), .second, .val (.int v21), .val (.int v22), .val (.long v23), .second, .val (.int v25), .val (.int v26), .val (.long v27), .second, .val (.int v29), .val (.int t0)] [])) (fun t k => ?_) ?_
    · show Steps p.tables e below (T0.setTop (mkF m 438 #[.val (.long v0), .second, .val (.long v2), .second, .val (.int v4), .val (.int v5), .val (.int v6), .val (.int v7), .val (.int v8), .val (.int v9), .val (.int v10), .val (.int v11), .val (.int v12), .val (.long v13), .second, .val (.ref b131), .val (.int v16), .val (.long v17), .second, .val (.long v19), .second, .val (.int v21), .val (.int v22), .val (.long v23), .second, .val (.int v25), .val (.int v26), .val (.long v27), .second, .val (.int v29), .val (.int t0)] [(.int v29), (.int t0)])) _
      exact XS.icmpYes X0.here hx rfl (pc0 := 438) (pc' := 445) rfl (hb hby at_438) rfl (feq hc438).2 (by decide) (by decide) k
    refine Fin.by (B := T0.setTop (mkF m 446 #[.val (.long v0), .second, .val (.long v2), .second, .val (.int v4), .val (.int v5), .val (.int v6), .val (.int v7), .val (.int v8), .val (.int v9), .val (.int v10), .val (.int v11), .val (.int v12), .val (.long v13), .second, .val (.ref b131), .val (.int v16), .val (.long v17), .second, .val (.long v19), .second, .val (.int v21), .val (.int v22), .val (.long v23), .second, .val (.int v25), .val (.int v26), .val (.long v27), .second, .val (.int v29), .val (.int t0)] [(.int (0 : Int32))])) (fun t k => ?_) ?_
    · show Steps p.tables e below (T0.setTop (mkF m 445 #[.val (.long v0), .second, .val (.long v2), .second, .val (.int v4), .val (.int v5), .val (.int v6), .val (.int v7), .val (.int v8), .val (.int v9), .val (.int v10), .val (.int v11), .val (.int v12), .val (.long v13), .second, .val (.ref b131), .val (.int v16), .val (.long v17), .second, .val (.long v19), .second, .val (.int v21), .val (.int v22), .val (.long v23), .second, .val (.int v25), .val (.int v26), .val (.long v27), .second, .val (.int v29), .val (.int t0)] [])) _
      refine XS.iconst X0.here hx rfl (hb hby at_445) ?_
      exact k
    subst hr
    exact own_retN X0 hx hlk (t := .boolean) hret (by simp) (hb hby at_446) (by decide) (by decide) ⟨rfl, N0⟩
def f0_423 (v0 : Int64) (v2 : Int64) (v4 : Int32) (v5 : Int32) (v6 : Int32) (v7 : Int32) (v8 : Int32) (v9 : Int32) (v10 : Int32) (v11 : Int32) (v12 : Int32) (v13 : Int64) (v16 : Int32) (v17 : Int64) (v19 : Int64) (v21 : Int32) (v22 : Int32) (v23 : Int64) (v25 : Int32) (v26 : Int32) (v27 : Int64) (t0 : Int32) (b131_overdue : Int32) (b131_gap : Int64) (b131_nextProbe : Int64) : Int32 := (f0_432 v0 v2 v4 v5 v6 v7 v8 v9 v10 v11 v12 v13 v16 v17 v19 v21 v22 v23 v25 v26 v27 t0 ((f6_0 v27 b131_overdue b131_gap b131_nextProbe).1) ((f6_0 v27 b131_overdue b131_gap b131_nextProbe).2.1) ((f6_0 v27 b131_overdue b131_gap b131_nextProbe).2.2.1) ((f6_0 v27 b131_overdue b131_gap b131_nextProbe).2.2.2))
set_option maxRecDepth 65536 in
set_option maxHeartbeats 40000000 in
theorem b0_423 {p : Program} {l : Launch} {e : Env} {s : State} {m : MethodId} {args : Array Value} {below : List Frame} {meth : Method} {c : Code} {Z : State} {a0 : Array Value} (B : Ctx p Z s a0 m meth c "com/example/quietwire/quietwire/protocol/OverdueJudgePinLaw" "law" code 31 (some .boolean)) {T0 : State} {locs : List Loc} {h : Heap} (h0 : Heap) (n0 : Nat) (v0 : Int64) (v2 : Int64) (v4 : Int32) (v5 : Int32) (v6 : Int32) (v7 : Int32) (v8 : Int32) (v9 : Int32) (v10 : Int32) (v11 : Int32) (v12 : Int32) (v13 : Int64) (b131 : Addr) (v16 : Int32) (v17 : Int64) (v19 : Int64) (v21 : Int32) (v22 : Int32) (v23 : Int64) (v25 : Int32) (v26 : Int32) (v27 : Int64) (t0 : Int32) (b131_overdue : Int32) (b131_gap : Int64) (b131_nextProbe : Int64) (X0 : Stand p l e room_1 s m args below meth c T0 locs 1 3) (e0 : T0.heap = h) (N0 : Fr n0 locs) (Z0 : n0 ≤ h.size) (E_b131 : Exa Z h b131 "com/example/quietwire/quietwire/protocol/Overdue") (F_b131_overdue : Fld Z h b131 "com/example/quietwire/quietwire/protocol/Overdue" "overdue" "Z" (.int b131_overdue)) (F_b131_gap : Fld Z h b131 "com/example/quietwire/quietwire/protocol/Overdue" "gap" "J" (.long b131_gap)) (F_b131_nextProbe : Fld Z h b131 "com/example/quietwire/quietwire/protocol/Overdue" "nextProbe" "J" (.long b131_nextProbe)) (g_b131 : n0 ≤ b131) (r : Int32) (hr : f0_423 v0 v2 v4 v5 v6 v7 v8 v9 v10 v11 v12 v13 v16 v17 v19 v21 v22 v23 v25 v26 v27 t0 b131_overdue b131_gap b131_nextProbe = r) :
    Fin p e below s 1 3 (Q0 n0 r) (T0.setTop (mkF m 423 #[.val (.long v0), .second, .val (.long v2), .second, .val (.int v4), .val (.int v5), .val (.int v6), .val (.int v7), .val (.int v8), .val (.int v9), .val (.int v10), .val (.int v11), .val (.int v12), .val (.long v13), .second, .val (.ref b131), .val (.int v16), .val (.long v17), .second, .val (.long v19), .second, .val (.int v21), .val (.int v22), .val (.long v23), .second, .val (.int v25), .val (.int v26), .val (.long v27), .second, .unset, .unset] [(.int t0)])) := by
  obtain ⟨hx, hZ, hw, hby, hml, hret, hown, hnm, hlk⟩ := B
  unfold f0_423 at hr
  refine Fin.by (B := T0.setTop (mkF m 429 #[.val (.long v0), .second, .val (.long v2), .second, .val (.int v4), .val (.int v5), .val (.int v6), .val (.int v7), .val (.int v8), .val (.int v9), .val (.int v10), .val (.int v11), .val (.int v12), .val (.long v13), .second, .val (.ref b131), .val (.int v16), .val (.long v17), .second, .val (.long v19), .second, .val (.int v21), .val (.int v22), .val (.long v23), .second, .val (.int v25), .val (.int v26), .val (.long v27), .second, .val (.int t0), .unset] [(.long v27), (.ref b131)])) (fun t k => ?_) ?_
  · show Steps p.tables e below (T0.setTop (mkF m 423 #[.val (.long v0), .second, .val (.long v2), .second, .val (.int v4), .val (.int v5), .val (.int v6), .val (.int v7), .val (.int v8), .val (.int v9), .val (.int v10), .val (.int v11), .val (.int v12), .val (.long v13), .second, .val (.ref b131), .val (.int v16), .val (.long v17), .second, .val (.long v19), .second, .val (.int v21), .val (.int v22), .val (.long v23), .second, .val (.int v25), .val (.int v26), .val (.long v27), .second, .unset, .unset] [(.int t0)])) _
    refine XS.istore X0.here hx rfl (hb hby at_423) rfl (l' := #[.val (.long v0), .second, .val (.long v2), .second, .val (.int v4), .val (.int v5), .val (.int v6), .val (.int v7), .val (.int v8), .val (.int v9), .val (.int v10), .val (.int v11), .val (.int v12), .val (.long v13), .second, .val (.ref b131), .val (.int v16), .val (.long v17), .second, .val (.long v19), .second, .val (.int v21), .val (.int v22), .val (.long v23), .second, .val (.int v25), .val (.int v26), .val (.long v27), .second, .val (.int t0), .unset]) rfl ?_
    show Steps p.tables e below (T0.setTop (mkF m 425 #[.val (.long v0), .second, .val (.long v2), .second, .val (.int v4), .val (.int v5), .val (.int v6), .val (.int v7), .val (.int v8), .val (.int v9), .val (.int v10), .val (.int v11), .val (.int v12), .val (.long v13), .second, .val (.ref b131), .val (.int v16), .val (.long v17), .second, .val (.long v19), .second, .val (.int v21), .val (.int v22), .val (.long v23), .second, .val (.int v25), .val (.int v26), .val (.long v27), .second, .val (.int t0), .unset] [])) _
    refine XS.aload X0.here hx rfl (hb hby at_425) rfl rfl ?_
    show Steps p.tables e below (T0.setTop (mkF m 427 #[.val (.long v0), .second, .val (.long v2), .second, .val (.int v4), .val (.int v5), .val (.int v6), .val (.int v7), .val (.int v8), .val (.int v9), .val (.int v10), .val (.int v11), .val (.int v12), .val (.long v13), .second, .val (.ref b131), .val (.int v16), .val (.long v17), .second, .val (.long v19), .second, .val (.int v21), .val (.int v22), .val (.long v23), .second, .val (.int v25), .val (.int v26), .val (.long v27), .second, .val (.int t0), .unset] [(.ref b131)])) _
    refine XS.lload X0.here hx rfl (hb hby at_427) rfl  ?_
    exact k
  -- pc 429: com/example/quietwire/quietwire/protocol/Overdue.probeDue
  obtain ⟨cq8, kq8, q8a, q8b, q8c⟩ := isOf hZ e0 E_b131
  obtain ⟨_, _, ⟨T8, L8, k8, n8⟩, -, X8, ⟨Lc8, hQ8, l8, y8, z8⟩, st8⟩ := X0.virtualBack hx (y := (⟨"com/example/quietwire/quietwire/protocol/Overdue", "probeDue", "(J)Z"⟩ : MethodName)) (z := (⟨"com/example/quietwire/quietwire/protocol/Overdue", "probeDue", "(J)Z"⟩ : MethodName)) hown (mvT hZ (hw _ (List.mem_of_getElem? (i := 28) rfl))) (mvT hZ (hw _ (List.mem_of_getElem? (i := 29) rfl))) (notFace_of_selects (args := #[]) (mvT hZ (hw _ (List.mem_of_getElem? (i := 31) rfl)))) (mvT hZ (hw _ (List.mem_of_getElem? (i := 31) rfl))) (mvT hZ (hw _ (List.mem_of_getElem? (i := 30) rfl))) (by decide) (backOf (W := 0) (rm6 l Z a0 hw [] b131 v27 b131_overdue b131_gap b131_nextProbe h n0 Z0 E_b131 F_b131_overdue F_b131_gap F_b131_nextProbe g_b131) hZ (hw _ (List.mem_of_getElem? (i := 32) rfl)) (hw _ (List.mem_of_getElem? (i := 2) rfl)) (by decide) (by decide)) q8a q8c (g := (mkF m 429 #[.val (.long v0), .second, .val (.long v2), .second, .val (.int v4), .val (.int v5), .val (.int v6), .val (.int v7), .val (.int v8), .val (.int v9), .val (.int v10), .val (.int v11), .val (.int v12), .val (.long v13), .second, .val (.ref b131), .val (.int v16), .val (.long v17), .second, .val (.long v19), .second, .val (.int v21), .val (.int v22), .val (.long v23), .second, .val (.int v25), .val (.int v26), .val (.long v27), .second, .val (.int t0), .unset] [(.long v27), (.ref b131)])) rfl (by rw [hml]; rfl) (Steps.refl _) (argsL := [(.long v27)]) (rest := []) (lenOf pd_4 rfl) rfl (by show 2 * 0 + _ ≤ _; exact Nat.le_of_eq rfl) (hb hby at_429) (fun _ _ => ⟨rfl, e0, (by decide : 1 + R6.cells ≤ _), (by decide : 3 + R6.slots ≤ _)⟩)
  dsimp only [Pt.U, Pt.locs, Pt.cells, Pt.slots] at X8 l8 y8 z8 st8 hQ8
  subst l8 y8 z8
  obtain ⟨rfl, Nq8, Kq8, E_b131_8, F_b131_overdue_8, F_b131_gap_8, F_b131_nextProbe_8⟩ := hQ8
  obtain ⟨h8, e8⟩ : ∃ z, T8.heap = z := ⟨_, rfl⟩
  rw [e8] at Kq8 E_b131_8 F_b131_overdue_8 F_b131_gap_8 F_b131_nextProbe_8
  have N8 := Fr.app N0 Nq8
  have Z8 : n0 ≤ h8.size := Nat.le_trans Z0 Kq8.1
  refine Fin.by (B := T8.setTop (mkF m 432 #[.val (.long v0), .second, .val (.long v2), .second, .val (.int v4), .val (.int v5), .val (.int v6), .val (.int v7), .val (.int v8), .val (.int v9), .val (.int v10), .val (.int v11), .val (.int v12), .val (.long v13), .second, .val (.ref b131), .val (.int v16), .val (.long v17), .second, .val (.long v19), .second, .val (.int v21), .val (.int v22), .val (.long v23), .second, .val (.int v25), .val (.int v26), .val (.long v27), .second, .val (.int t0), .unset] [(.int (f6_0 v27 b131_overdue b131_gap b131_nextProbe).1)])) (fun t k => st8.trans k) ?_
  exact b0_432 ⟨hx, hZ, hw, hby, hml, hret, hown, hnm, hlk⟩ h0 n0 v0 v2 v4 v5 v6 v7 v8 v9 v10 v11 v12 v13 b131 v16 v17 v19 v21 v22 v23 v25 v26 v27 t0 ((f6_0 v27 b131_overdue b131_gap b131_nextProbe).1) ((f6_0 v27 b131_overdue b131_gap b131_nextProbe).2.1) ((f6_0 v27 b131_overdue b131_gap b131_nextProbe).2.2.1) ((f6_0 v27 b131_overdue b131_gap b131_nextProbe).2.2.2) X8 e8 N8 Z8 E_b131_8 F_b131_overdue_8 F_b131_gap_8 F_b131_nextProbe_8 g_b131 _ hr
def f0_377 (v0 : Int64) (v2 : Int64) (v4 : Int32) (v5 : Int32) (v6 : Int32) (v7 : Int32) (v8 : Int32) (v9 : Int32) (v10 : Int32) (v11 : Int32) (v12 : Int32) (v13 : Int64) (v16 : Int32) (v17 : Int64) (v19 : Int64) (v21 : Int32) (v22 : Int32) (v23 : Int64) (v25 : Int32) (t0 : Int32) (b131_overdue : Int32) (b131_gap : Int64) (b131_nextProbe : Int64) : Int32 := (if t0 = v25 then (if v25 = (0 : Int32) then (1 : Int32) else (if (v23 + (2 : Int64)) < (v23 + ((2 : Int64) * v17)) then (f0_423 v0 v2 v4 v5 v6 v7 v8 v9 v10 v11 v12 v13 v16 v17 v19 v21 v22 v23 v25 t0 (v23 + (2 : Int64)) (0 : Int32) b131_overdue b131_gap b131_nextProbe) else (f0_423 v0 v2 v4 v5 v6 v7 v8 v9 v10 v11 v12 v13 v16 v17 v19 v21 v22 v23 v25 t0 (v23 + (2 : Int64)) (1 : Int32) b131_overdue b131_gap b131_nextProbe))) else (0 : Int32))
set_option maxRecDepth 65536 in
set_option maxHeartbeats 40000000 in
theorem b0_377 {p : Program} {l : Launch} {e : Env} {s : State} {m : MethodId} {args : Array Value} {below : List Frame} {meth : Method} {c : Code} {Z : State} {a0 : Array Value} (B : Ctx p Z s a0 m meth c "com/example/quietwire/quietwire/protocol/OverdueJudgePinLaw" "law" code 31 (some .boolean)) {T0 : State} {locs : List Loc} {h : Heap} (h0 : Heap) (n0 : Nat) (v0 : Int64) (v2 : Int64) (v4 : Int32) (v5 : Int32) (v6 : Int32) (v7 : Int32) (v8 : Int32) (v9 : Int32) (v10 : Int32) (v11 : Int32) (v12 : Int32) (v13 : Int64) (b131 : Addr) (v16 : Int32) (v17 : Int64) (v19 : Int64) (v21 : Int32) (v22 : Int32) (v23 : Int64) (v25 : Int32) (t0 : Int32) (b131_overdue : Int32) (b131_gap : Int64) (b131_nextProbe : Int64) (X0 : Stand p l e room_1 s m args below meth c T0 locs 1 3) (e0 : T0.heap = h) (N0 : Fr n0 locs) (Z0 : n0 ≤ h.size) (E_b131 : Exa Z h b131 "com/example/quietwire/quietwire/protocol/Overdue") (F_b131_overdue : Fld Z h b131 "com/example/quietwire/quietwire/protocol/Overdue" "overdue" "Z" (.int b131_overdue)) (F_b131_gap : Fld Z h b131 "com/example/quietwire/quietwire/protocol/Overdue" "gap" "J" (.long b131_gap)) (F_b131_nextProbe : Fld Z h b131 "com/example/quietwire/quietwire/protocol/Overdue" "nextProbe" "J" (.long b131_nextProbe)) (g_b131 : n0 ≤ b131) (r : Int32) (hr : f0_377 v0 v2 v4 v5 v6 v7 v8 v9 v10 v11 v12 v13 v16 v17 v19 v21 v22 v23 v25 t0 b131_overdue b131_gap b131_nextProbe = r) :
    Fin p e below s 1 3 (Q0 n0 r) (T0.setTop (mkF m 377 #[.val (.long v0), .second, .val (.long v2), .second, .val (.int v4), .val (.int v5), .val (.int v6), .val (.int v7), .val (.int v8), .val (.int v9), .val (.int v10), .val (.int v11), .val (.int v12), .val (.long v13), .second, .val (.ref b131), .val (.int v16), .val (.long v17), .second, .val (.long v19), .second, .val (.int v21), .val (.int v22), .val (.long v23), .second, .val (.int v25), .unset, .unset, .unset, .unset, .unset] [(.int t0)])) := by
  obtain ⟨hx, hZ, hw, hby, hml, hret, hown, hnm, hlk⟩ := B
  unfold f0_377 at hr
  refine Fin.by (B := T0.setTop (mkF m 383 #[.val (.long v0), .second, .val (.long v2), .second, .val (.int v4), .val (.int v5), .val (.int v6), .val (.int v7), .val (.int v8), .val (.int v9), .val (.int v10), .val (.int v11), .val (.int v12), .val (.long v13), .second, .val (.ref b131), .val (.int v16), .val (.long v17), .second, .val (.long v19), .second, .val (.int v21), .val (.int v22), .val (.long v23), .second, .val (.int v25), .val (.int t0), .unset, .unset, .unset, .unset] [(.int v25), (.int t0)])) (fun t k => ?_) ?_
  · show Steps p.tables e below (T0.setTop (mkF m 377 #[.val (.long v0), .second, .val (.long v2), .second, .val (.int v4), .val (.int v5), .val (.int v6), .val (.int v7), .val (.int v8), .val (.int v9), .val (.int v10), .val (.int v11), .val (.int v12), .val (.long v13), .second, .val (.ref b131), .val (.int v16), .val (.long v17), .second, .val (.long v19), .second, .val (.int v21), .val (.int v22), .val (.long v23), .second, .val (.int v25), .unset, .unset, .unset, .unset, .unset] [(.int t0)])) _
    refine XS.istore X0.here hx rfl (hb hby at_377) rfl (l' := #[.val (.long v0), .second, .val (.long v2), .second, .val (.int v4), .val (.int v5), .val (.int v6), .val (.int v7), .val (.int v8), .val (.int v9), .val (.int v10), .val (.int v11), .val (.int v12), .val (.long v13), .second, .val (.ref b131), .val (.int v16), .val (.long v17), .second, .val (.long v19), .second, .val (.int v21), .val (.int v22), .val (.long v23), .second, .val (.int v25), .val (.int t0), .unset, .unset, .unset, .unset]) rfl ?_
    show Steps p.tables e below (T0.setTop (mkF m 379 #[.val (.long v0), .second, .val (.long v2), .second, .val (.int v4), .val (.int v5), .val (.int v6), .val (.int v7), .val (.int v8), .val (.int v9), .val (.int v10), .val (.int v11), .val (.int v12), .val (.long v13), .second, .val (.ref b131), .val (.int v16), .val (.long v17), .second, .val (.long v19), .second, .val (.int v21), .val (.int v22), .val (.long v23), .second, .val (.int v25), .val (.int t0), .unset, .unset, .unset, .unset] [])) _
    refine XS.iload X0.here hx rfl (hb hby at_379) rfl  ?_
    show Steps p.tables e below (T0.setTop (mkF m 381 #[.val (.long v0), .second, .val (.long v2), .second, .val (.int v4), .val (.int v5), .val (.int v6), .val (.int v7), .val (.int v8), .val (.int v9), .val (.int v10), .val (.int v11), .val (.int v12), .val (.long v13), .second, .val (.ref b131), .val (.int v16), .val (.long v17), .second, .val (.long v19), .second, .val (.int v21), .val (.int v22), .val (.long v23), .second, .val (.int v25), .val (.int t0), .unset, .unset, .unset, .unset] [(.int t0)])) _
    refine XS.iload X0.here hx rfl (hb hby at_381) rfl  ?_
    exact k
  by_cases hc383 : t0 = v25
  · rw [if_pos hc383] at hr
    refine Fin.by (B := T0.setTop (mkF m 388 #[.val (.long v0), .second, .val (.long v2), .second, .val (.int v4), .val (.int v5), .val (.int v6), .val (.int v7), .val (.int v8), .val (.int v9), .val (.int v10), .val (.int v11), .val (.int v12), .val (.long v13), .second, .val (.ref b131), .val (.int v16), .val (.long v17), .second, .val (.long v19), .second, .val (.int v21), .val (.int v22), .val (.long v23), .second, .val (.int v25), .val (.int t0), .unset, .unset, .unset, .unset] [])) (fun t k => ?_) ?_
    · show Steps p.tables e below (T0.setTop (mkF m 383 #[.val (.long v0), .second, .val (.long v2), .second, .val (.int v4), .val (.int v5), .val (.int v6), .val (.int v7), .val (.int v8), .val (.int v9), .val (.int v10), .val (.int v11), .val (.int v12), .val (.long v13), .second, .val (.ref b131), .val (.int v16), .val (.long v17), .second, .val (.long v19), .second, .val (.int v21), .val (.int v22), .val (.long v23), .second, .val (.int v25), .val (.int t0), .unset, .unset, .unset, .unset] [(.int v25), (.int t0)])) _
      exact XS.icmpYes X0.here hx rfl (pc0 := 383) (pc' := 388) rfl (hb hby at_383) rfl (teq hc383).1 (by decide) (by decide) k
    refine Fin.by (B := T0.setTop (mkF m 390 #[.val (.long v0), .second, .val (.long v2), .second, .val (.int v4), .val (.int v5), .val (.int v6), .val (.int v7), .val (.int v8), .val (.int v9), .val (.int v10), .val (.int v11), .val (.int v12), .val (.long v13), .second, .val (.ref b131), .val (.int v16), .val (.long v17), .second, .val (.long v19), .second, .val (.int v21), .val (.int v22), .val (.long v23), .second, .val (.int v25), .val (.int t0), .unset, .unset, .unset, .unset] [(.int v25)])) (fun t k => ?_) ?_
    · show Steps p.tables e below (T0.setTop (mkF m 388 #[.val (.long v0), .second, .val (.long v2), .second, .val (.int v4), .val (.int v5), .val (.int v6), .val (.int v7), .val (.int v8), .val (.int v9), .val (.int v10), .val (.int v11), .val (.int v12), .val (.long v13), .second, .val (.ref b131), .val (.int v16), .val (.long v17), .second, .val (.long v19), .second, .val (.int v21), .val (.int v22), .val (.long v23), .second, .val (.int v25), .val (.int t0), .unset, .unset, .unset, .unset] [])) _
      refine XS.iload X0.here hx rfl (hb hby at_388) rfl  ?_
      exact k
    by_cases hc390 : v25 = (0 : Int32)
    · rw [if_pos hc390] at hr
      refine Fin.by (B := T0.setTop (mkF m 393 #[.val (.long v0), .second, .val (.long v2), .second, .val (.int v4), .val (.int v5), .val (.int v6), .val (.int v7), .val (.int v8), .val (.int v9), .val (.int v10), .val (.int v11), .val (.int v12), .val (.long v13), .second, .val (.ref b131), .val (.int v16), .val (.long v17), .second, .val (.long v19), .second, .val (.int v21), .val (.int v22), .val (.long v23), .second, .val (.int v25), .val (.int t0), .unset, .unset, .unset, .unset] [])) (fun t k => ?_) ?_
      · show Steps p.tables e below (T0.setTop (mkF m 390 #[.val (.long v0), .second, .val (.long v2), .second, .val (.int v4), .val (.int v5), .val (.int v6), .val (.int v7), .val (.int v8), .val (.int v9), .val (.int v10), .val (.int v11), .val (.int v12), .val (.long v13), .second, .val (.ref b131), .val (.int v16), .val (.long v17), .second, .val (.long v19), .second, .val (.int v21), .val (.int v22), .val (.long v23), .second, .val (.int v25), .val (.int t0), .unset, .unset, .unset, .unset] [(.int v25)])) _
        exact XS.ifNo X0.here hx rfl (hb hby at_390) rfl ((if0 _ _).trans (teq hc390).2) k
      refine Fin.by (B := T0.setTop (mkF m 394 #[.val (.long v0), .second, .val (.long v2), .second, .val (.int v4), .val (.int v5), .val (.int v6), .val (.int v7), .val (.int v8), .val (.int v9), .val (.int v10), .val (.int v11), .val (.int v12), .val (.long v13), .second, .val (.ref b131), .val (.int v16), .val (.long v17), .second, .val (.long v19), .second, .val (.int v21), .val (.int v22), .val (.long v23), .second, .val (.int v25), .val (.int t0), .unset, .unset, .unset, .unset] [(.int (1 : Int32))])) (fun t k => ?_) ?_
      · show Steps p.tables e below (T0.setTop (mkF m 393 #[.val (.long v0), .second, .val (.long v2), .second, .val (.int v4), .val (.int v5), .val (.int v6), .val (.int v7), .val (.int v8), .val (.int v9), .val (.int v10), .val (.int v11), .val (.int v12), .val (.long v13), .second, .val (.ref b131), .val (.int v16), .val (.long v17), .second, .val (.long v19), .second, .val (.int v21), .val (.int v22), .val (.long v23), .second, .val (.int v25), .val (.int t0), .unset, .unset, .unset, .unset] [])) _
        refine XS.iconst X0.here hx rfl (hb hby at_393) ?_
        exact k
      subst hr
      exact own_retN X0 hx hlk (t := .boolean) hret (by simp) (hb hby at_394) (by decide) (by decide) ⟨rfl, N0⟩
    · rw [if_neg hc390] at hr
      refine Fin.by (B := T0.setTop (mkF m 395 #[.val (.long v0), .second, .val (.long v2), .second, .val (.int v4), .val (.int v5), .val (.int v6), .val (.int v7), .val (.int v8), .val (.int v9), .val (.int v10), .val (.int v11), .val (.int v12), .val (.long v13), .second, .val (.ref b131), .val (.int v16), .val (.long v17), .second, .val (.long v19), .second, .val (.int v21), .val (.int v22), .val (.long v23), .second, .val (.int v25), .val (.int t0), .unset, .unset, .unset, .unset] [])) (fun t k => ?_) ?_
      · show Steps p.tables e below (T0.setTop (mkF m 390 #[.val (.long v0), .second, .val (.long v2), .second, .val (.int v4), .val (.int v5), .val (.int v6), .val (.int v7), .val (.int v8), .val (.int v9), .val (.int v10), .val (.int v11), .val (.int v12), .val (.long v13), .second, .val (.ref b131), .val (.int v16), .val (.long v17), .second, .val (.long v19), .second, .val (.int v21), .val (.int v22), .val (.long v23), .second, .val (.int v25), .val (.int t0), .unset, .unset, .unset, .unset] [(.int v25)])) _
        exact XS.ifYes X0.here hx rfl (pc0 := 390) (pc' := 395) rfl (hb hby at_390) rfl ((if0 _ _).trans (feq hc390).2) (by decide) (by decide) k
      refine Fin.by (B := T0.setTop (mkF m 415 #[.val (.long v0), .second, .val (.long v2), .second, .val (.int v4), .val (.int v5), .val (.int v6), .val (.int v7), .val (.int v8), .val (.int v9), .val (.int v10), .val (.int v11), .val (.int v12), .val (.long v13), .second, .val (.ref b131), .val (.int v16), .val (.long v17), .second, .val (.long v19), .second, .val (.int v21), .val (.int v22), .val (.long v23), .second, .val (.int v25), .val (.int t0), .val (.long (v23 + (2 : Int64))), .second, .unset, .unset] [(.int (lcmpW (v23 + (2 : Int64)) (v23 + ((2 : Int64) * v17))))])) (fun t k => ?_) ?_
      · show Steps p.tables e below (T0.setTop (mkF m 395 #[.val (.long v0), .second, .val (.long v2), .second, .val (.int v4), .val (.int v5), .val (.int v6), .val (.int v7), .val (.int v8), .val (.int v9), .val (.int v10), .val (.int v11), .val (.int v12), .val (.long v13), .second, .val (.ref b131), .val (.int v16), .val (.long v17), .second, .val (.long v19), .second, .val (.int v21), .val (.int v22), .val (.long v23), .second, .val (.int v25), .val (.int t0), .unset, .unset, .unset, .unset] [])) _
        refine XS.lload X0.here hx rfl (hb hby at_395) rfl  ?_
        show Steps p.tables e below (T0.setTop (mkF m 397 #[.val (.long v0), .second, .val (.long v2), .second, .val (.int v4), .val (.int v5), .val (.int v6), .val (.int v7), .val (.int v8), .val (.int v9), .val (.int v10), .val (.int v11), .val (.int v12), .val (.long v13), .second, .val (.ref b131), .val (.int v16), .val (.long v17), .second, .val (.long v19), .second, .val (.int v21), .val (.int v22), .val (.long v23), .second, .val (.int v25), .val (.int t0), .unset, .unset, .unset, .unset] [(.long v23)])) _
        refine X0.ldc2Long hx hown (mvT hZ (hw _ (List.mem_of_getElem? (i := 41) rfl))) (g := (mkF m 397 #[.val (.long v0), .second, .val (.long v2), .second, .val (.int v4), .val (.int v5), .val (.int v6), .val (.int v7), .val (.int v8), .val (.int v9), .val (.int v10), .val (.int v11), .val (.int v12), .val (.long v13), .second, .val (.ref b131), .val (.int v16), .val (.long v17), .second, .val (.long v19), .second, .val (.int v21), .val (.int v22), .val (.long v23), .second, .val (.int v25), .val (.int t0), .unset, .unset, .unset, .unset] [(.long v23)])) rfl (hb hby at_397) _ ?_
        show Steps p.tables e below (T0.setTop (mkF m 400 #[.val (.long v0), .second, .val (.long v2), .second, .val (.int v4), .val (.int v5), .val (.int v6), .val (.int v7), .val (.int v8), .val (.int v9), .val (.int v10), .val (.int v11), .val (.int v12), .val (.long v13), .second, .val (.ref b131), .val (.int v16), .val (.long v17), .second, .val (.long v19), .second, .val (.int v21), .val (.int v22), .val (.long v23), .second, .val (.int v25), .val (.int t0), .unset, .unset, .unset, .unset] [(.long (2 : Int64)), (.long v23)])) _
        refine XS.ladd X0.here hx rfl (hb hby at_400) rfl ?_
        show Steps p.tables e below (T0.setTop (mkF m 401 #[.val (.long v0), .second, .val (.long v2), .second, .val (.int v4), .val (.int v5), .val (.int v6), .val (.int v7), .val (.int v8), .val (.int v9), .val (.int v10), .val (.int v11), .val (.int v12), .val (.long v13), .second, .val (.ref b131), .val (.int v16), .val (.long v17), .second, .val (.long v19), .second, .val (.int v21), .val (.int v22), .val (.long v23), .second, .val (.int v25), .val (.int t0), .unset, .unset, .unset, .unset] [(.long (v23 + (2 : Int64)))])) _
        refine XS.lstore X0.here hx rfl (hb hby at_401) rfl (l' := #[.val (.long v0), .second, .val (.long v2), .second, .val (.int v4), .val (.int v5), .val (.int v6), .val (.int v7), .val (.int v8), .val (.int v9), .val (.int v10), .val (.int v11), .val (.int v12), .val (.long v13), .second, .val (.ref b131), .val (.int v16), .val (.long v17), .second, .val (.long v19), .second, .val (.int v21), .val (.int v22), .val (.long v23), .second, .val (.int v25), .val (.int t0), .val (.long (v23 + (2 : Int64))), .second, .unset, .unset]) rfl ?_
        show Steps p.tables e below (T0.setTop (mkF m 403 #[.val (.long v0), .second, .val (.long v2), .second, .val (.int v4), .val (.int v5), .val (.int v6), .val (.int v7), .val (.int v8), .val (.int v9), .val (.int v10), .val (.int v11), .val (.int v12), .val (.long v13), .second, .val (.ref b131), .val (.int v16), .val (.long v17), .second, .val (.long v19), .second, .val (.int v21), .val (.int v22), .val (.long v23), .second, .val (.int v25), .val (.int t0), .val (.long (v23 + (2 : Int64))), .second, .unset, .unset] [])) _
        refine XS.lload X0.here hx rfl (hb hby at_403) rfl  ?_
        show Steps p.tables e below (T0.setTop (mkF m 405 #[.val (.long v0), .second, .val (.long v2), .second, .val (.int v4), .val (.int v5), .val (.int v6), .val (.int v7), .val (.int v8), .val (.int v9), .val (.int v10), .val (.int v11), .val (.int v12), .val (.long v13), .second, .val (.ref b131), .val (.int v16), .val (.long v17), .second, .val (.long v19), .second, .val (.int v21), .val (.int v22), .val (.long v23), .second, .val (.int v25), .val (.int t0), .val (.long (v23 + (2 : Int64))), .second, .unset, .unset] [(.long (v23 + (2 : Int64)))])) _
        refine XS.lload X0.here hx rfl (hb hby at_405) rfl  ?_
        show Steps p.tables e below (T0.setTop (mkF m 407 #[.val (.long v0), .second, .val (.long v2), .second, .val (.int v4), .val (.int v5), .val (.int v6), .val (.int v7), .val (.int v8), .val (.int v9), .val (.int v10), .val (.int v11), .val (.int v12), .val (.long v13), .second, .val (.ref b131), .val (.int v16), .val (.long v17), .second, .val (.long v19), .second, .val (.int v21), .val (.int v22), .val (.long v23), .second, .val (.int v25), .val (.int t0), .val (.long (v23 + (2 : Int64))), .second, .unset, .unset] [(.long v23), (.long (v23 + (2 : Int64)))])) _
        refine X0.ldc2Long hx hown (mvT hZ (hw _ (List.mem_of_getElem? (i := 41) rfl))) (g := (mkF m 407 #[.val (.long v0), .second, .val (.long v2), .second, .val (.int v4), .val (.int v5), .val (.int v6), .val (.int v7), .val (.int v8), .val (.int v9), .val (.int v10), .val (.int v11), .val (.int v12), .val (.long v13), .second, .val (.ref b131), .val (.int v16), .val (.long v17), .second, .val (.long v19), .second, .val (.int v21), .val (.int v22), .val (.long v23), .second, .val (.int v25), .val (.int t0), .val (.long (v23 + (2 : Int64))), .second, .unset, .unset] [(.long v23), (.long (v23 + (2 : Int64)))])) rfl (hb hby at_407) _ ?_
        show Steps p.tables e below (T0.setTop (mkF m 410 #[.val (.long v0), .second, .val (.long v2), .second, .val (.int v4), .val (.int v5), .val (.int v6), .val (.int v7), .val (.int v8), .val (.int v9), .val (.int v10), .val (.int v11), .val (.int v12), .val (.long v13), .second, .val (.ref b131), .val (.int v16), .val (.long v17), .second, .val (.long v19), .second, .val (.int v21), .val (.int v22), .val (.long v23), .second, .val (.int v25), .val (.int t0), .val (.long (v23 + (2 : Int64))), .second, .unset, .unset] [(.long (2 : Int64)), (.long v23), (.long (v23 + (2 : Int64)))])) _
        refine XS.lload X0.here hx rfl (hb hby at_410) rfl  ?_
        show Steps p.tables e below (T0.setTop (mkF m 412 #[.val (.long v0), .second, .val (.long v2), .second, .val (.int v4), .val (.int v5), .val (.int v6), .val (.int v7), .val (.int v8), .val (.int v9), .val (.int v10), .val (.int v11), .val (.int v12), .val (.long v13), .second, .val (.ref b131), .val (.int v16), .val (.long v17), .second, .val (.long v19), .second, .val (.int v21), .val (.int v22), .val (.long v23), .second, .val (.int v25), .val (.int t0), .val (.long (v23 + (2 : Int64))), .second, .unset, .unset] [(.long v17), (.long (2 : Int64)), (.long v23), (.long (v23 + (2 : Int64)))])) _
        refine XS.lmul X0.here hx rfl (hb hby at_412) rfl ?_
        show Steps p.tables e below (T0.setTop (mkF m 413 #[.val (.long v0), .second, .val (.long v2), .second, .val (.int v4), .val (.int v5), .val (.int v6), .val (.int v7), .val (.int v8), .val (.int v9), .val (.int v10), .val (.int v11), .val (.int v12), .val (.long v13), .second, .val (.ref b131), .val (.int v16), .val (.long v17), .second, .val (.long v19), .second, .val (.int v21), .val (.int v22), .val (.long v23), .second, .val (.int v25), .val (.int t0), .val (.long (v23 + (2 : Int64))), .second, .unset, .unset] [(.long ((2 : Int64) * v17)), (.long v23), (.long (v23 + (2 : Int64)))])) _
        refine XS.ladd X0.here hx rfl (hb hby at_413) rfl ?_
        show Steps p.tables e below (T0.setTop (mkF m 414 #[.val (.long v0), .second, .val (.long v2), .second, .val (.int v4), .val (.int v5), .val (.int v6), .val (.int v7), .val (.int v8), .val (.int v9), .val (.int v10), .val (.int v11), .val (.int v12), .val (.long v13), .second, .val (.ref b131), .val (.int v16), .val (.long v17), .second, .val (.long v19), .second, .val (.int v21), .val (.int v22), .val (.long v23), .second, .val (.int v25), .val (.int t0), .val (.long (v23 + (2 : Int64))), .second, .unset, .unset] [(.long (v23 + ((2 : Int64) * v17))), (.long (v23 + (2 : Int64)))])) _
        refine XS.lcmp X0.here hx rfl (hb hby at_414) rfl ?_
        exact k
      by_cases hc415 : (v23 + (2 : Int64)) < (v23 + ((2 : Int64) * v17))
      · rw [if_pos hc415] at hr
        refine Fin.by (B := T0.setTop (mkF m 422 #[.val (.long v0), .second, .val (.long v2), .second, .val (.int v4), .val (.int v5), .val (.int v6), .val (.int v7), .val (.int v8), .val (.int v9), .val (.int v10), .val (.int v11), .val (.int v12), .val (.long v13), .second, .val (.ref b131), .val (.int v16), .val (.long v17), .second, .val (.long v19), .second, .val (.int v21), .val (.int v22), .val (.long v23), .second, .val (.int v25), .val (.int t0), .val (.long (v23 + (2 : Int64))), .second, .unset, .unset] [])) (fun t k => ?_) ?_
        · show Steps p.tables e below (T0.setTop (mkF m 415 #[.val (.long v0), .second, .val (.long v2), .second, .val (.int v4), .val (.int v5), .val (.int v6), .val (.int v7), .val (.int v8), .val (.int v9), .val (.int v10), .val (.int v11), .val (.int v12), .val (.long v13), .second, .val (.ref b131), .val (.int v16), .val (.long v17), .second, .val (.long v19), .second, .val (.int v21), .val (.int v22), .val (.long v23), .second, .val (.int v25), .val (.int t0), .val (.long (v23 + (2 : Int64))), .second, .unset, .unset] [(.int (lcmpW (v23 + (2 : Int64)) (v23 + ((2 : Int64) * v17))))])) _
          exact XS.ifYes X0.here hx rfl (pc0 := 415) (pc' := 422) rfl (hb hby at_415) rfl ((if0 _ _).trans (tlt ((lw_lt _ _).mpr hc415)).1) (by decide) (by decide) k
        refine Fin.by (B := T0.setTop (mkF m 423 #[.val (.long v0), .second, .val (.long v2), .second, .val (.int v4), .val (.int v5), .val (.int v6), .val (.int v7), .val (.int v8), .val (.int v9), .val (.int v10), .val (.int v11), .val (.int v12), .val (.long v13), .second, .val (.ref b131), .val (.int v16), .val (.long v17), .second, .val (.long v19), .second, .val (.int v21), .val (.int v22), .val (.long v23), .second, .val (.int v25), .val (.int t0), .val (.long (v23 + (2 : Int64))), .second, .unset, .unset] [(.int (0 : Int32))])) (fun t k => ?_) ?_
        · show Steps p.tables e below (T0.setTop (mkF m 422 #[.val (.long v0), .second, .val (.long v2), .second, .val (.int v4), .val (.int v5), .val (.int v6), .val (.int v7), .val (.int v8), .val (.int v9), .val (.int v10), .val (.int v11), .val (.int v12), .val (.long v13), .second, .val (.ref b131), .val (.int v16), .val (.long v17), .second, .val (.long v19), .second, .val (.int v21), .val (.int v22), .val (.long v23), .second, .val (.int v25), .val (.int t0), .val (.long (v23 + (2 : Int64))), .second, .unset, .unset] [])) _
          refine XS.iconst X0.here hx rfl (hb hby at_422) ?_
          exact k
        exact b0_423 ⟨hx, hZ, hw, hby, hml, hret, hown, hnm, hlk⟩ h0 n0 v0 v2 v4 v5 v6 v7 v8 v9 v10 v11 v12 v13 b131 v16 v17 v19 v21 v22 v23 v25 t0 (v23 + (2 : Int64)) (0 : Int32) b131_overdue b131_gap b131_nextProbe X0 e0 N0 Z0 E_b131 F_b131_overdue F_b131_gap F_b131_nextProbe g_b131 _ hr
      · rw [if_neg hc415] at hr
        refine Fin.by (B := T0.setTop (mkF m 418 #[.val (.long v0), .second, .val (.long v2), .second, .val (.int v4), .val (.int v5), .val (.int v6), .val (.int v7), .val (.int v8), .val (.int v9), .val (.int v10), .val (.int v11), .val (.int v12), .val (.long v13), .second, .val (.ref b131), .val (.int v16), .val (.long v17), .second, .val (.long v19), .second, .val (.int v21), .val (.int v22), .val (.long v23), .second, .val (.int v25), .val (.int t0), .val (.long (v23 + (2 : Int64))), .second, .unset, .unset] [])) (fun t k => ?_) ?_
        · show Steps p.tables e below (T0.setTop (mkF m 415 #[.val (.long v0), .second, .val (.long v2), .second, .val (.int v4), .val (.int v5), .val (.int v6), .val (.int v7), .val (.int v8), .val (.int v9), .val (.int v10), .val (.int v11), .val (.int v12), .val (.long v13), .second, .val (.ref b131), .val (.int v16), .val (.long v17), .second, .val (.long v19), .second, .val (.int v21), .val (.int v22), .val (.long v23), .second, .val (.int v25), .val (.int t0), .val (.long (v23 + (2 : Int64))), .second, .unset, .unset] [(.int (lcmpW (v23 + (2 : Int64)) (v23 + ((2 : Int64) * v17))))])) _
          exact XS.ifNo X0.here hx rfl (hb hby at_415) rfl ((if0 _ _).trans (flt (fun q => hc415 ((lw_lt _ _).mp q))).1) k
        refine Fin.by (B := T0.setTop (mkF m 423 #[.val (.long v0), .second, .val (.long v2), .second, .val (.int v4), .val (.int v5), .val (.int v6), .val (.int v7), .val (.int v8), .val (.int v9), .val (.int v10), .val (.int v11), .val (.int v12), .val (.long v13), .second, .val (.ref b131), .val (.int v16), .val (.long v17), .second, .val (.long v19), .second, .val (.int v21), .val (.int v22), .val (.long v23), .second, .val (.int v25), .val (.int t0), .val (.long (v23 + (2 : Int64))), .second, .unset, .unset] [(.int (1 : Int32))])) (fun t k => ?_) ?_
        · show Steps p.tables e below (T0.setTop (mkF m 418 #[.val (.long v0), .second, .val (.long v2), .second, .val (.int v4), .val (.int v5), .val (.int v6), .val (.int v7), .val (.int v8), .val (.int v9), .val (.int v10), .val (.int v11), .val (.int v12), .val (.long v13), .second, .val (.ref b131), .val (.int v16), .val (.long v17), .second, .val (.long v19), .second, .val (.int v21), .val (.int v22), .val (.long v23), .second, .val (.int v25), .val (.int t0), .val (.long (v23 + (2 : Int64))), .second, .unset, .unset] [])) _
          refine XS.iconst X0.here hx rfl (hb hby at_418) ?_
          show Steps p.tables e below (T0.setTop (mkF m 419 #[.val (.long v0), .second, .val (.long v2), .second, .val (.int v4), .val (.int v5), .val (.int v6), .val (.int v7), .val (.int v8), .val (.int v9), .val (.int v10), .val (.int v11), .val (.int v12), .val (.long v13), .second, .val (.ref b131), .val (.int v16), .val (.long v17), .second, .val (.long v19), .second, .val (.int v21), .val (.int v22), .val (.long v23), .second, .val (.int v25), .val (.int t0), .val (.long (v23 + (2 : Int64))), .second, .unset, .unset] [(.int (1 : Int32))])) _
          refine XS.goto X0.here hx rfl (pc0 := 419) (pc' := 423) rfl (hb hby at_419) (by decide) (by decide) ?_
          exact k
        exact b0_423 ⟨hx, hZ, hw, hby, hml, hret, hown, hnm, hlk⟩ h0 n0 v0 v2 v4 v5 v6 v7 v8 v9 v10 v11 v12 v13 b131 v16 v17 v19 v21 v22 v23 v25 t0 (v23 + (2 : Int64)) (1 : Int32) b131_overdue b131_gap b131_nextProbe X0 e0 N0 Z0 E_b131 F_b131_overdue F_b131_gap F_b131_nextProbe g_b131 _ hr
  · rw [if_neg hc383] at hr
    refine Fin.by (B := T0.setTop (mkF m 386 #[.val (.long v0), .second, .val (.long v2), .second, .val (.int v4), .val (.int v5), .val (.int v6), .val (.int v7), .val (.int v8), .val (.int v9), .val (.int v10), .val (.int v11), .val (.int v12), .val (.long v13), .second, .val (.ref b131), .val (.int v16), .val (.long v17), .second, .val (.long v19), .second, .val (.int v21), .val (.int v22), .val (.long v23), .second, .val (.int v25), .val (.int t0), .unset, .unset, .unset, .unset] [])) (fun t k => ?_) ?_
    · show Steps p.tables e below (T0.setTop (mkF m 383 #[.val (.long v0), .second, .val (.long v2), .second, .val (.int v4), .val (.int v5), .val (.int v6), .val (.int v7), .val (.int v8), .val (.int v9), .val (.int v10), .val (.int v11), .val (.int v12), .val (.long v13), .second, .val (.ref b131), .val (.int v16), .val (.long v17), .second, .val (.long v19), .second, .val (.int v21), .val (.int v22), .val (.long v23), .second, .val (.int v25), .val (.int t0), .unset, .unset, .unset, .unset] [(.int v25), (.int t0)])) _
      exact XS.icmpNo X0.here hx rfl (hb hby at_383) rfl (feq hc383).1 k
    refine Fin.by (B := T0.setTop (mkF m 387 #[.val (.long v0), .second, .val (.long v2), .second, .val (.int v4), .val (.int v5), .val (.int v6), .val (.int v7), .val (.int v8), .val (.int v9), .val (.int v10), .val (.int v11), .val (.int v12), .val (.long v13), .second, .val (.ref b131), .val (.int v16), .val (.long v17), .second, .val (.long v19), .second, .val (.int v21), .val (.int v22), .val (.long v23), .second, .val (.int v25), .val (.int t0), .unset, .unset, .unset, .unset] [(.int (0 : Int32))])) (fun t k => ?_) ?_
    · show Steps p.tables e below (T0.setTop (mkF m 386 #[.val (.long v0), .second, .val (.long v2), .second, .val (.int v4), .val (.int v5), .val (.int v6), .val (.int v7), .val (.int v8), .val (.int v9), .val (.int v10), .val (.int v11), .val (.int v12), .val (.long v13), .second, .val (.ref b131), .val (.int v16), .val (.long v17), .second, .val (.long v19), .second, .val (.int v21), .val (.int v22), .val (.long v23), .second, .val (.int v25), .val (.int t0), .unset, .unset, .unset, .unset] [])) _
      refine XS.iconst X0.here hx rfl (hb hby at_386) ?_
      exact k
    subst hr
    exact own_retN X0 hx hlk (t := .boolean) hret (by simp) (hb hby at_387) (by decide) (by decide) ⟨rfl, N0⟩
def f0_368 (v0 : Int64) (v2 : Int64) (v4 : Int32) (v5 : Int32) (v6 : Int32) (v7 : Int32) (v8 : Int32) (v9 : Int32) (v10 : Int32) (v11 : Int32) (v12 : Int32) (v13 : Int64) (v16 : Int32) (v17 : Int64) (v19 : Int64) (v21 : Int32) (v22 : Int32) (v23 : Int64) (t0 : Int32) (b131_overdue : Int32) (b131_gap : Int64) (b131_nextProbe : Int64) : Int32 := (f0_377 v0 v2 v4 v5 v6 v7 v8 v9 v10 v11 v12 v13 v16 v17 v19 v21 v22 v23 t0 ((f6_0 v23 b131_overdue b131_gap b131_nextProbe).1) ((f6_0 v23 b131_overdue b131_gap b131_nextProbe).2.1) ((f6_0 v23 b131_overdue b131_gap b131_nextProbe).2.2.1) ((f6_0 v23 b131_overdue b131_gap b131_nextProbe).2.2.2))
set_option maxRecDepth 65536 in
set_option maxHeartbeats 40000000 in
theorem b0_368 {p : Program} {l : Launch} {e : Env} {s : State} {m : MethodId} {args : Array Value} {below : List Frame} {meth : Method} {c : Code} {Z : State} {a0 : Array Value} (B : Ctx p Z s a0 m meth c "com/example/quietwire/quietwire/protocol/OverdueJudgePinLaw" "law" code 31 (some .boolean)) {T0 : State} {locs : List Loc} {h : Heap} (h0 : Heap) (n0 : Nat) (v0 : Int64) (v2 : Int64) (v4 : Int32) (v5 : Int32) (v6 : Int32) (v7 : Int32) (v8 : Int32) (v9 : Int32) (v10 : Int32) (v11 : Int32) (v12 : Int32) (v13 : Int64) (b131 : Addr) (v16 : Int32) (v17 : Int64) (v19 : Int64) (v21 : Int32) (v22 : Int32) (v23 : Int64) (t0 : Int32) (b131_overdue : Int32) (b131_gap : Int64) (b131_nextProbe : Int64) (X0 : Stand p l e room_1 s m args below meth c T0 locs 1 3) (e0 : T0.heap = h) (N0 : Fr n0 locs) (Z0 : n0 ≤ h.size) (E_b131 : Exa Z h b131 "com/example/quietwire/quietwire/protocol/Overdue") (F_b131_overdue : Fld Z h b131 "com/example/quietwire/quietwire/protocol/Overdue" "overdue" "Z" (.int b131_overdue)) (F_b131_gap : Fld Z h b131 "com/example/quietwire/quietwire/protocol/Overdue" "gap" "J" (.long b131_gap)) (F_b131_nextProbe : Fld Z h b131 "com/example/quietwire/quietwire/protocol/Overdue" "nextProbe" "J" (.long b131_nextProbe)) (g_b131 : n0 ≤ b131) (r : Int32) (hr : f0_368 v0 v2 v4 v5 v6 v7 v8 v9 v10 v11 v12 v13 v16 v17 v19 v21 v22 v23 t0 b131_overdue b131_gap b131_nextProbe = r) :
    Fin p e below s 1 3 (Q0 n0 r) (T0.setTop (mkF m 368 #[.val (.long v0), .second, .val (.long v2), .second, .val (.int v4), .val (.int v5), .val (.int v6), .val (.int v7), .val (.int v8), .val (.int v9), .val (.int v10), .val (.int v11), .val (.int v12), .val (.long v13), .second, .val (.ref b131), .val (.int v16), .val (.long v17), .second, .val (.long v19), .second, .val (.int v21), .val (.int v22), .val (.long v23), .second, .unset, .unset, .unset, .unset, .unset, .unset] [(.int t0)])) := by
  obtain ⟨hx, hZ, hw, hby, hml, hret, hown, hnm, hlk⟩ := B
  unfold f0_368 at hr
  refine Fin.by (B := T0.setTop (mkF m 374 #[.val (.long v0), .second, .val (.long v2), .second, .val (.int v4), .val (.int v5), .val (.int v6), .val (.int v7), .val (.int v8), .val (.int v9), .val (.int v10), .val (.int v11), .val (.int v12), .val (.long v13), .second, .val (.ref b131), .val (.int v16), .val (.long v17), .second, .val (.long v19), .second, .val (.int v21), .val (.int v22), .val (.long v23), .second, .val (.int t0), .unset, .unset, .unset, .unset, .unset] [(.long v23), (.ref b131)])) (fun t k => ?_) ?_
  · show Steps p.tables e below (T0.setTop (mkF m 368 #[.val (.long v0), .second, .val (.long v2), .second, .val (.int v4), .val (.int v5), .val (.int v6), .val (.int v7), .val (.int v8), .val (.int v9), .val (.int v10), .val (.int v11), .val (.int v12), .val (.long v13), .second, .val (.ref b131), .val (.int v16), .val (.long v17), .second, .val (.long v19), .second, .val (.int v21), .val (.int v22), .val (.long v23), .second, .unset, .unset, .unset, .unset, .unset, .unset] [(.int t0)])) _
    refine XS.istore X0.here hx rfl (hb hby at_368) rfl (l' := #[.val (.long v0), .second, .val (.long v2), .second, .val (.int v4), .val (.int v5), .val (.int v6), .val (.int v7), .val (.int v8), .val (.int v9), .val (.int v10), .val (.int v11), .val (.int v12), .val (.long v13), .second, .val (.ref b131), .val (.int v16), .val (.long v17), .second, .val (.long v19), .second, .val (.int v21), .val (.int v22), .val (.long v23), .second, .val (.int t0), .unset, .unset, .unset, .unset, .unset]) rfl ?_
    show Steps p.tables e below (T0.setTop (mkF m 370 #[.val (.long v0), .second, .val (.long v2), .second, .val (.int v4), .val (.int v5), .val (.int v6), .val (.int v7), .val (.int v8), .val (.int v9), .val (.int v10), .val (.int v11), .val (.int v12), .val (.long v13), .second, .val (.ref b131), .val (.int v16), .val (.long v17), .second, .val (.long v19), .second, .val (.int v21), .val (.int v22), .val (.long v23), .second, .val (.int t0), .unset, .unset, .unset, .unset, .unset] [])) _
    refine XS.aload X0.here hx rfl (hb hby at_370) rfl rfl ?_
    show Steps p.tables e below (T0.setTop (mkF m 372 #[.val (.long v0), .second, .val (.long v2), .second, .val (.int v4), .val (.int v5), .val (.int v6), .val (.int v7), .val (.int v8), .val (.int v9), .val (.int v10), .val (.int v11), .val (.int v12), .val (.long v13), .second, .val (.ref b131), .val (.int v16), .val (.long v17), .second, .val (.long v19), .second, .val (.int v21), .val (.int v22), .val (.long v23), .second, .val (.int t0), .unset, .unset, .unset, .unset, .unset] [(.ref b131)])) _
    refine XS.lload X0.here hx rfl (hb hby at_372) rfl  ?_
    exact k
  -- pc 374: com/example/quietwire/quietwire/protocol/Overdue.probeDue
  obtain ⟨cq7, kq7, q7a, q7b, q7c⟩ := isOf hZ e0 E_b131
  obtain ⟨_, _, ⟨T7, L7, k7, n7⟩, -, X7, ⟨Lc7, hQ7, l7, y7, z7⟩, st7⟩ := X0.virtualBack hx (y := (⟨"com/example/quietwire/quietwire/protocol/Overdue", "probeDue", "(J)Z"⟩ : MethodName)) (z := (⟨"com/example/quietwire/quietwire/protocol/Overdue", "probeDue", "(J)Z"⟩ : MethodName)) hown (mvT hZ (hw _ (List.mem_of_getElem? (i := 28) rfl))) (mvT hZ (hw _ (List.mem_of_getElem? (i := 29) rfl))) (notFace_of_selects (args := #[]) (mvT hZ (hw _ (List.mem_of_getElem? (i := 31) rfl)))) (mvT hZ (hw _ (List.mem_of_getElem? (i := 31) rfl))) (mvT hZ (hw _ (List.mem_of_getElem? (i := 30) rfl))) (by decide) (backOf (W := 0) (rm6 l Z a0 hw [] b131 v23 b131_overdue b131_gap b131_nextProbe h n0 Z0 E_b131 F_b131_overdue F_b131_gap F_b131_nextProbe g_b131) hZ (hw _ (List.mem_of_getElem? (i := 32) rfl)) (hw _ (List.mem_of_getElem? (i := 2) rfl)) (by decide) (by decide)) q7a q7c (g := (mkF m 374 #[.val (.long v0), .second, .val (.long v2), .second, .val (.int v4), .val (.int v5), .val (.int v6), .val (.int v7), .val (.int v8), .val (.int v9), .val (.int v10), .val (.int v11), .val (.int v12), .val (.long v13), .second, .val (.ref b131), .val (.int v16), .val (.long v17), .second, .val (.long v19), .second, .val (.int v21), .val (.int v22), .val (.long v23), .second, .val (.int t0), .unset, .unset, .unset, .unset, .unset] [(.long v23), (.ref b131)])) rfl (by rw [hml]; rfl) (Steps.refl _) (argsL := [(.long v23)]) (rest := []) (lenOf pd_4 rfl) rfl (by show 2 * 0 + _ ≤ _; exact Nat.le_of_eq rfl) (hb hby at_374) (fun _ _ => ⟨rfl, e0, (by decide : 1 + R6.cells ≤ _), (by decide : 3 + R6.slots ≤ _)⟩)
  dsimp only [Pt.U, Pt.locs, Pt.cells, Pt.slots] at X7 l7 y7 z7 st7 hQ7
  subst l7 y7 z7
  obtain ⟨rfl, Nq7, Kq7, E_b131_7, F_b131_overdue_7, F_b131_gap_7, F_b131_nextProbe_7⟩ := hQ7
  obtain ⟨h7, e7⟩ : ∃ z, T7.heap = z := ⟨_, rfl⟩
  rw [e7] at Kq7 E_b131_7 F_b131_overdue_7 F_b131_gap_7 F_b131_nextProbe_7
  have N7 := Fr.app N0 Nq7
  have Z7 : n0 ≤ h7.size := Nat.le_trans Z0 Kq7.1
  refine Fin.by (B := T7.setTop (mkF m 377 #[.val (.long v0), .second, .val (.long v2), .second, .val (.int v4), .val (.int v5), .val (.int v6), .val (.int v7), .val (.int v8), .val (.int v9), .val (.int v10), .val (.int v11), .val (.int v12), .val (.long v13), .second, .val (.ref b131), .val (.int v16), .val (.long v17), .second, .val (.long v19), .second, .val (.int v21), .val (.int v22), .val (.long v23), .second, .val (.int t0), .unset, .unset, .unset, .unset, .unset] [(.int (f6_0 v23 b131_overdue b131_gap b131_nextProbe).1)])) (fun t k => st7.trans k) ?_
  exact b0_377 ⟨hx, hZ, hw, hby, hml, hret, hown, hnm, hlk⟩ h0 n0 v0 v2 v4 v5 v6 v7 v8 v9 v10 v11 v12 v13 b131 v16 v17 v19 v21 v22 v23 t0 ((f6_0 v23 b131_overdue b131_gap b131_nextProbe).1) ((f6_0 v23 b131_overdue b131_gap b131_nextProbe).2.1) ((f6_0 v23 b131_overdue b131_gap b131_nextProbe).2.2.1) ((f6_0 v23 b131_overdue b131_gap b131_nextProbe).2.2.2) X7 e7 N7 Z7 E_b131_7 F_b131_overdue_7 F_b131_gap_7 F_b131_nextProbe_7 g_b131 _ hr
def f0_367 (v0 : Int64) (v2 : Int64) (v4 : Int32) (v5 : Int32) (v6 : Int32) (v7 : Int32) (v8 : Int32) (v9 : Int32) (v10 : Int32) (v11 : Int32) (v12 : Int32) (v13 : Int64) (v16 : Int32) (v17 : Int64) (v19 : Int64) (v21 : Int32) (v22 : Int32) (v23 : Int64) (b131_overdue : Int32) (b131_gap : Int64) (b131_nextProbe : Int64) : Int32 := (f0_368 v0 v2 v4 v5 v6 v7 v8 v9 v10 v11 v12 v13 v16 v17 v19 v21 v22 v23 (0 : Int32) b131_overdue b131_gap b131_nextProbe)
set_option maxRecDepth 65536 in
set_option maxHeartbeats 40000000 in
theorem b0_367 {p : Program} {l : Launch} {e : Env} {s : State} {m : MethodId} {args : Array Value} {below : List Frame} {meth : Method} {c : Code} {Z : State} {a0 : Array Value} (B : Ctx p Z s a0 m meth c "com/example/quietwire/quietwire/protocol/OverdueJudgePinLaw" "law" code 31 (some .boolean)) {T0 : State} {locs : List Loc} {h : Heap} (h0 : Heap) (n0 : Nat) (v0 : Int64) (v2 : Int64) (v4 : Int32) (v5 : Int32) (v6 : Int32) (v7 : Int32) (v8 : Int32) (v9 : Int32) (v10 : Int32) (v11 : Int32) (v12 : Int32) (v13 : Int64) (b131 : Addr) (v16 : Int32) (v17 : Int64) (v19 : Int64) (v21 : Int32) (v22 : Int32) (v23 : Int64) (b131_overdue : Int32) (b131_gap : Int64) (b131_nextProbe : Int64) (X0 : Stand p l e room_1 s m args below meth c T0 locs 1 3) (e0 : T0.heap = h) (N0 : Fr n0 locs) (Z0 : n0 ≤ h.size) (E_b131 : Exa Z h b131 "com/example/quietwire/quietwire/protocol/Overdue") (F_b131_overdue : Fld Z h b131 "com/example/quietwire/quietwire/protocol/Overdue" "overdue" "Z" (.int b131_overdue)) (F_b131_gap : Fld Z h b131 "com/example/quietwire/quietwire/protocol/Overdue" "gap" "J" (.long b131_gap)) (F_b131_nextProbe : Fld Z h b131 "com/example/quietwire/quietwire/protocol/Overdue" "nextProbe" "J" (.long b131_nextProbe)) (g_b131 : n0 ≤ b131) (r : Int32) (hr : f0_367 v0 v2 v4 v5 v6 v7 v8 v9 v10 v11 v12 v13 v16 v17 v19 v21 v22 v23 b131_overdue b131_gap b131_nextProbe = r) :
    Fin p e below s 1 3 (Q0 n0 r) (T0.setTop (mkF m 367 #[.val (.long v0), .second, .val (.long v2), .second, .val (.int v4), .val (.int v5), .val (.int v6), .val (.int v7), .val (.int v8), .val (.int v9), .val (.int v10), .val (.int v11), .val (.int v12), .val (.long v13), .second, .val (.ref b131), .val (.int v16), .val (.long v17), .second, .val (.long v19), .second, .val (.int v21), .val (.int v22), .val (.long v23), .second, .unset, .unset, .unset, .unset, .unset, .unset] [])) := by
  obtain ⟨hx, hZ, hw, hby, hml, hret, hown, hnm, hlk⟩ := B
  unfold f0_367 at hr
  refine Fin.by (B := T0.setTop (mkF m 368 #[.val (.long v0), .second, .val (.long v2), .second, .val (.int v4), .val (.int v5), .val (.int v6), .val (.int v7), .val (.int v8), .val (.int v9), .val (.int v10), .val (.int v11), .val (.int v12), .val (.long v13), .second, .val (.ref b131), .val (.int v16), .val (.long v17), .second, .val (.long v19), .second, .val (.int v21), .val (.int v22), .val (.long v23), .second, .unset, .unset, .unset, .unset, .unset, .unset] [(.int (0 : Int32))])) (fun t k => ?_) ?_
  · show Steps p.tables e below (T0.setTop (mkF m 367 #[.val (.long v0), .second, .val (.long v2), .second, .val (.int v4), .val (.int v5), .val (.int v6), .val (.int v7), .val (.int v8), .val (.int v9), .val (.int v10), .val (.int v11), .val (.int v12), .val (.long v13), .second, .val (.ref b131), .val (.int v16), .val (.long v17), .second, .val (.long v19), .second, .val (.int v21), .val (.int v22), .val (.long v23), .second, .unset, .unset, .unset, .unset, .unset, .unset] [])) _
    refine XS.iconst X0.here hx rfl (hb hby at_367) ?_
    exact k
  exact b0_368 ⟨hx, hZ, hw, hby, hml, hret, hown, hnm, hlk⟩ h0 n0 v0 v2 v4 v5 v6 v7 v8 v9 v10 v11 v12 v13 b131 v16 v17 v19 v21 v22 v23 (0 : Int32) b131_overdue b131_gap b131_nextProbe X0 e0 N0 Z0 E_b131 F_b131_overdue F_b131_gap F_b131_nextProbe g_b131 _ hr
def f0_345 (v0 : Int64) (v2 : Int64) (v4 : Int32) (v5 : Int32) (v6 : Int32) (v7 : Int32) (v8 : Int32) (v9 : Int32) (v10 : Int32) (v11 : Int32) (v12 : Int32) (v13 : Int64) (v16 : Int32) (v17 : Int64) (v19 : Int64) (v21 : Int32) (v22 : Int32) (t0 : Int64) (b131_overdue : Int32) (b131_gap : Int64) (b131_nextProbe : Int64) : Int32 := (if v21 = (0 : Int32) then (f0_367 v0 v2 v4 v5 v6 v7 v8 v9 v10 v11 v12 v13 v16 v17 v19 v21 v22 (t0 + v13) b131_overdue b131_gap b131_nextProbe) else (if (t0 + v13) < v19 then (f0_367 v0 v2 v4 v5 v6 v7 v8 v9 v10 v11 v12 v13 v16 v17 v19 v21 v22 (t0 + v13) b131_overdue b131_gap b131_nextProbe) else (f0_368 v0 v2 v4 v5 v6 v7 v8 v9 v10 v11 v12 v13 v16 v17 v19 v21 v22 (t0 + v13) (1 : Int32) b131_overdue b131_gap b131_nextProbe)))
set_option maxRecDepth 65536 in
set_option maxHeartbeats 40000000 in
theorem b0_345 {p : Program} {l : Launch} {e : Env} {s : State} {m : MethodId} {args : Array Value} {below : List Frame} {meth : Method} {c : Code} {Z : State} {a0 : Array Value} (B : Ctx p Z s a0 m meth c "com/example/quietwire/quietwire/protocol/OverdueJudgePinLaw" "law" code 31 (some .boolean)) {T0 : State} {locs : List Loc} {h : Heap} (h0 : Heap) (n0 : Nat) (v0 : Int64) (v2 : Int64) (v4 : Int32) (v5 : Int32) (v6 : Int32) (v7 : Int32) (v8 : Int32) (v9 : Int32) (v10 : Int32) (v11 : Int32) (v12 : Int32) (v13 : Int64) (b131 : Addr) (v16 : Int32) (v17 : Int64) (v19 : Int64) (v21 : Int32) (v22 : Int32) (t0 : Int64) (b131_overdue : Int32) (b131_gap : Int64) (b131_nextProbe : Int64) (X0 : Stand p l e room_1 s m args below meth c T0 locs 1 3) (e0 : T0.heap = h) (N0 : Fr n0 locs) (Z0 : n0 ≤ h.size) (E_b131 : Exa Z h b131 "com/example/quietwire/quietwire/protocol/Overdue") (F_b131_overdue : Fld Z h b131 "com/example/quietwire/quietwire/protocol/Overdue" "overdue" "Z" (.int b131_overdue)) (F_b131_gap : Fld Z h b131 "com/example/quietwire/quietwire/protocol/Overdue" "gap" "J" (.long b131_gap)) (F_b131_nextProbe : Fld Z h b131 "com/example/quietwire/quietwire/protocol/Overdue" "nextProbe" "J" (.long b131_nextProbe)) (g_b131 : n0 ≤ b131) (r : Int32) (hr : f0_345 v0 v2 v4 v5 v6 v7 v8 v9 v10 v11 v12 v13 v16 v17 v19 v21 v22 t0 b131_overdue b131_gap b131_nextProbe = r) :
    Fin p e below s 1 3 (Q0 n0 r) (T0.setTop (mkF m 345 #[.val (.long v0), .second, .val (.long v2), .second, .val (.int v4), .val (.int v5), .val (.int v6), .val (.int v7), .val (.int v8), .val (.int v9), .val (.int v10), .val (.int v11), .val (.int v12), .val (.long v13), .second, .val (.ref b131), .val (.int v16), .val (.long v17), .second, .val (.long v19), .second, .val (.int v21), .val (.int v22), .unset, .unset, .unset, .unset, .unset, .unset, .unset, .unset] [(.long t0)])) := by
  obtain ⟨hx, hZ, hw, hby, hml, hret, hown, hnm, hlk⟩ := B
  unfold f0_345 at hr
  refine Fin.by (B := T0.setTop (mkF m 352 #[.val (.long v0), .second, .val (.long v2), .second, .val (.int v4), .val (.int v5), .val (.int v6), .val (.int v7), .val (.int v8), .val (.int v9), .val (.int v10), .val (.int v11), .val (.int v12), .val (.long v13), .second, .val (.ref b131), .val (.int v16), .val (.long v17), .second, .val (.long v19), .second, .val (.int v21), .val (.int v22), .val (.long (t0 + v13)), .second, .unset, .unset, .unset, .unset, .unset, .unset] [(.int v21)])) (fun t k => ?_) ?_
  · show Steps p.tables e below (T0.setTop (mkF m 345 #[.val (.long v0), .second, .val (.long v2), .second, .val (.int v4), .val (.int v5), .val (.int v6), .val (.int v7), .val (.int v8), .val (.int v9), .val (.int v10), .val (.int v11), .val (.int v12), .val (.long v13), .second, .val (.ref b131), .val (.int v16), .val (.long v17), .second, .val (.long v19), .second, .val (.int v21), .val (.int v22), .unset, .unset, .unset, .unset, .unset, .unset, .unset, .unset] [(.long t0)])) _
    refine XS.lload X0.here hx rfl (hb hby at_345) rfl  ?_
    show Steps p.tables e below (T0.setTop (mkF m 347 #[.val (.long v0), .second, .val (.long v2), .second, .val (.int v4), .val (.int v5), .val (.int v6), .val (.int v7), .val (.int v8), .val (.int v9), .val (.int v10), .val (.int v11), .val (.int v12), .val (.long v13), .second, .val (.ref b131), .val (.int v16), .val (.long v17), .second, .val (.long v19), .second, .val (.int v21), .val (.int v22), .unset, .unset, .unset, .unset, .unset, .unset, .unset, .unset] [(.long v13), (.long t0)])) _
    refine XS.ladd X0.here hx rfl (hb hby at_347) rfl ?_
    show Steps p.tables e below (T0.setTop (mkF m 348 #[.val (.long v0), .second, .val (.long v2), .second, .val (.int v4), .val (.int v5), .val (.int v6), .val (.int v7), .val (.int v8), .val (.int v9), .val (.int v10), .val (.int v11), .val (.int v12), .val (.long v13), .second, .val (.ref b131), .val (.int v16), .val (.long v17), .second, .val (.long v19), .second, .val (.int v21), .val (.int v22), .unset, .unset, .unset, .unset, .unset, .unset, .unset, .unset] [(.long (t0 + v13))])) _
    refine XS.lstore X0.here hx rfl (hb hby at_348) rfl (l' := #[.val (.long v0), .second, .val (.long v2), .second, .val (.int v4), .val (.int v5), .val (.int v6), .val (.int v7), .val (.int v8), .val (.int v9), .val (.int v10), .val (.int v11), .val (.int v12), .val (.long v13), .second, .val (.ref b131), .val (.int v16), .val (.long v17), .second, .val (.long v19), .second, .val (.int v21), .val (.int v22), .val (.long (t0 + v13)), .second, .unset, .unset, .unset, .unset, .unset, .unset]) rfl ?_
    show Steps p.tables e below (T0.setTop (mkF m 350 #[.val (.long v0), .second, .val (.long v2), .second, .val (.int v4), .val (.int v5), .val (.int v6), .val (.int v7), .val (.int v8), .val (.int v9), .val (.int v10), .val (.int v11), .val (.int v12), .val (.long v13), .second, .val (.ref b131), .val (.int v16), .val (.long v17), .second, .val (.long v19), .second, .val (.int v21), .val (.int v22), .val (.long (t0 + v13)), .second, .unset, .unset, .unset, .unset, .unset, .unset] [])) _
    refine XS.iload X0.here hx rfl (hb hby at_350) rfl  ?_
    exact k
  by_cases hc352 : v21 = (0 : Int32)
  · rw [if_pos hc352] at hr
    refine Fin.by (B := T0.setTop (mkF m 367 #[.val (.long v0), .second, .val (.long v2), .second, .val (.int v4), .val (.int v5), .val (.int v6), .val (.int v7), .val (.int v8), .val (.int v9), .val (.int v10), .val (.int v11), .val (.int v12), .val (.long v13), .second, .val (.ref b131), .val (.int v16), .val (.long v17), .second, .val (.long v19), .second, .val (.int v21), .val (.int v22), .val (.long (t0 + v13)), .second, .unset, .unset, .unset, .unset, .unset, .unset] [])) (fun t k => ?_) ?_
    · show Steps p.tables e below (T0.setTop (mkF m 352 #[.val (.long v0), .second, .val (.long v2), .second, .val (.int v4), .val (.int v5), .val (.int v6), .val (.int v7), .val (.int v8), .val (.int v9), .val (.int v10), .val (.int v11), .val (.int v12), .val (.long v13), .second, .val (.ref b131), .val (.int v16), .val (.long v17), .second, .val (.long v19), .second, .val (.int v21), .val (.int v22), .val (.long (t0 + v13)), .second, .unset, .unset, .unset, .unset, .unset, .unset] [(.int v21)])) _
      exact XS.ifYes X0.here hx rfl (pc0 := 352) (pc' := 367) rfl (hb hby at_352) rfl ((if0 _ _).trans (teq hc352).1) (by decide) (by decide) k
    exact b0_367 ⟨hx, hZ, hw, hby, hml, hret, hown, hnm, hlk⟩ h0 n0 v0 v2 v4 v5 v6 v7 v8 v9 v10 v11 v12 v13 b131 v16 v17 v19 v21 v22 (t0 + v13) b131_overdue b131_gap b131_nextProbe X0 e0 N0 Z0 E_b131 F_b131_overdue F_b131_gap F_b131_nextProbe g_b131 _ hr
  · rw [if_neg hc352] at hr
    refine Fin.by (B := T0.setTop (mkF m 355 #[.val (.long v0), .second, .val (.long v2), .second, .val (.int v4), .val (.int v5), .val (.int v6), .val (.int v7), .val (.int v8), .val (.int v9), .val (.int v10), .val (.int v11), .val (.int v12), .val (.long v13), .second, .val (.ref b131), .val (.int v16), .val (.long v17), .second, .val (.long v19), .second, .val (.int v21), .val (.int v22), .val (.long (t0 + v13)), .second, .unset, .unset, .unset, .unset, .unset, .unset] [])) (fun t k => ?_) ?_
    · show Steps p.tables e below (T0.setTop (mkF m 352 #[.val (.long v0), .second, .val (.long v2), .second, .val (.int v4), .val (.int v5), .val (.int v6), .val (.int v7), .val (.int v8), .val (.int v9), .val (.int v10), .val (.int v11), .val (.int v12), .val (.long v13), .second, .val (.ref b131), .val (.int v16), .val (.long v17), .second, .val (.long v19), .second, .val (.int v21), .val (.int v22), .val (.long (t0 + v13)), .second, .unset, .unset, .unset, .unset, .unset, .unset] [(.int v21)])) _
      exact XS.ifNo X0.here hx rfl (hb hby at_352) rfl ((if0 _ _).trans (feq hc352).1) k
    refine Fin.by (B := T0.setTop (mkF m 360 #[.val (.long v0), .second, .val (.long v2), .second, .val (.int v4), .val (.int v5), .val (.int v6), .val (.int v7), .val (.int v8), .val (.int v9), .val (.int v10), .val (.int v11), .val (.int v12), .val (.long v13), .second, .val (.ref b131), .val (.int v16), .val (.long v17), .second, .val (.long v19), .second, .val (.int v21), .val (.int v22), .val (.long (t0 + v13)), .second, .unset, .unset, .unset, .unset, .unset, .unset] [(.int (lcmpW (t0 + v13) v19))])) (fun t k => ?_) ?_
    · show Steps p.tables e below (T0.setTop (mkF m 355 #[.val (.long v0), .second, .val (.long v2), .second, .val (.int v4), .val (.int v5), .val (.int v6), .val (.int v7), .val (.int v8), .val (.int v9), .val (.int v10), .val (.int v11), .val (.int v12), .val (.long v13), .second, .val (.ref b131), .val (.int v16), .val (.long v17), .second, .val (.long v19), .second, .val (.int v21), .val (.int v22), .val (.long (t0 + v13)), .second, .unset, .unset, .unset, .unset, .unset, .unset] [])) _
      refine XS.lload X0.here hx rfl (hb hby at_355) rfl  ?_
      show Steps p.tables e below (T0.setTop (mkF m 357 #[.val (.long v0), .second, .val (.long v2), .second, .val (.int v4), .val (.int v5), .val (.int v6), .val (.int v7), .val (.int v8), .val (.int v9), .val (.int v10), .val (.int v11), .val (.int v12), .val (.long v13), .second, .val (.ref b131), .val (.int v16), .val (.long v17), .second, .val (.long v19), .second, .val (.int v21), .val (.int v22), .val (.long (t0 + v13)), .second, .unset, .unset, .unset, .unset, .unset, .unset] [(.long (t0 + v13))])) _
      refine XS.lload X0.here hx rfl (hb hby at_357) rfl  ?_
      show Steps p.tables e below (T0.setTop (mkF m 359 #[.val (.long v0), .second, .val (.long v2), .second, .val (.int v4), .val (.int v5), .val (.int v6), .val (.int v7), .val (.int v8), .val (.int v9), .val (.int v10), .val (.int v11), .val (.int v12), .val (.long v13), .second, .val (.ref b131), .val (.int v16), .val (.long v17), .second, .val (.long v19), .second, .val (.int v21), .val (.int v22), .val (.long (t0 + v13)), .second, .unset, .unset, .unset, .unset, .unset, .unset] [(.long v19), (.long (t0 + v13))])) _
      refine XS.lcmp X0.here hx rfl (hb hby at_359) rfl ?_
      exact k
    by_cases hc360 : (t0 + v13) < v19
    · rw [if_pos hc360] at hr
      refine Fin.by (B := T0.setTop (mkF m 367 #[.val (.long v0), .second, .val (.long v2), .second, .val (.int v4), .val (.int v5), .val (.int v6), .val (.int v7), .val (.int v8), .val (.int v9), .val (.int v10), .val (.int v11), .val (.int v12), .val (.long v13), .second, .val (.ref b131), .val (.int v16), .val (.long v17), .second, .val (.long v19), .second, .val (.int v21), .val (.int v22), .val (.long (t0 + v13)), .second, .unset, .unset, .unset, .unset, .unset, .unset] [])) (fun t k => ?_) ?_
      · show Steps p.tables e below (T0.setTop (mkF m 360 #[.val (.long v0), .second, .val (.long v2), .second, .val (.int v4), .val (.int v5), .val (.int v6), .val (.int v7), .val (.int v8), .val (.int v9), .val (.int v10), .val (.int v11), .val (.int v12), .val (.long v13), .second, .val (.ref b131), .val (.int v16), .val (.long v17), .second, .val (.long v19), .second, .val (.int v21), .val (.int v22), .val (.long (t0 + v13)), .second, .unset, .unset, .unset, .unset, .unset, .unset] [(.int (lcmpW (t0 + v13) v19))])) _
        exact XS.ifYes X0.here hx rfl (pc0 := 360) (pc' := 367) rfl (hb hby at_360) rfl ((if0 _ _).trans (tlt ((lw_lt _ _).mpr hc360)).1) (by decide) (by decide) k
      exact b0_367 ⟨hx, hZ, hw, hby, hml, hret, hown, hnm, hlk⟩ h0 n0 v0 v2 v4 v5 v6 v7 v8 v9 v10 v11 v12 v13 b131 v16 v17 v19 v21 v22 (t0 + v13) b131_overdue b131_gap b131_nextProbe X0 e0 N0 Z0 E_b131 F_b131_overdue F_b131_gap F_b131_nextProbe g_b131 _ hr
    · rw [if_neg hc360] at hr
      refine Fin.by (B := T0.setTop (mkF m 363 #[.val (.long v0), .second, .val (.long v2), .second, .val (.int v4), .val (.int v5), .val (.int v6), .val (.int v7), .val (.int v8), .val (.int v9), .val (.int v10), .val (.int v11), .val (.int v12), .val (.long v13), .second, .val (.ref b131), .val (.int v16), .val (.long v17), .second, .val (.long v19), .second, .val (.int v21), .val (.int v22), .val (.long (t0 + v13)), .second, .unset, .unset, .unset, .unset, .unset, .unset] [])) (fun t k => ?_) ?_
      · show Steps p.tables e below (T0.setTop (mkF m 360 #[.val (.long v0), .second, .val (.long v2), .second, .val (.int v4), .val (.int v5), .val (.int v6), .val (.int v7), .val (.int v8), .val (.int v9), .val (.int v10), .val (.int v11), .val (.int v12), .val (.long v13), .second, .val (.ref b131), .val (.int v16), .val (.long v17), .second, .val (.long v19), .second, .val (.int v21), .val (.int v22), .val (.long (t0 + v13)), .second, .unset, .unset, .unset, .unset, .unset, .unset] [(.int (lcmpW (t0 + v13) v19))])) _
        exact XS.ifNo X0.here hx rfl (hb hby at_360) rfl ((if0 _ _).trans (flt (fun q => hc360 ((lw_lt _ _).mp q))).1) k
      refine Fin.by (B := T0.setTop (mkF m 368 #[.val (.long v0), .second, .val (.long v2), .second, .val (.int v4), .val (.int v5), .val (.int v6), .val (.int v7), .val (.int v8), .val (.int v9), .val (.int v10), .val (.int v11), .val (.int v12), .val (.long v13), .second, .val (.ref b131), .val (.int v16), .val (.long v17), .second, .val (.long v19), .second, .val (.int v21), .val (.int v22), .val (.long (t0 + v13)), .second, .unset, .unset, .unset, .unset, .unset, .unset] [(.int (1 : Int32))])) (fun t k => ?_) ?_
      · show Steps p.tables e below (T0.setTop (mkF m 363 #[.val (.long v0), .second, .val (.long v2), .second, .val (.int v4), .val (.int v5), .val (.int v6), .val (.int v7), .val (.int v8), .val (.int v9), .val (.int v10), .val (.int v11), .val (.int v12), .val (.long v13), .second, .val (.ref b131), .val (.int v16), .val (.long v17), .second, .val (.long v19), .second, .val (.int v21), .val (.int v22), .val (.long (t0 + v13)), .second, .unset, .unset, .unset, .unset, .unset, .unset] [])) _
        refine XS.iconst X0.here hx rfl (hb hby at_363) ?_
        show Steps p.tables e below (T0.setTop (mkF m 364 #[.val (.long v0), .second, .val (.long v2), .second, .val (.int v4), .val (.int v5), .val (.int v6), .val (.int v7), .val (.int v8), .val (.int v9), .val (.int v10), .val (.int v11), .val (.int v12), .val (.long v13), .second, .val (.ref b131), .val (.int v16), .val (.long v17), .second, .val (.long v19), .second, .val (.int v21), .val (.int v22), .val (.long (t0 + v13)), .second, .unset, .unset, .unset, .unset, .unset, .unset] [(.int (1 : Int32))])) _
        refine XS.goto X0.here hx rfl (pc0 := 364) (pc' := 368) rfl (hb hby at_364) (by decide) (by decide) ?_
        exact k
      exact b0_368 ⟨hx, hZ, hw, hby, hml, hret, hown, hnm, hlk⟩ h0 n0 v0 v2 v4 v5 v6 v7 v8 v9 v10 v11 v12 v13 b131 v16 v17 v19 v21 v22 (t0 + v13) (1 : Int32) b131_overdue b131_gap b131_nextProbe X0 e0 N0 Z0 E_b131 F_b131_overdue F_b131_gap F_b131_nextProbe g_b131 _ hr
def f0_311 (v0 : Int64) (v2 : Int64) (v4 : Int32) (v5 : Int32) (v6 : Int32) (v7 : Int32) (v8 : Int32) (v9 : Int32) (v10 : Int32) (v11 : Int32) (v12 : Int32) (v13 : Int64) (v16 : Int32) (v17 : Int64) (v19 : Int64) (v21 : Int32) (v22 : Int32) (b131_overdue : Int32) (b131_gap : Int64) (b131_nextProbe : Int64) : Int32 := (if (f4_0 b131_overdue b131_gap b131_nextProbe) = v22 then (if (f5_0 b131_overdue b131_gap b131_nextProbe) = v21 then (if v12 = (0 : Int32) then (f0_345 v0 v2 v4 v5 v6 v7 v8 v9 v10 v11 v12 v13 v16 v17 v19 v21 v22 v2 b131_overdue b131_gap b131_nextProbe) else (f0_345 v0 v2 v4 v5 v6 v7 v8 v9 v10 v11 v12 v13 v16 v17 v19 v21 v22 v0 b131_overdue b131_gap b131_nextProbe)) else (0 : Int32)) else (0 : Int32))
set_option maxRecDepth 65536 in
set_option maxHeartbeats 40000000 in
theorem b0_311 {p : Program} {l : Launch} {e : Env} {s : State} {m : MethodId} {args : Array Value} {below : List Frame} {meth : Method} {c : Code} {Z : State} {a0 : Array Value} (B : Ctx p Z s a0 m meth c "com/example/quietwire/quietwire/protocol/OverdueJudgePinLaw" "law" code 31 (some .boolean)) {T0 : State} {locs : List Loc} {h : Heap} (h0 : Heap) (n0 : Nat) (v0 : Int64) (v2 : Int64) (v4 : Int32) (v5 : Int32) (v6 : Int32) (v7 : Int32) (v8 : Int32) (v9 : Int32) (v10 : Int32) (v11 : Int32) (v12 : Int32) (v13 : Int64) (b131 : Addr) (v16 : Int32) (v17 : Int64) (v19 : Int64) (v21 : Int32) (v22 : Int32) (b131_overdue : Int32) (b131_gap : Int64) (b131_nextProbe : Int64) (X0 : Stand p l e room_1 s m args below meth c T0 locs 1 3) (e0 : T0.heap = h) (N0 : Fr n0 locs) (Z0 : n0 ≤ h.size) (E_b131 : Exa Z h b131 "com/example/quietwire/quietwire/protocol/Overdue") (F_b131_overdue : Fld Z h b131 "com/example/quietwire/quietwire/protocol/Overdue" "overdue" "Z" (.int b131_overdue)) (F_b131_gap : Fld Z h b131 "com/example/quietwire/quietwire/protocol/Overdue" "gap" "J" (.long b131_gap)) (F_b131_nextProbe : Fld Z h b131 "com/example/quietwire/quietwire/protocol/Overdue" "nextProbe" "J" (.long b131_nextProbe)) (g_b131 : n0 ≤ b131) (r : Int32) (hr : f0_311 v0 v2 v4 v5 v6 v7 v8 v9 v10 v11 v12 v13 v16 v17 v19 v21 v22 b131_overdue b131_gap b131_nextProbe = r) :
    Fin p e below s 1 3 (Q0 n0 r) (T0.setTop (mkF m 311 #[.val (.long v0), .second, .val (.long v2), .second, .val (.int v4), .val (.int v5), .val (.int v6), .val (.int v7), .val (.int v8), .val (.int v9), .val (.int v10), .val (.int v11), .val (.int v12), .val (.long v13), .second, .val (.ref b131), .val (.int v16), .val (.long v17), .second, .val (.long v19), .second, .val (.int v21), .val (.int v22), .unset, .unset, .unset, .unset, .unset, .unset, .unset, .unset] [])) := by
  obtain ⟨hx, hZ, hw, hby, hml, hret, hown, hnm, hlk⟩ := B
  unfold f0_311 at hr
  refine Fin.by (B := T0.setTop (mkF m 313 #[.val (.long v0), .second, .val (.long v2), .second, .val (.int v4), .val (.int v5), .val (.int v6), .val (.int v7), .val (.int v8), .val (.int v9), .val (.int v10), .val (.int v11), .val (.int v12), .val (.long v13), .second, .val (.ref b131), .val (.int v16), .val (.long v17), .second, .val (.long v19), .second, .val (.int v21), .val (.int v22), .unset, .unset, .unset, .unset, .unset, .unset, .unset, .unset] [(.ref b131)])) (fun t k => ?_) ?_
  · show Steps p.tables e below (T0.setTop (mkF m 311 #[.val (.long v0), .second, .val (.long v2), .second, .val (.int v4), .val (.int v5), .val (.int v6), .val (.int v7), .val (.int v8), .val (.int v9), .val (.int v10), .val (.int v11), .val (.int v12), .val (.long v13), .second, .val (.ref b131), .val (.int v16), .val (.long v17), .second, .val (.long v19), .second, .val (.int v21), .val (.int v22), .unset, .unset, .unset, .unset, .unset, .unset, .unset, .unset] [])) _
    refine XS.aload X0.here hx rfl (hb hby at_311) rfl rfl ?_
    exact k
  -- pc 313: com/example/quietwire/quietwire/protocol/Overdue.isOverdue
  obtain ⟨cq5, kq5, q5a, q5b, q5c⟩ := isOf hZ e0 E_b131
  obtain ⟨_, _, ⟨T5, L5, k5, n5⟩, -, X5, ⟨Lc5, hQ5, l5, y5, z5⟩, st5⟩ := X0.virtualBack hx (y := (⟨"com/example/quietwire/quietwire/protocol/Overdue", "isOverdue", "()Z"⟩ : MethodName)) (z := (⟨"com/example/quietwire/quietwire/protocol/Overdue", "isOverdue", "()Z"⟩ : MethodName)) hown (mvT hZ (hw _ (List.mem_of_getElem? (i := 18) rfl))) (mvT hZ (hw _ (List.mem_of_getElem? (i := 19) rfl))) (notFace_of_selects (args := #[]) (mvT hZ (hw _ (List.mem_of_getElem? (i := 21) rfl)))) (mvT hZ (hw _ (List.mem_of_getElem? (i := 21) rfl))) (mvT hZ (hw _ (List.mem_of_getElem? (i := 20) rfl))) (by decide) (backOf (W := 0) (rm4 l Z a0 hw [] b131 b131_overdue b131_gap b131_nextProbe h n0 Z0 E_b131 F_b131_overdue F_b131_gap F_b131_nextProbe) hZ (hw _ (List.mem_of_getElem? (i := 22) rfl)) (hw _ (List.mem_of_getElem? (i := 2) rfl)) (by decide) (by decide)) q5a q5c (g := (mkF m 313 #[.val (.long v0), .second, .val (.long v2), .second, .val (.int v4), .val (.int v5), .val (.int v6), .val (.int v7), .val (.int v8), .val (.int v9), .val (.int v10), .val (.int v11), .val (.int v12), .val (.long v13), .second, .val (.ref b131), .val (.int v16), .val (.long v17), .second, .val (.long v19), .second, .val (.int v21), .val (.int v22), .unset, .unset, .unset, .unset, .unset, .unset, .unset, .unset] [(.ref b131)])) rfl (by rw [hml]; rfl) (Steps.refl _) (argsL := []) (rest := []) (lenOf pd_2 rfl) rfl (by show 2 * 0 + _ ≤ _; exact Nat.le_of_eq rfl) (hb hby at_313) (fun _ _ => ⟨rfl, e0, (by decide : 1 + R4.cells ≤ _), (by decide : 3 + R4.slots ≤ _)⟩)
  dsimp only [Pt.U, Pt.locs, Pt.cells, Pt.slots] at X5 l5 y5 z5 st5 hQ5
  subst l5 y5 z5
  obtain ⟨rfl, Nq5, e5⟩ := hQ5
  have N5 := Fr.app N0 Nq5
  refine Fin.by (B := T5.setTop (mkF m 316 #[.val (.long v0), .second, .val (.long v2), .second, .val (.int v4), .val (.int v5), .val (.int v6), .val (.int v7), .val (.int v8), .val (.int v9), .val (.int v10), .val (.int v11), .val (.int v12), .val (.long v13), .second, .val (.ref b131), .val (.int v16), .val (.long v17), .second, .val (.long v19), .second, .val (.int v21), .val (.int v22), .unset, .unset, .unset, .unset, .unset, .unset, .unset, .unset] [(.int (f4_0 b131_overdue b131_gap b131_nextProbe))])) (fun t k => st5.trans k) ?_
  refine Fin.by (B := T5.setTop (mkF m 318 #[.val (.long v0), .second, .val (.long v2), .second, .val (.int v4), .val (.int v5), .val (.int v6), .val (.int v7), .val (.int v8), .val (.int v9), .val (.int v10), .val (.int v11), .val (.int v12), .val (.long v13), .second, .val (.ref b131), .val (.int v16), .val (.long v17), .second, .val (.long v19), .second, .val (.int v21), .val (.int v22), .unset, .unset, .unset, .unset, .unset, .unset, .unset, .unset] [(.int v22), (.int (f4_0 b131_overdue b131_gap b131_nextProbe))])) (fun t k => ?_) ?_
  · show Steps p.tables e below (T5.setTop (mkF m 316 #[.val (.long v0), .second, .val (.long v2), .second, .val (.int v4), .val (.int v5), .val (.int v6), .val (.int v7), .val (.int v8), .val (.int v9), .val (.int v10), .val (.int v11), .val (.int v12), .val (.long v13), .second, .val (.ref b131), .val (.int v16), .val (.long v17), .second, .val (.long v19), .second, .val (.int v21), .val (.int v22), .unset, .unset, .unset, .unset, .unset, .unset, .unset, .unset] [(.int (f4_0 b131_overdue b131_gap b131_nextProbe))])) _
    refine XS.iload X5.here hx rfl (hb hby at_316) rfl  ?_
    exact k
  by_cases hc318 : (f4_0 b131_overdue b131_gap b131_nextProbe) = v22
  · rw [if_pos hc318] at hr
    refine Fin.by (B := T5.setTop (mkF m 323 #[.val (.long v0), .second, .val (.long v2), .second, .val (.int v4), .val (.int v5), .val (.int v6), .val (.int v7), .val (.int v8), .val (.int v9), .val (.int v10), .val (.int v11), .val (.int v12), .val (.long v13), .second, .val (.ref b131), .val (.int v16), .val (.long v17), .second, .val (.long v19), .second, .val (.int v21), .val (.int v22), .unset, .unset, .unset, .unset, .unset, .unset, .unset, .unset] [])) (fun t k => ?_) ?_
    · show Steps p.tables e below (T5.setTop (mkF m 318 #[.val (.long v0), .second, .val (.long v2), .second, .val (.int v4), .val (.int v5), .val (.int v6), .val (.int v7), .val (.int v8), .val (.int v9), .val (.int v10), .val (.int v11), .val (.int v12), .val (.long v13), .second, .val (.ref b131), .val (.int v16), .val (.long v17), .second, .val (.long v19), .second, .val (.int v21), .val (.int v22), .unset, .unset, .unset, .unset, .unset, .unset, .unset, .unset] [(.int v22), (.int (f4_0 b131_overdue b131_gap b131_nextProbe))])) _
      exact XS.icmpYes X5.here hx rfl (pc0 := 318) (pc' := 323) rfl (hb hby at_318) rfl (teq hc318).1 (by decide) (by decide) k
    refine Fin.by (B := T5.setTop (mkF m 325 #[.val (.long v0), .second, .val (.long v2), .second, .val (.int v4), .val (.int v5), .val (.int v6), .val (.int v7), .val (.int v8), .val (.int v9), .val (.int v10), .val (.int v11), .val (.int v12), .val (.long v13), .second, .val (.ref b131), .val (.int v16), .val (.long v17), .second, .val (.long v19), .second, .val (.int v21), .val (.int v22), .unset, .unset, .unset, .unset, .unset, .unset, .unset, .unset] [(.ref b131)])) (fun t k => ?_) ?_
    · show Steps p.tables e below (T5.setTop (mkF m 323 #[.val (.long v0), .second, .val (.long v2), .second, .val (.int v4), .val (.int v5), .val (.int v6), .val (.int v7), .val (.int v8), .val (.int v9), .val (.int v10), .val (.int v11), .val (.int v12), .val (.long v13), .second, .val (.ref b131), .val (.int v16), .val (.long v17), .second, .val (.long v19), .second, .val (.int v21), .val (.int v22), .unset, .unset, .unset, .unset, .unset, .unset, .unset, .unset] [])) _
      refine XS.aload X5.here hx rfl (hb hby at_323) rfl rfl ?_
      exact k
    -- pc 325: com/example/quietwire/quietwire/protocol/Overdue.isProbed
    obtain ⟨cq6, kq6, q6a, q6b, q6c⟩ := isOf hZ e5 E_b131
    obtain ⟨_, _, ⟨T6, L6, k6, n6⟩, -, X6, ⟨Lc6, hQ6, l6, y6, z6⟩, st6⟩ := X5.virtualBack hx (y := (⟨"com/example/quietwire/quietwire/protocol/Overdue", "isProbed", "()Z"⟩ : MethodName)) (z := (⟨"com/example/quietwire/quietwire/protocol/Overdue", "isProbed", "()Z"⟩ : MethodName)) hown (mvT hZ (hw _ (List.mem_of_getElem? (i := 23) rfl))) (mvT hZ (hw _ (List.mem_of_getElem? (i := 24) rfl))) (notFace_of_selects (args := #[]) (mvT hZ (hw _ (List.mem_of_getElem? (i := 26) rfl)))) (mvT hZ (hw _ (List.mem_of_getElem? (i := 26) rfl))) (mvT hZ (hw _ (List.mem_of_getElem? (i := 25) rfl))) (by decide) (backOf (W := 0) (rm5 l Z a0 hw [] b131 b131_overdue b131_gap b131_nextProbe h n0 Z0 E_b131 F_b131_overdue F_b131_gap F_b131_nextProbe) hZ (hw _ (List.mem_of_getElem? (i := 27) rfl)) (hw _ (List.mem_of_getElem? (i := 2) rfl)) (by decide) (by decide)) q6a q6c (g := (mkF m 325 #[.val (.long v0), .second, .val (.long v2), .second, .val (.int v4), .val (.int v5), .val (.int v6), .val (.int v7), .val (.int v8), .val (.int v9), .val (.int v10), .val (.int v11), .val (.int v12), .val (.long v13), .second, .val (.ref b131), .val (.int v16), .val (.long v17), .second, .val (.long v19), .second, .val (.int v21), .val (.int v22), .unset, .unset, .unset, .unset, .unset, .unset, .unset, .unset] [(.ref b131)])) rfl (by rw [hml]; rfl) (Steps.refl _) (argsL := []) (rest := []) (lenOf pd_2 rfl) rfl (by show 2 * 0 + _ ≤ _; exact Nat.le_of_eq rfl) (hb hby at_325) (fun _ _ => ⟨rfl, e5, (by decide : 1 + R5.cells ≤ _), (by decide : 3 + R5.slots ≤ _)⟩)
    dsimp only [Pt.U, Pt.locs, Pt.cells, Pt.slots] at X6 l6 y6 z6 st6 hQ6
    subst l6 y6 z6
    obtain ⟨rfl, Nq6, e6⟩ := hQ6
    have N6 := Fr.app N5 Nq6
    refine Fin.by (B := T6.setTop (mkF m 328 #[.val (.long v0), .second, .val (.long v2), .second, .val (.int v4), .val (.int v5), .val (.int v6), .val (.int v7), .val (.int v8), .val (.int v9), .val (.int v10), .val (.int v11), .val (.int v12), .val (.long v13), .second, .val (.ref b131), .val (.int v16), .val (.long v17), .second, .val (.long v19), .second, .val (.int v21), .val (.int v22), .unset, .unset, .unset, .unset, .unset, .unset, .unset, .unset] [(.int (f5_0 b131_overdue b131_gap b131_nextProbe))])) (fun t k => st6.trans k) ?_
    refine Fin.by (B := T6.setTop (mkF m 330 #[.val (.long v0), .second, .val (.long v2), .second, .val (.int v4), .val (.int v5), .val (.int v6), .val (.int v7), .val (.int v8), .val (.int v9), .val (.int v10), .val (.int v11), .val (.int v12), .val (.long v13), .second, .val (.ref b131), .val (.int v16), .val (.long v17), .second, .val (.long v19), .second, .val (.int v21), .val (.int v22), .unset, .unset, .unset, .unset, .unset, .unset, .unset, .unset] [(.int v21), (.int (f5_0 b131_overdue b131_gap b131_nextProbe))])) (fun t k => ?_) ?_
    · show Steps p.tables e below (T6.setTop (mkF m 328 #[.val (.long v0), .second, .val (.long v2), .second, .val (.int v4), .val (.int v5), .val (.int v6), .val (.int v7), .val (.int v8), .val (.int v9), .val (.int v10), .val (.int v11), .val (.int v12), .val (.long v13), .second, .val (.ref b131), .val (.int v16), .val (.long v17), .second, .val (.long v19), .second, .val (.int v21), .val (.int v22), .unset, .unset, .unset, .unset, .unset, .unset, .unset, .unset] [(.int (f5_0 b131_overdue b131_gap b131_nextProbe))])) _
      refine XS.iload X6.here hx rfl (hb hby at_328) rfl  ?_
      exact k
    by_cases hc330 : (f5_0 b131_overdue b131_gap b131_nextProbe) = v21
    · rw [if_pos hc330] at hr
      refine Fin.by (B := T6.setTop (mkF m 335 #[.val (.long v0), .second, .val (.long v2), .second, .val (.int v4), .val (.int v5), .val (.int v6), .val (.int v7), .val (.int v8), .val (.int v9), .val (.int v10), .val (.int v11), .val (.int v12), .val (.long v13), .second, .val (.ref b131), .val (.int v16), .val (.long v17), .second, .val (.long v19), .second, .val (.int v21), .val (.int v22), .unset, .unset, .unset, .unset, .unset, .unset, .unset, .unset] [])) (fun t k => ?_) ?_
      · show Steps p.tables e below (T6.setTop (mkF m 330 #[.val (.long v0), .second, .val (.long v2), .second, .val (.int v4), .val (.int v5), .val (.int v6), .val (.int v7), .val (.int v8), .val (.int v9), .val (.int v10), .val (.int v11), .val (.int v12), .val (.long v13), .second, .val (.ref b131), .val (.int v16), .val (.long v17), .second, .val (.long v19), .second, .val (.int v21), .val (.int v22), .unset, .unset, .unset, .unset, .unset, .unset, .unset, .unset] [(.int v21), (.int (f5_0 b131_overdue b131_gap b131_nextProbe))])) _
        exact XS.icmpYes X6.here hx rfl (pc0 := 330) (pc' := 335) rfl (hb hby at_330) rfl (teq hc330).1 (by decide) (by decide) k
      refine Fin.by (B := T6.setTop (mkF m 337 #[.val (.long v0), .second, .val (.long v2), .second, .val (.int v4), .val (.int v5), .val (.int v6), .val (.int v7), .val (.int v8), .val (.int v9), .val (.int v10), .val (.int v11), .val (.int v12), .val (.long v13), .second, .val (.ref b131), .val (.int v16), .val (.long v17), .second, .val (.long v19), .second, .val (.int v21), .val (.int v22), .unset, .unset, .unset, .unset, .unset, .unset, .unset, .unset] [(.int v12)])) (fun t k => ?_) ?_
      · show Steps p.tables e below (T6.setTop (mkF m 335 #[.val (.long v0), .second, .val (.long v2), .second, .val (.int v4), .val (.int v5), .val (.int v6), .val (.int v7), .val (.int v8), .val (.int v9), .val (.int v10), .val (.int v11), .val (.int v12), .val (.long v13), .second, .val (.ref b131), .val (.int v16), .val (.long v17), .second, .val (.long v19), .second, .val (.int v21), .val (.int v22), .unset, .unset, .unset, .unset, .unset, .unset, .unset, .unset] [])) _
        refine XS.iload X6.here hx rfl (hb hby at_335) rfl  ?_
        exact k
      by_cases hc337 : v12 = (0 : Int32)
      · rw [if_pos hc337] at hr
        refine Fin.by (B := T6.setTop (mkF m 344 #[.val (.long v0), .second, .val (.long v2), .second, .val (.int v4), .val (.int v5), .val (.int v6), .val (.int v7), .val (.int v8), .val (.int v9), .val (.int v10), .val (.int v11), .val (.int v12), .val (.long v13), .second, .val (.ref b131), .val (.int v16), .val (.long v17), .second, .val (.long v19), .second, .val (.int v21), .val (.int v22), .unset, .unset, .unset, .unset, .unset, .unset, .unset, .unset] [])) (fun t k => ?_) ?_
        · show Steps p.tables e below (T6.setTop (mkF m 337 #[.val (.long v0), .second, .val (.long v2), .second, .val (.int v4), .val (.int v5), .val (.int v6), .val (.int v7), .val (.int v8), .val (.int v9), .val (.int v10), .val (.int v11), .val (.int v12), .val (.long v13), .second, .val (.ref b131), .val (.int v16), .val (.long v17), .second, .val (.long v19), .second, .val (.int v21), .val (.int v22), .unset, .unset, .unset, .unset, .unset, .unset, .unset, .unset] [(.int v12)])) _
          exact XS.ifYes X6.here hx rfl (pc0 := 337) (pc' := 344) rfl (hb hby at_337) rfl ((if0 _ _).trans (teq hc337).1) (by decide) (by decide) k
        refine Fin.by (B := T6.setTop (mkF m 345 #[.val (.long v0), .second, .val (.long v2), .second, .val (.int v4), .val (.int v5), .val (.int v6), .val (.int v7), .val (.int v8), .val (.int v9), .val (.int v10), .val (.int v11), .val (.int v12), .val (.long v13), .second, .val (.ref b131), .val (.int v16), .val (.long v17), .second, .val (.long v19), .second, .val (.int v21), .val (.int v22), .unset, .unset, .unset, .unset, .unset, .unset, .unset, .unset] [(.long v2)])) (fun t k => ?_) ?_
        · show Steps p.tables e below (T6.setTop (mkF m 344 #[.val (.long v0), .second, .val (.long v2), .second, .val (.int v4), .val (.int v5), .val (.int v6), .val (.int v7), .val (.int v8), .val (.int v9), .val (.int v10), .val (.int v11), .val (.int v12), .val (.long v13), .second, .val (.ref b131), .val (.int v16), .val (.long v17), .second, .val (.long v19), .second, .val (.int v21), .val (.int v22), .unset, .unset, .unset, .unset, .unset, .unset, .unset, .unset] [])) _
          refine XS.lloadN X6.here hx rfl (hb hby at_344) rfl  ?_
          exact k
        exact b0_345 ⟨hx, hZ, hw, hby, hml, hret, hown, hnm, hlk⟩ h0 n0 v0 v2 v4 v5 v6 v7 v8 v9 v10 v11 v12 v13 b131 v16 v17 v19 v21 v22 v2 b131_overdue b131_gap b131_nextProbe X6 e6 N6 Z0 E_b131 F_b131_overdue F_b131_gap F_b131_nextProbe g_b131 _ hr
      · rw [if_neg hc337] at hr
        refine Fin.by (B := T6.setTop (mkF m 340 #[.val (.long v0), .second, .val (.long v2), .second, .val (.int v4), .val (.int v5), .val (.int v6), .val (.int v7), .val (.int v8), .val (.int v9), .val (.int v10), .val (.int v11), .val (.int v12), .val (.long v13), .second, .val (.ref b131), .val (.int v16), .val (.long v17), .second, .val (.long v19), .second, .val (.int v21), .val (.int v22), .unset, .unset, .unset, .unset, .unset, .unset, .unset, .unset] [])) (fun t k => ?_) ?_
        · show Steps p.tables e below (T6.setTop (mkF m 337 #[.val (.long v0), .second, .val (.long v2), .second, .val (.int v4), .val (.int v5), .val (.int v6), .val (.int v7), .val (.int v8), .val (.int v9), .val (.int v10), .val (.int v11), .val (.int v12), .val (.long v13), .second, .val (.ref b131), .val (.int v16), .val (.long v17), .second, .val (.long v19), .second, .val (.int v21), .val (.int v22), .unset, .unset, .unset, .unset, .unset, .unset, .unset, .unset] [(.int v12)])) _
          exact XS.ifNo X6.here hx rfl (hb hby at_337) rfl ((if0 _ _).trans (feq hc337).1) k
        refine Fin.by (B := T6.setTop (mkF m 345 #[.val (.long v0), .second, .val (.long v2), .second, .val (.int v4), .val (.int v5), .val (.int v6), .val (.int v7), .val (.int v8), .val (.int v9), .val (.int v10), .val (.int v11), .val (.int v12), .val (.long v13), .second, .val (.ref b131), .val (.int v16), .val (.long v17), .second, .val (.long v19), .second, .val (.int v21), .val (.int v22), .unset, .unset, .unset, .unset, .unset, .unset, .unset, .unset] [(.long v0)])) (fun t k => ?_) ?_
        · show Steps p.tables e below (T6.setTop (mkF m 340 #[.val (.long v0), .second, .val (.long v2), .second, .val (.int v4), .val (.int v5), .val (.int v6), .val (.int v7), .val (.int v8), .val (.int v9), .val (.int v10), .val (.int v11), .val (.int v12), .val (.long v13), .second, .val (.ref b131), .val (.int v16), .val (.long v17), .second, .val (.long v19), .second, .val (.int v21), .val (.int v22), .unset, .unset, .unset, .unset, .unset, .unset, .unset, .unset] [])) _
          refine XS.lloadN X6.here hx rfl (hb hby at_340) rfl  ?_
          show Steps p.tables e below (T6.setTop (mkF m 341 #[.val (.long v0), .second, .val (.long v2), .second, .val (.int v4), .val (.int v5), .val (.int v6), .val (.int v7), .val (.int v8), .val (.int v9), .val (.int v10), .val (.int v11), .val (.int v12), .val (.long v13), .second, .val (.ref b131), .val (.int v16), .val (.long v17), .second, .val (.long v19), .second, .val (.int v21), .val (.int v22), .unset, .unset, .unset, .unset, .unset, .unset, .unset, .unset] [(.long v0)])) _
          refine XS.goto X6.here hx rfl (pc0 := 341) (pc' := 345) rfl (hb hby at_341) (by decide) (by decide) ?_
          exact k
        exact b0_345 ⟨hx, hZ, hw, hby, hml, hret, hown, hnm, hlk⟩ h0 n0 v0 v2 v4 v5 v6 v7 v8 v9 v10 v11 v12 v13 b131 v16 v17 v19 v21 v22 v0 b131_overdue b131_gap b131_nextProbe X6 e6 N6 Z0 E_b131 F_b131_overdue F_b131_gap F_b131_nextProbe g_b131 _ hr
    · rw [if_neg hc330] at hr
      refine Fin.by (B := T6.setTop (mkF m 333 #[.val (.long v0), .second, .val (.long v2), .second, .val (.int v4), .val (.int v5), .val (.int v6), .val (.int v7), .val (.int v8), .val (.int v9), .val (.int v10), .val (.int v11), .val (.int v12), .val (.long v13), .second, .val (.ref b131), .val (.int v16), .val (.long v17), .second, .val (.long v19), .second, .val (.int v21), .val (.int v22), .unset, .unset, .unset, .unset, .unset, .unset, .unset, .unset] [])) (fun t k => ?_) ?_
      · show Steps p.tables e below (T6.setTop (mkF m 330 #[.val (.long v0), .second, .val (.long v2), .second, .val (.int v4), .val (.int v5), .val (.int v6), .val (.int v7), .val (.int v8), .val (.int v9), .val (.int v10), .val (.int v11), .val (.int v12), .val (.long v13), .second, .val (.ref b131), .val (.int v16), .val (.long v17), .second, .val (.long v19), .second, .val (.int v21), .val (.int v22), .unset, .unset, .unset, .unset, .unset, .unset, .unset, .unset] [(.int v21), (.int (f5_0 b131_overdue b131_gap b131_nextProbe))])) _
        exact XS.icmpNo X6.here hx rfl (hb hby at_330) rfl (feq hc330).1 k
      refine Fin.by (B := T6.setTop (mkF m 334 #[.val (.long v0), .second, .val (.long v2), .second, .val (.int v4), .val (.int v5), .val (.int v6), .val (.int v7), .val (.int v8), .val (.int v9), .val (.int v10), .val (.int v11), .val (.int v12), .val (.long v13), .second, .val (.ref b131), .val (.int v16), .val (.long v17), .second, .val (.long v19), .second, .val (.int v21), .val (.int v22), .unset, .unset, .unset, .unset, .unset, .unset, .unset, .unset] [(.int (0 : Int32))])) (fun t k => ?_) ?_
      · show Steps p.tables e below (T6.setTop (mkF m 333 #[.val (.long v0), .second, .val (.long v2), .second, .val (.int v4), .val (.int v5), .val (.int v6), .val (.int v7), .val (.int v8), .val (.int v9), .val (.int v10), .val (.int v11), .val (.int v12), .val (.long v13), .second, .val (.ref b131), .val (.int v16), .val (.long v17), .second, .val (.long v19), .second, .val (.int v21), .val (.int v22), .unset, .unset, .unset, .unset, .unset, .unset, .unset, .unset] [])) _
        refine XS.iconst X6.here hx rfl (hb hby at_333) ?_
        exact k
      subst hr
      exact own_retN X6 hx hlk (t := .boolean) hret (by simp) (hb hby at_334) (by decide) (by decide) ⟨rfl, N6⟩
  · rw [if_neg hc318] at hr
    refine Fin.by (B := T5.setTop (mkF m 321 #[.val (.long v0), .second, .val (.long v2), .second, .val (.int v4), .val (.int v5), .val (.int v6), .val (.int v7), .val (.int v8), .val (.int v9), .val (.int v10), .val (.int v11), .val (.int v12), .val (.long v13), .second, .val (.ref b131), .val (.int v16), .val (.long v17), .second, .val (.long v19), .second, .val (.int v21), .val (.int v22), .unset, .unset, .unset, .unset, .unset, .unset, .unset, .unset] [])) (fun t k => ?_) ?_
    · show Steps p.tables e below (T5.setTop (mkF m 318 #[.val (.long v0), .second, .val (.long v2), .second, .val (.int v4), .val (.int v5), .val (.int v6), .val (.int v7), .val (.int v8), .val (.int v9), .val (.int v10), .val (.int v11), .val (.int v12), .val (.long v13), .second, .val (.ref b131), .val (.int v16), .val (.long v17), .second, .val (.long v19), .second, .val (.int v21), .val (.int v22), .unset, .unset, .unset, .unset, .unset, .unset, .unset, .unset] [(.int v22), (.int (f4_0 b131_overdue b131_gap b131_nextProbe))])) _
      exact XS.icmpNo X5.here hx rfl (hb hby at_318) rfl (feq hc318).1 k
    refine Fin.by (B := T5.setTop (mkF m 322 #[.val (.long v0), .second, .val (.long v2), .second, .val (.int v4), .val (.int v5), .val (.int v6), .val (.int v7), .val (.int v8), .val (.int v9), .val (.int v10), .val (.int v11), .val (.int v12), .val (.long v13), .second, .val (.ref b131), .val (.int v16), .val (.long v17), .second, .val (.long v19), .second, .val (.int v21), .val (.int v22), .unset, .unset, .unset, .unset, .unset, .unset, .unset, .unset] [(.int (0 : Int32))])) (fun t k => ?_) ?_
    · show Steps p.tables e below (T5.setTop (mkF m 321 #[.val (.long v0), .second, .val (.long v2), .second, .val (.int v4), .val (.int v5), .val (.int v6), .val (.int v7), .val (.int v8), .val (.int v9), .val (.int v10), .val (.int v11), .val (.int v12), .val (.long v13), .second, .val (.ref b131), .val (.int v16), .val (.long v17), .second, .val (.long v19), .second, .val (.int v21), .val (.int v22), .unset, .unset, .unset, .unset, .unset, .unset, .unset, .unset] [])) _
      refine XS.iconst X5.here hx rfl (hb hby at_321) ?_
      exact k
    subst hr
    exact own_retN X5 hx hlk (t := .boolean) hret (by simp) (hb hby at_322) (by decide) (by decide) ⟨rfl, N5⟩
def f0_287 (v0 : Int64) (v2 : Int64) (v4 : Int32) (v5 : Int32) (v6 : Int32) (v7 : Int32) (v8 : Int32) (v9 : Int32) (v10 : Int32) (v11 : Int32) (v12 : Int32) (v13 : Int64) (v16 : Int32) (v17 : Int64) (v19 : Int64) (v21 : Int32) (t0 : Int32) (b131_overdue : Int32) (b131_gap : Int64) (b131_nextProbe : Int64) : Int32 := (if v21 = (0 : Int32) then (f0_311 v0 v2 v4 v5 v6 v7 v8 v9 v10 v11 v12 v13 v16 (0 : Int64) v19 v21 t0 b131_overdue b131_gap b131_nextProbe) else (if v16 = (0 : Int32) then (f0_311 v0 v2 v4 v5 v6 v7 v8 v9 v10 v11 v12 v13 v16 (1 : Int64) v2 v21 t0 b131_overdue b131_gap b131_nextProbe) else (f0_311 v0 v2 v4 v5 v6 v7 v8 v9 v10 v11 v12 v13 v16 v17 v19 v21 t0 b131_overdue b131_gap b131_nextProbe)))
set_option maxRecDepth 65536 in
set_option maxHeartbeats 40000000 in
theorem b0_287 {p : Program} {l : Launch} {e : Env} {s : State} {m : MethodId} {args : Array Value} {below : List Frame} {meth : Method} {c : Code} {Z : State} {a0 : Array Value} (B : Ctx p Z s a0 m meth c "com/example/quietwire/quietwire/protocol/OverdueJudgePinLaw" "law" code 31 (some .boolean)) {T0 : State} {locs : List Loc} {h : Heap} (h0 : Heap) (n0 : Nat) (v0 : Int64) (v2 : Int64) (v4 : Int32) (v5 : Int32) (v6 : Int32) (v7 : Int32) (v8 : Int32) (v9 : Int32) (v10 : Int32) (v11 : Int32) (v12 : Int32) (v13 : Int64) (b131 : Addr) (v16 : Int32) (v17 : Int64) (v19 : Int64) (v21 : Int32) (t0 : Int32) (b131_overdue : Int32) (b131_gap : Int64) (b131_nextProbe : Int64) (X0 : Stand p l e room_1 s m args below meth c T0 locs 1 3) (e0 : T0.heap = h) (N0 : Fr n0 locs) (Z0 : n0 ≤ h.size) (E_b131 : Exa Z h b131 "com/example/quietwire/quietwire/protocol/Overdue") (F_b131_overdue : Fld Z h b131 "com/example/quietwire/quietwire/protocol/Overdue" "overdue" "Z" (.int b131_overdue)) (F_b131_gap : Fld Z h b131 "com/example/quietwire/quietwire/protocol/Overdue" "gap" "J" (.long b131_gap)) (F_b131_nextProbe : Fld Z h b131 "com/example/quietwire/quietwire/protocol/Overdue" "nextProbe" "J" (.long b131_nextProbe)) (g_b131 : n0 ≤ b131) (r : Int32) (hr : f0_287 v0 v2 v4 v5 v6 v7 v8 v9 v10 v11 v12 v13 v16 v17 v19 v21 t0 b131_overdue b131_gap b131_nextProbe = r) :
    Fin p e below s 1 3 (Q0 n0 r) (T0.setTop (mkF m 287 #[.val (.long v0), .second, .val (.long v2), .second, .val (.int v4), .val (.int v5), .val (.int v6), .val (.int v7), .val (.int v8), .val (.int v9), .val (.int v10), .val (.int v11), .val (.int v12), .val (.long v13), .second, .val (.ref b131), .val (.int v16), .val (.long v17), .second, .val (.long v19), .second, .val (.int v21), .unset, .unset, .unset, .unset, .unset, .unset, .unset, .unset, .unset] [(.int t0)])) := by
  obtain ⟨hx, hZ, hw, hby, hml, hret, hown, hnm, hlk⟩ := B
  unfold f0_287 at hr
  refine Fin.by (B := T0.setTop (mkF m 291 #[.val (.long v0), .second, .val (.long v2), .second, .val (.int v4), .val (.int v5), .val (.int v6), .val (.int v7), .val (.int v8), .val (.int v9), .val (.int v10), .val (.int v11), .val (.int v12), .val (.long v13), .second, .val (.ref b131), .val (.int v16), .val (.long v17), .second, .val (.long v19), .second, .val (.int v21), .val (.int t0), .unset, .unset, .unset, .unset, .unset, .unset, .unset, .unset] [(.int v21)])) (fun t k => ?_) ?_
  · show Steps p.tables e below (T0.setTop (mkF m 287 #[.val (.long v0), .second, .val (.long v2), .second, .val (.int v4), .val (.int v5), .val (.int v6), .val (.int v7), .val (.int v8), .val (.int v9), .val (.int v10), .val (.int v11), .val (.int v12), .val (.long v13), .second, .val (.ref b131), .val (.int v16), .val (.long v17), .second, .val (.long v19), .second, .val (.int v21), .unset, .unset, .unset, .unset, .unset, .unset, .unset, .unset, .unset] [(.int t0)])) _
    refine XS.istore X0.here hx rfl (hb hby at_287) rfl (l' := #[.val (.long v0), .second, .val (.long v2), .second, .val (.int v4), .val (.int v5), .val (.int v6), .val (.int v7), .val (.int v8), .val (.int v9), .val (.int v10), .val (.int v11), .val (.int v12), .val (.long v13), .second, .val (.ref b131), .val (.int v16), .val (.long v17), .second, .val (.long v19), .second, .val (.int v21), .val (.int t0), .unset, .unset, .unset, .unset, .unset, .unset, .unset, .unset]) rfl ?_
    show Steps p.tables e below (T0.setTop (mkF m 289 #[.val (.long v0), .second, .val (.long v2), .second, .val (.int v4), .val (.int v5), .val (.int v6), .val (.int v7), .val (.int v8), .val (.int v9), .val (.int v10), .val (.int v11), .val (.int v12), .val (.long v13), .second, .val (.ref b131), .val (.int v16), .val (.long v17), .second, .val (.long v19), .second, .val (.int v21), .val (.int t0), .unset, .unset, .unset, .unset, .unset, .unset, .unset, .unset] [])) _
    refine XS.iload X0.here hx rfl (hb hby at_289) rfl  ?_
    exact k
  by_cases hc291 : v21 = (0 : Int32)
  · rw [if_pos hc291] at hr
    refine Fin.by (B := T0.setTop (mkF m 294 #[.val (.long v0), .second, .val (.long v2), .second, .val (.int v4), .val (.int v5), .val (.int v6), .val (.int v7), .val (.int v8), .val (.int v9), .val (.int v10), .val (.int v11), .val (.int v12), .val (.long v13), .second, .val (.ref b131), .val (.int v16), .val (.long v17), .second, .val (.long v19), .second, .val (.int v21), .val (.int t0), .unset, .unset, .unset, .unset, .unset, .unset, .unset, .unset] [])) (fun t k => ?_) ?_
    · show Steps p.tables e below (T0.setTop (mkF m 291 #[.val (.long v0), .second, .val (.long v2), .second, .val (.int v4), .val (.int v5), .val (.int v6), .val (.int v7), .val (.int v8), .val (.int v9), .val (.int v10), .val (.int v11), .val (.int v12), .val (.long v13), .second, .val (.ref b131), .val (.int v16), .val (.long v17), .second, .val (.long v19), .second, .val (.int v21), .val (.int t0), .unset, .unset, .unset, .unset, .unset, .unset, .unset, .unset] [(.int v21)])) _
      exact XS.ifNo X0.here hx rfl (hb hby at_291) rfl ((if0 _ _).trans (teq hc291).2) k
    refine Fin.by (B := T0.setTop (mkF m 311 #[.val (.long v0), .second, .val (.long v2), .second, .val (.int v4), .val (.int v5), .val (.int v6), .val (.int v7), .val (.int v8), .val (.int v9), .val (.int v10), .val (.int v11), .val (.int v12), .val (.long v13), .second, .val (.ref b131), .val (.int v16), .val (.long (0 : Int64)), .second, .val (.long v19), .second, .val (.int v21), .val (.int t0), .unset, .unset, .unset, .unset, .unset, .unset, .unset, .unset] [])) (fun t k => ?_) ?_
    · show Steps p.tables e below (T0.setTop (mkF m 294 #[.val (.long v0), .second, .val (.long v2), .second, .val (.int v4), .val (.int v5), .val (.int v6), .val (.int v7), .val (.int v8), .val (.int v9), .val (.int v10), .val (.int v11), .val (.int v12), .val (.long v13), .second, .val (.ref b131), .val (.int v16), .val (.long v17), .second, .val (.long v19), .second, .val (.int v21), .val (.int t0), .unset, .unset, .unset, .unset, .unset, .unset, .unset, .unset] [])) _
      refine XS.lconst X0.here hx rfl (hb hby at_294) ?_
      show Steps p.tables e below (T0.setTop (mkF m 295 #[.val (.long v0), .second, .val (.long v2), .second, .val (.int v4), .val (.int v5), .val (.int v6), .val (.int v7), .val (.int v8), .val (.int v9), .val (.int v10), .val (.int v11), .val (.int v12), .val (.long v13), .second, .val (.ref b131), .val (.int v16), .val (.long v17), .second, .val (.long v19), .second, .val (.int v21), .val (.int t0), .unset, .unset, .unset, .unset, .unset, .unset, .unset, .unset] [(.long (0 : Int64))])) _
      refine XS.lstore X0.here hx rfl (hb hby at_295) rfl (l' := #[.val (.long v0), .second, .val (.long v2), .second, .val (.int v4), .val (.int v5), .val (.int v6), .val (.int v7), .val (.int v8), .val (.int v9), .val (.int v10), .val (.int v11), .val (.int v12), .val (.long v13), .second, .val (.ref b131), .val (.int v16), .val (.long (0 : Int64)), .second, .val (.long v19), .second, .val (.int v21), .val (.int t0), .unset, .unset, .unset, .unset, .unset, .unset, .unset, .unset]) rfl ?_
      show Steps p.tables e below (T0.setTop (mkF m 297 #[.val (.long v0), .second, .val (.long v2), .second, .val (.int v4), .val (.int v5), .val (.int v6), .val (.int v7), .val (.int v8), .val (.int v9), .val (.int v10), .val (.int v11), .val (.int v12), .val (.long v13), .second, .val (.ref b131), .val (.int v16), .val (.long (0 : Int64)), .second, .val (.long v19), .second, .val (.int v21), .val (.int t0), .unset, .unset, .unset, .unset, .unset, .unset, .unset, .unset] [])) _
      refine XS.goto X0.here hx rfl (pc0 := 297) (pc' := 311) rfl (hb hby at_297) (by decide) (by decide) ?_
      exact k
    exact b0_311 ⟨hx, hZ, hw, hby, hml, hret, hown, hnm, hlk⟩ h0 n0 v0 v2 v4 v5 v6 v7 v8 v9 v10 v11 v12 v13 b131 v16 (0 : Int64) v19 v21 t0 b131_overdue b131_gap b131_nextProbe X0 e0 N0 Z0 E_b131 F_b131_overdue F_b131_gap F_b131_nextProbe g_b131 _ hr
  · rw [if_neg hc291] at hr
    refine Fin.by (B := T0.setTop (mkF m 300 #[.val (.long v0), .second, .val (.long v2), .second, .val (.int v4), .val (.int v5), .val (.int v6), .val (.int v7), .val (.int v8), .val (.int v9), .val (.int v10), .val (.int v11), .val (.int v12), .val (.long v13), .second, .val (.ref b131), .val (.int v16), .val (.long v17), .second, .val (.long v19), .second, .val (.int v21), .val (.int t0), .unset, .unset, .unset, .unset, .unset, .unset, .unset, .unset] [])) (fun t k => ?_) ?_
    · show Steps p.tables e below (T0.setTop (mkF m 291 #[.val (.long v0), .second, .val (.long v2), .second, .val (.int v4), .val (.int v5), .val (.int v6), .val (.int v7), .val (.int v8), .val (.int v9), .val (.int v10), .val (.int v11), .val (.int v12), .val (.long v13), .second, .val (.ref b131), .val (.int v16), .val (.long v17), .second, .val (.long v19), .second, .val (.int v21), .val (.int t0), .unset, .unset, .unset, .unset, .unset, .unset, .unset, .unset] [(.int v21)])) _
      exact XS.ifYes X0.here hx rfl (pc0 := 291) (pc' := 300) rfl (hb hby at_291) rfl ((if0 _ _).trans (feq hc291).2) (by decide) (by decide) k
    refine Fin.by (B := T0.setTop (mkF m 302 #[.val (.long v0), .second, .val (.long v2), .second, .val (.int v4), .val (.int v5), .val (.int v6), .val (.int v7), .val (.int v8), .val (.int v9), .val (.int v10), .val (.int v11), .val (.int v12), .val (.long v13), .second, .val (.ref b131), .val (.int v16), .val (.long v17), .second, .val (.long v19), .second, .val (.int v21), .val (.int t0), .unset, .unset, .unset, .unset, .unset, .unset, .unset, .unset] [(.int v16)])) (fun t k => ?_) ?_
    · show Steps p.tables e below (T0.setTop (mkF m 300 #[.val (.long v0), .second, .val (.long v2), .second, .val (.int v4), .val (.int v5), .val (.int v6), .val (.int v7), .val (.int v8), .val (.int v9), .val (.int v10), .val (.int v11), .val (.int v12), .val (.long v13), .second, .val (.ref b131), .val (.int v16), .val (.long v17), .second, .val (.long v19), .second, .val (.int v21), .val (.int t0), .unset, .unset, .unset, .unset, .unset, .unset, .unset, .unset] [])) _
      refine XS.iload X0.here hx rfl (hb hby at_300) rfl  ?_
      exact k
    by_cases hc302 : v16 = (0 : Int32)
    · rw [if_pos hc302] at hr
      refine Fin.by (B := T0.setTop (mkF m 305 #[.val (.long v0), .second, .val (.long v2), .second, .val (.int v4), .val (.int v5), .val (.int v6), .val (.int v7), .val (.int v8), .val (.int v9), .val (.int v10), .val (.int v11), .val (.int v12), .val (.long v13), .second, .val (.ref b131), .val (.int v16), .val (.long v17), .second, .val (.long v19), .second, .val (.int v21), .val (.int t0), .unset, .unset, .unset, .unset, .unset, .unset, .unset, .unset] [])) (fun t k => ?_) ?_
      · show Steps p.tables e below (T0.setTop (mkF m 302 #[.val (.long v0), .second, .val (.long v2), .second, .val (.int v4), .val (.int v5), .val (.int v6), .val (.int v7), .val (.int v8), .val (.int v9), .val (.int v10), .val (.int v11), .val (.int v12), .val (.long v13), .second, .val (.ref b131), .val (.int v16), .val (.long v17), .second, .val (.long v19), .second, .val (.int v21), .val (.int t0), .unset, .unset, .unset, .unset, .unset, .unset, .unset, .unset] [(.int v16)])) _
        exact XS.ifNo X0.here hx rfl (hb hby at_302) rfl ((if0 _ _).trans (teq hc302).2) k
      refine Fin.by (B := T0.setTop (mkF m 311 #[.val (.long v0), .second, .val (.long v2), .second, .val (.int v4), .val (.int v5), .val (.int v6), .val (.int v7), .val (.int v8), .val (.int v9), .val (.int v10), .val (.int v11), .val (.int v12), .val (.long v13), .second, .val (.ref b131), .val (.int v16), .val (.long (1 : Int64)), .second, .val (.long v2), .second, .val (.int v21), .val (.int t0), .unset, .unset, .unset, .unset, .unset, .unset, .unset, .unset] [])) (fun t k => ?_) ?_
      · show Steps p.tables e below (T0.setTop (mkF m 305 #[.val (.long v0), .second, .val (.long v2), .second, .val (.int v4), .val (.int v5), .val (.int v6), .val (.int v7), .val (.int v8), .val (.int v9), .val (.int v10), .val (.int v11), .val (.int v12), .val (.long v13), .second, .val (.ref b131), .val (.int v16), .val (.long v17), .second, .val (.long v19), .second, .val (.int v21), .val (.int t0), .unset, .unset, .unset, .unset, .unset, .unset, .unset, .unset] [])) _
        refine XS.lconst X0.here hx rfl (hb hby at_305) ?_
        show Steps p.tables e below (T0.setTop (mkF m 306 #[.val (.long v0), .second, .val (.long v2), .second, .val (.int v4), .val (.int v5), .val (.int v6), .val (.int v7), .val (.int v8), .val (.int v9), .val (.int v10), .val (.int v11), .val (.int v12), .val (.long v13), .second, .val (.ref b131), .val (.int v16), .val (.long v17), .second, .val (.long v19), .second, .val (.int v21), .val (.int t0), .unset, .unset, .unset, .unset, .unset, .unset, .unset, .unset] [(.long (1 : Int64))])) _
        refine XS.lstore X0.here hx rfl (hb hby at_306) rfl (l' := #[.val (.long v0), .second, .val (.long v2), .second, .val (.int v4), .val (.int v5), .val (.int v6), .val (.int v7), .val (.int v8), .val (.int v9), .val (.int v10), .val (.int v11), .val (.int v12), .val (.long v13), .second, .val (.ref b131), .val (.int v16), .val (.long (1 : Int64)), .second, .val (.long v19), .second, .val (.int v21), .val (.int t0), .unset, .unset, .unset, .unset, .unset, .unset, .unset, .unset]) rfl ?_
        show Steps p.tables e below (T0.setTop (mkF m 308 #[.val (.long v0), .second, .val (.long v2), .second, .val (.int v4), .val (.int v5), .val (.int v6), .val (.int v7), .val (.int v8), .val (.int v9), .val (.int v10), .val (.int v11), .val (.int v12), .val (.long v13), .second, .val (.ref b131), .val (.int v16), .val (.long (1 : Int64)), .second, .val (.long v19), .second, .val (.int v21), .val (.int t0), .unset, .unset, .unset, .unset, .unset, .unset, .unset, .unset] [])) _
        refine XS.lloadN X0.here hx rfl (hb hby at_308) rfl  ?_
        show Steps p.tables e below (T0.setTop (mkF m 309 #[.val (.long v0), .second, .val (.long v2), .second, .val (.int v4), .val (.int v5), .val (.int v6), .val (.int v7), .val (.int v8), .val (.int v9), .val (.int v10), .val (.int v11), .val (.int v12), .val (.long v13), .second, .val (.ref b131), .val (.int v16), .val (.long (1 : Int64)), .second, .val (.long v19), .second, .val (.int v21), .val (.int t0), .unset, .unset, .unset, .unset, .unset, .unset, .unset, .unset] [(.long v2)])) _
        refine XS.lstore X0.here hx rfl (hb hby at_309) rfl (l' := #[.val (.long v0), .second, .val (.long v2), .second, .val (.int v4), .val (.int v5), .val (.int v6), .val (.int v7), .val (.int v8), .val (.int v9), .val (.int v10), .val (.int v11), .val (.int v12), .val (.long v13), .second, .val (.ref b131), .val (.int v16), .val (.long (1 : Int64)), .second, .val (.long v2), .second, .val (.int v21), .val (.int t0), .unset, .unset, .unset, .unset, .unset, .unset, .unset, .unset]) rfl ?_
        exact k
      exact b0_311 ⟨hx, hZ, hw, hby, hml, hret, hown, hnm, hlk⟩ h0 n0 v0 v2 v4 v5 v6 v7 v8 v9 v10 v11 v12 v13 b131 v16 (1 : Int64) v2 v21 t0 b131_overdue b131_gap b131_nextProbe X0 e0 N0 Z0 E_b131 F_b131_overdue F_b131_gap F_b131_nextProbe g_b131 _ hr
    · rw [if_neg hc302] at hr
      refine Fin.by (B := T0.setTop (mkF m 311 #[.val (.long v0), .second, .val (.long v2), .second, .val (.int v4), .val (.int v5), .val (.int v6), .val (.int v7), .val (.int v8), .val (.int v9), .val (.int v10), .val (.int v11), .val (.int v12), .val (.long v13), .second, .val (.ref b131), .val (.int v16), .val (.long v17), .second, .val (.long v19), .second, .val (.int v21), .val (.int t0), .unset, .unset, .unset, .unset, .unset, .unset, .unset, .unset] [])) (fun t k => ?_) ?_
      · show Steps p.tables e below (T0.setTop (mkF m 302 #[.val (.long v0), .second, .val (.long v2), .second, .val (.int v4), .val (.int v5), .val (.int v6), .val (.int v7), .val (.int v8), .val (.int v9), .val (.int v10), .val (.int v11), .val (.int v12), .val (.long v13), .second, .val (.ref b131), .val (.int v16), .val (.long v17), .second, .val (.long v19), .second, .val (.int v21), .val (.int t0), .unset, .unset, .unset, .unset, .unset, .unset, .unset, .unset] [(.int v16)])) _
        exact XS.ifYes X0.here hx rfl (pc0 := 302) (pc' := 311) rfl (hb hby at_302) rfl ((if0 _ _).trans (feq hc302).2) (by decide) (by decide) k
      exact b0_311 ⟨hx, hZ, hw, hby, hml, hret, hown, hnm, hlk⟩ h0 n0 v0 v2 v4 v5 v6 v7 v8 v9 v10 v11 v12 v13 b131 v16 v17 v19 v21 t0 b131_overdue b131_gap b131_nextProbe X0 e0 N0 Z0 E_b131 F_b131_overdue F_b131_gap F_b131_nextProbe g_b131 _ hr
def f0_286 (v0 : Int64) (v2 : Int64) (v4 : Int32) (v5 : Int32) (v6 : Int32) (v7 : Int32) (v8 : Int32) (v9 : Int32) (v10 : Int32) (v11 : Int32) (v12 : Int32) (v13 : Int64) (v16 : Int32) (v17 : Int64) (v19 : Int64) (v21 : Int32) (b131_overdue : Int32) (b131_gap : Int64) (b131_nextProbe : Int64) : Int32 := (f0_287 v0 v2 v4 v5 v6 v7 v8 v9 v10 v11 v12 v13 v16 v17 v19 v21 (0 : Int32) b131_overdue b131_gap b131_nextProbe)
set_option maxRecDepth 65536 in
set_option maxHeartbeats 40000000 in
theorem b0_286 {p : Program} {l : Launch} {e : Env} {s : State} {m : MethodId} {args : Array Value} {below : List Frame} {meth : Method} {c : Code} {Z : State} {a0 : Array Value} (B : Ctx p Z s a0 m meth c "com/example/quietwire/quietwire/protocol/OverdueJudgePinLaw" "law" code 31 (some .boolean)) {T0 : State} {locs : List Loc} {h : Heap} (h0 : Heap) (n0 : Nat) (v0 : Int64) (v2 : Int64) (v4 : Int32) (v5 : Int32) (v6 : Int32) (v7 : Int32) (v8 : Int32) (v9 : Int32) (v10 : Int32) (v11 : Int32) (v12 : Int32) (v13 : Int64) (b131 : Addr) (v16 : Int32) (v17 : Int64) (v19 : Int64) (v21 : Int32) (b131_overdue : Int32) (b131_gap : Int64) (b131_nextProbe : Int64) (X0 : Stand p l e room_1 s m args below meth c T0 locs 1 3) (e0 : T0.heap = h) (N0 : Fr n0 locs) (Z0 : n0 ≤ h.size) (E_b131 : Exa Z h b131 "com/example/quietwire/quietwire/protocol/Overdue") (F_b131_overdue : Fld Z h b131 "com/example/quietwire/quietwire/protocol/Overdue" "overdue" "Z" (.int b131_overdue)) (F_b131_gap : Fld Z h b131 "com/example/quietwire/quietwire/protocol/Overdue" "gap" "J" (.long b131_gap)) (F_b131_nextProbe : Fld Z h b131 "com/example/quietwire/quietwire/protocol/Overdue" "nextProbe" "J" (.long b131_nextProbe)) (g_b131 : n0 ≤ b131) (r : Int32) (hr : f0_286 v0 v2 v4 v5 v6 v7 v8 v9 v10 v11 v12 v13 v16 v17 v19 v21 b131_overdue b131_gap b131_nextProbe = r) :
    Fin p e below s 1 3 (Q0 n0 r) (T0.setTop (mkF m 286 #[.val (.long v0), .second, .val (.long v2), .second, .val (.int v4), .val (.int v5), .val (.int v6), .val (.int v7), .val (.int v8), .val (.int v9), .val (.int v10), .val (.int v11), .val (.int v12), .val (.long v13), .second, .val (.ref b131), .val (.int v16), .val (.long v17), .second, .val (.long v19), .second, .val (.int v21), .unset, .unset, .unset, .unset, .unset, .unset, .unset, .unset, .unset] [])) := by
  obtain ⟨hx, hZ, hw, hby, hml, hret, hown, hnm, hlk⟩ := B
  unfold f0_286 at hr
  refine Fin.by (B := T0.setTop (mkF m 287 #[.val (.long v0), .second, .val (.long v2), .second, .val (.int v4), .val (.int v5), .val (.int v6), .val (.int v7), .val (.int v8), .val (.int v9), .val (.int v10), .val (.int v11), .val (.int v12), .val (.long v13), .second, .val (.ref b131), .val (.int v16), .val (.long v17), .second, .val (.long v19), .second, .val (.int v21), .unset, .unset, .unset, .unset, .unset, .unset, .unset, .unset, .unset] [(.int (0 : Int32))])) (fun t k => ?_) ?_
  · show Steps p.tables e below (T0.setTop (mkF m 286 #[.val (.long v0), .second, .val (.long v2), .second, .val (.int v4), .val (.int v5), .val (.int v6), .val (.int v7), .val (.int v8), .val (.int v9), .val (.int v10), .val (.int v11), .val (.int v12), .val (.long v13), .second, .val (.ref b131), .val (.int v16), .val (.long v17), .second, .val (.long v19), .second, .val (.int v21), .unset, .unset, .unset, .unset, .unset, .unset, .unset, .unset, .unset] [])) _
    refine XS.iconst X0.here hx rfl (hb hby at_286) ?_
    exact k
  exact b0_287 ⟨hx, hZ, hw, hby, hml, hret, hown, hnm, hlk⟩ h0 n0 v0 v2 v4 v5 v6 v7 v8 v9 v10 v11 v12 v13 b131 v16 v17 v19 v21 (0 : Int32) b131_overdue b131_gap b131_nextProbe X0 e0 N0 Z0 E_b131 F_b131_overdue F_b131_gap F_b131_nextProbe g_b131 _ hr
def f0_282 (v0 : Int64) (v2 : Int64) (v4 : Int32) (v5 : Int32) (v6 : Int32) (v7 : Int32) (v8 : Int32) (v9 : Int32) (v10 : Int32) (v11 : Int32) (v12 : Int32) (v13 : Int64) (v16 : Int32) (v17 : Int64) (v19 : Int64) (v21 : Int32) (b131_overdue : Int32) (b131_gap : Int64) (b131_nextProbe : Int64) : Int32 := (f0_287 v0 v2 v4 v5 v6 v7 v8 v9 v10 v11 v12 v13 v16 v17 v19 v21 (1 : Int32) b131_overdue b131_gap b131_nextProbe)
set_option maxRecDepth 65536 in
set_option maxHeartbeats 40000000 in
theorem b0_282 {p : Program} {l : Launch} {e : Env} {s : State} {m : MethodId} {args : Array Value} {below : List Frame} {meth : Method} {c : Code} {Z : State} {a0 : Array Value} (B : Ctx p Z s a0 m meth c "com/example/quietwire/quietwire/protocol/OverdueJudgePinLaw" "law" code 31 (some .boolean)) {T0 : State} {locs : List Loc} {h : Heap} (h0 : Heap) (n0 : Nat) (v0 : Int64) (v2 : Int64) (v4 : Int32) (v5 : Int32) (v6 : Int32) (v7 : Int32) (v8 : Int32) (v9 : Int32) (v10 : Int32) (v11 : Int32) (v12 : Int32) (v13 : Int64) (b131 : Addr) (v16 : Int32) (v17 : Int64) (v19 : Int64) (v21 : Int32) (b131_overdue : Int32) (b131_gap : Int64) (b131_nextProbe : Int64) (X0 : Stand p l e room_1 s m args below meth c T0 locs 1 3) (e0 : T0.heap = h) (N0 : Fr n0 locs) (Z0 : n0 ≤ h.size) (E_b131 : Exa Z h b131 "com/example/quietwire/quietwire/protocol/Overdue") (F_b131_overdue : Fld Z h b131 "com/example/quietwire/quietwire/protocol/Overdue" "overdue" "Z" (.int b131_overdue)) (F_b131_gap : Fld Z h b131 "com/example/quietwire/quietwire/protocol/Overdue" "gap" "J" (.long b131_gap)) (F_b131_nextProbe : Fld Z h b131 "com/example/quietwire/quietwire/protocol/Overdue" "nextProbe" "J" (.long b131_nextProbe)) (g_b131 : n0 ≤ b131) (r : Int32) (hr : f0_282 v0 v2 v4 v5 v6 v7 v8 v9 v10 v11 v12 v13 v16 v17 v19 v21 b131_overdue b131_gap b131_nextProbe = r) :
    Fin p e below s 1 3 (Q0 n0 r) (T0.setTop (mkF m 282 #[.val (.long v0), .second, .val (.long v2), .second, .val (.int v4), .val (.int v5), .val (.int v6), .val (.int v7), .val (.int v8), .val (.int v9), .val (.int v10), .val (.int v11), .val (.int v12), .val (.long v13), .second, .val (.ref b131), .val (.int v16), .val (.long v17), .second, .val (.long v19), .second, .val (.int v21), .unset, .unset, .unset, .unset, .unset, .unset, .unset, .unset, .unset] [])) := by
  obtain ⟨hx, hZ, hw, hby, hml, hret, hown, hnm, hlk⟩ := B
  unfold f0_282 at hr
  refine Fin.by (B := T0.setTop (mkF m 287 #[.val (.long v0), .second, .val (.long v2), .second, .val (.int v4), .val (.int v5), .val (.int v6), .val (.int v7), .val (.int v8), .val (.int v9), .val (.int v10), .val (.int v11), .val (.int v12), .val (.long v13), .second, .val (.ref b131), .val (.int v16), .val (.long v17), .second, .val (.long v19), .second, .val (.int v21), .unset, .unset, .unset, .unset, .unset, .unset, .unset, .unset, .unset] [(.int (1 : Int32))])) (fun t k => ?_) ?_
  · show Steps p.tables e below (T0.setTop (mkF m 282 #[.val (.long v0), .second, .val (.long v2), .second, .val (.int v4), .val (.int v5), .val (.int v6), .val (.int v7), .val (.int v8), .val (.int v9), .val (.int v10), .val (.int v11), .val (.int v12), .val (.long v13), .second, .val (.ref b131), .val (.int v16), .val (.long v17), .second, .val (.long v19), .second, .val (.int v21), .unset, .unset, .unset, .unset, .unset, .unset, .unset, .unset, .unset] [])) _
    refine XS.iconst X0.here hx rfl (hb hby at_282) ?_
    show Steps p.tables e below (T0.setTop (mkF m 283 #[.val (.long v0), .second, .val (.long v2), .second, .val (.int v4), .val (.int v5), .val (.int v6), .val (.int v7), .val (.int v8), .val (.int v9), .val (.int v10), .val (.int v11), .val (.int v12), .val (.long v13), .second, .val (.ref b131), .val (.int v16), .val (.long v17), .second, .val (.long v19), .second, .val (.int v21), .unset, .unset, .unset, .unset, .unset, .unset, .unset, .unset, .unset] [(.int (1 : Int32))])) _
    refine XS.goto X0.here hx rfl (pc0 := 283) (pc' := 287) rfl (hb hby at_283) (by decide) (by decide) ?_
    exact k
  exact b0_287 ⟨hx, hZ, hw, hby, hml, hret, hown, hnm, hlk⟩ h0 n0 v0 v2 v4 v5 v6 v7 v8 v9 v10 v11 v12 v13 b131 v16 v17 v19 v21 (1 : Int32) b131_overdue b131_gap b131_nextProbe X0 e0 N0 Z0 E_b131 F_b131_overdue F_b131_gap F_b131_nextProbe g_b131 _ hr
def f0_265 (v0 : Int64) (v2 : Int64) (v4 : Int32) (v5 : Int32) (v6 : Int32) (v7 : Int32) (v8 : Int32) (v9 : Int32) (v10 : Int32) (v11 : Int32) (v12 : Int32) (v13 : Int64) (v16 : Int32) (v17 : Int64) (v19 : Int64) (t0 : Int32) (b131_overdue : Int32) (b131_gap : Int64) (b131_nextProbe : Int64) : Int32 := (if v8 = (0 : Int32) then (if v9 = (0 : Int32) then (f0_286 v0 v2 v4 v5 v6 v7 v8 v9 v10 v11 v12 v13 v16 v17 v19 t0 b131_overdue b131_gap b131_nextProbe) else (if v10 = (0 : Int32) then (f0_286 v0 v2 v4 v5 v6 v7 v8 v9 v10 v11 v12 v13 v16 v17 v19 t0 b131_overdue b131_gap b131_nextProbe) else (f0_282 v0 v2 v4 v5 v6 v7 v8 v9 v10 v11 v12 v13 v16 v17 v19 t0 b131_overdue b131_gap b131_nextProbe))) else (f0_282 v0 v2 v4 v5 v6 v7 v8 v9 v10 v11 v12 v13 v16 v17 v19 t0 b131_overdue b131_gap b131_nextProbe))
set_option maxRecDepth 65536 in
set_option maxHeartbeats 40000000 in
theorem b0_265 {p : Program} {l : Launch} {e : Env} {s : State} {m : MethodId} {args : Array Value} {below : List Frame} {meth : Method} {c : Code} {Z : State} {a0 : Array Value} (B : Ctx p Z s a0 m meth c "com/example/quietwire/quietwire/protocol/OverdueJudgePinLaw" "law" code 31 (some .boolean)) {T0 : State} {locs : List Loc} {h : Heap} (h0 : Heap) (n0 : Nat) (v0 : Int64) (v2 : Int64) (v4 : Int32) (v5 : Int32) (v6 : Int32) (v7 : Int32) (v8 : Int32) (v9 : Int32) (v10 : Int32) (v11 : Int32) (v12 : Int32) (v13 : Int64) (b131 : Addr) (v16 : Int32) (v17 : Int64) (v19 : Int64) (t0 : Int32) (b131_overdue : Int32) (b131_gap : Int64) (b131_nextProbe : Int64) (X0 : Stand p l e room_1 s m args below meth c T0 locs 1 3) (e0 : T0.heap = h) (N0 : Fr n0 locs) (Z0 : n0 ≤ h.size) (E_b131 : Exa Z h b131 "com/example/quietwire/quietwire/protocol/Overdue") (F_b131_overdue : Fld Z h b131 "com/example/quietwire/quietwire/protocol/Overdue" "overdue" "Z" (.int b131_overdue)) (F_b131_gap : Fld Z h b131 "com/example/quietwire/quietwire/protocol/Overdue" "gap" "J" (.long b131_gap)) (F_b131_nextProbe : Fld Z h b131 "com/example/quietwire/quietwire/protocol/Overdue" "nextProbe" "J" (.long b131_nextProbe)) (g_b131 : n0 ≤ b131) (r : Int32) (hr : f0_265 v0 v2 v4 v5 v6 v7 v8 v9 v10 v11 v12 v13 v16 v17 v19 t0 b131_overdue b131_gap b131_nextProbe = r) :
    Fin p e below s 1 3 (Q0 n0 r) (T0.setTop (mkF m 265 #[.val (.long v0), .second, .val (.long v2), .second, .val (.int v4), .val (.int v5), .val (.int v6), .val (.int v7), .val (.int v8), .val (.int v9), .val (.int v10), .val (.int v11), .val (.int v12), .val (.long v13), .second, .val (.ref b131), .val (.int v16), .val (.long v17), .second, .val (.long v19), .second, .unset, .unset, .unset, .unset, .unset, .unset, .unset, .unset, .unset, .unset] [(.int t0)])) := by
  obtain ⟨hx, hZ, hw, hby, hml, hret, hown, hnm, hlk⟩ := B
  unfold f0_265 at hr
  refine Fin.by (B := T0.setTop (mkF m 269 #[.val (.long v0), .second, .val (.long v2), .second, .val (.int v4), .val (.int v5), .val (.int v6), .val (.int v7), .val (.int v8), .val (.int v9), .val (.int v10), .val (.int v11), .val (.int v12), .val (.long v13), .second, .val (.ref b131), .val (.int v16), .val (.long v17), .second, .val (.long v19), .second, .val (.int t0), .unset, .unset, .unset, .unset, .unset, .unset, .unset, .unset, .unset] [(.int v8)])) (fun t k => ?_) ?_
  · show Steps p.tables e below (T0.setTop (mkF m 265 #[.val (.long v0), .second, .val (.long v2), .second, .val (.int v4), .val (.int v5), .val (.int v6), .val (.int v7), .val (.int v8), .val (.int v9), .val (.int v10), .val (.int v11), .val (.int v12), .val (.long v13), .second, .val (.ref b131), .val (.int v16), .val (.long v17), .second, .val (.long v19), .second, .unset, .unset, .unset, .unset, .unset, .unset, .unset, .unset, .unset, .unset] [(.int t0)])) _
    refine XS.istore X0.here hx rfl (hb hby at_265) rfl (l' := #[.val (.long v0), .second, .val (.long v2), .second, .val (.int v4), .val (.int v5), .val (.int v6), .val (.int v7), .val (.int v8), .val (.int v9), .val (.int v10), .val (.int v11), .val (.int v12), .val (.long v13), .second, .val (.ref b131), .val (.int v16), .val (.long v17), .second, .val (.long v19), .second, .val (.int t0), .unset, .unset, .unset, .unset, .unset, .unset, .unset, .unset, .unset]) rfl ?_
    show Steps p.tables e below (T0.setTop (mkF m 267 #[.val (.long v0), .second, .val (.long v2), .second, .val (.int v4), .val (.int v5), .val (.int v6), .val (.int v7), .val (.int v8), .val (.int v9), .val (.int v10), .val (.int v11), .val (.int v12), .val (.long v13), .second, .val (.ref b131), .val (.int v16), .val (.long v17), .second, .val (.long v19), .second, .val (.int t0), .unset, .unset, .unset, .unset, .unset, .unset, .unset, .unset, .unset] [])) _
    refine XS.iload X0.here hx rfl (hb hby at_267) rfl  ?_
    exact k
  by_cases hc269 : v8 = (0 : Int32)
  · rw [if_pos hc269] at hr
    refine Fin.by (B := T0.setTop (mkF m 272 #[.val (.long v0), .second, .val (.long v2), .second, .val (.int v4), .val (.int v5), .val (.int v6), .val (.int v7), .val (.int v8), .val (.int v9), .val (.int v10), .val (.int v11), .val (.int v12), .val (.long v13), .second, .val (.ref b131), .val (.int v16), .val (.long v17), .second, .val (.long v19), .second, .val (.int t0), .unset, .unset, .unset, .unset, .unset, .unset, .unset, .unset, .unset] [])) (fun t k => ?_) ?_
    · show Steps p.tables e below (T0.setTop (mkF m 269 #[.val (.long v0), .second, .val (.long v2), .second, .val (.int v4), .val (.int v5), .val (.int v6), .val (.int v7), .val (.int v8), .val (.int v9), .val (.int v10), .val (.int v11), .val (.int v12), .val (.long v13), .second, .val (.ref b131), .val (.int v16), .val (.long v17), .second, .val (.long v19), .second, .val (.int t0), .unset, .unset, .unset, .unset, .unset, .unset, .unset, .unset, .unset] [(.int v8)])) _
      exact XS.ifNo X0.here hx rfl (hb hby at_269) rfl ((if0 _ _).trans (teq hc269).2) k
    refine Fin.by (B := T0.setTop (mkF m 274 #[.val (.long v0), .second, .val (.long v2), .second, .val (.int v4), .val (.int v5), .val (.int v6), .val (.int v7), .val (.int v8), .val (.int v9), .val (.int v10), .val (.int v11), .val (.int v12), .val (.long v13), .second, .val (.ref b131), .val (.int v16), .val (.long v17), .second, .val (.long v19), .second, .val (.int t0), .unset, .unset, .unset, .unset, .unset, .unset, .unset, .unset, .unset] [(.int v9)])) (fun t k => ?_) ?_
    · show Steps p.tables e below (T0.setTop (mkF m 272 #[.val (.long v0), .second, .val (.long v2), .second, .val (.int v4), .val (.int v5), .val (.int v6), .val (.int v7), .val (.int v8), .val (.int v9), .val (.int v10), .val (.int v11), .val (.int v12), .val (.long v13), .second, .val (.ref b131), .val (.int v16), .val (.long v17), .second, .val (.long v19), .second, .val (.int t0), .unset, .unset, .unset, .unset, .unset, .unset, .unset, .unset, .unset] [])) _
      refine XS.iload X0.here hx rfl (hb hby at_272) rfl  ?_
      exact k
    by_cases hc274 : v9 = (0 : Int32)
    · rw [if_pos hc274] at hr
      refine Fin.by (B := T0.setTop (mkF m 286 #[.val (.long v0), .second, .val (.long v2), .second, .val (.int v4), .val (.int v5), .val (.int v6), .val (.int v7), .val (.int v8), .val (.int v9), .val (.int v10), .val (.int v11), .val (.int v12), .val (.long v13), .second, .val (.ref b131), .val (.int v16), .val (.long v17), .second, .val (.long v19), .second, .val (.int t0), .unset, .unset, .unset, .unset, .unset, .unset, .unset, .unset, .unset] [])) (fun t k => ?_) ?_
      · show Steps p.tables e below (T0.setTop (mkF m 274 #[.val (.long v0), .second, .val (.long v2), .second, .val (.int v4), .val (.int v5), .val (.int v6), .val (.int v7), .val (.int v8), .val (.int v9), .val (.int v10), .val (.int v11), .val (.int v12), .val (.long v13), .second, .val (.ref b131), .val (.int v16), .val (.long v17), .second, .val (.long v19), .second, .val (.int t0), .unset, .unset, .unset, .unset, .unset, .unset, .unset, .unset, .unset] [(.int v9)])) _
        exact XS.ifYes X0.here hx rfl (pc0 := 274) (pc' := 286) rfl (hb hby at_274) rfl ((if0 _ _).trans (teq hc274).1) (by decide) (by decide) k
      exact b0_286 ⟨hx, hZ, hw, hby, hml, hret, hown, hnm, hlk⟩ h0 n0 v0 v2 v4 v5 v6 v7 v8 v9 v10 v11 v12 v13 b131 v16 v17 v19 t0 b131_overdue b131_gap b131_nextProbe X0 e0 N0 Z0 E_b131 F_b131_overdue F_b131_gap F_b131_nextProbe g_b131 _ hr
    · rw [if_neg hc274] at hr
      refine Fin.by (B := T0.setTop (mkF m 277 #[.val (.long v0), .second, .val (.long v2), .second, .val (.int v4), .val (.int v5), .val (.int v6), .val (.int v7), .val (.int v8), .val (.int v9), .val (.int v10), .val (.int v11), .val (.int v12), .val (.long v13), .second, .val (.ref b131), .val (.int v16), .val (.long v17), .second, .val (.long v19), .second, .val (.int t0), .unset, .unset, .unset, .unset, .unset, .unset, .unset, .unset, .unset] [])) (fun t k => ?_) ?_
      · show Steps p.tables e below (T0.setTop (mkF m 274 #[.val (.long v0), .second, .val (.long v2), .second, .val (.int v4), .val (.int v5), .val (.int v6), .val (.int v7), .val (.int v8), .val (.int v9), .val (.int v10), .val (.int v11), .val (.int v12), .val (.long v13), .second, .val (.ref b131), .val (.int v16), .val (.long v17), .second, .val (.long v19), .second, .val (.int t0), .unset, .unset, .unset, .unset, .unset, .unset, .unset, .unset, .unset] [(.int v9)])) _
        exact XS.ifNo X0.here hx rfl (hb hby at_274) rfl ((if0 _ _).trans (feq hc274).1) k
      refine Fin.by (B := T0.setTop (mkF m 279 #[.val (.long v0), .second, .val (.long v2), .second, .val (.int v4), .val (.int v5), .val (.int v6), .val (.int v7), .val (.int v8), .val (.int v9), .val (.int v10), .val (.int v11), .val (.int v12), .val (.long v13), .second, .val (.ref b131), .val (.int v16), .val (.long v17), .second, .val (.long v19), .second, .val (.int t0), .unset, .unset, .unset, .unset, .unset, .unset, .unset, .unset, .unset] [(.int v10)])) (fun t k => ?_) ?_
      · show Steps p.tables e below (T0.setTop (mkF m 277 #[.val (.long v0), .second, .val (.long v2), .second, .val (.int v4), .val (.int v5), .val (.int v6), .val (.int v7), .val (.int v8), .val (.int v9), .val (.int v10), .val (.int v11), .val (.int v12), .val (.long v13), .second, .val (.ref b131), .val (.int v16), .val (.long v17), .second, .val (.long v19), .second, .val (.int t0), .unset, .unset, .unset, .unset, .unset, .unset, .unset, .unset, .unset] [])) _
        refine XS.iload X0.here hx rfl (hb hby at_277) rfl  ?_
        exact k
      by_cases hc279 : v10 = (0 : Int32)
      · rw [if_pos hc279] at hr
        refine Fin.by (B := T0.setTop (mkF m 286 #[.val (.long v0), .second, .val (.long v2), .second, .val (.int v4), .val (.int v5), .val (.int v6), .val (.int v7), .val (.int v8), .val (.int v9), .val (.int v10), .val (.int v11), .val (.int v12), .val (.long v13), .second, .val (.ref b131), .val (.int v16), .val (.long v17), .second, .val (.long v19), .second, .val (.int t0), .unset, .unset, .unset, .unset, .unset, .unset, .unset, .unset, .unset] [])) (fun t k => ?_) ?_
        · show Steps p.tables e below (T0.setTop (mkF m 279 #[.val (.long v0), .second, .val (.long v2), .second, .val (.int v4), .val (.int v5), .val (.int v6), .val (.int v7), .val (.int v8), .val (.int v9), .val (.int v10), .val (.int v11), .val (.int v12), .val (.long v13), .second, .val (.ref b131), .val (.int v16), .val (.long v17), .second, .val (.long v19), .second, .val (.int t0), .unset, .unset, .unset, .unset, .unset, .unset, .unset, .unset, .unset] [(.int v10)])) _
          exact XS.ifYes X0.here hx rfl (pc0 := 279) (pc' := 286) rfl (hb hby at_279) rfl ((if0 _ _).trans (teq hc279).1) (by decide) (by decide) k
        exact b0_286 ⟨hx, hZ, hw, hby, hml, hret, hown, hnm, hlk⟩ h0 n0 v0 v2 v4 v5 v6 v7 v8 v9 v10 v11 v12 v13 b131 v16 v17 v19 t0 b131_overdue b131_gap b131_nextProbe X0 e0 N0 Z0 E_b131 F_b131_overdue F_b131_gap F_b131_nextProbe g_b131 _ hr
      · rw [if_neg hc279] at hr
        refine Fin.by (B := T0.setTop (mkF m 282 #[.val (.long v0), .second, .val (.long v2), .second, .val (.int v4), .val (.int v5), .val (.int v6), .val (.int v7), .val (.int v8), .val (.int v9), .val (.int v10), .val (.int v11), .val (.int v12), .val (.long v13), .second, .val (.ref b131), .val (.int v16), .val (.long v17), .second, .val (.long v19), .second, .val (.int t0), .unset, .unset, .unset, .unset, .unset, .unset, .unset, .unset, .unset] [])) (fun t k => ?_) ?_
        · show Steps p.tables e below (T0.setTop (mkF m 279 #[.val (.long v0), .second, .val (.long v2), .second, .val (.int v4), .val (.int v5), .val (.int v6), .val (.int v7), .val (.int v8), .val (.int v9), .val (.int v10), .val (.int v11), .val (.int v12), .val (.long v13), .second, .val (.ref b131), .val (.int v16), .val (.long v17), .second, .val (.long v19), .second, .val (.int t0), .unset, .unset, .unset, .unset, .unset, .unset, .unset, .unset, .unset] [(.int v10)])) _
          exact XS.ifNo X0.here hx rfl (hb hby at_279) rfl ((if0 _ _).trans (feq hc279).1) k
        exact b0_282 ⟨hx, hZ, hw, hby, hml, hret, hown, hnm, hlk⟩ h0 n0 v0 v2 v4 v5 v6 v7 v8 v9 v10 v11 v12 v13 b131 v16 v17 v19 t0 b131_overdue b131_gap b131_nextProbe X0 e0 N0 Z0 E_b131 F_b131_overdue F_b131_gap F_b131_nextProbe g_b131 _ hr
  · rw [if_neg hc269] at hr
    refine Fin.by (B := T0.setTop (mkF m 282 #[.val (.long v0), .second, .val (.long v2), .second, .val (.int v4), .val (.int v5), .val (.int v6), .val (.int v7), .val (.int v8), .val (.int v9), .val (.int v10), .val (.int v11), .val (.int v12), .val (.long v13), .second, .val (.ref b131), .val (.int v16), .val (.long v17), .second, .val (.long v19), .second, .val (.int t0), .unset, .unset, .unset, .unset, .unset, .unset, .unset, .unset, .unset] [])) (fun t k => ?_) ?_
    · show Steps p.tables e below (T0.setTop (mkF m 269 #[.val (.long v0), .second, .val (.long v2), .second, .val (.int v4), .val (.int v5), .val (.int v6), .val (.int v7), .val (.int v8), .val (.int v9), .val (.int v10), .val (.int v11), .val (.int v12), .val (.long v13), .second, .val (.ref b131), .val (.int v16), .val (.long v17), .second, .val (.long v19), .second, .val (.int t0), .unset, .unset, .unset, .unset, .unset, .unset, .unset, .unset, .unset] [(.int v8)])) _
      exact XS.ifYes X0.here hx rfl (pc0 := 269) (pc' := 282) rfl (hb hby at_269) rfl ((if0 _ _).trans (feq hc269).2) (by decide) (by decide) k
    exact b0_282 ⟨hx, hZ, hw, hby, hml, hret, hown, hnm, hlk⟩ h0 n0 v0 v2 v4 v5 v6 v7 v8 v9 v10 v11 v12 v13 b131 v16 v17 v19 t0 b131_overdue b131_gap b131_nextProbe X0 e0 N0 Z0 E_b131 F_b131_overdue F_b131_gap F_b131_nextProbe g_b131 _ hr
def f0_264 (v0 : Int64) (v2 : Int64) (v4 : Int32) (v5 : Int32) (v6 : Int32) (v7 : Int32) (v8 : Int32) (v9 : Int32) (v10 : Int32) (v11 : Int32) (v12 : Int32) (v13 : Int64) (v16 : Int32) (v17 : Int64) (v19 : Int64) (b131_overdue : Int32) (b131_gap : Int64) (b131_nextProbe : Int64) : Int32 := (f0_265 v0 v2 v4 v5 v6 v7 v8 v9 v10 v11 v12 v13 v16 v17 v19 (0 : Int32) b131_overdue b131_gap b131_nextProbe)
set_option maxRecDepth 65536 in
set_option maxHeartbeats 40000000 in
theorem b0_264 {p : Program} {l : Launch} {e : Env} {s : State} {m : MethodId} {args : Array Value} {below : List Frame} {meth : Method} {c : Code} {Z : State} {a0 : Array Value} (B : Ctx p Z s a0 m meth c "com/example/quietwire/quietwire/protocol/OverdueJudgePinLaw" "law" code 31 (some .boolean)) {T0 : State} {locs : List Loc} {h : Heap} (h0 : Heap) (n0 : Nat) (v0 : Int64) (v2 : Int64) (v4 : Int32) (v5 : Int32) (v6 : Int32) (v7 : Int32) (v8 : Int32) (v9 : Int32) (v10 : Int32) (v11 : Int32) (v12 : Int32) (v13 : Int64) (b131 : Addr) (v16 : Int32) (v17 : Int64) (v19 : Int64) (b131_overdue : Int32) (b131_gap : Int64) (b131_nextProbe : Int64) (X0 : Stand p l e room_1 s m args below meth c T0 locs 1 3) (e0 : T0.heap = h) (N0 : Fr n0 locs) (Z0 : n0 ≤ h.size) (E_b131 : Exa Z h b131 "com/example/quietwire/quietwire/protocol/Overdue") (F_b131_overdue : Fld Z h b131 "com/example/quietwire/quietwire/protocol/Overdue" "overdue" "Z" (.int b131_overdue)) (F_b131_gap : Fld Z h b131 "com/example/quietwire/quietwire/protocol/Overdue" "gap" "J" (.long b131_gap)) (F_b131_nextProbe : Fld Z h b131 "com/example/quietwire/quietwire/protocol/Overdue" "nextProbe" "J" (.long b131_nextProbe)) (g_b131 : n0 ≤ b131) (r : Int32) (hr : f0_264 v0 v2 v4 v5 v6 v7 v8 v9 v10 v11 v12 v13 v16 v17 v19 b131_overdue b131_gap b131_nextProbe = r) :
    Fin p e below s 1 3 (Q0 n0 r) (T0.setTop (mkF m 264 #[.val (.long v0), .second, .val (.long v2), .second, .val (.int v4), .val (.int v5), .val (.int v6), .val (.int v7), .val (.int v8), .val (.int v9), .val (.int v10), .val (.int v11), .val (.int v12), .val (.long v13), .second, .val (.ref b131), .val (.int v16), .val (.long v17), .second, .val (.long v19), .second, .unset, .unset, .unset, .unset, .unset, .unset, .unset, .unset, .unset, .unset] [])) := by
  obtain ⟨hx, hZ, hw, hby, hml, hret, hown, hnm, hlk⟩ := B
  unfold f0_264 at hr
  refine Fin.by (B := T0.setTop (mkF m 265 #[.val (.long v0), .second, .val (.long v2), .second, .val (.int v4), .val (.int v5), .val (.int v6), .val (.int v7), .val (.int v8), .val (.int v9), .val (.int v10), .val (.int v11), .val (.int v12), .val (.long v13), .second, .val (.ref b131), .val (.int v16), .val (.long v17), .second, .val (.long v19), .second, .unset, .unset, .unset, .unset, .unset, .unset, .unset, .unset, .unset, .unset] [(.int (0 : Int32))])) (fun t k => ?_) ?_
  · show Steps p.tables e below (T0.setTop (mkF m 264 #[.val (.long v0), .second, .val (.long v2), .second, .val (.int v4), .val (.int v5), .val (.int v6), .val (.int v7), .val (.int v8), .val (.int v9), .val (.int v10), .val (.int v11), .val (.int v12), .val (.long v13), .second, .val (.ref b131), .val (.int v16), .val (.long v17), .second, .val (.long v19), .second, .unset, .unset, .unset, .unset, .unset, .unset, .unset, .unset, .unset, .unset] [])) _
    refine XS.iconst X0.here hx rfl (hb hby at_264) ?_
    exact k
  exact b0_265 ⟨hx, hZ, hw, hby, hml, hret, hown, hnm, hlk⟩ h0 n0 v0 v2 v4 v5 v6 v7 v8 v9 v10 v11 v12 v13 b131 v16 v17 v19 (0 : Int32) b131_overdue b131_gap b131_nextProbe X0 e0 N0 Z0 E_b131 F_b131_overdue F_b131_gap F_b131_nextProbe g_b131 _ hr
def f0_260 (v0 : Int64) (v2 : Int64) (v4 : Int32) (v5 : Int32) (v6 : Int32) (v7 : Int32) (v8 : Int32) (v9 : Int32) (v10 : Int32) (v11 : Int32) (v12 : Int32) (v13 : Int64) (v16 : Int32) (v17 : Int64) (v19 : Int64) (b131_overdue : Int32) (b131_gap : Int64) (b131_nextProbe : Int64) : Int32 := (f0_265 v0 v2 v4 v5 v6 v7 v8 v9 v10 v11 v12 v13 v16 v17 v19 (1 : Int32) b131_overdue b131_gap b131_nextProbe)
set_option maxRecDepth 65536 in
set_option maxHeartbeats 40000000 in
theorem b0_260 {p : Program} {l : Launch} {e : Env} {s : State} {m : MethodId} {args : Array Value} {below : List Frame} {meth : Method} {c : Code} {Z : State} {a0 : Array Value} (B : Ctx p Z s a0 m meth c "com/example/quietwire/quietwire/protocol/OverdueJudgePinLaw" "law" code 31 (some .boolean)) {T0 : State} {locs : List Loc} {h : Heap} (h0 : Heap) (n0 : Nat) (v0 : Int64) (v2 : Int64) (v4 : Int32) (v5 : Int32) (v6 : Int32) (v7 : Int32) (v8 : Int32) (v9 : Int32) (v10 : Int32) (v11 : Int32) (v12 : Int32) (v13 : Int64) (b131 : Addr) (v16 : Int32) (v17 : Int64) (v19 : Int64) (b131_overdue : Int32) (b131_gap : Int64) (b131_nextProbe : Int64) (X0 : Stand p l e room_1 s m args below meth c T0 locs 1 3) (e0 : T0.heap = h) (N0 : Fr n0 locs) (Z0 : n0 ≤ h.size) (E_b131 : Exa Z h b131 "com/example/quietwire/quietwire/protocol/Overdue") (F_b131_overdue : Fld Z h b131 "com/example/quietwire/quietwire/protocol/Overdue" "overdue" "Z" (.int b131_overdue)) (F_b131_gap : Fld Z h b131 "com/example/quietwire/quietwire/protocol/Overdue" "gap" "J" (.long b131_gap)) (F_b131_nextProbe : Fld Z h b131 "com/example/quietwire/quietwire/protocol/Overdue" "nextProbe" "J" (.long b131_nextProbe)) (g_b131 : n0 ≤ b131) (r : Int32) (hr : f0_260 v0 v2 v4 v5 v6 v7 v8 v9 v10 v11 v12 v13 v16 v17 v19 b131_overdue b131_gap b131_nextProbe = r) :
    Fin p e below s 1 3 (Q0 n0 r) (T0.setTop (mkF m 260 #[.val (.long v0), .second, .val (.long v2), .second, .val (.int v4), .val (.int v5), .val (.int v6), .val (.int v7), .val (.int v8), .val (.int v9), .val (.int v10), .val (.int v11), .val (.int v12), .val (.long v13), .second, .val (.ref b131), .val (.int v16), .val (.long v17), .second, .val (.long v19), .second, .unset, .unset, .unset, .unset, .unset, .unset, .unset, .unset, .unset, .unset] [])) := by
  obtain ⟨hx, hZ, hw, hby, hml, hret, hown, hnm, hlk⟩ := B
  unfold f0_260 at hr
  refine Fin.by (B := T0.setTop (mkF m 265 #[.val (.long v0), .second, .val (.long v2), .second, .val (.int v4), .val (.int v5), .val (.int v6), .val (.int v7), .val (.int v8), .val (.int v9), .val (.int v10), .val (.int v11), .val (.int v12), .val (.long v13), .second, .val (.ref b131), .val (.int v16), .val (.long v17), .second, .val (.long v19), .second, .unset, .unset, .unset, .unset, .unset, .unset, .unset, .unset, .unset, .unset] [(.int (1 : Int32))])) (fun t k => ?_) ?_
  · show Steps p.tables e below (T0.setTop (mkF m 260 #[.val (.long v0), .second, .val (.long v2), .second, .val (.int v4), .val (.int v5), .val (.int v6), .val (.int v7), .val (.int v8), .val (.int v9), .val (.int v10), .val (.int v11), .val (.int v12), .val (.long v13), .second, .val (.ref b131), .val (.int v16), .val (.long v17), .second, .val (.long v19), .second, .unset, .unset, .unset, .unset, .unset, .unset, .unset, .unset, .unset, .unset] [])) _
    refine XS.iconst X0.here hx rfl (hb hby at_260) ?_
    show Steps p.tables e below (T0.setTop (mkF m 261 #[.val (.long v0), .second, .val (.long v2), .second, .val (.int v4), .val (.int v5), .val (.int v6), .val (.int v7), .val (.int v8), .val (.int v9), .val (.int v10), .val (.int v11), .val (.int v12), .val (.long v13), .second, .val (.ref b131), .val (.int v16), .val (.long v17), .second, .val (.long v19), .second, .unset, .unset, .unset, .unset, .unset, .unset, .unset, .unset, .unset, .unset] [(.int (1 : Int32))])) _
    refine XS.goto X0.here hx rfl (pc0 := 261) (pc' := 265) rfl (hb hby at_261) (by decide) (by decide) ?_
    exact k
  exact b0_265 ⟨hx, hZ, hw, hby, hml, hret, hown, hnm, hlk⟩ h0 n0 v0 v2 v4 v5 v6 v7 v8 v9 v10 v11 v12 v13 b131 v16 v17 v19 (1 : Int32) b131_overdue b131_gap b131_nextProbe X0 e0 N0 Z0 E_b131 F_b131_overdue F_b131_gap F_b131_nextProbe g_b131 _ hr
def f0_250 (v0 : Int64) (v2 : Int64) (v4 : Int32) (v5 : Int32) (v6 : Int32) (v7 : Int32) (v8 : Int32) (v9 : Int32) (v10 : Int32) (v11 : Int32) (v12 : Int32) (v13 : Int64) (v16 : Int32) (v17 : Int64) (v19 : Int64) (b131_overdue : Int32) (b131_gap : Int64) (b131_nextProbe : Int64) : Int32 := (if v9 = (0 : Int32) then (if v8 = (0 : Int32) then (f0_264 v0 v2 v4 v5 v6 v7 v8 v9 v10 v11 v12 v13 v16 v17 v19 b131_overdue b131_gap b131_nextProbe) else (f0_260 v0 v2 v4 v5 v6 v7 v8 v9 v10 v11 v12 v13 v16 v17 v19 b131_overdue b131_gap b131_nextProbe)) else (f0_264 v0 v2 v4 v5 v6 v7 v8 v9 v10 v11 v12 v13 v16 v17 v19 b131_overdue b131_gap b131_nextProbe))
set_option maxRecDepth 65536 in
set_option maxHeartbeats 40000000 in
theorem b0_250 {p : Program} {l : Launch} {e : Env} {s : State} {m : MethodId} {args : Array Value} {below : List Frame} {meth : Method} {c : Code} {Z : State} {a0 : Array Value} (B : Ctx p Z s a0 m meth c "com/example/quietwire/quietwire/protocol/OverdueJudgePinLaw" "law" code 31 (some .boolean)) {T0 : State} {locs : List Loc} {h : Heap} (h0 : Heap) (n0 : Nat) (v0 : Int64) (v2 : Int64) (v4 : Int32) (v5 : Int32) (v6 : Int32) (v7 : Int32) (v8 : Int32) (v9 : Int32) (v10 : Int32) (v11 : Int32) (v12 : Int32) (v13 : Int64) (b131 : Addr) (v16 : Int32) (v17 : Int64) (v19 : Int64) (b131_overdue : Int32) (b131_gap : Int64) (b131_nextProbe : Int64) (X0 : Stand p l e room_1 s m args below meth c T0 locs 1 3) (e0 : T0.heap = h) (N0 : Fr n0 locs) (Z0 : n0 ≤ h.size) (E_b131 : Exa Z h b131 "com/example/quietwire/quietwire/protocol/Overdue") (F_b131_overdue : Fld Z h b131 "com/example/quietwire/quietwire/protocol/Overdue" "overdue" "Z" (.int b131_overdue)) (F_b131_gap : Fld Z h b131 "com/example/quietwire/quietwire/protocol/Overdue" "gap" "J" (.long b131_gap)) (F_b131_nextProbe : Fld Z h b131 "com/example/quietwire/quietwire/protocol/Overdue" "nextProbe" "J" (.long b131_nextProbe)) (g_b131 : n0 ≤ b131) (r : Int32) (hr : f0_250 v0 v2 v4 v5 v6 v7 v8 v9 v10 v11 v12 v13 v16 v17 v19 b131_overdue b131_gap b131_nextProbe = r) :
    Fin p e below s 1 3 (Q0 n0 r) (T0.setTop (mkF m 250 #[.val (.long v0), .second, .val (.long v2), .second, .val (.int v4), .val (.int v5), .val (.int v6), .val (.int v7), .val (.int v8), .val (.int v9), .val (.int v10), .val (.int v11), .val (.int v12), .val (.long v13), .second, .val (.ref b131), .val (.int v16), .val (.long v17), .second, .val (.long v19), .second, .unset, .unset, .unset, .unset, .unset, .unset, .unset, .unset, .unset, .unset] [])) := by
  obtain ⟨hx, hZ, hw, hby, hml, hret, hown, hnm, hlk⟩ := B
  unfold f0_250 at hr
  refine Fin.by (B := T0.setTop (mkF m 252 #[.val (.long v0), .second, .val (.long v2), .second, .val (.int v4), .val (.int v5), .val (.int v6), .val (.int v7), .val (.int v8), .val (.int v9), .val (.int v10), .val (.int v11), .val (.int v12), .val (.long v13), .second, .val (.ref b131), .val (.int v16), .val (.long v17), .second, .val (.long v19), .second, .unset, .unset, .unset, .unset, .unset, .unset, .unset, .unset, .unset, .unset] [(.int v9)])) (fun t k => ?_) ?_
  · show Steps p.tables e below (T0.setTop (mkF m 250 #[.val (.long v0), .second, .val (.long v2), .second, .val (.int v4), .val (.int v5), .val (.int v6), .val (.int v7), .val (.int v8), .val (.int v9), .val (.int v10), .val (.int v11), .val (.int v12), .val (.long v13), .second, .val (.ref b131), .val (.int v16), .val (.long v17), .second, .val (.long v19), .second, .unset, .unset, .unset, .unset, .unset, .unset, .unset, .unset, .unset, .unset] [])) _
    refine XS.iload X0.here hx rfl (hb hby at_250) rfl  ?_
    exact k
  by_cases hc252 : v9 = (0 : Int32)
  · rw [if_pos hc252] at hr
    refine Fin.by (B := T0.setTop (mkF m 255 #[.val (.long v0), .second, .val (.long v2), .second, .val (.int v4), .val (.int v5), .val (.int v6), .val (.int v7), .val (.int v8), .val (.int v9), .val (.int v10), .val (.int v11), .val (.int v12), .val (.long v13), .second, .val (.ref b131), .val (.int v16), .val (.long v17), .second, .val (.long v19), .second, .unset, .unset, .unset, .unset, .unset, .unset, .unset, .unset, .unset, .unset] [])) (fun t k => ?_) ?_
    · show Steps p.tables e below (T0.setTop (mkF m 252 #[.val (.long v0), .second, .val (.long v2), .second, .val (.int v4), .val (.int v5), .val (.int v6), .val (.int v7), .val (.int v8), .val (.int v9), .val (.int v10), .val (.int v11), .val (.int v12), .val (.long v13), .second, .val (.ref b131), .val (.int v16), .val (.long v17), .second, .val (.long v19), .second, .unset, .unset, .unset, .unset, .unset, .unset, .unset, .unset, .unset, .unset] [(.int v9)])) _
      exact XS.ifNo X0.here hx rfl (hb hby at_252) rfl ((if0 _ _).trans (teq hc252).2) k
    refine Fin.by (B := T0.setTop (mkF m 257 #[.val (.long v0), .second, .val (.long v2), .second, .val (.int v4), .val (.int v5), .val (.int v6), .val (.int v7), .val (.int v8), .val (.int v9), .val (.int v10), .val (.int v11), .val (.int v12), .val (.long v13), .second, .val (.ref b131), .val (.int v16), .val (.long v17), .second, .val (.long v19), .second, .unset, .unset, .unset, .unset, .unset, .unset, .unset, .unset, .unset, .unset] [(.int v8)])) (fun t k => ?_) ?_
    · show Steps p.tables e below (T0.setTop (mkF m 255 #[.val (.long v0), .second, .val (.long v2), .second, .val (.int v4), .val (.int v5), .val (.int v6), .val (.int v7), .val (.int v8), .val (.int v9), .val (.int v10), .val (.int v11), .val (.int v12), .val (.long v13), .second, .val (.ref b131), .val (.int v16), .val (.long v17), .second, .val (.long v19), .second, .unset, .unset, .unset, .unset, .unset, .unset, .unset, .unset, .unset, .unset] [])) _
      refine XS.iload X0.here hx rfl (hb hby at_255) rfl  ?_
      exact k
    by_cases hc257 : v8 = (0 : Int32)
    · rw [if_pos hc257] at hr
      refine Fin.by (B := T0.setTop (mkF m 264 #[.val (.long v0), .second, .val (.long v2), .second, .val (.int v4), .val (.int v5), .val (.int v6), .val (.int v7), .val (.int v8), .val (.int v9), .val (.int v10), .val (.int v11), .val (.int v12), .val (.long v13), .second, .val (.ref b131), .val (.int v16), .val (.long v17), .second, .val (.long v19), .second, .unset, .unset, .unset, .unset, .unset, .unset, .unset, .unset, .unset, .unset] [])) (fun t k => ?_) ?_
      · show Steps p.tables e below (T0.setTop (mkF m 257 #[.val (.long v0), .second, .val (.long v2), .second, .val (.int v4), .val (.int v5), .val (.int v6), .val (.int v7), .val (.int v8), .val (.int v9), .val (.int v10), .val (.int v11), .val (.int v12), .val (.long v13), .second, .val (.ref b131), .val (.int v16), .val (.long v17), .second, .val (.long v19), .second, .unset, .unset, .unset, .unset, .unset, .unset, .unset, .unset, .unset, .unset] [(.int v8)])) _
        exact XS.ifYes X0.here hx rfl (pc0 := 257) (pc' := 264) rfl (hb hby at_257) rfl ((if0 _ _).trans (teq hc257).1) (by decide) (by decide) k
      exact b0_264 ⟨hx, hZ, hw, hby, hml, hret, hown, hnm, hlk⟩ h0 n0 v0 v2 v4 v5 v6 v7 v8 v9 v10 v11 v12 v13 b131 v16 v17 v19 b131_overdue b131_gap b131_nextProbe X0 e0 N0 Z0 E_b131 F_b131_overdue F_b131_gap F_b131_nextProbe g_b131 _ hr
    · rw [if_neg hc257] at hr
      refine Fin.by (B := T0.setTop (mkF m 260 #[.val (.long v0), .second, .val (.long v2), .second, .val (.int v4), .val (.int v5), .val (.int v6), .val (.int v7), .val (.int v8), .val (.int v9), .val (.int v10), .val (.int v11), .val (.int v12), .val (.long v13), .second, .val (.ref b131), .val (.int v16), .val (.long v17), .second, .val (.long v19), .second, .unset, .unset, .unset, .unset, .unset, .unset, .unset, .unset, .unset, .unset] [])) (fun t k => ?_) ?_
      · show Steps p.tables e below (T0.setTop (mkF m 257 #[.val (.long v0), .second, .val (.long v2), .second, .val (.int v4), .val (.int v5), .val (.int v6), .val (.int v7), .val (.int v8), .val (.int v9), .val (.int v10), .val (.int v11), .val (.int v12), .val (.long v13), .second, .val (.ref b131), .val (.int v16), .val (.long v17), .second, .val (.long v19), .second, .unset, .unset, .unset, .unset, .unset, .unset, .unset, .unset, .unset, .unset] [(.int v8)])) _
        exact XS.ifNo X0.here hx rfl (hb hby at_257) rfl ((if0 _ _).trans (feq hc257).1) k
      exact b0_260 ⟨hx, hZ, hw, hby, hml, hret, hown, hnm, hlk⟩ h0 n0 v0 v2 v4 v5 v6 v7 v8 v9 v10 v11 v12 v13 b131 v16 v17 v19 b131_overdue b131_gap b131_nextProbe X0 e0 N0 Z0 E_b131 F_b131_overdue F_b131_gap F_b131_nextProbe g_b131 _ hr
  · rw [if_neg hc252] at hr
    refine Fin.by (B := T0.setTop (mkF m 264 #[.val (.long v0), .second, .val (.long v2), .second, .val (.int v4), .val (.int v5), .val (.int v6), .val (.int v7), .val (.int v8), .val (.int v9), .val (.int v10), .val (.int v11), .val (.int v12), .val (.long v13), .second, .val (.ref b131), .val (.int v16), .val (.long v17), .second, .val (.long v19), .second, .unset, .unset, .unset, .unset, .unset, .unset, .unset, .unset, .unset, .unset] [])) (fun t k => ?_) ?_
    · show Steps p.tables e below (T0.setTop (mkF m 252 #[.val (.long v0), .second, .val (.long v2), .second, .val (.int v4), .val (.int v5), .val (.int v6), .val (.int v7), .val (.int v8), .val (.int v9), .val (.int v10), .val (.int v11), .val (.int v12), .val (.long v13), .second, .val (.ref b131), .val (.int v16), .val (.long v17), .second, .val (.long v19), .second, .unset, .unset, .unset, .unset, .unset, .unset, .unset, .unset, .unset, .unset] [(.int v9)])) _
      exact XS.ifYes X0.here hx rfl (pc0 := 252) (pc' := 264) rfl (hb hby at_252) rfl ((if0 _ _).trans (feq hc252).2) (by decide) (by decide) k
    exact b0_264 ⟨hx, hZ, hw, hby, hml, hret, hown, hnm, hlk⟩ h0 n0 v0 v2 v4 v5 v6 v7 v8 v9 v10 v11 v12 v13 b131 v16 v17 v19 b131_overdue b131_gap b131_nextProbe X0 e0 N0 Z0 E_b131 F_b131_overdue F_b131_gap F_b131_nextProbe g_b131 _ hr
def f0_240 (v0 : Int64) (v2 : Int64) (v4 : Int32) (v5 : Int32) (v6 : Int32) (v7 : Int32) (v8 : Int32) (v9 : Int32) (v10 : Int32) (v11 : Int32) (v12 : Int32) (v13 : Int64) (v16 : Int32) (v17 : Int64) (v19 : Int64) (b131_overdue : Int32) (b131_gap : Int64) (b131_nextProbe : Int64) : Int32 := (if v9 = (0 : Int32) then (f0_250 v0 v2 v4 v5 v6 v7 v8 v9 v10 v11 v12 v13 v16 v17 v19 b131_overdue b131_gap b131_nextProbe) else (if v10 = (0 : Int32) then (f0_250 v0 v2 v4 v5 v6 v7 v8 v9 v10 v11 v12 v13 v16 v17 v19 b131_overdue b131_gap b131_nextProbe) else (f0_260 v0 v2 v4 v5 v6 v7 v8 v9 v10 v11 v12 v13 v16 v17 v19 b131_overdue b131_gap b131_nextProbe)))
set_option maxRecDepth 65536 in
set_option maxHeartbeats 40000000 in
theorem b0_240 {p : Program} {l : Launch} {e : Env} {s : State} {m : MethodId} {args : Array Value} {below : List Frame} {meth : Method} {c : Code} {Z : State} {a0 : Array Value} (B : Ctx p Z s a0 m meth c "com/example/quietwire/quietwire/protocol/OverdueJudgePinLaw" "law" code 31 (some .boolean)) {T0 : State} {locs : List Loc} {h : Heap} (h0 : Heap) (n0 : Nat) (v0 : Int64) (v2 : Int64) (v4 : Int32) (v5 : Int32) (v6 : Int32) (v7 : Int32) (v8 : Int32) (v9 : Int32) (v10 : Int32) (v11 : Int32) (v12 : Int32) (v13 : Int64) (b131 : Addr) (v16 : Int32) (v17 : Int64) (v19 : Int64) (b131_overdue : Int32) (b131_gap : Int64) (b131_nextProbe : Int64) (X0 : Stand p l e room_1 s m args below meth c T0 locs 1 3) (e0 : T0.heap = h) (N0 : Fr n0 locs) (Z0 : n0 ≤ h.size) (E_b131 : Exa Z h b131 "com/example/quietwire/quietwire/protocol/Overdue") (F_b131_overdue : Fld Z h b131 "com/example/quietwire/quietwire/protocol/Overdue" "overdue" "Z" (.int b131_overdue)) (F_b131_gap : Fld Z h b131 "com/example/quietwire/quietwire/protocol/Overdue" "gap" "J" (.long b131_gap)) (F_b131_nextProbe : Fld Z h b131 "com/example/quietwire/quietwire/protocol/Overdue" "nextProbe" "J" (.long b131_nextProbe)) (g_b131 : n0 ≤ b131) (r : Int32) (hr : f0_240 v0 v2 v4 v5 v6 v7 v8 v9 v10 v11 v12 v13 v16 v17 v19 b131_overdue b131_gap b131_nextProbe = r) :
    Fin p e below s 1 3 (Q0 n0 r) (T0.setTop (mkF m 240 #[.val (.long v0), .second, .val (.long v2), .second, .val (.int v4), .val (.int v5), .val (.int v6), .val (.int v7), .val (.int v8), .val (.int v9), .val (.int v10), .val (.int v11), .val (.int v12), .val (.long v13), .second, .val (.ref b131), .val (.int v16), .val (.long v17), .second, .val (.long v19), .second, .unset, .unset, .unset, .unset, .unset, .unset, .unset, .unset, .unset, .unset] [])) := by
  obtain ⟨hx, hZ, hw, hby, hml, hret, hown, hnm, hlk⟩ := B
  unfold f0_240 at hr
  refine Fin.by (B := T0.setTop (mkF m 242 #[.val (.long v0), .second, .val (.long v2), .second, .val (.int v4), .val (.int v5), .val (.int v6), .val (.int v7), .val (.int v8), .val (.int v9), .val (.int v10), .val (.int v11), .val (.int v12), .val (.long v13), .second, .val (.ref b131), .val (.int v16), .val (.long v17), .second, .val (.long v19), .second, .unset, .unset, .unset, .unset, .unset, .unset, .unset, .unset, .unset, .unset] [(.int v9)])) (fun t k => ?_) ?_
  · show Steps p.tables e below (T0.setTop (mkF m 240 #[.val (.long v0), .second, .val (.long v2), .second, .val (.int v4), .val (.int v5), .val (.int v6), .val (.int v7), .val (.int v8), .val (.int v9), .val (.int v10), .val (.int v11), .val (.int v12), .val (.long v13), .second, .val (.ref b131), .val (.int v16), .val (.long v17), .second, .val (.long v19), .second, .unset, .unset, .unset, .unset, .unset, .unset, .unset, .unset, .unset, .unset] [])) _
    refine XS.iload X0.here hx rfl (hb hby at_240) rfl  ?_
    exact k
  by_cases hc242 : v9 = (0 : Int32)
  · rw [if_pos hc242] at hr
    refine Fin.by (B := T0.setTop (mkF m 250 #[.val (.long v0), .second, .val (.long v2), .second, .val (.int v4), .val (.int v5), .val (.int v6), .val (.int v7), .val (.int v8), .val (.int v9), .val (.int v10), .val (.int v11), .val (.int v12), .val (.long v13), .second, .val (.ref b131), .val (.int v16), .val (.long v17), .second, .val (.long v19), .second, .unset, .unset, .unset, .unset, .unset, .unset, .unset, .unset, .unset, .unset] [])) (fun t k => ?_) ?_
    · show Steps p.tables e below (T0.setTop (mkF m 242 #[.val (.long v0), .second, .val (.long v2), .second, .val (.int v4), .val (.int v5), .val (.int v6), .val (.int v7), .val (.int v8), .val (.int v9), .val (.int v10), .val (.int v11), .val (.int v12), .val (.long v13), .second, .val (.ref b131), .val (.int v16), .val (.long v17), .second, .val (.long v19), .second, .unset, .unset, .unset, .unset, .unset, .unset, .unset, .unset, .unset, .unset] [(.int v9)])) _
      exact XS.ifYes X0.here hx rfl (pc0 := 242) (pc' := 250) rfl (hb hby at_242) rfl ((if0 _ _).trans (teq hc242).1) (by decide) (by decide) k
    exact b0_250 ⟨hx, hZ, hw, hby, hml, hret, hown, hnm, hlk⟩ h0 n0 v0 v2 v4 v5 v6 v7 v8 v9 v10 v11 v12 v13 b131 v16 v17 v19 b131_overdue b131_gap b131_nextProbe X0 e0 N0 Z0 E_b131 F_b131_overdue F_b131_gap F_b131_nextProbe g_b131 _ hr
  · rw [if_neg hc242] at hr
    refine Fin.by (B := T0.setTop (mkF m 245 #[.val (.long v0), .second, .val (.long v2), .second, .val (.int v4), .val (.int v5), .val (.int v6), .val (.int v7), .val (.int v8), .val (.int v9), .val (.int v10), .val (.int v11), .val (.int v12), .val (.long v13), .second, .val (.ref b131), .val (.int v16), .val (.long v17), .second, .val (.long v19), .second, .unset, .unset, .unset, .unset, .unset, .unset, .unset, .unset, .unset, .unset] [])) (fun t k => ?_) ?_
    · show Steps p.tables e below (T0.setTop (mkF m 242 #[.val (.long v0), .second, .val (.long v2), .second, .val (.int v4), .val (.int v5), .val (.int v6), .val (.int v7), .val (.int v8), .val (.int v9), .val (.int v10), .val (.int v11), .val (.int v12), .val (.long v13), .second, .val (.ref b131), .val (.int v16), .val (.long v17), .second, .val (.long v19), .second, .unset, .unset, .unset, .unset, .unset, .unset, .unset, .unset, .unset, .unset] [(.int v9)])) _
      exact XS.ifNo X0.here hx rfl (hb hby at_242) rfl ((if0 _ _).trans (feq hc242).1) k
    refine Fin.by (B := T0.setTop (mkF m 247 #[.val (.long v0), .second, .val (.long v2), .second, .val (.int v4), .val (.int v5), .val (.int v6), .val (.int v7), .val (.int v8), .val (.int v9), .val (.int v10), .val (.int v11), .val (.int v12), .val (.long v13), .second, .val (.ref b131), .val (.int v16), .val (.long v17), .second, .val (.long v19), .second, .unset, .unset, .unset, .unset, .unset, .unset, .unset, .unset, .unset, .unset] [(.int v10)])) (fun t k => ?_) ?_
    · show Steps p.tables e below (T0.setTop (mkF m 245 #[.val (.long v0), .second, .val (.long v2), .second, .val (.int v4), .val (.int v5), .val (.int v6), .val (.int v7), .val (.int v8), .val (.int v9), .val (.int v10), .val (.int v11), .val (.int v12), .val (.long v13), .second, .val (.ref b131), .val (.int v16), .val (.long v17), .second, .val (.long v19), .second, .unset, .unset, .unset, .unset, .unset, .unset, .unset, .unset, .unset, .unset] [])) _
      refine XS.iload X0.here hx rfl (hb hby at_245) rfl  ?_
      exact k
    by_cases hc247 : v10 = (0 : Int32)
    · rw [if_pos hc247] at hr
      refine Fin.by (B := T0.setTop (mkF m 250 #[.val (.long v0), .second, .val (.long v2), .second, .val (.int v4), .val (.int v5), .val (.int v6), .val (.int v7), .val (.int v8), .val (.int v9), .val (.int v10), .val (.int v11), .val (.int v12), .val (.long v13), .second, .val (.ref b131), .val (.int v16), .val (.long v17), .second, .val (.long v19), .second, .unset, .unset, .unset, .unset, .unset, .unset, .unset, .unset, .unset, .unset] [])) (fun t k => ?_) ?_
      · show Steps p.tables e below (T0.setTop (mkF m 247 #[.val (.long v0), .second, .val (.long v2), .second, .val (.int v4), .val (.int v5), .val (.int v6), .val (.int v7), .val (.int v8), .val (.int v9), .val (.int v10), .val (.int v11), .val (.int v12), .val (.long v13), .second, .val (.ref b131), .val (.int v16), .val (.long v17), .second, .val (.long v19), .second, .unset, .unset, .unset, .unset, .unset, .unset, .unset, .unset, .unset, .unset] [(.int v10)])) _
        exact XS.ifNo X0.here hx rfl (hb hby at_247) rfl ((if0 _ _).trans (teq hc247).2) k
      exact b0_250 ⟨hx, hZ, hw, hby, hml, hret, hown, hnm, hlk⟩ h0 n0 v0 v2 v4 v5 v6 v7 v8 v9 v10 v11 v12 v13 b131 v16 v17 v19 b131_overdue b131_gap b131_nextProbe X0 e0 N0 Z0 E_b131 F_b131_overdue F_b131_gap F_b131_nextProbe g_b131 _ hr
    · rw [if_neg hc247] at hr
      refine Fin.by (B := T0.setTop (mkF m 260 #[.val (.long v0), .second, .val (.long v2), .second, .val (.int v4), .val (.int v5), .val (.int v6), .val (.int v7), .val (.int v8), .val (.int v9), .val (.int v10), .val (.int v11), .val (.int v12), .val (.long v13), .second, .val (.ref b131), .val (.int v16), .val (.long v17), .second, .val (.long v19), .second, .unset, .unset, .unset, .unset, .unset, .unset, .unset, .unset, .unset, .unset] [])) (fun t k => ?_) ?_
      · show Steps p.tables e below (T0.setTop (mkF m 247 #[.val (.long v0), .second, .val (.long v2), .second, .val (.int v4), .val (.int v5), .val (.int v6), .val (.int v7), .val (.int v8), .val (.int v9), .val (.int v10), .val (.int v11), .val (.int v12), .val (.long v13), .second, .val (.ref b131), .val (.int v16), .val (.long v17), .second, .val (.long v19), .second, .unset, .unset, .unset, .unset, .unset, .unset, .unset, .unset, .unset, .unset] [(.int v10)])) _
        exact XS.ifYes X0.here hx rfl (pc0 := 247) (pc' := 260) rfl (hb hby at_247) rfl ((if0 _ _).trans (feq hc247).2) (by decide) (by decide) k
      exact b0_260 ⟨hx, hZ, hw, hby, hml, hret, hown, hnm, hlk⟩ h0 n0 v0 v2 v4 v5 v6 v7 v8 v9 v10 v11 v12 v13 b131 v16 v17 v19 b131_overdue b131_gap b131_nextProbe X0 e0 N0 Z0 E_b131 F_b131_overdue F_b131_gap F_b131_nextProbe g_b131 _ hr
def f0_228 (v0 : Int64) (v2 : Int64) (v4 : Int32) (v5 : Int32) (v6 : Int32) (v7 : Int32) (v8 : Int32) (v9 : Int32) (v10 : Int32) (v11 : Int32) (v12 : Int32) (v13 : Int64) (v16 : Int32) (v17 : Int64) (v19 : Int64) (b131_overdue : Int32) (b131_gap : Int64) (b131_nextProbe : Int64) : Int32 := (f0_240 v0 v2 v4 v5 v6 v7 v8 v9 v10 v11 v12 v13 v16 v17 v19 ((f3_0 v2 v8 v9 v10 b131_overdue b131_gap b131_nextProbe).1) ((f3_0 v2 v8 v9 v10 b131_overdue b131_gap b131_nextProbe).2.1) ((f3_0 v2 v8 v9 v10 b131_overdue b131_gap b131_nextProbe).2.2))
set_option maxRecDepth 65536 in
set_option maxHeartbeats 40000000 in
theorem b0_228 {p : Program} {l : Launch} {e : Env} {s : State} {m : MethodId} {args : Array Value} {below : List Frame} {meth : Method} {c : Code} {Z : State} {a0 : Array Value} (B : Ctx p Z s a0 m meth c "com/example/quietwire/quietwire/protocol/OverdueJudgePinLaw" "law" code 31 (some .boolean)) {T0 : State} {locs : List Loc} {h : Heap} (h0 : Heap) (n0 : Nat) (v0 : Int64) (v2 : Int64) (v4 : Int32) (v5 : Int32) (v6 : Int32) (v7 : Int32) (v8 : Int32) (v9 : Int32) (v10 : Int32) (v11 : Int32) (v12 : Int32) (v13 : Int64) (b131 : Addr) (v16 : Int32) (v17 : Int64) (v19 : Int64) (b131_overdue : Int32) (b131_gap : Int64) (b131_nextProbe : Int64) (X0 : Stand p l e room_1 s m args below meth c T0 locs 1 3) (e0 : T0.heap = h) (N0 : Fr n0 locs) (Z0 : n0 ≤ h.size) (E_b131 : Exa Z h b131 "com/example/quietwire/quietwire/protocol/Overdue") (F_b131_overdue : Fld Z h b131 "com/example/quietwire/quietwire/protocol/Overdue" "overdue" "Z" (.int b131_overdue)) (F_b131_gap : Fld Z h b131 "com/example/quietwire/quietwire/protocol/Overdue" "gap" "J" (.long b131_gap)) (F_b131_nextProbe : Fld Z h b131 "com/example/quietwire/quietwire/protocol/Overdue" "nextProbe" "J" (.long b131_nextProbe)) (g_b131 : n0 ≤ b131) (r : Int32) (hr : f0_228 v0 v2 v4 v5 v6 v7 v8 v9 v10 v11 v12 v13 v16 v17 v19 b131_overdue b131_gap b131_nextProbe = r) :
    Fin p e below s 1 3 (Q0 n0 r) (T0.setTop (mkF m 228 #[.val (.long v0), .second, .val (.long v2), .second, .val (.int v4), .val (.int v5), .val (.int v6), .val (.int v7), .val (.int v8), .val (.int v9), .val (.int v10), .val (.int v11), .val (.int v12), .val (.long v13), .second, .val (.ref b131), .val (.int v16), .val (.long v17), .second, .val (.long v19), .second, .unset, .unset, .unset, .unset, .unset, .unset, .unset, .unset, .unset, .unset] [])) := by
  obtain ⟨hx, hZ, hw, hby, hml, hret, hown, hnm, hlk⟩ := B
  unfold f0_228 at hr
  refine Fin.by (B := T0.setTop (mkF m 237 #[.val (.long v0), .second, .val (.long v2), .second, .val (.int v4), .val (.int v5), .val (.int v6), .val (.int v7), .val (.int v8), .val (.int v9), .val (.int v10), .val (.int v11), .val (.int v12), .val (.long v13), .second, .val (.ref b131), .val (.int v16), .val (.long v17), .second, .val (.long v19), .second, .unset, .unset, .unset, .unset, .unset, .unset, .unset, .unset, .unset, .unset] [(.int v10), (.int v9), (.int v8), (.long v2), (.ref b131)])) (fun t k => ?_) ?_
  · show Steps p.tables e below (T0.setTop (mkF m 228 #[.val (.long v0), .second, .val (.long v2), .second, .val (.int v4), .val (.int v5), .val (.int v6), .val (.int v7), .val (.int v8), .val (.int v9), .val (.int v10), .val (.int v11), .val (.int v12), .val (.long v13), .second, .val (.ref b131), .val (.int v16), .val (.long v17), .second, .val (.long v19), .second, .unset, .unset, .unset, .unset, .unset, .unset, .unset, .unset, .unset, .unset] [])) _
    refine XS.aload X0.here hx rfl (hb hby at_228) rfl rfl ?_
    show Steps p.tables e below (T0.setTop (mkF m 230 #[.val (.long v0), .second, .val (.long v2), .second, .val (.int v4), .val (.int v5), .val (.int v6), .val (.int v7), .val (.int v8), .val (.int v9), .val (.int v10), .val (.int v11), .val (.int v12), .val (.long v13), .second, .val (.ref b131), .val (.int v16), .val (.long v17), .second, .val (.long v19), .second, .unset, .unset, .unset, .unset, .unset, .unset, .unset, .unset, .unset, .unset] [(.ref b131)])) _
    refine XS.lloadN X0.here hx rfl (hb hby at_230) rfl  ?_
    show Steps p.tables e below (T0.setTop (mkF m 231 #[.val (.long v0), .second, .val (.long v2), .second, .val (.int v4), .val (.int v5), .val (.int v6), .val (.int v7), .val (.int v8), .val (.int v9), .val (.int v10), .val (.int v11), .val (.int v12), .val (.long v13), .second, .val (.ref b131), .val (.int v16), .val (.long v17), .second, .val (.long v19), .second, .unset, .unset, .unset, .unset, .unset, .unset, .unset, .unset, .unset, .unset] [(.long v2), (.ref b131)])) _
    refine XS.iload X0.here hx rfl (hb hby at_231) rfl  ?_
    show Steps p.tables e below (T0.setTop (mkF m 233 #[.val (.long v0), .second, .val (.long v2), .second, .val (.int v4), .val (.int v5), .val (.int v6), .val (.int v7), .val (.int v8), .val (.int v9), .val (.int v10), .val (.int v11), .val (.int v12), .val (.long v13), .second, .val (.ref b131), .val (.int v16), .val (.long v17), .second, .val (.long v19), .second, .unset, .unset, .unset, .unset, .unset, .unset, .unset, .unset, .unset, .unset] [(.int v8), (.long v2), (.ref b131)])) _
    refine XS.iload X0.here hx rfl (hb hby at_233) rfl  ?_
    show Steps p.tables e below (T0.setTop (mkF m 235 #[.val (.long v0), .second, .val (.long v2), .second, .val (.int v4), .val (.int v5), .val (.int v6), .val (.int v7), .val (.int v8), .val (.int v9), .val (.int v10), .val (.int v11), .val (.int v12), .val (.long v13), .second, .val (.ref b131), .val (.int v16), .val (.long v17), .second, .val (.long v19), .second, .unset, .unset, .unset, .unset, .unset, .unset, .unset, .unset, .unset, .unset] [(.int v9), (.int v8), (.long v2), (.ref b131)])) _
    refine XS.iload X0.here hx rfl (hb hby at_235) rfl  ?_
    exact k
  -- pc 237: com/example/quietwire/quietwire/protocol/Overdue.judge
  obtain ⟨cq4, kq4, q4a, q4b, q4c⟩ := isOf hZ e0 E_b131
  obtain ⟨_, _, ⟨T4, L4, k4, n4⟩, -, X4, ⟨Lc4, hQ4, l4, y4, z4⟩, st4⟩ := X0.virtualBack hx (y := (⟨"com/example/quietwire/quietwire/protocol/Overdue", "judge", "(JZZZ)V"⟩ : MethodName)) (z := (⟨"com/example/quietwire/quietwire/protocol/Overdue", "judge", "(JZZZ)V"⟩ : MethodName)) hown (mvT hZ (hw _ (List.mem_of_getElem? (i := 9) rfl))) (mvT hZ (hw _ (List.mem_of_getElem? (i := 10) rfl))) (notFace_of_selects (args := #[]) (mvT hZ (hw _ (List.mem_of_getElem? (i := 12) rfl)))) (mvT hZ (hw _ (List.mem_of_getElem? (i := 12) rfl))) (mvT hZ (hw _ (List.mem_of_getElem? (i := 11) rfl))) (by decide) (backOf (W := 0) (rm3 l Z a0 hw [] b131 v2 v8 v9 v10 b131_overdue b131_gap b131_nextProbe h n0 Z0 E_b131 F_b131_overdue F_b131_gap F_b131_nextProbe g_b131) hZ (hw _ (List.mem_of_getElem? (i := 13) rfl)) (hw _ (List.mem_of_getElem? (i := 2) rfl)) (by decide) (by decide)) q4a q4c (g := (mkF m 237 #[.val (.long v0), .second, .val (.long v2), .second, .val (.int v4), .val (.int v5), .val (.int v6), .val (.int v7), .val (.int v8), .val (.int v9), .val (.int v10), .val (.int v11), .val (.int v12), .val (.long v13), .second, .val (.ref b131), .val (.int v16), .val (.long v17), .second, .val (.long v19), .second, .unset, .unset, .unset, .unset, .unset, .unset, .unset, .unset, .unset, .unset] [(.int v10), (.int v9), (.int v8), (.long v2), (.ref b131)])) rfl (by rw [hml]; rfl) (Steps.refl _) (argsL := [(.long v2), (.int v8), (.int v9), (.int v10)]) (rest := []) (lenOf pd_1 rfl) rfl (by show 2 * 0 + _ ≤ _; exact Nat.le_of_eq rfl) (hb hby at_237) (fun _ _ => ⟨rfl, e0, (by decide : 1 + R3.cells ≤ _), (by decide : 3 + R3.slots ≤ _)⟩)
  dsimp only [Pt.U, Pt.locs, Pt.cells, Pt.slots] at X4 l4 y4 z4 st4 hQ4
  subst l4 y4 z4
  obtain ⟨rfl, Nq4, Kq4, E_b131_4, F_b131_overdue_4, F_b131_gap_4, F_b131_nextProbe_4⟩ := hQ4
  obtain ⟨h4, e4⟩ : ∃ z, T4.heap = z := ⟨_, rfl⟩
  rw [e4] at Kq4 E_b131_4 F_b131_overdue_4 F_b131_gap_4 F_b131_nextProbe_4
  have N4 := Fr.app N0 Nq4
  have Z4 : n0 ≤ h4.size := Nat.le_trans Z0 Kq4.1
  refine Fin.by (B := T4.setTop (mkF m 240 #[.val (.long v0), .second, .val (.long v2), .second, .val (.int v4), .val (.int v5), .val (.int v6), .val (.int v7), .val (.int v8), .val (.int v9), .val (.int v10), .val (.int v11), .val (.int v12), .val (.long v13), .second, .val (.ref b131), .val (.int v16), .val (.long v17), .second, .val (.long v19), .second, .unset, .unset, .unset, .unset, .unset, .unset, .unset, .unset, .unset, .unset] [])) (fun t k => st4.trans k) ?_
  exact b0_240 ⟨hx, hZ, hw, hby, hml, hret, hown, hnm, hlk⟩ h0 n0 v0 v2 v4 v5 v6 v7 v8 v9 v10 v11 v12 v13 b131 v16 v17 v19 ((f3_0 v2 v8 v9 v10 b131_overdue b131_gap b131_nextProbe).1) ((f3_0 v2 v8 v9 v10 b131_overdue b131_gap b131_nextProbe).2.1) ((f3_0 v2 v8 v9 v10 b131_overdue b131_gap b131_nextProbe).2.2) X4 e4 N4 Z4 E_b131_4 F_b131_overdue_4 F_b131_gap_4 F_b131_nextProbe_4 g_b131 _ hr
def f0_265_1 (v0 : Int64) (v2 : Int64) (v4 : Int32) (v5 : Int32) (v6 : Int32) (v7 : Int32) (v8 : Int32) (v9 : Int32) (v10 : Int32) (v11 : Int32) (v12 : Int32) (v13 : Int64) (v16 : Int32) (v17 : Int64) (v19 : Int64) (v21 : Int32) (t0 : Int32) (b131_overdue : Int32) (b131_gap : Int64) (b131_nextProbe : Int64) : Int32 := (if v8 = (0 : Int32) then (if v9 = (0 : Int32) then (f0_286 v0 v2 v4 v5 v6 v7 v8 v9 v10 v11 v12 v13 v16 v17 v19 t0 b131_overdue b131_gap b131_nextProbe) else (if v10 = (0 : Int32) then (f0_286 v0 v2 v4 v5 v6 v7 v8 v9 v10 v11 v12 v13 v16 v17 v19 t0 b131_overdue b131_gap b131_nextProbe) else (f0_282 v0 v2 v4 v5 v6 v7 v8 v9 v10 v11 v12 v13 v16 v17 v19 t0 b131_overdue b131_gap b131_nextProbe))) else (f0_282 v0 v2 v4 v5 v6 v7 v8 v9 v10 v11 v12 v13 v16 v17 v19 t0 b131_overdue b131_gap b131_nextProbe))
set_option maxRecDepth 65536 in
set_option maxHeartbeats 40000000 in
theorem b0_265_1 {p : Program} {l : Launch} {e : Env} {s : State} {m : MethodId} {args : Array Value} {below : List Frame} {meth : Method} {c : Code} {Z : State} {a0 : Array Value} (B : Ctx p Z s a0 m meth c "com/example/quietwire/quietwire/protocol/OverdueJudgePinLaw" "law" code 31 (some .boolean)) {T0 : State} {locs : List Loc} {h : Heap} (h0 : Heap) (n0 : Nat) (v0 : Int64) (v2 : Int64) (v4 : Int32) (v5 : Int32) (v6 : Int32) (v7 : Int32) (v8 : Int32) (v9 : Int32) (v10 : Int32) (v11 : Int32) (v12 : Int32) (v13 : Int64) (b131 : Addr) (v16 : Int32) (v17 : Int64) (v19 : Int64) (v21 : Int32) (t0 : Int32) (b131_overdue : Int32) (b131_gap : Int64) (b131_nextProbe : Int64) (X0 : Stand p l e room_1 s m args below meth c T0 locs 1 3) (e0 : T0.heap = h) (N0 : Fr n0 locs) (Z0 : n0 ≤ h.size) (E_b131 : Exa Z h b131 "com/example/quietwire/quietwire/protocol/Overdue") (F_b131_overdue : Fld Z h b131 "com/example/quietwire/quietwire/protocol/Overdue" "overdue" "Z" (.int b131_overdue)) (F_b131_gap : Fld Z h b131 "com/example/quietwire/quietwire/protocol/Overdue" "gap" "J" (.long b131_gap)) (F_b131_nextProbe : Fld Z h b131 "com/example/quietwire/quietwire/protocol/Overdue" "nextProbe" "J" (.long b131_nextProbe)) (g_b131 : n0 ≤ b131) (r : Int32) (hr : f0_265_1 v0 v2 v4 v5 v6 v7 v8 v9 v10 v11 v12 v13 v16 v17 v19 v21 t0 b131_overdue b131_gap b131_nextProbe = r) :
    Fin p e below s 1 3 (Q0 n0 r) (T0.setTop (mkF m 265 #[.val (.long v0), .second, .val (.long v2), .second, .val (.int v4), .val (.int v5), .val (.int v6), .val (.int v7), .val (.int v8), .val (.int v9), .val (.int v10), .val (.int v11), .val (.int v12), .val (.long v13), .second, .val (.ref b131), .val (.int v16), .val (.long v17), .second, .val (.long v19), .second, .val (.int v21), .unset, .unset, .unset, .unset, .unset, .unset, .unset, .unset, .unset] [(.int t0)])) := by
  obtain ⟨hx, hZ, hw, hby, hml, hret, hown, hnm, hlk⟩ := B
  unfold f0_265_1 at hr
  refine Fin.by (B := T0.setTop (mkF m 269 #[.val (.long v0), .second, .val (.long v2), .second, .val (.int v4), .val (.int v5), .val (.int v6), .val (.int v7), .val (.int v8), .val (.int v9), .val (.int v10), .val (.int v11), .val (.int v12), .val (.long v13), .second, .val (.ref b131), .val (.int v16), .val (.long v17), .second, .val (.long v19), .second, .val (.int t0), .unset, .unset, .unset, .unset, .unset, .unset, .unset, .unset, .unset] [(.int v8)])) (fun t k => ?_) ?_
  · show Steps p.tables e below (T0.setTop (mkF m 265 #[.val (.long v0), .second, .val (.long v2), .second, .val (.int v4), .val (.int v5), .val (.int v6), .val (.int v7), .val (.int v8), .val (.int v9), .val (.int v10), .val (.int v11), .val (.int v12), .val (.long v13), .second, .val (.ref b131), .val (.int v16), .val (.long v17), .second, .val (.long v19), .second, .val (.int v21), .unset, .unset, .unset, .unset, .unset, .unset, .unset, .unset, .unset] [(.int t0)])) _
    refine XS.istore X0.here hx rfl (hb hby at_265) rfl (l' := #[.val (.long v0), .second, .val (.long v2), .second, .val (.int v4), .val (.int v5), .val (.int v6), .val (.int v7), .val (.int v8), .val (.int v9), .val (.int v10), .val (.int v11), .val (.int v12), .val (.long v13), .second, .val (.ref b131), .val (.int v16), .val (.long v17), .second, .val (.long v19), .second, .val (.int t0), .unset, .unset, .unset, .unset, .unset, .unset, .unset, .unset, .unset]) rfl ?_
    show Steps p.tables e below (T0.setTop (mkF m 267 #[.val (.long v0), .second, .val (.long v2), .second, .val (.int v4), .val (.int v5), .val (.int v6), .val (.int v7), .val (.int v8), .val (.int v9), .val (.int v10), .val (.int v11), .val (.int v12), .val (.long v13), .second, .val (.ref b131), .val (.int v16), .val (.long v17), .second, .val (.long v19), .second, .val (.int t0), .unset, .unset, .unset, .unset, .unset, .unset, .unset, .unset, .unset] [])) _
    refine XS.iload X0.here hx rfl (hb hby at_267) rfl  ?_
    exact k
  by_cases hc269 : v8 = (0 : Int32)
  · rw [if_pos hc269] at hr
    refine Fin.by (B := T0.setTop (mkF m 272 #[.val (.long v0), .second, .val (.long v2), .second, .val (.int v4), .val (.int v5), .val (.int v6), .val (.int v7), .val (.int v8), .val (.int v9), .val (.int v10), .val (.int v11), .val (.int v12), .val (.long v13), .second, .val (.ref b131), .val (.int v16), .val (.long v17), .second, .val (.long v19), .second, .val (.int t0), .unset, .unset, .unset, .unset, .unset, .unset, .unset, .unset, .unset] [])) (fun t k => ?_) ?_
    · show Steps p.tables e below (T0.setTop (mkF m 269 #[.val (.long v0), .second, .val (.long v2), .second, .val (.int v4), .val (.int v5), .val (.int v6), .val (.int v7), .val (.int v8), .val (.int v9), .val (.int v10), .val (.int v11), .val (.int v12), .val (.long v13), .second, .val (.ref b131), .val (.int v16), .val (.long v17), .second, .val (.long v19), .second, .val (.int t0), .unset, .unset, .unset, .unset, .unset, .unset, .unset, .unset, .unset] [(.int v8)])) _
      exact XS.ifNo X0.here hx rfl (hb hby at_269) rfl ((if0 _ _).trans (teq hc269).2) k
    refine Fin.by (B := T0.setTop (mkF m 274 #[.val (.long v0), .second, .val (.long v2), .second, .val (.int v4), .val (.int v5), .val (.int v6), .val (.int v7), .val (.int v8), .val (.int v9), .val (.int v10), .val (.int v11), .val (.int v12), .val (.long v13), .second, .val (.ref b131), .val (.int v16), .val (.long v17), .second, .val (.long v19), .second, .val (.int t0), .unset, .unset, .unset, .unset, .unset, .unset, .unset, .unset, .unset] [(.int v9)])) (fun t k => ?_) ?_
    · show Steps p.tables e below (T0.setTop (mkF m 272 #[.val (.long v0), .second, .val (.long v2), .second, .val (.int v4), .val (.int v5), .val (.int v6), .val (.int v7), .val (.int v8), .val (.int v9), .val (.int v10), .val (.int v11), .val (.int v12), .val (.long v13), .second, .val (.ref b131), .val (.int v16), .val (.long v17), .second, .val (.long v19), .second, .val (.int t0), .unset, .unset, .unset, .unset, .unset, .unset, .unset, .unset, .unset] [])) _
      refine XS.iload X0.here hx rfl (hb hby at_272) rfl  ?_
      exact k
    by_cases hc274 : v9 = (0 : Int32)
    · rw [if_pos hc274] at hr
      refine Fin.by (B := T0.setTop (mkF m 286 #[.val (.long v0), .second, .val (.long v2), .second, .val (.int v4), .val (.int v5), .val (.int v6), .val (.int v7), .val (.int v8), .val (.int v9), .val (.int v10), .val (.int v11), .val (.int v12), .val (.long v13), .second, .val (.ref b131), .val (.int v16), .val (.long v17), .second, .val (.long v19), .second, .val (.int t0), .unset, .unset, .unset, .unset, .unset, .unset, .unset, .unset, .unset] [])) (fun t k => ?_) ?_
      · show Steps p.tables e below (T0.setTop (mkF m 274 #[.val (.long v0), .second, .val (.long v2), .second, .val (.int v4), .val (.int v5), .val (.int v6), .val (.int v7), .val (.int v8), .val (.int v9), .val (.int v10), .val (.int v11), .val (.int v12), .val (.long v13), .second, .val (.ref b131), .val (.int v16), .val (.long v17), .second, .val (.long v19), .second, .val (.int t0), .unset, .unset, .unset, .unset, .unset, .unset, .unset, .unset, .unset] [(.int v9)])) _
        exact XS.ifYes X0.here hx rfl (pc0 := 274) (pc' := 286) rfl (hb hby at_274) rfl ((if0 _ _).trans (teq hc274).1) (by decide) (by decide) k
      exact b0_286 ⟨hx, hZ, hw, hby, hml, hret, hown, hnm, hlk⟩ h0 n0 v0 v2 v4 v5 v6 v7 v8 v9 v10 v11 v12 v13 b131 v16 v17 v19 t0 b131_overdue b131_gap b131_nextProbe X0 e0 N0 Z0 E_b131 F_b131_overdue F_b131_gap F_b131_nextProbe g_b131 _ hr
    · rw [if_neg hc274] at hr
      refine Fin.by (B := T0.setTop (mkF m 277 #[.val (.long v0), .second, .val (.long v2), .second, .val (.int v4), .val (.int v5), .val (.int v6), .val (.int v7), .val (.int v8), .val (.int v9), .val (.int v10), .val (.int v11), .val (.int v12), .val (.long v13), .second, .val (.ref b131), .val (.int v16), .val (.long v17), .second, .val (.long v19), .second, .val (.int t0), .unset, .unset, .unset, .unset, .unset, .unset, .unset, .unset, .unset] [])) (fun t k => ?_) ?_
      · show Steps p.tables e below (T0.setTop (mkF m 274 #[.val (.long v0), .second, .val (.long v2), .second, .val (.int v4), .val (.int v5), .val (.int v6), .val (.int v7), .val (.int v8), .val (.int v9), .val (.int v10), .val (.int v11), .val (.int v12), .val (.long v13), .second, .val (.ref b131), .val (.int v16), .val (.long v17), .second, .val (.long v19), .second, .val (.int t0), .unset, .unset, .unset, .unset, .unset, .unset, .unset, .unset, .unset] [(.int v9)])) _
        exact XS.ifNo X0.here hx rfl (hb hby at_274) rfl ((if0 _ _).trans (feq hc274).1) k
      refine Fin.by (B := T0.setTop (mkF m 279 #[.val (.long v0), .second, .val (.long v2), .second, .val (.int v4), .val (.int v5), .val (.int v6), .val (.int v7), .val (.int v8), .val (.int v9), .val (.int v10), .val (.int v11), .val (.int v12), .val (.long v13), .second, .val (.ref b131), .val (.int v16), .val (.long v17), .second, .val (.long v19), .second, .val (.int t0), .unset, .unset, .unset, .unset, .unset, .unset, .unset, .unset, .unset] [(.int v10)])) (fun t k => ?_) ?_
      · show Steps p.tables e below (T0.setTop (mkF m 277 #[.val (.long v0), .second, .val (.long v2), .second, .val (.int v4), .val (.int v5), .val (.int v6), .val (.int v7), .val (.int v8), .val (.int v9), .val (.int v10), .val (.int v11), .val (.int v12), .val (.long v13), .second, .val (.ref b131), .val (.int v16), .val (.long v17), .second, .val (.long v19), .second, .val (.int t0), .unset, .unset, .unset, .unset, .unset, .unset, .unset, .unset, .unset] [])) _
        refine XS.iload X0.here hx rfl (hb hby at_277) rfl  ?_
        exact k
      by_cases hc279 : v10 = (0 : Int32)
      · rw [if_pos hc279] at hr
        refine Fin.by (B := T0.setTop (mkF m 286 #[.val (.long v0), .second, .val (.long v2), .second, .val (.int v4), .val (.int v5), .val (.int v6), .val (.int v7), .val (.int v8), .val (.int v9), .val (.int v10), .val (.int v11), .val (.int v12), .val (.long v13), .second, .val (.ref b131), .val (.int v16), .val (.long v17), .second, .val (.long v19), .second, .val (.int t0), .unset, .unset, .unset, .unset, .unset, .unset, .unset, .unset, .unset] [])) (fun t k => ?_) ?_
        · show Steps p.tables e below (T0.setTop (mkF m 279 #[.val (.long v0), .second, .val (.long v2), .second, .val (.int v4), .val (.int v5), .val (.int v6), .val (.int v7), .val (.int v8), .val (.int v9), .val (.int v10), .val (.int v11), .val (.int v12), .val (.long v13), .second, .val (.ref b131), .val (.int v16), .val (.long v17), .second, .val (.long v19), .second, .val (.int t0), .unset, .unset, .unset, .unset, .unset, .unset, .unset, .unset, .unset] [(.int v10)])) _
          exact XS.ifYes X0.here hx rfl (pc0 := 279) (pc' := 286) rfl (hb hby at_279) rfl ((if0 _ _).trans (teq hc279).1) (by decide) (by decide) k
        exact b0_286 ⟨hx, hZ, hw, hby, hml, hret, hown, hnm, hlk⟩ h0 n0 v0 v2 v4 v5 v6 v7 v8 v9 v10 v11 v12 v13 b131 v16 v17 v19 t0 b131_overdue b131_gap b131_nextProbe X0 e0 N0 Z0 E_b131 F_b131_overdue F_b131_gap F_b131_nextProbe g_b131 _ hr
      · rw [if_neg hc279] at hr
        refine Fin.by (B := T0.setTop (mkF m 282 #[.val (.long v0), .second, .val (.long v2), .second, .val (.int v4), .val (.int v5), .val (.int v6), .val (.int v7), .val (.int v8), .val (.int v9), .val (.int v10), .val (.int v11), .val (.int v12), .val (.long v13), .second, .val (.ref b131), .val (.int v16), .val (.long v17), .second, .val (.long v19), .second, .val (.int t0), .unset, .unset, .unset, .unset, .unset, .unset, .unset, .unset, .unset] [])) (fun t k => ?_) ?_
        · show Steps p.tables e below (T0.setTop (mkF m 279 #[.val (.long v0), .second, .val (.long v2), .second, .val (.int v4), .val (.int v5), .val (.int v6), .val (.int v7), .val (.int v8), .val (.int v9), .val (.int v10), .val (.int v11), .val (.int v12), .val (.long v13), .second, .val (.ref b131), .val (.int v16), .val (.long v17), .second, .val (.long v19), .second, .val (.int t0), .unset, .unset, .unset, .unset, .unset, .unset, .unset, .unset, .unset] [(.int v10)])) _
          exact XS.ifNo X0.here hx rfl (hb hby at_279) rfl ((if0 _ _).trans (feq hc279).1) k
        exact b0_282 ⟨hx, hZ, hw, hby, hml, hret, hown, hnm, hlk⟩ h0 n0 v0 v2 v4 v5 v6 v7 v8 v9 v10 v11 v12 v13 b131 v16 v17 v19 t0 b131_overdue b131_gap b131_nextProbe X0 e0 N0 Z0 E_b131 F_b131_overdue F_b131_gap F_b131_nextProbe g_b131 _ hr
  · rw [if_neg hc269] at hr
    refine Fin.by (B := T0.setTop (mkF m 282 #[.val (.long v0), .second, .val (.long v2), .second, .val (.int v4), .val (.int v5), .val (.int v6), .val (.int v7), .val (.int v8), .val (.int v9), .val (.int v10), .val (.int v11), .val (.int v12), .val (.long v13), .second, .val (.ref b131), .val (.int v16), .val (.long v17), .second, .val (.long v19), .second, .val (.int t0), .unset, .unset, .unset, .unset, .unset, .unset, .unset, .unset, .unset] [])) (fun t k => ?_) ?_
    · show Steps p.tables e below (T0.setTop (mkF m 269 #[.val (.long v0), .second, .val (.long v2), .second, .val (.int v4), .val (.int v5), .val (.int v6), .val (.int v7), .val (.int v8), .val (.int v9), .val (.int v10), .val (.int v11), .val (.int v12), .val (.long v13), .second, .val (.ref b131), .val (.int v16), .val (.long v17), .second, .val (.long v19), .second, .val (.int t0), .unset, .unset, .unset, .unset, .unset, .unset, .unset, .unset, .unset] [(.int v8)])) _
      exact XS.ifYes X0.here hx rfl (pc0 := 269) (pc' := 282) rfl (hb hby at_269) rfl ((if0 _ _).trans (feq hc269).2) (by decide) (by decide) k
    exact b0_282 ⟨hx, hZ, hw, hby, hml, hret, hown, hnm, hlk⟩ h0 n0 v0 v2 v4 v5 v6 v7 v8 v9 v10 v11 v12 v13 b131 v16 v17 v19 t0 b131_overdue b131_gap b131_nextProbe X0 e0 N0 Z0 E_b131 F_b131_overdue F_b131_gap F_b131_nextProbe g_b131 _ hr
def f0_264_1 (v0 : Int64) (v2 : Int64) (v4 : Int32) (v5 : Int32) (v6 : Int32) (v7 : Int32) (v8 : Int32) (v9 : Int32) (v10 : Int32) (v11 : Int32) (v12 : Int32) (v13 : Int64) (v16 : Int32) (v17 : Int64) (v19 : Int64) (v21 : Int32) (b131_overdue : Int32) (b131_gap : Int64) (b131_nextProbe : Int64) : Int32 := (f0_265_1 v0 v2 v4 v5 v6 v7 v8 v9 v10 v11 v12 v13 v16 v17 v19 v21 (0 : Int32) b131_overdue b131_gap b131_nextProbe)
set_option maxRecDepth 65536 in
set_option maxHeartbeats 40000000 in
theorem b0_264_1 {p : Program} {l : Launch} {e : Env} {s : State} {m : MethodId} {args : Array Value} {below : List Frame} {meth : Method} {c : Code} {Z : State} {a0 : Array Value} (B : Ctx p Z s a0 m meth c "com/example/quietwire/quietwire/protocol/OverdueJudgePinLaw" "law" code 31 (some .boolean)) {T0 : State} {locs : List Loc} {h : Heap} (h0 : Heap) (n0 : Nat) (v0 : Int64) (v2 : Int64) (v4 : Int32) (v5 : Int32) (v6 : Int32) (v7 : Int32) (v8 : Int32) (v9 : Int32) (v10 : Int32) (v11 : Int32) (v12 : Int32) (v13 : Int64) (b131 : Addr) (v16 : Int32) (v17 : Int64) (v19 : Int64) (v21 : Int32) (b131_overdue : Int32) (b131_gap : Int64) (b131_nextProbe : Int64) (X0 : Stand p l e room_1 s m args below meth c T0 locs 1 3) (e0 : T0.heap = h) (N0 : Fr n0 locs) (Z0 : n0 ≤ h.size) (E_b131 : Exa Z h b131 "com/example/quietwire/quietwire/protocol/Overdue") (F_b131_overdue : Fld Z h b131 "com/example/quietwire/quietwire/protocol/Overdue" "overdue" "Z" (.int b131_overdue)) (F_b131_gap : Fld Z h b131 "com/example/quietwire/quietwire/protocol/Overdue" "gap" "J" (.long b131_gap)) (F_b131_nextProbe : Fld Z h b131 "com/example/quietwire/quietwire/protocol/Overdue" "nextProbe" "J" (.long b131_nextProbe)) (g_b131 : n0 ≤ b131) (r : Int32) (hr : f0_264_1 v0 v2 v4 v5 v6 v7 v8 v9 v10 v11 v12 v13 v16 v17 v19 v21 b131_overdue b131_gap b131_nextProbe = r) :
    Fin p e below s 1 3 (Q0 n0 r) (T0.setTop (mkF m 264 #[.val (.long v0), .second, .val (.long v2), .second, .val (.int v4), .val (.int v5), .val (.int v6), .val (.int v7), .val (.int v8), .val (.int v9), .val (.int v10), .val (.int v11), .val (.int v12), .val (.long v13), .second, .val (.ref b131), .val (.int v16), .val (.long v17), .second, .val (.long v19), .second, .val (.int v21), .unset, .unset, .unset, .unset, .unset, .unset, .unset, .unset, .unset] [])) := by
  obtain ⟨hx, hZ, hw, hby, hml, hret, hown, hnm, hlk⟩ := B
  unfold f0_264_1 at hr
  refine Fin.by (B := T0.setTop (mkF m 265 #[.val (.long v0), .second, .val (.long v2), .second, .val (.int v4), .val (.int v5), .val (.int v6), .val (.int v7), .val (.int v8), .val (.int v9), .val (.int v10), .val (.int v11), .val (.int v12), .val (.long v13), .second, .val (.ref b131), .val (.int v16), .val (.long v17), .second, .val (.long v19), .second, .val (.int v21), .unset, .unset, .unset, .unset, .unset, .unset, .unset, .unset, .unset] [(.int (0 : Int32))])) (fun t k => ?_) ?_
  · show Steps p.tables e below (T0.setTop (mkF m 264 #[.val (.long v0), .second, .val (.long v2), .second, .val (.int v4), .val (.int v5), .val (.int v6), .val (.int v7), .val (.int v8), .val (.int v9), .val (.int v10), .val (.int v11), .val (.int v12), .val (.long v13), .second, .val (.ref b131), .val (.int v16), .val (.long v17), .second, .val (.long v19), .second, .val (.int v21), .unset, .unset, .unset, .unset, .unset, .unset, .unset, .unset, .unset] [])) _
    refine XS.iconst X0.here hx rfl (hb hby at_264) ?_
    exact k
  exact b0_265_1 ⟨hx, hZ, hw, hby, hml, hret, hown, hnm, hlk⟩ h0 n0 v0 v2 v4 v5 v6 v7 v8 v9 v10 v11 v12 v13 b131 v16 v17 v19 v21 (0 : Int32) b131_overdue b131_gap b131_nextProbe X0 e0 N0 Z0 E_b131 F_b131_overdue F_b131_gap F_b131_nextProbe g_b131 _ hr
def f0_260_1 (v0 : Int64) (v2 : Int64) (v4 : Int32) (v5 : Int32) (v6 : Int32) (v7 : Int32) (v8 : Int32) (v9 : Int32) (v10 : Int32) (v11 : Int32) (v12 : Int32) (v13 : Int64) (v16 : Int32) (v17 : Int64) (v19 : Int64) (v21 : Int32) (b131_overdue : Int32) (b131_gap : Int64) (b131_nextProbe : Int64) : Int32 := (f0_265_1 v0 v2 v4 v5 v6 v7 v8 v9 v10 v11 v12 v13 v16 v17 v19 v21 (1 : Int32) b131_overdue b131_gap b131_nextProbe)
set_option maxRecDepth 65536 in
set_option maxHeartbeats 40000000 in
theorem b0_260_1 {p : Program} {l : Launch} {e : Env} {s : State} {m : MethodId} {args : Array Value} {below : List Frame} {meth : Method} {c : Code} {Z : State} {a0 : Array Value} (B : Ctx p Z s a0 m meth c "com/example/quietwire/quietwire/protocol/OverdueJudgePinLaw" "law" code 31 (some .boolean)) {T0 : State} {locs : List Loc} {h : Heap} (h0 : Heap) (n0 : Nat) (v0 : Int64) (v2 : Int64) (v4 : Int32) (v5 : Int32) (v6 : Int32) (v7 : Int32) (v8 : Int32) (v9 : Int32) (v10 : Int32) (v11 : Int32) (v12 : Int32) (v13 : Int64) (b131 : Addr) (v16 : Int32) (v17 : Int64) (v19 : Int64) (v21 : Int32) (b131_overdue : Int32) (b131_gap : Int64) (b131_nextProbe : Int64) (X0 : Stand p l e room_1 s m args below meth c T0 locs 1 3) (e0 : T0.heap = h) (N0 : Fr n0 locs) (Z0 : n0 ≤ h.size) (E_b131 : Exa Z h b131 "com/example/quietwire/quietwire/protocol/Overdue") (F_b131_overdue : Fld Z h b131 "com/example/quietwire/quietwire/protocol/Overdue" "overdue" "Z" (.int b131_overdue)) (F_b131_gap : Fld Z h b131 "com/example/quietwire/quietwire/protocol/Overdue" "gap" "J" (.long b131_gap)) (F_b131_nextProbe : Fld Z h b131 "com/example/quietwire/quietwire/protocol/Overdue" "nextProbe" "J" (.long b131_nextProbe)) (g_b131 : n0 ≤ b131) (r : Int32) (hr : f0_260_1 v0 v2 v4 v5 v6 v7 v8 v9 v10 v11 v12 v13 v16 v17 v19 v21 b131_overdue b131_gap b131_nextProbe = r) :
    Fin p e below s 1 3 (Q0 n0 r) (T0.setTop (mkF m 260 #[.val (.long v0), .second, .val (.long v2), .second, .val (.int v4), .val (.int v5), .val (.int v6), .val (.int v7), .val (.int v8), .val (.int v9), .val (.int v10), .val (.int v11), .val (.int v12), .val (.long v13), .second, .val (.ref b131), .val (.int v16), .val (.long v17), .second, .val (.long v19), .second, .val (.int v21), .unset, .unset, .unset, .unset, .unset, .unset, .unset, .unset, .unset] [])) := by
  obtain ⟨hx, hZ, hw, hby, hml, hret, hown, hnm, hlk⟩ := B
  unfold f0_260_1 at hr
  refine Fin.by (B := T0.setTop (mkF m 265 #[.val (.long v0), .second, .val (.long v2), .second, .val (.int v4), .val (.int v5), .val (.int v6), .val (.int v7), .val (.int v8), .val (.int v9), .val (.int v10), .val (.int v11), .val (.int v12), .val (.long v13), .second, .val (.ref b131), .val (.int v16), .val (.long v17), .second, .val (.long v19), .second, .val (.int v21), .unset, .unset, .unset, .unset, .unset, .unset, .unset, .unset, .unset] [(.int (1 : Int32))])) (fun t k => ?_) ?_
  · show Steps p.tables e below (T0.setTop (mkF m 260 #[.val (.long v0), .second, .val (.long v2), .second, .val (.int v4), .val (.int v5), .val (.int v6), .val (.int v7), .val (.int v8), .val (.int v9), .val (.int v10), .val (.int v11), .val (.int v12), .val (.long v13), .second, .val (.ref b131), .val (.int v16), .val (.long v17), .second, .val (.long v19), .second, .val (.int v21), .unset, .unset, .unset, .unset, .unset, .unset, .unset, .unset, .unset] [])) _
    refine XS.iconst X0.here hx rfl (hb hby at_260) ?_
    show Steps p.tables e below (T0.setTop (mkF m 261 #[.val (.long v0), .second, .val (.long v2), .second, .val (.int v4), .val (.int v5), .val (.int v6), .val (.int v7), .val (.int v8), .val (.int v9), .val (.int v10), .val (.int v11), .val (.int v12), .val (.long v13), .second, .val (.ref b131), .val (.int v16), .val (.long v17), .second, .val (.long v19), .second, .val (.int v21), .unset, .unset, .unset, .unset, .unset, .unset, .unset, .unset, .unset] [(.int (1 : Int32))])) _
    refine XS.goto X0.here hx rfl (pc0 := 261) (pc' := 265) rfl (hb hby at_261) (by decide) (by decide) ?_
    exact k
  exact b0_265_1 ⟨hx, hZ, hw, hby, hml, hret, hown, hnm, hlk⟩ h0 n0 v0 v2 v4 v5 v6 v7 v8 v9 v10 v11 v12 v13 b131 v16 v17 v19 v21 (1 : Int32) b131_overdue b131_gap b131_nextProbe X0 e0 N0 Z0 E_b131 F_b131_overdue F_b131_gap F_b131_nextProbe g_b131 _ hr
def f0_250_1 (v0 : Int64) (v2 : Int64) (v4 : Int32) (v5 : Int32) (v6 : Int32) (v7 : Int32) (v8 : Int32) (v9 : Int32) (v10 : Int32) (v11 : Int32) (v12 : Int32) (v13 : Int64) (v16 : Int32) (v17 : Int64) (v19 : Int64) (v21 : Int32) (b131_overdue : Int32) (b131_gap : Int64) (b131_nextProbe : Int64) : Int32 := (if v9 = (0 : Int32) then (if v8 = (0 : Int32) then (f0_264_1 v0 v2 v4 v5 v6 v7 v8 v9 v10 v11 v12 v13 v16 v17 v19 v21 b131_overdue b131_gap b131_nextProbe) else (f0_260_1 v0 v2 v4 v5 v6 v7 v8 v9 v10 v11 v12 v13 v16 v17 v19 v21 b131_overdue b131_gap b131_nextProbe)) else (f0_264_1 v0 v2 v4 v5 v6 v7 v8 v9 v10 v11 v12 v13 v16 v17 v19 v21 b131_overdue b131_gap b131_nextProbe))
set_option maxRecDepth 65536 in
set_option maxHeartbeats 40000000 in
theorem b0_250_1 {p : Program} {l : Launch} {e : Env} {s : State} {m : MethodId} {args : Array Value} {below : List Frame} {meth : Method} {c : Code} {Z : State} {a0 : Array Value} (B : Ctx p Z s a0 m meth c "com/example/quietwire/quietwire/protocol/OverdueJudgePinLaw" "law" code 31 (some .boolean)) {T0 : State} {locs : List Loc} {h : Heap} (h0 : Heap) (n0 : Nat) (v0 : Int64) (v2 : Int64) (v4 : Int32) (v5 : Int32) (v6 : Int32) (v7 : Int32) (v8 : Int32) (v9 : Int32) (v10 : Int32) (v11 : Int32) (v12 : Int32) (v13 : Int64) (b131 : Addr) (v16 : Int32) (v17 : Int64) (v19 : Int64) (v21 : Int32) (b131_overdue : Int32) (b131_gap : Int64) (b131_nextProbe : Int64) (X0 : Stand p l e room_1 s m args below meth c T0 locs 1 3) (e0 : T0.heap = h) (N0 : Fr n0 locs) (Z0 : n0 ≤ h.size) (E_b131 : Exa Z h b131 "com/example/quietwire/quietwire/protocol/Overdue") (F_b131_overdue : Fld Z h b131 "com/example/quietwire/quietwire/protocol/Overdue" "overdue" "Z" (.int b131_overdue)) (F_b131_gap : Fld Z h b131 "com/example/quietwire/quietwire/protocol/Overdue" "gap" "J" (.long b131_gap)) (F_b131_nextProbe : Fld Z h b131 "com/example/quietwire/quietwire/protocol/Overdue" "nextProbe" "J" (.long b131_nextProbe)) (g_b131 : n0 ≤ b131) (r : Int32) (hr : f0_250_1 v0 v2 v4 v5 v6 v7 v8 v9 v10 v11 v12 v13 v16 v17 v19 v21 b131_overdue b131_gap b131_nextProbe = r) :
    Fin p e below s 1 3 (Q0 n0 r) (T0.setTop (mkF m 250 #[.val (.long v0), .second, .val (.long v2), .second, .val (.int v4), .val (.int v5), .val (.int v6), .val (.int v7), .val (.int v8), .val (.int v9), .val (.int v10), .val (.int v11), .val (.int v12), .val (.long v13), .second, .val (.ref b131), .val (.int v16), .val (.long v17), .second, .val (.long v19), .second, .val (.int v21), .unset, .unset, .unset, .unset, .unset, .unset, .unset, .unset, .unset] [])) := by
  obtain ⟨hx, hZ, hw, hby, hml, hret, hown, hnm, hlk⟩ := B
  unfold f0_250_1 at hr
  refine Fin.by (B := T0.setTop (mkF m 252 #[.val (.long v0), .second, .val (.long v2), .second, .val (.int v4), .val (.int v5), .val (.int v6), .val (.int v7), .val (.int v8), .val (.int v9), .val (.int v10), .val (.int v11), .val (.int v12), .val (.long v13), .second, .val (.ref b131), .val (.int v16), .val (.long v17), .second, .val (.long v19), .second, .val (.int v21), .unset, .unset, .unset, .unset, .unset, .unset, .unset, .unset, .unset] [(.int v9)])) (fun t k => ?_) ?_
  · show Steps p.tables e below (T0.setTop (mkF m 250 #[.val (.long v0), .second, .val (.long v2), .second, .val (.int v4), .val (.int v5), .val (.int v6), .val (.int v7), .val (.int v8), .val (.int v9), .val (.int v10), .val (.int v11), .val (.int v12), .val (.long v13), .second, .val (.ref b131), .val (.int v16), .val (.long v17), .second, .val (.long v19), .second, .val (.int v21), .unset, .unset, .unset, .unset, .unset, .unset, .unset, .unset, .unset] [])) _
    refine XS.iload X0.here hx rfl (hb hby at_250) rfl  ?_
    exact k
  by_cases hc252 : v9 = (0 : Int32)
  · rw [if_pos hc252] at hr
    refine Fin.by (B := T0.setTop (mkF m 255 #[.val (.long v0), .second, .val (.long v2), .second, .val (.int v4), .val (.int v5), .val (.int v6), .val (.int v7), .val (.int v8), .val (.int v9), .val (.int v10), .val (.int v11), .val (.int v12), .val (.long v13), .second, .val (.ref b131), .val (.int v16), .val (.long v17), .second, .val (.long v19), .second, .val (.int v21), .unset, .unset, .unset, .unset, .unset, .unset, .unset, .unset, .unset] [])) (fun t k => ?_) ?_
    · show Steps p.tables e below (T0.setTop (mkF m 252 #[.val (.long v0), .second, .val (.long v2), .second, .val (.int v4), .val (.int v5), .val (.int v6), .val (.int v7), .val (.int v8), .val (.int v9), .val (.int v10), .val (.int v11), .val (.int v12), .val (.long v13), .second, .val (.ref b131), .val (.int v16), .val (.long v17), .second, .val (.long v19), .second, .val (.int v21), .unset, .unset, .unset, .unset, .unset, .unset, .unset, .unset, .unset] [(.int v9)])) _
      exact XS.ifNo X0.here hx rfl (hb hby at_252) rfl ((if0 _ _).trans (teq hc252).2) k
    refine Fin.by (B := T0.setTop (mkF m 257 #[.val (.long v0), .second, .val (.long v2), .second, .val (.int v4), .val (.int v5), .val (.int v6), .val (.int v7), .val (.int v8), .val (.int v9), .val (.int v10), .val (.int v11), .val (.int v12), .val (.long v13), .second, .val (.ref b131), .val (.int v16), .val (.long v17), .second, .val (.long v19), .second, .val (.int v21), .unset, .unset, .unset, .unset, .unset, .unset, .unset, .unset, .unset] [(.int v8)])) (fun t k => ?_) ?_
    · show Steps p.tables e below (T0.setTop (mkF m 255 #[.val (.long v0), .second, .val (.long v2), .second, .val (.int v4), .val (.int v5), .val (.int v6), .val (.int v7), .val (.int v8), .val (.int v9), .val (.int v10), .val (.int v11), .val (.int v12), .val (.long v13), .second, .val (.ref b131), .val (.int v16), .val (.long v17), .second, .val (.long v19), .second, .val (.int v21), .unset, .unset, .unset, .unset, .unset, .unset, .unset, .unset, .unset] [])) _
      refine XS.iload X0.here hx rfl (hb hby at_255) rfl  ?_
      exact k
    by_cases hc257 : v8 = (0 : Int32)
    · rw [if_pos hc257] at hr
      refine Fin.by (B := T0.setTop (mkF m 264 #[.val (.long v0), .second, .val (.long v2), .second, .val (.int v4), .val (.int v5), .val (.int v6), .val (.int v7), .val (.int v8), .val (.int v9), .val (.int v10), .val (.int v11), .val (.int v12), .val (.long v13), .second, .val (.ref b131), .val (.int v16), .val (.long v17), .second, .val (.long v19), .second, .val (.int v21), .unset, .unset, .unset, .unset, .unset, .unset, .unset, .unset, .unset] [])) (fun t k => ?_) ?_
      · show Steps p.tables e below (T0.setTop (mkF m 257 #[.val (.long v0), .second, .val (.long v2), .second, .val (.int v4), .val (.int v5), .val (.int v6), .val (.int v7), .val (.int v8), .val (.int v9), .val (.int v10), .val (.int v11), .val (.int v12), .val (.long v13), .second, .val (.ref b131), .val (.int v16), .val (.long v17), .second, .val (.long v19), .second, .val (.int v21), .unset, .unset, .unset, .unset, .unset, .unset, .unset, .unset, .unset] [(.int v8)])) _
        exact XS.ifYes X0.here hx rfl (pc0 := 257) (pc' := 264) rfl (hb hby at_257) rfl ((if0 _ _).trans (teq hc257).1) (by decide) (by decide) k
      exact b0_264_1 ⟨hx, hZ, hw, hby, hml, hret, hown, hnm, hlk⟩ h0 n0 v0 v2 v4 v5 v6 v7 v8 v9 v10 v11 v12 v13 b131 v16 v17 v19 v21 b131_overdue b131_gap b131_nextProbe X0 e0 N0 Z0 E_b131 F_b131_overdue F_b131_gap F_b131_nextProbe g_b131 _ hr
    · rw [if_neg hc257] at hr
      refine Fin.by (B := T0.setTop (mkF m 260 #[.val (.long v0), .second, .val (.long v2), .second, .val (.int v4), .val (.int v5), .val (.int v6), .val (.int v7), .val (.int v8), .val (.int v9), .val (.int v10), .val (.int v11), .val (.int v12), .val (.long v13), .second, .val (.ref b131), .val (.int v16), .val (.long v17), .second, .val (.long v19), .second, .val (.int v21), .unset, .unset, .unset, .unset, .unset, .unset, .unset, .unset, .unset] [])) (fun t k => ?_) ?_
      · show Steps p.tables e below (T0.setTop (mkF m 257 #[.val (.long v0), .second, .val (.long v2), .second, .val (.int v4), .val (.int v5), .val (.int v6), .val (.int v7), .val (.int v8), .val (.int v9), .val (.int v10), .val (.int v11), .val (.int v12), .val (.long v13), .second, .val (.ref b131), .val (.int v16), .val (.long v17), .second, .val (.long v19), .second, .val (.int v21), .unset, .unset, .unset, .unset, .unset, .unset, .unset, .unset, .unset] [(.int v8)])) _
        exact XS.ifNo X0.here hx rfl (hb hby at_257) rfl ((if0 _ _).trans (feq hc257).1) k
      exact b0_260_1 ⟨hx, hZ, hw, hby, hml, hret, hown, hnm, hlk⟩ h0 n0 v0 v2 v4 v5 v6 v7 v8 v9 v10 v11 v12 v13 b131 v16 v17 v19 v21 b131_overdue b131_gap b131_nextProbe X0 e0 N0 Z0 E_b131 F_b131_overdue F_b131_gap F_b131_nextProbe g_b131 _ hr
  · rw [if_neg hc252] at hr
    refine Fin.by (B := T0.setTop (mkF m 264 #[.val (.long v0), .second, .val (.long v2), .second, .val (.int v4), .val (.int v5), .val (.int v6), .val (.int v7), .val (.int v8), .val (.int v9), .val (.int v10), .val (.int v11), .val (.int v12), .val (.long v13), .second, .val (.ref b131), .val (.int v16), .val (.long v17), .second, .val (.long v19), .second, .val (.int v21), .unset, .unset, .unset, .unset, .unset, .unset, .unset, .unset, .unset] [])) (fun t k => ?_) ?_
    · show Steps p.tables e below (T0.setTop (mkF m 252 #[.val (.long v0), .second, .val (.long v2), .second, .val (.int v4), .val (.int v5), .val (.int v6), .val (.int v7), .val (.int v8), .val (.int v9), .val (.int v10), .val (.int v11), .val (.int v12), .val (.long v13), .second, .val (.ref b131), .val (.int v16), .val (.long v17), .second, .val (.long v19), .second, .val (.int v21), .unset, .unset, .unset, .unset, .unset, .unset, .unset, .unset, .unset] [(.int v9)])) _
      exact XS.ifYes X0.here hx rfl (pc0 := 252) (pc' := 264) rfl (hb hby at_252) rfl ((if0 _ _).trans (feq hc252).2) (by decide) (by decide) k
    exact b0_264_1 ⟨hx, hZ, hw, hby, hml, hret, hown, hnm, hlk⟩ h0 n0 v0 v2 v4 v5 v6 v7 v8 v9 v10 v11 v12 v13 b131 v16 v17 v19 v21 b131_overdue b131_gap b131_nextProbe X0 e0 N0 Z0 E_b131 F_b131_overdue F_b131_gap F_b131_nextProbe g_b131 _ hr
def f0_240_1 (v0 : Int64) (v2 : Int64) (v4 : Int32) (v5 : Int32) (v6 : Int32) (v7 : Int32) (v8 : Int32) (v9 : Int32) (v10 : Int32) (v11 : Int32) (v12 : Int32) (v13 : Int64) (v16 : Int32) (v17 : Int64) (v19 : Int64) (v21 : Int32) (b131_overdue : Int32) (b131_gap : Int64) (b131_nextProbe : Int64) : Int32 := (if v9 = (0 : Int32) then (f0_250_1 v0 v2 v4 v5 v6 v7 v8 v9 v10 v11 v12 v13 v16 v17 v19 v21 b131_overdue b131_gap b131_nextProbe) else (if v10 = (0 : Int32) then (f0_250_1 v0 v2 v4 v5 v6 v7 v8 v9 v10 v11 v12 v13 v16 v17 v19 v21 b131_overdue b131_gap b131_nextProbe) else (f0_260_1 v0 v2 v4 v5 v6 v7 v8 v9 v10 v11 v12 v13 v16 v17 v19 v21 b131_overdue b131_gap b131_nextProbe)))
set_option maxRecDepth 65536 in
set_option maxHeartbeats 40000000 in
theorem b0_240_1 {p : Program} {l : Launch} {e : Env} {s : State} {m : MethodId} {args : Array Value} {below : List Frame} {meth : Method} {c : Code} {Z : State} {a0 : Array Value} (B : Ctx p Z s a0 m meth c "com/example/quietwire/quietwire/protocol/OverdueJudgePinLaw" "law" code 31 (some .boolean)) {T0 : State} {locs : List Loc} {h : Heap} (h0 : Heap) (n0 : Nat) (v0 : Int64) (v2 : Int64) (v4 : Int32) (v5 : Int32) (v6 : Int32) (v7 : Int32) (v8 : Int32) (v9 : Int32) (v10 : Int32) (v11 : Int32) (v12 : Int32) (v13 : Int64) (b131 : Addr) (v16 : Int32) (v17 : Int64) (v19 : Int64) (v21 : Int32) (b131_overdue : Int32) (b131_gap : Int64) (b131_nextProbe : Int64) (X0 : Stand p l e room_1 s m args below meth c T0 locs 1 3) (e0 : T0.heap = h) (N0 : Fr n0 locs) (Z0 : n0 ≤ h.size) (E_b131 : Exa Z h b131 "com/example/quietwire/quietwire/protocol/Overdue") (F_b131_overdue : Fld Z h b131 "com/example/quietwire/quietwire/protocol/Overdue" "overdue" "Z" (.int b131_overdue)) (F_b131_gap : Fld Z h b131 "com/example/quietwire/quietwire/protocol/Overdue" "gap" "J" (.long b131_gap)) (F_b131_nextProbe : Fld Z h b131 "com/example/quietwire/quietwire/protocol/Overdue" "nextProbe" "J" (.long b131_nextProbe)) (g_b131 : n0 ≤ b131) (r : Int32) (hr : f0_240_1 v0 v2 v4 v5 v6 v7 v8 v9 v10 v11 v12 v13 v16 v17 v19 v21 b131_overdue b131_gap b131_nextProbe = r) :
    Fin p e below s 1 3 (Q0 n0 r) (T0.setTop (mkF m 240 #[.val (.long v0), .second, .val (.long v2), .second, .val (.int v4), .val (.int v5), .val (.int v6), .val (.int v7), .val (.int v8), .val (.int v9), .val (.int v10), .val (.int v11), .val (.int v12), .val (.long v13), .second, .val (.ref b131), .val (.int v16), .val (.long v17), .second, .val (.long v19), .second, .val (.int v21), .unset, .unset, .unset, .unset, .unset, .unset, .unset, .unset, .unset] [])) := by
  obtain ⟨hx, hZ, hw, hby, hml, hret, hown, hnm, hlk⟩ := B
  unfold f0_240_1 at hr
  refine Fin.by (B := T0.setTop (mkF m 242 #[.val (.long v0), .second, .val (.long v2), .second, .val (.int v4), .val (.int v5), .val (.int v6), .val (.int v7), .val (.int v8), .val (.int v9), .val (.int v10), .val (.int v11), .val (.int v12), .val (.long v13), .second, .val (.ref b131), .val (.int v16), .val (.long v17), .second, .val (.long v19), .second, .val (.int v21), .unset, .unset, .unset, .unset, .unset, .unset, .unset, .unset, .unset] [(.int v9)])) (fun t k => ?_) ?_
  · show Steps p.tables e below (T0.setTop (mkF m 240 #[.val (.long v0), .second, .val (.long v2), .second, .val (.int v4), .val (.int v5), .val (.int v6), .val (.int v7), .val (.int v8), .val (.int v9), .val (.int v10), .val (.int v11), .val (.int v12), .val (.long v13), .second, .val (.ref b131), .val (.int v16), .val (.long v17), .second, .val (.long v19), .second, .val (.int v21), .unset, .unset, .unset, .unset, .unset, .unset, .unset, .unset, .unset] [])) _
    refine XS.iload X0.here hx rfl (hb hby at_240) rfl  ?_
    exact k
  by_cases hc242 : v9 = (0 : Int32)
  · rw [if_pos hc242] at hr
    refine Fin.by (B := T0.setTop (mkF m 250 #[.val (.long v0), .second, .val (.long v2), .second, .val (.int v4), .val (.int v5), .val (.int v6), .val (.int v7), .val (.int v8), .val (.int v9), .val (.int v10), .val (.int v11), .val (.int v12), .val (.long v13), .second, .val (.ref b131), .val (.int v16), .val (.long v17), .second, .val (.long v19), .second, .val (.int v21), .unset, .unset, .unset, .unset, .unset, .unset, .unset, .unset, .unset] [])) (fun t k => ?_) ?_
    · show Steps p.tables e below (T0.setTop (mkF m 242 #[.val (.long v0), .second, .val (.long v2), .second, .val (.int v4), .val (.int v5), .val (.int v6), .val (.int v7), .val (.int v8), .val (.int v9), .val (.int v10), .val (.int v11), .val (.int v12), .val (.long v13), .second, .val (.ref b131), .val (.int v16), .val (.long v17), .second, .val (.long v19), .second, .val (.int v21), .unset, .unset, .unset, .unset, .unset, .unset, .unset, .unset, .unset] [(.int v9)])) _
      exact XS.ifYes X0.here hx rfl (pc0 := 242) (pc' := 250) rfl (hb hby at_242) rfl ((if0 _ _).trans (teq hc242).1) (by decide) (by decide) k
    exact b0_250_1 ⟨hx, hZ, hw, hby, hml, hret, hown, hnm, hlk⟩ h0 n0 v0 v2 v4 v5 v6 v7 v8 v9 v10 v11 v12 v13 b131 v16 v17 v19 v21 b131_overdue b131_gap b131_nextProbe X0 e0 N0 Z0 E_b131 F_b131_overdue F_b131_gap F_b131_nextProbe g_b131 _ hr
  · rw [if_neg hc242] at hr
    refine Fin.by (B := T0.setTop (mkF m 245 #[.val (.long v0), .second, .val (.long v2), .second, .val (.int v4), .val (.int v5), .val (.int v6), .val (.int v7), .val (.int v8), .val (.int v9), .val (.int v10), .val (.int v11), .val (.int v12), .val (.long v13), .second, .val (.ref b131), .val (.int v16), .val (.long v17), .second, .val (.long v19), .second, .val (.int v21), .unset, .unset, .unset, .unset, .unset, .unset, .unset, .unset, .unset] [])) (fun t k => ?_) ?_
    · show Steps p.tables e below (T0.setTop (mkF m 242 #[.val (.long v0), .second, .val (.long v2), .second, .val (.int v4), .val (.int v5), .val (.int v6), .val (.int v7), .val (.int v8), .val (.int v9), .val (.int v10), .val (.int v11), .val (.int v12), .val (.long v13), .second, .val (.ref b131), .val (.int v16), .val (.long v17), .second, .val (.long v19), .second, .val (.int v21), .unset, .unset, .unset, .unset, .unset, .unset, .unset, .unset, .unset] [(.int v9)])) _
      exact XS.ifNo X0.here hx rfl (hb hby at_242) rfl ((if0 _ _).trans (feq hc242).1) k
    refine Fin.by (B := T0.setTop (mkF m 247 #[.val (.long v0), .second, .val (.long v2), .second, .val (.int v4), .val (.int v5), .val (.int v6), .val (.int v7), .val (.int v8), .val (.int v9), .val (.int v10), .val (.int v11), .val (.int v12), .val (.long v13), .second, .val (.ref b131), .val (.int v16), .val (.long v17), .second, .val (.long v19), .second, .val (.int v21), .unset, .unset, .unset, .unset, .unset, .unset, .unset, .unset, .unset] [(.int v10)])) (fun t k => ?_) ?_
    · show Steps p.tables e below (T0.setTop (mkF m 245 #[.val (.long v0), .second, .val (.long v2), .second, .val (.int v4), .val (.int v5), .val (.int v6), .val (.int v7), .val (.int v8), .val (.int v9), .val (.int v10), .val (.int v11), .val (.int v12), .val (.long v13), .second, .val (.ref b131), .val (.int v16), .val (.long v17), .second, .val (.long v19), .second, .val (.int v21), .unset, .unset, .unset, .unset, .unset, .unset, .unset, .unset, .unset] [])) _
      refine XS.iload X0.here hx rfl (hb hby at_245) rfl  ?_
      exact k
    by_cases hc247 : v10 = (0 : Int32)
    · rw [if_pos hc247] at hr
      refine Fin.by (B := T0.setTop (mkF m 250 #[.val (.long v0), .second, .val (.long v2), .second, .val (.int v4), .val (.int v5), .val (.int v6), .val (.int v7), .val (.int v8), .val (.int v9), .val (.int v10), .val (.int v11), .val (.int v12), .val (.long v13), .second, .val (.ref b131), .val (.int v16), .val (.long v17), .second, .val (.long v19), .second, .val (.int v21), .unset, .unset, .unset, .unset, .unset, .unset, .unset, .unset, .unset] [])) (fun t k => ?_) ?_
      · show Steps p.tables e below (T0.setTop (mkF m 247 #[.val (.long v0), .second, .val (.long v2), .second, .val (.int v4), .val (.int v5), .val (.int v6), .val (.int v7), .val (.int v8), .val (.int v9), .val (.int v10), .val (.int v11), .val (.int v12), .val (.long v13), .second, .val (.ref b131), .val (.int v16), .val (.long v17), .second, .val (.long v19), .second, .val (.int v21), .unset, .unset, .unset, .unset, .unset, .unset, .unset, .unset, .unset] [(.int v10)])) _
        exact XS.ifNo X0.here hx rfl (hb hby at_247) rfl ((if0 _ _).trans (teq hc247).2) k
      exact b0_250_1 ⟨hx, hZ, hw, hby, hml, hret, hown, hnm, hlk⟩ h0 n0 v0 v2 v4 v5 v6 v7 v8 v9 v10 v11 v12 v13 b131 v16 v17 v19 v21 b131_overdue b131_gap b131_nextProbe X0 e0 N0 Z0 E_b131 F_b131_overdue F_b131_gap F_b131_nextProbe g_b131 _ hr
    · rw [if_neg hc247] at hr
      refine Fin.by (B := T0.setTop (mkF m 260 #[.val (.long v0), .second, .val (.long v2), .second, .val (.int v4), .val (.int v5), .val (.int v6), .val (.int v7), .val (.int v8), .val (.int v9), .val (.int v10), .val (.int v11), .val (.int v12), .val (.long v13), .second, .val (.ref b131), .val (.int v16), .val (.long v17), .second, .val (.long v19), .second, .val (.int v21), .unset, .unset, .unset, .unset, .unset, .unset, .unset, .unset, .unset] [])) (fun t k => ?_) ?_
      · show Steps p.tables e below (T0.setTop (mkF m 247 #[.val (.long v0), .second, .val (.long v2), .second, .val (.int v4), .val (.int v5), .val (.int v6), .val (.int v7), .val (.int v8), .val (.int v9), .val (.int v10), .val (.int v11), .val (.int v12), .val (.long v13), .second, .val (.ref b131), .val (.int v16), .val (.long v17), .second, .val (.long v19), .second, .val (.int v21), .unset, .unset, .unset, .unset, .unset, .unset, .unset, .unset, .unset] [(.int v10)])) _
        exact XS.ifYes X0.here hx rfl (pc0 := 247) (pc' := 260) rfl (hb hby at_247) rfl ((if0 _ _).trans (feq hc247).2) (by decide) (by decide) k
      exact b0_260_1 ⟨hx, hZ, hw, hby, hml, hret, hown, hnm, hlk⟩ h0 n0 v0 v2 v4 v5 v6 v7 v8 v9 v10 v11 v12 v13 b131 v16 v17 v19 v21 b131_overdue b131_gap b131_nextProbe X0 e0 N0 Z0 E_b131 F_b131_overdue F_b131_gap F_b131_nextProbe g_b131 _ hr
def f0_228_1 (v0 : Int64) (v2 : Int64) (v4 : Int32) (v5 : Int32) (v6 : Int32) (v7 : Int32) (v8 : Int32) (v9 : Int32) (v10 : Int32) (v11 : Int32) (v12 : Int32) (v13 : Int64) (v16 : Int32) (v17 : Int64) (v19 : Int64) (v21 : Int32) (b131_overdue : Int32) (b131_gap : Int64) (b131_nextProbe : Int64) : Int32 := (f0_240_1 v0 v2 v4 v5 v6 v7 v8 v9 v10 v11 v12 v13 v16 v17 v19 v21 ((f3_0 v2 v8 v9 v10 b131_overdue b131_gap b131_nextProbe).1) ((f3_0 v2 v8 v9 v10 b131_overdue b131_gap b131_nextProbe).2.1) ((f3_0 v2 v8 v9 v10 b131_overdue b131_gap b131_nextProbe).2.2))
set_option maxRecDepth 65536 in
set_option maxHeartbeats 40000000 in
theorem b0_228_1 {p : Program} {l : Launch} {e : Env} {s : State} {m : MethodId} {args : Array Value} {below : List Frame} {meth : Method} {c : Code} {Z : State} {a0 : Array Value} (B : Ctx p Z s a0 m meth c "com/example/quietwire/quietwire/protocol/OverdueJudgePinLaw" "law" code 31 (some .boolean)) {T0 : State} {locs : List Loc} {h : Heap} (h0 : Heap) (n0 : Nat) (v0 : Int64) (v2 : Int64) (v4 : Int32) (v5 : Int32) (v6 : Int32) (v7 : Int32) (v8 : Int32) (v9 : Int32) (v10 : Int32) (v11 : Int32) (v12 : Int32) (v13 : Int64) (b131 : Addr) (v16 : Int32) (v17 : Int64) (v19 : Int64) (v21 : Int32) (b131_overdue : Int32) (b131_gap : Int64) (b131_nextProbe : Int64) (X0 : Stand p l e room_1 s m args below meth c T0 locs 1 3) (e0 : T0.heap = h) (N0 : Fr n0 locs) (Z0 : n0 ≤ h.size) (E_b131 : Exa Z h b131 "com/example/quietwire/quietwire/protocol/Overdue") (F_b131_overdue : Fld Z h b131 "com/example/quietwire/quietwire/protocol/Overdue" "overdue" "Z" (.int b131_overdue)) (F_b131_gap : Fld Z h b131 "com/example/quietwire/quietwire/protocol/Overdue" "gap" "J" (.long b131_gap)) (F_b131_nextProbe : Fld Z h b131 "com/example/quietwire/quietwire/protocol/Overdue" "nextProbe" "J" (.long b131_nextProbe)) (g_b131 : n0 ≤ b131) (r : Int32) (hr : f0_228_1 v0 v2 v4 v5 v6 v7 v8 v9 v10 v11 v12 v13 v16 v17 v19 v21 b131_overdue b131_gap b131_nextProbe = r) :
    Fin p e below s 1 3 (Q0 n0 r) (T0.setTop (mkF m 228 #[.val (.long v0), .second, .val (.long v2), .second, .val (.int v4), .val (.int v5), .val (.int v6), .val (.int v7), .val (.int v8), .val (.int v9), .val (.int v10), .val (.int v11), .val (.int v12), .val (.long v13), .second, .val (.ref b131), .val (.int v16), .val (.long v17), .second, .val (.long v19), .second, .val (.int v21), .unset, .unset, .unset, .unset, .unset, .unset, .unset, .unset, .unset] [])) := by
  obtain ⟨hx, hZ, hw, hby, hml, hret, hown, hnm, hlk⟩ := B
  unfold f0_228_1 at hr
  refine Fin.by (B := T0.setTop (mkF m 237 #[.val (.long v0), .second, .val (.long v2), .second, .val (.int v4), .val (.int v5), .val (.int v6), .val (.int v7), .val (.int v8), .val (.int v9), .val (.int v10), .val (.int v11), .val (.int v12), .val (.long v13), .second, .val (.ref b131), .val (.int v16), .val (.long v17), .second, .val (.long v19), .second, .val (.int v21), .unset, .unset, .unset, .unset, .unset, .unset, .unset, .unset, .unset] [(.int v10), (.int v9), (.int v8), (.long v2), (.ref b131)])) (fun t k => ?_) ?_
  · show Steps p.tables e below (T0.setTop (mkF m 228 #[.val (.long v0), .second, .val (.long v2), .second, .val (.int v4), .val (.int v5), .val (.int v6), .val (.int v7), .val (.int v8), .val (.int v9), .val (.int v10), .val (.int v11), .val (.int v12), .val (.long v13), .second, .val (.ref b131), .val (.int v16), .val (.long v17), .second, .val (.long v19), .second, .val (.int v21), .unset, .unset, .unset, .unset, .unset, .unset, .unset, .unset, .unset] [])) _
    refine XS.aload X0.here hx rfl (hb hby at_228) rfl rfl ?_
    show Steps p.tables e below (T0.setTop (mkF m 230 #[.val (.long v0), .second, .val (.long v2), .second, .val (.int v4), .val (.int v5), .val (.int v6), .val (.int v7), .val (.int v8), .val (.int v9), .val (.int v10), .val (.int v11), .val (.int v12), .val (.long v13), .second, .val (.ref b131), .val (.int v16), .val (.long v17), .second, .val (.long v19), .second, .val (.int v21), .unset, .unset, .unset, .unset, .unset, .unset, .unset, .unset, .unset] [(.ref b131)])) _
    refine XS.lloadN X0.here hx rfl (hb hby at_230) rfl  ?_
    show Steps p.tables e below (T0.setTop (mkF m 231 #[.val (.long v0), .second, .val (.long v2), .second, .val (.int v4), .val (.int v5), .val (.int v6), .val (.int v7), .val (.int v8), .val (.int v9), .val (.int v10), .val (.int v11), .val (.int v12), .val (.long v13), .second, .val (.ref b131), .val (.int v16), .val (.long v17), .second, .val (.long v19), .second, .val (.int v21), .unset, .unset, .unset, .unset, .unset, .unset, .unset, .unset, .unset] [(.long v2), (.ref b131)])) _
    refine XS.iload X0.here hx rfl (hb hby at_231) rfl  ?_
    show Steps p.tables e below (T0.setTop (mkF m 233 #[.val (.long v0), .second, .val (.long v2), .second, .val (.int v4), .val (.int v5), .val (.int v6), .val (.int v7), .val (.int v8), .val (.int v9), .val (.int v10), .val (.int v11), .val (.int v12), .val (.long v13), .second, .val (.ref b131), .val (.int v16), .val (.long v17), .second, .val (.long v19), .second, .val (.int v21), .unset, .unset, .unset, .unset, .unset, .unset, .unset, .unset, .unset] [(.int v8), (.long v2), (.ref b131)])) _
    refine XS.iload X0.here hx rfl (hb hby at_233) rfl  ?_
    show Steps p.tables e below (T0.setTop (mkF m 235 #[.val (.long v0), .second, .val (.long v2), .second, .val (.int v4), .val (.int v5), .val (.int v6), .val (.int v7), .val (.int v8), .val (.int v9), .val (.int v10), .val (.int v11), .val (.int v12), .val (.long v13), .second, .val (.ref b131), .val (.int v16), .val (.long v17), .second, .val (.long v19), .second, .val (.int v21), .unset, .unset, .unset, .unset, .unset, .unset, .unset, .unset, .unset] [(.int v9), (.int v8), (.long v2), (.ref b131)])) _
    refine XS.iload X0.here hx rfl (hb hby at_235) rfl  ?_
    exact k
  -- pc 237: com/example/quietwire/quietwire/protocol/Overdue.judge
  obtain ⟨cq10, kq10, q10a, q10b, q10c⟩ := isOf hZ e0 E_b131
  obtain ⟨_, _, ⟨T10, L10, k10, n10⟩, -, X10, ⟨Lc10, hQ10, l10, y10, z10⟩, st10⟩ := X0.virtualBack hx (y := (⟨"com/example/quietwire/quietwire/protocol/Overdue", "judge", "(JZZZ)V"⟩ : MethodName)) (z := (⟨"com/example/quietwire/quietwire/protocol/Overdue", "judge", "(JZZZ)V"⟩ : MethodName)) hown (mvT hZ (hw _ (List.mem_of_getElem? (i := 9) rfl))) (mvT hZ (hw _ (List.mem_of_getElem? (i := 10) rfl))) (notFace_of_selects (args := #[]) (mvT hZ (hw _ (List.mem_of_getElem? (i := 12) rfl)))) (mvT hZ (hw _ (List.mem_of_getElem? (i := 12) rfl))) (mvT hZ (hw _ (List.mem_of_getElem? (i := 11) rfl))) (by decide) (backOf (W := 0) (rm3 l Z a0 hw [] b131 v2 v8 v9 v10 b131_overdue b131_gap b131_nextProbe h n0 Z0 E_b131 F_b131_overdue F_b131_gap F_b131_nextProbe g_b131) hZ (hw _ (List.mem_of_getElem? (i := 13) rfl)) (hw _ (List.mem_of_getElem? (i := 2) rfl)) (by decide) (by decide)) q10a q10c (g := (mkF m 237 #[.val (.long v0), .second, .val (.long v2), .second, .val (.int v4), .val (.int v5), .val (.int v6), .val (.int v7), .val (.int v8), .val (.int v9), .val (.int v10), .val (.int v11), .val (.int v12), .val (.long v13), .second, .val (.ref b131), .val (.int v16), .val (.long v17), .second, .val (.long v19), .second, .val (.int v21), .unset, .unset, .unset, .unset, .unset, .unset, .unset, .unset, .unset] [(.int v10), (.int v9), (.int v8), (.long v2), (.ref b131)])) rfl (by rw [hml]; rfl) (Steps.refl _) (argsL := [(.long v2), (.int v8), (.int v9), (.int v10)]) (rest := []) (lenOf pd_1 rfl) rfl (by show 2 * 0 + _ ≤ _; exact Nat.le_of_eq rfl) (hb hby at_237) (fun _ _ => ⟨rfl, e0, (by decide : 1 + R3.cells ≤ _), (by decide : 3 + R3.slots ≤ _)⟩)
  dsimp only [Pt.U, Pt.locs, Pt.cells, Pt.slots] at X10 l10 y10 z10 st10 hQ10
  subst l10 y10 z10
  obtain ⟨rfl, Nq10, Kq10, E_b131_10, F_b131_overdue_10, F_b131_gap_10, F_b131_nextProbe_10⟩ := hQ10
  obtain ⟨h10, e10⟩ : ∃ z, T10.heap = z := ⟨_, rfl⟩
  rw [e10] at Kq10 E_b131_10 F_b131_overdue_10 F_b131_gap_10 F_b131_nextProbe_10
  have N10 := Fr.app N0 Nq10
  have Z10 : n0 ≤ h10.size := Nat.le_trans Z0 Kq10.1
  refine Fin.by (B := T10.setTop (mkF m 240 #[.val (.long v0), .second, .val (.long v2), .second, .val (.int v4), .val (.int v5), .val (.int v6), .val (.int v7), .val (.int v8), .val (.int v9), .val (.int v10), .val (.int v11), .val (.int v12), .val (.long v13), .second, .val (.ref b131), .val (.int v16), .val (.long v17), .second, .val (.long v19), .second, .val (.int v21), .unset, .unset, .unset, .unset, .unset, .unset, .unset, .unset, .unset] [])) (fun t k => st10.trans k) ?_
  exact b0_240_1 ⟨hx, hZ, hw, hby, hml, hret, hown, hnm, hlk⟩ h0 n0 v0 v2 v4 v5 v6 v7 v8 v9 v10 v11 v12 v13 b131 v16 v17 v19 v21 ((f3_0 v2 v8 v9 v10 b131_overdue b131_gap b131_nextProbe).1) ((f3_0 v2 v8 v9 v10 b131_overdue b131_gap b131_nextProbe).2.1) ((f3_0 v2 v8 v9 v10 b131_overdue b131_gap b131_nextProbe).2.2) X10 e10 N10 Z10 E_b131_10 F_b131_overdue_10 F_b131_gap_10 F_b131_nextProbe_10 g_b131 _ hr
def f0_207 (v0 : Int64) (v2 : Int64) (v4 : Int32) (v5 : Int32) (v6 : Int32) (v7 : Int32) (v8 : Int32) (v9 : Int32) (v10 : Int32) (v11 : Int32) (v12 : Int32) (v13 : Int64) (v16 : Int32) (v17 : Int64) (v19 : Int64) (t0 : Int32) (b131_overdue : Int32) (b131_gap : Int64) (b131_nextProbe : Int64) : Int32 := (if t0 = (0 : Int32) then (0 : Int32) else (f0_228_1 v0 v2 v4 v5 v6 v7 v8 v9 v10 v11 v12 v13 v16 (2 : Int64) (v0 + (2 : Int64)) t0 b131_overdue b131_gap b131_nextProbe))
set_option maxRecDepth 65536 in
set_option maxHeartbeats 40000000 in
theorem b0_207 {p : Program} {l : Launch} {e : Env} {s : State} {m : MethodId} {args : Array Value} {below : List Frame} {meth : Method} {c : Code} {Z : State} {a0 : Array Value} (B : Ctx p Z s a0 m meth c "com/example/quietwire/quietwire/protocol/OverdueJudgePinLaw" "law" code 31 (some .boolean)) {T0 : State} {locs : List Loc} {h : Heap} (h0 : Heap) (n0 : Nat) (v0 : Int64) (v2 : Int64) (v4 : Int32) (v5 : Int32) (v6 : Int32) (v7 : Int32) (v8 : Int32) (v9 : Int32) (v10 : Int32) (v11 : Int32) (v12 : Int32) (v13 : Int64) (b131 : Addr) (v16 : Int32) (v17 : Int64) (v19 : Int64) (t0 : Int32) (b131_overdue : Int32) (b131_gap : Int64) (b131_nextProbe : Int64) (X0 : Stand p l e room_1 s m args below meth c T0 locs 1 3) (e0 : T0.heap = h) (N0 : Fr n0 locs) (Z0 : n0 ≤ h.size) (E_b131 : Exa Z h b131 "com/example/quietwire/quietwire/protocol/Overdue") (F_b131_overdue : Fld Z h b131 "com/example/quietwire/quietwire/protocol/Overdue" "overdue" "Z" (.int b131_overdue)) (F_b131_gap : Fld Z h b131 "com/example/quietwire/quietwire/protocol/Overdue" "gap" "J" (.long b131_gap)) (F_b131_nextProbe : Fld Z h b131 "com/example/quietwire/quietwire/protocol/Overdue" "nextProbe" "J" (.long b131_nextProbe)) (g_b131 : n0 ≤ b131) (r : Int32) (hr : f0_207 v0 v2 v4 v5 v6 v7 v8 v9 v10 v11 v12 v13 v16 v17 v19 t0 b131_overdue b131_gap b131_nextProbe = r) :
    Fin p e below s 1 3 (Q0 n0 r) (T0.setTop (mkF m 207 #[.val (.long v0), .second, .val (.long v2), .second, .val (.int v4), .val (.int v5), .val (.int v6), .val (.int v7), .val (.int v8), .val (.int v9), .val (.int v10), .val (.int v11), .val (.int v12), .val (.long v13), .second, .val (.ref b131), .val (.int v16), .val (.long v17), .second, .val (.long v19), .second, .unset, .unset, .unset, .unset, .unset, .unset, .unset, .unset, .unset, .unset] [(.int t0)])) := by
  obtain ⟨hx, hZ, hw, hby, hml, hret, hown, hnm, hlk⟩ := B
  unfold f0_207 at hr
  refine Fin.by (B := T0.setTop (mkF m 211 #[.val (.long v0), .second, .val (.long v2), .second, .val (.int v4), .val (.int v5), .val (.int v6), .val (.int v7), .val (.int v8), .val (.int v9), .val (.int v10), .val (.int v11), .val (.int v12), .val (.long v13), .second, .val (.ref b131), .val (.int v16), .val (.long v17), .second, .val (.long v19), .second, .val (.int t0), .unset, .unset, .unset, .unset, .unset, .unset, .unset, .unset, .unset] [(.int t0)])) (fun t k => ?_) ?_
  · show Steps p.tables e below (T0.setTop (mkF m 207 #[.val (.long v0), .second, .val (.long v2), .second, .val (.int v4), .val (.int v5), .val (.int v6), .val (.int v7), .val (.int v8), .val (.int v9), .val (.int v10), .val (.int v11), .val (.int v12), .val (.long v13), .second, .val (.ref b131), .val (.int v16), .val (.long v17), .second, .val (.long v19), .second, .unset, .unset, .unset, .unset, .unset, .unset, .unset, .unset, .unset, .unset] [(.int t0)])) _
    refine XS.istore X0.here hx rfl (hb hby at_207) rfl (l' := #[.val (.long v0), .second, .val (.long v2), .second, .val (.int v4), .val (.int v5), .val (.int v6), .val (.int v7), .val (.int v8), .val (.int v9), .val (.int v10), .val (.int v11), .val (.int v12), .val (.long v13), .second, .val (.ref b131), .val (.int v16), .val (.long v17), .second, .val (.long v19), .second, .val (.int t0), .unset, .unset, .unset, .unset, .unset, .unset, .unset, .unset, .unset]) rfl ?_
    show Steps p.tables e below (T0.setTop (mkF m 209 #[.val (.long v0), .second, .val (.long v2), .second, .val (.int v4), .val (.int v5), .val (.int v6), .val (.int v7), .val (.int v8), .val (.int v9), .val (.int v10), .val (.int v11), .val (.int v12), .val (.long v13), .second, .val (.ref b131), .val (.int v16), .val (.long v17), .second, .val (.long v19), .second, .val (.int t0), .unset, .unset, .unset, .unset, .unset, .unset, .unset, .unset, .unset] [])) _
    refine XS.iload X0.here hx rfl (hb hby at_209) rfl  ?_
    exact k
  by_cases hc211 : t0 = (0 : Int32)
  · rw [if_pos hc211] at hr
    refine Fin.by (B := T0.setTop (mkF m 214 #[.val (.long v0), .second, .val (.long v2), .second, .val (.int v4), .val (.int v5), .val (.int v6), .val (.int v7), .val (.int v8), .val (.int v9), .val (.int v10), .val (.int v11), .val (.int v12), .val (.long v13), .second, .val (.ref b131), .val (.int v16), .val (.long v17), .second, .val (.long v19), .second, .val (.int t0), .unset, .unset, .unset, .unset, .unset, .unset, .unset, .unset, .unset] [])) (fun t k => ?_) ?_
    · show Steps p.tables e below (T0.setTop (mkF m 211 #[.val (.long v0), .second, .val (.long v2), .second, .val (.int v4), .val (.int v5), .val (.int v6), .val (.int v7), .val (.int v8), .val (.int v9), .val (.int v10), .val (.int v11), .val (.int v12), .val (.long v13), .second, .val (.ref b131), .val (.int v16), .val (.long v17), .second, .val (.long v19), .second, .val (.int t0), .unset, .unset, .unset, .unset, .unset, .unset, .unset, .unset, .unset] [(.int t0)])) _
      exact XS.ifNo X0.here hx rfl (hb hby at_211) rfl ((if0 _ _).trans (teq hc211).2) k
    refine Fin.by (B := T0.setTop (mkF m 215 #[.val (.long v0), .second, .val (.long v2), .second, .val (.int v4), .val (.int v5), .val (.int v6), .val (.int v7), .val (.int v8), .val (.int v9), .val (.int v10), .val (.int v11), .val (.int v12), .val (.long v13), .second, .val (.ref b131), .val (.int v16), .val (.long v17), .second, .val (.long v19), .second, .val (.int t0), .unset, .unset, .unset, .unset, .unset, .unset, .unset, .unset, .unset] [(.int (0 : Int32))])) (fun t k => ?_) ?_
    · show Steps p.tables e below (T0.setTop (mkF m 214 #[.val (.long v0), .second, .val (.long v2), .second, .val (.int v4), .val (.int v5), .val (.int v6), .val (.int v7), .val (.int v8), .val (.int v9), .val (.int v10), .val (.int v11), .val (.int v12), .val (.long v13), .second, .val (.ref b131), .val (.int v16), .val (.long v17), .second, .val (.long v19), .second, .val (.int t0), .unset, .unset, .unset, .unset, .unset, .unset, .unset, .unset, .unset] [])) _
      refine XS.iconst X0.here hx rfl (hb hby at_214) ?_
      exact k
    subst hr
    exact own_retN X0 hx hlk (t := .boolean) hret (by simp) (hb hby at_215) (by decide) (by decide) ⟨rfl, N0⟩
  · rw [if_neg hc211] at hr
    refine Fin.by (B := T0.setTop (mkF m 216 #[.val (.long v0), .second, .val (.long v2), .second, .val (.int v4), .val (.int v5), .val (.int v6), .val (.int v7), .val (.int v8), .val (.int v9), .val (.int v10), .val (.int v11), .val (.int v12), .val (.long v13), .second, .val (.ref b131), .val (.int v16), .val (.long v17), .second, .val (.long v19), .second, .val (.int t0), .unset, .unset, .unset, .unset, .unset, .unset, .unset, .unset, .unset] [])) (fun t k => ?_) ?_
    · show Steps p.tables e below (T0.setTop (mkF m 211 #[.val (.long v0), .second, .val (.long v2), .second, .val (.int v4), .val (.int v5), .val (.int v6), .val (.int v7), .val (.int v8), .val (.int v9), .val (.int v10), .val (.int v11), .val (.int v12), .val (.long v13), .second, .val (.ref b131), .val (.int v16), .val (.long v17), .second, .val (.long v19), .second, .val (.int t0), .unset, .unset, .unset, .unset, .unset, .unset, .unset, .unset, .unset] [(.int t0)])) _
      exact XS.ifYes X0.here hx rfl (pc0 := 211) (pc' := 216) rfl (hb hby at_211) rfl ((if0 _ _).trans (feq hc211).2) (by decide) (by decide) k
    refine Fin.by (B := T0.setTop (mkF m 228 #[.val (.long v0), .second, .val (.long v2), .second, .val (.int v4), .val (.int v5), .val (.int v6), .val (.int v7), .val (.int v8), .val (.int v9), .val (.int v10), .val (.int v11), .val (.int v12), .val (.long v13), .second, .val (.ref b131), .val (.int v16), .val (.long (2 : Int64)), .second, .val (.long (v0 + (2 : Int64))), .second, .val (.int t0), .unset, .unset, .unset, .unset, .unset, .unset, .unset, .unset, .unset] [])) (fun t k => ?_) ?_
    · show Steps p.tables e below (T0.setTop (mkF m 216 #[.val (.long v0), .second, .val (.long v2), .second, .val (.int v4), .val (.int v5), .val (.int v6), .val (.int v7), .val (.int v8), .val (.int v9), .val (.int v10), .val (.int v11), .val (.int v12), .val (.long v13), .second, .val (.ref b131), .val (.int v16), .val (.long v17), .second, .val (.long v19), .second, .val (.int t0), .unset, .unset, .unset, .unset, .unset, .unset, .unset, .unset, .unset] [])) _
      refine X0.ldc2Long hx hown (mvT hZ (hw _ (List.mem_of_getElem? (i := 41) rfl))) (g := (mkF m 216 #[.val (.long v0), .second, .val (.long v2), .second, .val (.int v4), .val (.int v5), .val (.int v6), .val (.int v7), .val (.int v8), .val (.int v9), .val (.int v10), .val (.int v11), .val (.int v12), .val (.long v13), .second, .val (.ref b131), .val (.int v16), .val (.long v17), .second, .val (.long v19), .second, .val (.int t0), .unset, .unset, .unset, .unset, .unset, .unset, .unset, .unset, .unset] [])) rfl (hb hby at_216) _ ?_
      show Steps p.tables e below (T0.setTop (mkF m 219 #[.val (.long v0), .second, .val (.long v2), .second, .val (.int v4), .val (.int v5), .val (.int v6), .val (.int v7), .val (.int v8), .val (.int v9), .val (.int v10), .val (.int v11), .val (.int v12), .val (.long v13), .second, .val (.ref b131), .val (.int v16), .val (.long v17), .second, .val (.long v19), .second, .val (.int t0), .unset, .unset, .unset, .unset, .unset, .unset, .unset, .unset, .unset] [(.long (2 : Int64))])) _
      refine XS.lstore X0.here hx rfl (hb hby at_219) rfl (l' := #[.val (.long v0), .second, .val (.long v2), .second, .val (.int v4), .val (.int v5), .val (.int v6), .val (.int v7), .val (.int v8), .val (.int v9), .val (.int v10), .val (.int v11), .val (.int v12), .val (.long v13), .second, .val (.ref b131), .val (.int v16), .val (.long (2 : Int64)), .second, .val (.long v19), .second, .val (.int t0), .unset, .unset, .unset, .unset, .unset, .unset, .unset, .unset, .unset]) rfl ?_
      show Steps p.tables e below (T0.setTop (mkF m 221 #[.val (.long v0), .second, .val (.long v2), .second, .val (.int v4), .val (.int v5), .val (.int v6), .val (.int v7), .val (.int v8), .val (.int v9), .val (.int v10), .val (.int v11), .val (.int v12), .val (.long v13), .second, .val (.ref b131), .val (.int v16), .val (.long (2 : Int64)), .second, .val (.long v19), .second, .val (.int t0), .unset, .unset, .unset, .unset, .unset, .unset, .unset, .unset, .unset] [])) _
      refine XS.lloadN X0.here hx rfl (hb hby at_221) rfl  ?_
      show Steps p.tables e below (T0.setTop (mkF m 222 #[.val (.long v0), .second, .val (.long v2), .second, .val (.int v4), .val (.int v5), .val (.int v6), .val (.int v7), .val (.int v8), .val (.int v9), .val (.int v10), .val (.int v11), .val (.int v12), .val (.long v13), .second, .val (.ref b131), .val (.int v16), .val (.long (2 : Int64)), .second, .val (.long v19), .second, .val (.int t0), .unset, .unset, .unset, .unset, .unset, .unset, .unset, .unset, .unset] [(.long v0)])) _
      refine X0.ldc2Long hx hown (mvT hZ (hw _ (List.mem_of_getElem? (i := 41) rfl))) (g := (mkF m 222 #[.val (.long v0), .second, .val (.long v2), .second, .val (.int v4), .val (.int v5), .val (.int v6), .val (.int v7), .val (.int v8), .val (.int v9), .val (.int v10), .val (.int v11), .val (.int v12), .val (.long v13), .second, .val (.ref b131), .val (.int v16), .val (.long (2 : Int64)), .second, .val (.long v19), .second, .val (.int t0), .unset, .unset, .unset, .unset, .unset, .unset, .unset, .unset, .unset] [(.long v0)])) rfl (hb hby at_222) _ ?_
      show Steps p.tables e below (T0.setTop (mkF m 225 #[.val (.long v0), .second, .val (.long v2), .second, .val (.int v4), .val (.int v5), .val (.int v6), .val (.int v7), .val (.int v8), .val (.int v9), .val (.int v10), .val (.int v11), .val (.int v12), .val (.long v13), .second, .val (.ref b131), .val (.int v16), .val (.long (2 : Int64)), .second, .val (.long v19), .second, .val (.int t0), .unset, .unset, .unset, .unset, .unset, .unset, .unset, .unset, .unset] [(.long (2 : Int64)), (.long v0)])) _
      refine XS.ladd X0.here hx rfl (hb hby at_225) rfl ?_
      show Steps p.tables e below (T0.setTop (mkF m 226 #[.val (.long v0), .second, .val (.long v2), .second, .val (.int v4), .val (.int v5), .val (.int v6), .val (.int v7), .val (.int v8), .val (.int v9), .val (.int v10), .val (.int v11), .val (.int v12), .val (.long v13), .second, .val (.ref b131), .val (.int v16), .val (.long (2 : Int64)), .second, .val (.long v19), .second, .val (.int t0), .unset, .unset, .unset, .unset, .unset, .unset, .unset, .unset, .unset] [(.long (v0 + (2 : Int64)))])) _
      refine XS.lstore X0.here hx rfl (hb hby at_226) rfl (l' := #[.val (.long v0), .second, .val (.long v2), .second, .val (.int v4), .val (.int v5), .val (.int v6), .val (.int v7), .val (.int v8), .val (.int v9), .val (.int v10), .val (.int v11), .val (.int v12), .val (.long v13), .second, .val (.ref b131), .val (.int v16), .val (.long (2 : Int64)), .second, .val (.long (v0 + (2 : Int64))), .second, .val (.int t0), .unset, .unset, .unset, .unset, .unset, .unset, .unset, .unset, .unset]) rfl ?_
      exact k
    exact b0_228_1 ⟨hx, hZ, hw, hby, hml, hret, hown, hnm, hlk⟩ h0 n0 v0 v2 v4 v5 v6 v7 v8 v9 v10 v11 v12 v13 b131 v16 (2 : Int64) (v0 + (2 : Int64)) t0 b131_overdue b131_gap b131_nextProbe X0 e0 N0 Z0 E_b131 F_b131_overdue F_b131_gap F_b131_nextProbe g_b131 _ hr
def f0_177 (v0 : Int64) (v2 : Int64) (v4 : Int32) (v5 : Int32) (v6 : Int32) (v7 : Int32) (v8 : Int32) (v9 : Int32) (v10 : Int32) (v11 : Int32) (v12 : Int32) (v13 : Int64) (t0 : Int32) (b131_overdue : Int32) (b131_gap : Int64) (b131_nextProbe : Int64) : Int32 := (if t0 = (0 : Int32) then (f0_228 v0 v2 v4 v5 v6 v7 v8 v9 v10 v11 v12 v13 t0 (0 : Int64) (0 : Int64) b131_overdue b131_gap b131_nextProbe) else (if v11 = (0 : Int32) then (f0_228 v0 v2 v4 v5 v6 v7 v8 v9 v10 v11 v12 v13 t0 (1 : Int64) v0 b131_overdue b131_gap b131_nextProbe) else (f0_207 v0 v2 v4 v5 v6 v7 v8 v9 v10 v11 v12 v13 t0 (1 : Int64) v0 ((f6_0 v0 b131_overdue b131_gap b131_nextProbe).1) ((f6_0 v0 b131_overdue b131_gap b131_nextProbe).2.1) ((f6_0 v0 b131_overdue b131_gap b131_nextProbe).2.2.1) ((f6_0 v0 b131_overdue b131_gap b131_nextProbe).2.2.2))))
set_option maxRecDepth 65536 in
set_option maxHeartbeats 40000000 in
theorem b0_177 {p : Program} {l : Launch} {e : Env} {s : State} {m : MethodId} {args : Array Value} {below : List Frame} {meth : Method} {c : Code} {Z : State} {a0 : Array Value} (B : Ctx p Z s a0 m meth c "com/example/quietwire/quietwire/protocol/OverdueJudgePinLaw" "law" code 31 (some .boolean)) {T0 : State} {locs : List Loc} {h : Heap} (h0 : Heap) (n0 : Nat) (v0 : Int64) (v2 : Int64) (v4 : Int32) (v5 : Int32) (v6 : Int32) (v7 : Int32) (v8 : Int32) (v9 : Int32) (v10 : Int32) (v11 : Int32) (v12 : Int32) (v13 : Int64) (b131 : Addr) (t0 : Int32) (b131_overdue : Int32) (b131_gap : Int64) (b131_nextProbe : Int64) (X0 : Stand p l e room_1 s m args below meth c T0 locs 1 3) (e0 : T0.heap = h) (N0 : Fr n0 locs) (Z0 : n0 ≤ h.size) (E_b131 : Exa Z h b131 "com/example/quietwire/quietwire/protocol/Overdue") (F_b131_overdue : Fld Z h b131 "com/example/quietwire/quietwire/protocol/Overdue" "overdue" "Z" (.int b131_overdue)) (F_b131_gap : Fld Z h b131 "com/example/quietwire/quietwire/protocol/Overdue" "gap" "J" (.long b131_gap)) (F_b131_nextProbe : Fld Z h b131 "com/example/quietwire/quietwire/protocol/Overdue" "nextProbe" "J" (.long b131_nextProbe)) (g_b131 : n0 ≤ b131) (r : Int32) (hr : f0_177 v0 v2 v4 v5 v6 v7 v8 v9 v10 v11 v12 v13 t0 b131_overdue b131_gap b131_nextProbe = r) :
    Fin p e below s 1 3 (Q0 n0 r) (T0.setTop (mkF m 177 #[.val (.long v0), .second, .val (.long v2), .second, .val (.int v4), .val (.int v5), .val (.int v6), .val (.int v7), .val (.int v8), .val (.int v9), .val (.int v10), .val (.int v11), .val (.int v12), .val (.long v13), .second, .val (.ref b131), .unset, .unset, .unset, .unset, .unset, .unset, .unset, .unset, .unset, .unset, .unset, .unset, .unset, .unset, .unset] [(.int t0)])) := by
  obtain ⟨hx, hZ, hw, hby, hml, hret, hown, hnm, hlk⟩ := B
  unfold f0_177 at hr
  refine Fin.by (B := T0.setTop (mkF m 187 #[.val (.long v0), .second, .val (.long v2), .second, .val (.int v4), .val (.int v5), .val (.int v6), .val (.int v7), .val (.int v8), .val (.int v9), .val (.int v10), .val (.int v11), .val (.int v12), .val (.long v13), .second, .val (.ref b131), .val (.int t0), .val (.long (0 : Int64)), .second, .val (.long (0 : Int64)), .second, .unset, .unset, .unset, .unset, .unset, .unset, .unset, .unset, .unset, .unset] [(.int t0)])) (fun t k => ?_) ?_
  · show Steps p.tables e below (T0.setTop (mkF m 177 #[.val (.long v0), .second, .val (.long v2), .second, .val (.int v4), .val (.int v5), .val (.int v6), .val (.int v7), .val (.int v8), .val (.int v9), .val (.int v10), .val (.int v11), .val (.int v12), .val (.long v13), .second, .val (.ref b131), .unset, .unset, .unset, .unset, .unset, .unset, .unset, .unset, .unset, .unset, .unset, .unset, .unset, .unset, .unset] [(.int t0)])) _
    refine XS.istore X0.here hx rfl (hb hby at_177) rfl (l' := #[.val (.long v0), .second, .val (.long v2), .second, .val (.int v4), .val (.int v5), .val (.int v6), .val (.int v7), .val (.int v8), .val (.int v9), .val (.int v10), .val (.int v11), .val (.int v12), .val (.long v13), .second, .val (.ref b131), .val (.int t0), .unset, .unset, .unset, .unset, .unset, .unset, .unset, .unset, .unset, .unset, .unset, .unset, .unset, .unset]) rfl ?_
    show Steps p.tables e below (T0.setTop (mkF m 179 #[.val (.long v0), .second, .val (.long v2), .second, .val (.int v4), .val (.int v5), .val (.int v6), .val (.int v7), .val (.int v8), .val (.int v9), .val (.int v10), .val (.int v11), .val (.int v12), .val (.long v13), .second, .val (.ref b131), .val (.int t0), .unset, .unset, .unset, .unset, .unset, .unset, .unset, .unset, .unset, .unset, .unset, .unset, .unset, .unset] [])) _
    refine XS.lconst X0.here hx rfl (hb hby at_179) ?_
    show Steps p.tables e below (T0.setTop (mkF m 180 #[.val (.long v0), .second, .val (.long v2), .second, .val (.int v4), .val (.int v5), .val (.int v6), .val (.int v7), .val (.int v8), .val (.int v9), .val (.int v10), .val (.int v11), .val (.int v12), .val (.long v13), .second, .val (.ref b131), .val (.int t0), .unset, .unset, .unset, .unset, .unset, .unset, .unset, .unset, .unset, .unset, .unset, .unset, .unset, .unset] [(.long (0 : Int64))])) _
    refine XS.lstore X0.here hx rfl (hb hby at_180) rfl (l' := #[.val (.long v0), .second, .val (.long v2), .second, .val (.int v4), .val (.int v5), .val (.int v6), .val (.int v7), .val (.int v8), .val (.int v9), .val (.int v10), .val (.int v11), .val (.int v12), .val (.long v13), .second, .val (.ref b131), .val (.int t0), .val (.long (0 : Int64)), .second, .unset, .unset, .unset, .unset, .unset, .unset, .unset, .unset, .unset, .unset, .unset, .unset]) rfl ?_
    show Steps p.tables e below (T0.setTop (mkF m 182 #[.val (.long v0), .second, .val (.long v2), .second, .val (.int v4), .val (.int v5), .val (.int v6), .val (.int v7), .val (.int v8), .val (.int v9), .val (.int v10), .val (.int v11), .val (.int v12), .val (.long v13), .second, .val (.ref b131), .val (.int t0), .val (.long (0 : Int64)), .second, .unset, .unset, .unset, .unset, .unset, .unset, .unset, .unset, .unset, .unset, .unset, .unset] [])) _
    refine XS.lconst X0.here hx rfl (hb hby at_182) ?_
    show Steps p.tables e below (T0.setTop (mkF m 183 #[.val (.long v0), .second, .val (.long v2), .second, .val (.int v4), .val (.int v5), .val (.int v6), .val (.int v7), .val (.int v8), .val (.int v9), .val (.int v10), .val (.int v11), .val (.int v12), .val (.long v13), .second, .val (.ref b131), .val (.int t0), .val (.long (0 : Int64)), .second, .unset, .unset, .unset, .unset, .unset, .unset, .unset, .unset, .unset, .unset, .unset, .unset] [(.long (0 : Int64))])) _
    refine XS.lstore X0.here hx rfl (hb hby at_183) rfl (l' := #[.val (.long v0), .second, .val (.long v2), .second, .val (.int v4), .val (.int v5), .val (.int v6), .val (.int v7), .val (.int v8), .val (.int v9), .val (.int v10), .val (.int v11), .val (.int v12), .val (.long v13), .second, .val (.ref b131), .val (.int t0), .val (.long (0 : Int64)), .second, .val (.long (0 : Int64)), .second, .unset, .unset, .unset, .unset, .unset, .unset, .unset, .unset, .unset, .unset]) rfl ?_
    show Steps p.tables e below (T0.setTop (mkF m 185 #[.val (.long v0), .second, .val (.long v2), .second, .val (.int v4), .val (.int v5), .val (.int v6), .val (.int v7), .val (.int v8), .val (.int v9), .val (.int v10), .val (.int v11), .val (.int v12), .val (.long v13), .second, .val (.ref b131), .val (.int t0), .val (.long (0 : Int64)), .second, .val (.long (0 : Int64)), .second, .unset, .unset, .unset, .unset, .unset, .unset, .unset, .unset, .unset, .unset] [])) _
    refine XS.iload X0.here hx rfl (hb hby at_185) rfl  ?_
    exact k
  by_cases hc187 : t0 = (0 : Int32)
  · rw [if_pos hc187] at hr
    refine Fin.by (B := T0.setTop (mkF m 228 #[.val (.long v0), .second, .val (.long v2), .second, .val (.int v4), .val (.int v5), .val (.int v6), .val (.int v7), .val (.int v8), .val (.int v9), .val (.int v10), .val (.int v11), .val (.int v12), .val (.long v13), .second, .val (.ref b131), .val (.int t0), .val (.long (0 : Int64)), .second, .val (.long (0 : Int64)), .second, .unset, .unset, .unset, .unset, .unset, .unset, .unset, .unset, .unset, .unset] [])) (fun t k => ?_) ?_
    · show Steps p.tables e below (T0.setTop (mkF m 187 #[.val (.long v0), .second, .val (.long v2), .second, .val (.int v4), .val (.int v5), .val (.int v6), .val (.int v7), .val (.int v8), .val (.int v9), .val (.int v10), .val (.int v11), .val (.int v12), .val (.long v13), .second, .val (.ref b131), .val (.int t0), .val (.long (0 : Int64)), .second, .val (.long (0 : Int64)), .second, .unset, .unset, .unset, .unset, .unset, .unset, .unset, .unset, .unset, .unset] [(.int t0)])) _
      exact XS.ifYes X0.here hx rfl (pc0 := 187) (pc' := 228) rfl (hb hby at_187) rfl ((if0 _ _).trans (teq hc187).1) (by decide) (by decide) k
    exact b0_228 ⟨hx, hZ, hw, hby, hml, hret, hown, hnm, hlk⟩ h0 n0 v0 v2 v4 v5 v6 v7 v8 v9 v10 v11 v12 v13 b131 t0 (0 : Int64) (0 : Int64) b131_overdue b131_gap b131_nextProbe X0 e0 N0 Z0 E_b131 F_b131_overdue F_b131_gap F_b131_nextProbe g_b131 _ hr
  · rw [if_neg hc187] at hr
    refine Fin.by (B := T0.setTop (mkF m 190 #[.val (.long v0), .second, .val (.long v2), .second, .val (.int v4), .val (.int v5), .val (.int v6), .val (.int v7), .val (.int v8), .val (.int v9), .val (.int v10), .val (.int v11), .val (.int v12), .val (.long v13), .second, .val (.ref b131), .val (.int t0), .val (.long (0 : Int64)), .second, .val (.long (0 : Int64)), .second, .unset, .unset, .unset, .unset, .unset, .unset, .unset, .unset, .unset, .unset] [])) (fun t k => ?_) ?_
    · show Steps p.tables e below (T0.setTop (mkF m 187 #[.val (.long v0), .second, .val (.long v2), .second, .val (.int v4), .val (.int v5), .val (.int v6), .val (.int v7), .val (.int v8), .val (.int v9), .val (.int v10), .val (.int v11), .val (.int v12), .val (.long v13), .second, .val (.ref b131), .val (.int t0), .val (.long (0 : Int64)), .second, .val (.long (0 : Int64)), .second, .unset, .unset, .unset, .unset, .unset, .unset, .unset, .unset, .unset, .unset] [(.int t0)])) _
      exact XS.ifNo X0.here hx rfl (hb hby at_187) rfl ((if0 _ _).trans (feq hc187).1) k
    refine Fin.by (B := T0.setTop (mkF m 198 #[.val (.long v0), .second, .val (.long v2), .second, .val (.int v4), .val (.int v5), .val (.int v6), .val (.int v7), .val (.int v8), .val (.int v9), .val (.int v10), .val (.int v11), .val (.int v12), .val (.long v13), .second, .val (.ref b131), .val (.int t0), .val (.long (1 : Int64)), .second, .val (.long v0), .second, .unset, .unset, .unset, .unset, .unset, .unset, .unset, .unset, .unset, .unset] [(.int v11)])) (fun t k => ?_) ?_
    · show Steps p.tables e below (T0.setTop (mkF m 190 #[.val (.long v0), .second, .val (.long v2), .second, .val (.int v4), .val (.int v5), .val (.int v6), .val (.int v7), .val (.int v8), .val (.int v9), .val (.int v10), .val (.int v11), .val (.int v12), .val (.long v13), .second, .val (.ref b131), .val (.int t0), .val (.long (0 : Int64)), .second, .val (.long (0 : Int64)), .second, .unset, .unset, .unset, .unset, .unset, .unset, .unset, .unset, .unset, .unset] [])) _
      refine XS.lconst X0.here hx rfl (hb hby at_190) ?_
      show Steps p.tables e below (T0.setTop (mkF m 191 #[.val (.long v0), .second, .val (.long v2), .second, .val (.int v4), .val (.int v5), .val (.int v6), .val (.int v7), .val (.int v8), .val (.int v9), .val (.int v10), .val (.int v11), .val (.int v12), .val (.long v13), .second, .val (.ref b131), .val (.int t0), .val (.long (0 : Int64)), .second, .val (.long (0 : Int64)), .second, .unset, .unset, .unset, .unset, .unset, .unset, .unset, .unset, .unset, .unset] [(.long (1 : Int64))])) _
      refine XS.lstore X0.here hx rfl (hb hby at_191) rfl (l' := #[.val (.long v0), .second, .val (.long v2), .second, .val (.int v4), .val (.int v5), .val (.int v6), .val (.int v7), .val (.int v8), .val (.int v9), .val (.int v10), .val (.int v11), .val (.int v12), .val (.long v13), .second, .val (.ref b131), .val (.int t0), .val (.long (1 : Int64)), .second, .val (.long (0 : Int64)), .second, .unset, .unset, .unset, .unset, .unset, .unset, .unset, .unset, .unset, .unset]) rfl ?_
      show Steps p.tables e below (T0.setTop (mkF m 193 #[.val (.long v0), .second, .val (.long v2), .second, .val (.int v4), .val (.int v5), .val (.int v6), .val (.int v7), .val (.int v8), .val (.int v9), .val (.int v10), .val (.int v11), .val (.int v12), .val (.long v13), .second, .val (.ref b131), .val (.int t0), .val (.long (1 : Int64)), .second, .val (.long (0 : Int64)), .second, .unset, .unset, .unset, .unset, .unset, .unset, .unset, .unset, .unset, .unset] [])) _
      refine XS.lloadN X0.here hx rfl (hb hby at_193) rfl  ?_
      show Steps p.tables e below (T0.setTop (mkF m 194 #[.val (.long v0), .second, .val (.long v2), .second, .val (.int v4), .val (.int v5), .val (.int v6), .val (.int v7), .val (.int v8), .val (.int v9), .val (.int v10), .val (.int v11), .val (.int v12), .val (.long v13), .second, .val (.ref b131), .val (.int t0), .val (.long (1 : Int64)), .second, .val (.long (0 : Int64)), .second, .unset, .unset, .unset, .unset, .unset, .unset, .unset, .unset, .unset, .unset] [(.long v0)])) _
      refine XS.lstore X0.here hx rfl (hb hby at_194) rfl (l' := #[.val (.long v0), .second, .val (.long v2), .second, .val (.int v4), .val (.int v5), .val (.int v6), .val (.int v7), .val (.int v8), .val (.int v9), .val (.int v10), .val (.int v11), .val (.int v12), .val (.long v13), .second, .val (.ref b131), .val (.int t0), .val (.long (1 : Int64)), .second, .val (.long v0), .second, .unset, .unset, .unset, .unset, .unset, .unset, .unset, .unset, .unset, .unset]) rfl ?_
      show Steps p.tables e below (T0.setTop (mkF m 196 #[.val (.long v0), .second, .val (.long v2), .second, .val (.int v4), .val (.int v5), .val (.int v6), .val (.int v7), .val (.int v8), .val (.int v9), .val (.int v10), .val (.int v11), .val (.int v12), .val (.long v13), .second, .val (.ref b131), .val (.int t0), .val (.long (1 : Int64)), .second, .val (.long v0), .second, .unset, .unset, .unset, .unset, .unset, .unset, .unset, .unset, .unset, .unset] [])) _
      refine XS.iload X0.here hx rfl (hb hby at_196) rfl  ?_
      exact k
    by_cases hc198 : v11 = (0 : Int32)
    · rw [if_pos hc198] at hr
      refine Fin.by (B := T0.setTop (mkF m 228 #[.val (.long v0), .second, .val (.long v2), .second, .val (.int v4), .val (.int v5), .val (.int v6), .val (.int v7), .val (.int v8), .val (.int v9), .val (.int v10), .val (.int v11), .val (.int v12), .val (.long v13), .second, .val (.ref b131), .val (.int t0), .val (.long (1 : Int64)), .second, .val (.long v0), .second, .unset, .unset, .unset, .unset, .unset, .unset, .unset, .unset, .unset, .unset] [])) (fun t k => ?_) ?_
      · show Steps p.tables e below (T0.setTop (mkF m 198 #[.val (.long v0), .second, .val (.long v2), .second, .val (.int v4), .val (.int v5), .val (.int v6), .val (.int v7), .val (.int v8), .val (.int v9), .val (.int v10), .val (.int v11), .val (.int v12), .val (.long v13), .second, .val (.ref b131), .val (.int t0), .val (.long (1 : Int64)), .second, .val (.long v0), .second, .unset, .unset, .unset, .unset, .unset, .unset, .unset, .unset, .unset, .unset] [(.int v11)])) _
        exact XS.ifYes X0.here hx rfl (pc0 := 198) (pc' := 228) rfl (hb hby at_198) rfl ((if0 _ _).trans (teq hc198).1) (by decide) (by decide) k
      exact b0_228 ⟨hx, hZ, hw, hby, hml, hret, hown, hnm, hlk⟩ h0 n0 v0 v2 v4 v5 v6 v7 v8 v9 v10 v11 v12 v13 b131 t0 (1 : Int64) v0 b131_overdue b131_gap b131_nextProbe X0 e0 N0 Z0 E_b131 F_b131_overdue F_b131_gap F_b131_nextProbe g_b131 _ hr
    · rw [if_neg hc198] at hr
      refine Fin.by (B := T0.setTop (mkF m 201 #[.val (.long v0), .second, .val (.long v2), .second, .val (.int v4), .val (.int v5), .val (.int v6), .val (.int v7), .val (.int v8), .val (.int v9), .val (.int v10), .val (.int v11), .val (.int v12), .val (.long v13), .second, .val (.ref b131), .val (.int t0), .val (.long (1 : Int64)), .second, .val (.long v0), .second, .unset, .unset, .unset, .unset, .unset, .unset, .unset, .unset, .unset, .unset] [])) (fun t k => ?_) ?_
      · show Steps p.tables e below (T0.setTop (mkF m 198 #[.val (.long v0), .second, .val (.long v2), .second, .val (.int v4), .val (.int v5), .val (.int v6), .val (.int v7), .val (.int v8), .val (.int v9), .val (.int v10), .val (.int v11), .val (.int v12), .val (.long v13), .second, .val (.ref b131), .val (.int t0), .val (.long (1 : Int64)), .second, .val (.long v0), .second, .unset, .unset, .unset, .unset, .unset, .unset, .unset, .unset, .unset, .unset] [(.int v11)])) _
        exact XS.ifNo X0.here hx rfl (hb hby at_198) rfl ((if0 _ _).trans (feq hc198).1) k
      refine Fin.by (B := T0.setTop (mkF m 204 #[.val (.long v0), .second, .val (.long v2), .second, .val (.int v4), .val (.int v5), .val (.int v6), .val (.int v7), .val (.int v8), .val (.int v9), .val (.int v10), .val (.int v11), .val (.int v12), .val (.long v13), .second, .val (.ref b131), .val (.int t0), .val (.long (1 : Int64)), .second, .val (.long v0), .second, .unset, .unset, .unset, .unset, .unset, .unset, .unset, .unset, .unset, .unset] [(.long v0), (.ref b131)])) (fun t k => ?_) ?_
      · show Steps p.tables e below (T0.setTop (mkF m 201 #[.val (.long v0), .second, .val (.long v2), .second, .val (.int v4), .val (.int v5), .val (.int v6), .val (.int v7), .val (.int v8), .val (.int v9), .val (.int v10), .val (.int v11), .val (.int v12), .val (.long v13), .second, .val (.ref b131), .val (.int t0), .val (.long (1 : Int64)), .second, .val (.long v0), .second, .unset, .unset, .unset, .unset, .unset, .unset, .unset, .unset, .unset, .unset] [])) _
        refine XS.aload X0.here hx rfl (hb hby at_201) rfl rfl ?_
        show Steps p.tables e below (T0.setTop (mkF m 203 #[.val (.long v0), .second, .val (.long v2), .second, .val (.int v4), .val (.int v5), .val (.int v6), .val (.int v7), .val (.int v8), .val (.int v9), .val (.int v10), .val (.int v11), .val (.int v12), .val (.long v13), .second, .val (.ref b131), .val (.int t0), .val (.long (1 : Int64)), .second, .val (.long v0), .second, .unset, .unset, .unset, .unset, .unset, .unset, .unset, .unset, .unset, .unset] [(.ref b131)])) _
        refine XS.lloadN X0.here hx rfl (hb hby at_203) rfl  ?_
        exact k
      -- pc 204: com/example/quietwire/quietwire/protocol/Overdue.probeDue
      obtain ⟨cq9, kq9, q9a, q9b, q9c⟩ := isOf hZ e0 E_b131
      obtain ⟨_, _, ⟨T9, L9, k9, n9⟩, -, X9, ⟨Lc9, hQ9, l9, y9, z9⟩, st9⟩ := X0.virtualBack hx (y := (⟨"com/example/quietwire/quietwire/protocol/Overdue", "probeDue", "(J)Z"⟩ : MethodName)) (z := (⟨"com/example/quietwire/quietwire/protocol/Overdue", "probeDue", "(J)Z"⟩ : MethodName)) hown (mvT hZ (hw _ (List.mem_of_getElem? (i := 28) rfl))) (mvT hZ (hw _ (List.mem_of_getElem? (i := 29) rfl))) (notFace_of_selects (args := #[]) (mvT hZ (hw _ (List.mem_of_getElem? (i := 31) rfl)))) (mvT hZ (hw _ (List.mem_of_getElem? (i := 31) rfl))) (mvT hZ (hw _ (List.mem_of_getElem? (i := 30) rfl))) (by decide) (backOf (W := 0) (rm6 l Z a0 hw [] b131 v0 b131_overdue b131_gap b131_nextProbe h n0 Z0 E_b131 F_b131_overdue F_b131_gap F_b131_nextProbe g_b131) hZ (hw _ (List.mem_of_getElem? (i := 32) rfl)) (hw _ (List.mem_of_getElem? (i := 2) rfl)) (by decide) (by decide)) q9a q9c (g := (mkF m 204 #[.val (.long v0), .second, .val (.long v2), .second, .val (.int v4), .val (.int v5), .val (.int v6), .val (.int v7), .val (.int v8), .val (.int v9), .val (.int v10), .val (.int v11), .val (.int v12), .val (.long v13), .second, .val (.ref b131), .val (.int t0), .val (.long (1 : Int64)), .second, .val (.long v0), .second, .unset, .unset, .unset, .unset, .unset, .unset, .unset, .unset, .unset, .unset] [(.long v0), (.ref b131)])) rfl (by rw [hml]; rfl) (Steps.refl _) (argsL := [(.long v0)]) (rest := []) (lenOf pd_4 rfl) rfl (by show 2 * 0 + _ ≤ _; exact Nat.le_of_eq rfl) (hb hby at_204) (fun _ _ => ⟨rfl, e0, (by decide : 1 + R6.cells ≤ _), (by decide : 3 + R6.slots ≤ _)⟩)
      dsimp only [Pt.U, Pt.locs, Pt.cells, Pt.slots] at X9 l9 y9 z9 st9 hQ9
      subst l9 y9 z9
      obtain ⟨rfl, Nq9, Kq9, E_b131_9, F_b131_overdue_9, F_b131_gap_9, F_b131_nextProbe_9⟩ := hQ9
      obtain ⟨h9, e9⟩ : ∃ z, T9.heap = z := ⟨_, rfl⟩
      rw [e9] at Kq9 E_b131_9 F_b131_overdue_9 F_b131_gap_9 F_b131_nextProbe_9
      have N9 := Fr.app N0 Nq9
      have Z9 : n0 ≤ h9.size := Nat.le_trans Z0 Kq9.1
      refine Fin.by (B := T9.setTop (mkF m 207 #[.val (.long v0), .second, .val (.long v2), .second, .val (.int v4), .val (.int v5), .val (.int v6), .val (.int v7), .val (.int v8), .val (.int v9), .val (.int v10), .val (.int v11), .val (.int v12), .val (.long v13), .second, .val (.ref b131), .val (.int t0), .val (.long (1 : Int64)), .second, .val (.long v0), .second, .unset, .unset, .unset, .unset, .unset, .unset, .unset, .unset, .unset, .unset] [(.int (f6_0 v0 b131_overdue b131_gap b131_nextProbe).1)])) (fun t k => st9.trans k) ?_
      exact b0_207 ⟨hx, hZ, hw, hby, hml, hret, hown, hnm, hlk⟩ h0 n0 v0 v2 v4 v5 v6 v7 v8 v9 v10 v11 v12 v13 b131 t0 (1 : Int64) v0 ((f6_0 v0 b131_overdue b131_gap b131_nextProbe).1) ((f6_0 v0 b131_overdue b131_gap b131_nextProbe).2.1) ((f6_0 v0 b131_overdue b131_gap b131_nextProbe).2.2.1) ((f6_0 v0 b131_overdue b131_gap b131_nextProbe).2.2.2) X9 e9 N9 Z9 E_b131_9 F_b131_overdue_9 F_b131_gap_9 F_b131_nextProbe_9 g_b131 _ hr
def f0_176 (v0 : Int64) (v2 : Int64) (v4 : Int32) (v5 : Int32) (v6 : Int32) (v7 : Int32) (v8 : Int32) (v9 : Int32) (v10 : Int32) (v11 : Int32) (v12 : Int32) (v13 : Int64) (b131_overdue : Int32) (b131_gap : Int64) (b131_nextProbe : Int64) : Int32 := (f0_177 v0 v2 v4 v5 v6 v7 v8 v9 v10 v11 v12 v13 (0 : Int32) b131_overdue b131_gap b131_nextProbe)
set_option maxRecDepth 65536 in
set_option maxHeartbeats 40000000 in
theorem b0_176 {p : Program} {l : Launch} {e : Env} {s : State} {m : MethodId} {args : Array Value} {below : List Frame} {meth : Method} {c : Code} {Z : State} {a0 : Array Value} (B : Ctx p Z s a0 m meth c "com/example/quietwire/quietwire/protocol/OverdueJudgePinLaw" "law" code 31 (some .boolean)) {T0 : State} {locs : List Loc} {h : Heap} (h0 : Heap) (n0 : Nat) (v0 : Int64) (v2 : Int64) (v4 : Int32) (v5 : Int32) (v6 : Int32) (v7 : Int32) (v8 : Int32) (v9 : Int32) (v10 : Int32) (v11 : Int32) (v12 : Int32) (v13 : Int64) (b131 : Addr) (b131_overdue : Int32) (b131_gap : Int64) (b131_nextProbe : Int64) (X0 : Stand p l e room_1 s m args below meth c T0 locs 1 3) (e0 : T0.heap = h) (N0 : Fr n0 locs) (Z0 : n0 ≤ h.size) (E_b131 : Exa Z h b131 "com/example/quietwire/quietwire/protocol/Overdue") (F_b131_overdue : Fld Z h b131 "com/example/quietwire/quietwire/protocol/Overdue" "overdue" "Z" (.int b131_overdue)) (F_b131_gap : Fld Z h b131 "com/example/quietwire/quietwire/protocol/Overdue" "gap" "J" (.long b131_gap)) (F_b131_nextProbe : Fld Z h b131 "com/example/quietwire/quietwire/protocol/Overdue" "nextProbe" "J" (.long b131_nextProbe)) (g_b131 : n0 ≤ b131) (r : Int32) (hr : f0_176 v0 v2 v4 v5 v6 v7 v8 v9 v10 v11 v12 v13 b131_overdue b131_gap b131_nextProbe = r) :
    Fin p e below s 1 3 (Q0 n0 r) (T0.setTop (mkF m 176 #[.val (.long v0), .second, .val (.long v2), .second, .val (.int v4), .val (.int v5), .val (.int v6), .val (.int v7), .val (.int v8), .val (.int v9), .val (.int v10), .val (.int v11), .val (.int v12), .val (.long v13), .second, .val (.ref b131), .unset, .unset, .unset, .unset, .unset, .unset, .unset, .unset, .unset, .unset, .unset, .unset, .unset, .unset, .unset] [])) := by
  obtain ⟨hx, hZ, hw, hby, hml, hret, hown, hnm, hlk⟩ := B
  unfold f0_176 at hr
  refine Fin.by (B := T0.setTop (mkF m 177 #[.val (.long v0), .second, .val (.long v2), .second, .val (.int v4), .val (.int v5), .val (.int v6), .val (.int v7), .val (.int v8), .val (.int v9), .val (.int v10), .val (.int v11), .val (.int v12), .val (.long v13), .second, .val (.ref b131), .unset, .unset, .unset, .unset, .unset, .unset, .unset, .unset, .unset, .unset, .unset, .unset, .unset, .unset, .unset] [(.int (0 : Int32))])) (fun t k => ?_) ?_
  · show Steps p.tables e below (T0.setTop (mkF m 176 #[.val (.long v0), .second, .val (.long v2), .second, .val (.int v4), .val (.int v5), .val (.int v6), .val (.int v7), .val (.int v8), .val (.int v9), .val (.int v10), .val (.int v11), .val (.int v12), .val (.long v13), .second, .val (.ref b131), .unset, .unset, .unset, .unset, .unset, .unset, .unset, .unset, .unset, .unset, .unset, .unset, .unset, .unset, .unset] [])) _
    refine XS.iconst X0.here hx rfl (hb hby at_176) ?_
    exact k
  exact b0_177 ⟨hx, hZ, hw, hby, hml, hret, hown, hnm, hlk⟩ h0 n0 v0 v2 v4 v5 v6 v7 v8 v9 v10 v11 v12 v13 b131 (0 : Int32) b131_overdue b131_gap b131_nextProbe X0 e0 N0 Z0 E_b131 F_b131_overdue F_b131_gap F_b131_nextProbe g_b131 _ hr
def f0_172 (v0 : Int64) (v2 : Int64) (v4 : Int32) (v5 : Int32) (v6 : Int32) (v7 : Int32) (v8 : Int32) (v9 : Int32) (v10 : Int32) (v11 : Int32) (v12 : Int32) (v13 : Int64) (b131_overdue : Int32) (b131_gap : Int64) (b131_nextProbe : Int64) : Int32 := (f0_177 v0 v2 v4 v5 v6 v7 v8 v9 v10 v11 v12 v13 (1 : Int32) b131_overdue b131_gap b131_nextProbe)
set_option maxRecDepth 65536 in
set_option maxHeartbeats 40000000 in
theorem b0_172 {p : Program} {l : Launch} {e : Env} {s : State} {m : MethodId} {args : Array Value} {below : List Frame} {meth : Method} {c : Code} {Z : State} {a0 : Array Value} (B : Ctx p Z s a0 m meth c "com/example/quietwire/quietwire/protocol/OverdueJudgePinLaw" "law" code 31 (some .boolean)) {T0 : State} {locs : List Loc} {h : Heap} (h0 : Heap) (n0 : Nat) (v0 : Int64) (v2 : Int64) (v4 : Int32) (v5 : Int32) (v6 : Int32) (v7 : Int32) (v8 : Int32) (v9 : Int32) (v10 : Int32) (v11 : Int32) (v12 : Int32) (v13 : Int64) (b131 : Addr) (b131_overdue : Int32) (b131_gap : Int64) (b131_nextProbe : Int64) (X0 : Stand p l e room_1 s m args below meth c T0 locs 1 3) (e0 : T0.heap = h) (N0 : Fr n0 locs) (Z0 : n0 ≤ h.size) (E_b131 : Exa Z h b131 "com/example/quietwire/quietwire/protocol/Overdue") (F_b131_overdue : Fld Z h b131 "com/example/quietwire/quietwire/protocol/Overdue" "overdue" "Z" (.int b131_overdue)) (F_b131_gap : Fld Z h b131 "com/example/quietwire/quietwire/protocol/Overdue" "gap" "J" (.long b131_gap)) (F_b131_nextProbe : Fld Z h b131 "com/example/quietwire/quietwire/protocol/Overdue" "nextProbe" "J" (.long b131_nextProbe)) (g_b131 : n0 ≤ b131) (r : Int32) (hr : f0_172 v0 v2 v4 v5 v6 v7 v8 v9 v10 v11 v12 v13 b131_overdue b131_gap b131_nextProbe = r) :
    Fin p e below s 1 3 (Q0 n0 r) (T0.setTop (mkF m 172 #[.val (.long v0), .second, .val (.long v2), .second, .val (.int v4), .val (.int v5), .val (.int v6), .val (.int v7), .val (.int v8), .val (.int v9), .val (.int v10), .val (.int v11), .val (.int v12), .val (.long v13), .second, .val (.ref b131), .unset, .unset, .unset, .unset, .unset, .unset, .unset, .unset, .unset, .unset, .unset, .unset, .unset, .unset, .unset] [])) := by
  obtain ⟨hx, hZ, hw, hby, hml, hret, hown, hnm, hlk⟩ := B
  unfold f0_172 at hr
  refine Fin.by (B := T0.setTop (mkF m 177 #[.val (.long v0), .second, .val (.long v2), .second, .val (.int v4), .val (.int v5), .val (.int v6), .val (.int v7), .val (.int v8), .val (.int v9), .val (.int v10), .val (.int v11), .val (.int v12), .val (.long v13), .second, .val (.ref b131), .unset, .unset, .unset, .unset, .unset, .unset, .unset, .unset, .unset, .unset, .unset, .unset, .unset, .unset, .unset] [(.int (1 : Int32))])) (fun t k => ?_) ?_
  · show Steps p.tables e below (T0.setTop (mkF m 172 #[.val (.long v0), .second, .val (.long v2), .second, .val (.int v4), .val (.int v5), .val (.int v6), .val (.int v7), .val (.int v8), .val (.int v9), .val (.int v10), .val (.int v11), .val (.int v12), .val (.long v13), .second, .val (.ref b131), .unset, .unset, .unset, .unset, .unset, .unset, .unset, .unset, .unset, .unset, .unset, .unset, .unset, .unset, .unset] [])) _
    refine XS.iconst X0.here hx rfl (hb hby at_172) ?_
    show Steps p.tables e below (T0.setTop (mkF m 173 #[.val (.long v0), .second, .val (.long v2), .second, .val (.int v4), .val (.int v5), .val (.int v6), .val (.int v7), .val (.int v8), .val (.int v9), .val (.int v10), .val (.int v11), .val (.int v12), .val (.long v13), .second, .val (.ref b131), .unset, .unset, .unset, .unset, .unset, .unset, .unset, .unset, .unset, .unset, .unset, .unset, .unset, .unset, .unset] [(.int (1 : Int32))])) _
    refine XS.goto X0.here hx rfl (pc0 := 173) (pc' := 177) rfl (hb hby at_173) (by decide) (by decide) ?_
    exact k
  exact b0_177 ⟨hx, hZ, hw, hby, hml, hret, hown, hnm, hlk⟩ h0 n0 v0 v2 v4 v5 v6 v7 v8 v9 v10 v11 v12 v13 b131 (1 : Int32) b131_overdue b131_gap b131_nextProbe X0 e0 N0 Z0 E_b131 F_b131_overdue F_b131_gap F_b131_nextProbe g_b131 _ hr
def f0_162 (v0 : Int64) (v2 : Int64) (v4 : Int32) (v5 : Int32) (v6 : Int32) (v7 : Int32) (v8 : Int32) (v9 : Int32) (v10 : Int32) (v11 : Int32) (v12 : Int32) (v13 : Int64) (b131_overdue : Int32) (b131_gap : Int64) (b131_nextProbe : Int64) : Int32 := (if v6 = (0 : Int32) then (if v5 = (0 : Int32) then (f0_176 v0 v2 v4 v5 v6 v7 v8 v9 v10 v11 v12 v13 b131_overdue b131_gap b131_nextProbe) else (f0_172 v0 v2 v4 v5 v6 v7 v8 v9 v10 v11 v12 v13 b131_overdue b131_gap b131_nextProbe)) else (f0_176 v0 v2 v4 v5 v6 v7 v8 v9 v10 v11 v12 v13 b131_overdue b131_gap b131_nextProbe))
set_option maxRecDepth 65536 in
set_option maxHeartbeats 40000000 in
theorem b0_162 {p : Program} {l : Launch} {e : Env} {s : State} {m : MethodId} {args : Array Value} {below : List Frame} {meth : Method} {c : Code} {Z : State} {a0 : Array Value} (B : Ctx p Z s a0 m meth c "com/example/quietwire/quietwire/protocol/OverdueJudgePinLaw" "law" code 31 (some .boolean)) {T0 : State} {locs : List Loc} {h : Heap} (h0 : Heap) (n0 : Nat) (v0 : Int64) (v2 : Int64) (v4 : Int32) (v5 : Int32) (v6 : Int32) (v7 : Int32) (v8 : Int32) (v9 : Int32) (v10 : Int32) (v11 : Int32) (v12 : Int32) (v13 : Int64) (b131 : Addr) (b131_overdue : Int32) (b131_gap : Int64) (b131_nextProbe : Int64) (X0 : Stand p l e room_1 s m args below meth c T0 locs 1 3) (e0 : T0.heap = h) (N0 : Fr n0 locs) (Z0 : n0 ≤ h.size) (E_b131 : Exa Z h b131 "com/example/quietwire/quietwire/protocol/Overdue") (F_b131_overdue : Fld Z h b131 "com/example/quietwire/quietwire/protocol/Overdue" "overdue" "Z" (.int b131_overdue)) (F_b131_gap : Fld Z h b131 "com/example/quietwire/quietwire/protocol/Overdue" "gap" "J" (.long b131_gap)) (F_b131_nextProbe : Fld Z h b131 "com/example/quietwire/quietwire/protocol/Overdue" "nextProbe" "J" (.long b131_nextProbe)) (g_b131 : n0 ≤ b131) (r : Int32) (hr : f0_162 v0 v2 v4 v5 v6 v7 v8 v9 v10 v11 v12 v13 b131_overdue b131_gap b131_nextProbe = r) :
    Fin p e below s 1 3 (Q0 n0 r) (T0.setTop (mkF m 162 #[.val (.long v0), .second, .val (.long v2), .second, .val (.int v4), .val (.int v5), .val (.int v6), .val (.int v7), .val (.int v8), .val (.int v9), .val (.int v10), .val (.int v11), .val (.int v12), .val (.long v13), .second, .val (.ref b131), .unset, .unset, .unset, .unset, .unset, .unset, .unset, .unset, .unset, .unset, .unset, .unset, .unset, .unset, .unset] [])) := by
  obtain ⟨hx, hZ, hw, hby, hml, hret, hown, hnm, hlk⟩ := B
  unfold f0_162 at hr
  refine Fin.by (B := T0.setTop (mkF m 164 #[.val (.long v0), .second, .val (.long v2), .second, .val (.int v4), .val (.int v5), .val (.int v6), .val (.int v7), .val (.int v8), .val (.int v9), .val (.int v10), .val (.int v11), .val (.int v12), .val (.long v13), .second, .val (.ref b131), .unset, .unset, .unset, .unset, .unset, .unset, .unset, .unset, .unset, .unset, .unset, .unset, .unset, .unset, .unset] [(.int v6)])) (fun t k => ?_) ?_
  · show Steps p.tables e below (T0.setTop (mkF m 162 #[.val (.long v0), .second, .val (.long v2), .second, .val (.int v4), .val (.int v5), .val (.int v6), .val (.int v7), .val (.int v8), .val (.int v9), .val (.int v10), .val (.int v11), .val (.int v12), .val (.long v13), .second, .val (.ref b131), .unset, .unset, .unset, .unset, .unset, .unset, .unset, .unset, .unset, .unset, .unset, .unset, .unset, .unset, .unset] [])) _
    refine XS.iload X0.here hx rfl (hb hby at_162) rfl  ?_
    exact k
  by_cases hc164 : v6 = (0 : Int32)
  · rw [if_pos hc164] at hr
    refine Fin.by (B := T0.setTop (mkF m 167 #[.val (.long v0), .second, .val (.long v2), .second, .val (.int v4), .val (.int v5), .val (.int v6), .val (.int v7), .val (.int v8), .val (.int v9), .val (.int v10), .val (.int v11), .val (.int v12), .val (.long v13), .second, .val (.ref b131), .unset, .unset, .unset, .unset, .unset, .unset, .unset, .unset, .unset, .unset, .unset, .unset, .unset, .unset, .unset] [])) (fun t k => ?_) ?_
    · show Steps p.tables e below (T0.setTop (mkF m 164 #[.val (.long v0), .second, .val (.long v2), .second, .val (.int v4), .val (.int v5), .val (.int v6), .val (.int v7), .val (.int v8), .val (.int v9), .val (.int v10), .val (.int v11), .val (.int v12), .val (.long v13), .second, .val (.ref b131), .unset, .unset, .unset, .unset, .unset, .unset, .unset, .unset, .unset, .unset, .unset, .unset, .unset, .unset, .unset] [(.int v6)])) _
      exact XS.ifNo X0.here hx rfl (hb hby at_164) rfl ((if0 _ _).trans (teq hc164).2) k
    refine Fin.by (B := T0.setTop (mkF m 169 #[.val (.long v0), .second, .val (.long v2), .second, .val (.int v4), .val (.int v5), .val (.int v6), .val (.int v7), .val (.int v8), .val (.int v9), .val (.int v10), .val (.int v11), .val (.int v12), .val (.long v13), .second, .val (.ref b131), .unset, .unset, .unset, .unset, .unset, .unset, .unset, .unset, .unset, .unset, .unset, .unset, .unset, .unset, .unset] [(.int v5)])) (fun t k => ?_) ?_
    · show Steps p.tables e below (T0.setTop (mkF m 167 #[.val (.long v0), .second, .val (.long v2), .second, .val (.int v4), .val (.int v5), .val (.int v6), .val (.int v7), .val (.int v8), .val (.int v9), .val (.int v10), .val (.int v11), .val (.int v12), .val (.long v13), .second, .val (.ref b131), .unset, .unset, .unset, .unset, .unset, .unset, .unset, .unset, .unset, .unset, .unset, .unset, .unset, .unset, .unset] [])) _
      refine XS.iload X0.here hx rfl (hb hby at_167) rfl  ?_
      exact k
    by_cases hc169 : v5 = (0 : Int32)
    · rw [if_pos hc169] at hr
      refine Fin.by (B := T0.setTop (mkF m 176 #[.val (.long v0), .second, .val (.long v2), .second, .val (.int v4), .val (.int v5), .val (.int v6), .val (.int v7), .val (.int v8), .val (.int v9), .val (.int v10), .val (.int v11), .val (.int v12), .val (.long v13), .second, .val (.ref b131), .unset, .unset, .unset, .unset, .unset, .unset, .unset, .unset, .unset, .unset, .unset, .unset, .unset, .unset, .unset] [])) (fun t k => ?_) ?_
      · show Steps p.tables e below (T0.setTop (mkF m 169 #[.val (.long v0), .second, .val (.long v2), .second, .val (.int v4), .val (.int v5), .val (.int v6), .val (.int v7), .val (.int v8), .val (.int v9), .val (.int v10), .val (.int v11), .val (.int v12), .val (.long v13), .second, .val (.ref b131), .unset, .unset, .unset, .unset, .unset, .unset, .unset, .unset, .unset, .unset, .unset, .unset, .unset, .unset, .unset] [(.int v5)])) _
        exact XS.ifYes X0.here hx rfl (pc0 := 169) (pc' := 176) rfl (hb hby at_169) rfl ((if0 _ _).trans (teq hc169).1) (by decide) (by decide) k
      exact b0_176 ⟨hx, hZ, hw, hby, hml, hret, hown, hnm, hlk⟩ h0 n0 v0 v2 v4 v5 v6 v7 v8 v9 v10 v11 v12 v13 b131 b131_overdue b131_gap b131_nextProbe X0 e0 N0 Z0 E_b131 F_b131_overdue F_b131_gap F_b131_nextProbe g_b131 _ hr
    · rw [if_neg hc169] at hr
      refine Fin.by (B := T0.setTop (mkF m 172 #[.val (.long v0), .second, .val (.long v2), .second, .val (.int v4), .val (.int v5), .val (.int v6), .val (.int v7), .val (.int v8), .val (.int v9), .val (.int v10), .val (.int v11), .val (.int v12), .val (.long v13), .second, .val (.ref b131), .unset, .unset, .unset, .unset, .unset, .unset, .unset, .unset, .unset, .unset, .unset, .unset, .unset, .unset, .unset] [])) (fun t k => ?_) ?_
      · show Steps p.tables e below (T0.setTop (mkF m 169 #[.val (.long v0), .second, .val (.long v2), .second, .val (.int v4), .val (.int v5), .val (.int v6), .val (.int v7), .val (.int v8), .val (.int v9), .val (.int v10), .val (.int v11), .val (.int v12), .val (.long v13), .second, .val (.ref b131), .unset, .unset, .unset, .unset, .unset, .unset, .unset, .unset, .unset, .unset, .unset, .unset, .unset, .unset, .unset] [(.int v5)])) _
        exact XS.ifNo X0.here hx rfl (hb hby at_169) rfl ((if0 _ _).trans (feq hc169).1) k
      exact b0_172 ⟨hx, hZ, hw, hby, hml, hret, hown, hnm, hlk⟩ h0 n0 v0 v2 v4 v5 v6 v7 v8 v9 v10 v11 v12 v13 b131 b131_overdue b131_gap b131_nextProbe X0 e0 N0 Z0 E_b131 F_b131_overdue F_b131_gap F_b131_nextProbe g_b131 _ hr
  · rw [if_neg hc164] at hr
    refine Fin.by (B := T0.setTop (mkF m 176 #[.val (.long v0), .second, .val (.long v2), .second, .val (.int v4), .val (.int v5), .val (.int v6), .val (.int v7), .val (.int v8), .val (.int v9), .val (.int v10), .val (.int v11), .val (.int v12), .val (.long v13), .second, .val (.ref b131), .unset, .unset, .unset, .unset, .unset, .unset, .unset, .unset, .unset, .unset, .unset, .unset, .unset, .unset, .unset] [])) (fun t k => ?_) ?_
    · show Steps p.tables e below (T0.setTop (mkF m 164 #[.val (.long v0), .second, .val (.long v2), .second, .val (.int v4), .val (.int v5), .val (.int v6), .val (.int v7), .val (.int v8), .val (.int v9), .val (.int v10), .val (.int v11), .val (.int v12), .val (.long v13), .second, .val (.ref b131), .unset, .unset, .unset, .unset, .unset, .unset, .unset, .unset, .unset, .unset, .unset, .unset, .unset, .unset, .unset] [(.int v6)])) _
      exact XS.ifYes X0.here hx rfl (pc0 := 164) (pc' := 176) rfl (hb hby at_164) rfl ((if0 _ _).trans (feq hc164).2) (by decide) (by decide) k
    exact b0_176 ⟨hx, hZ, hw, hby, hml, hret, hown, hnm, hlk⟩ h0 n0 v0 v2 v4 v5 v6 v7 v8 v9 v10 v11 v12 v13 b131 b131_overdue b131_gap b131_nextProbe X0 e0 N0 Z0 E_b131 F_b131_overdue F_b131_gap F_b131_nextProbe g_b131 _ hr
def f0_152 (v0 : Int64) (v2 : Int64) (v4 : Int32) (v5 : Int32) (v6 : Int32) (v7 : Int32) (v8 : Int32) (v9 : Int32) (v10 : Int32) (v11 : Int32) (v12 : Int32) (v13 : Int64) (b131_overdue : Int32) (b131_gap : Int64) (b131_nextProbe : Int64) : Int32 := (if v6 = (0 : Int32) then (f0_162 v0 v2 v4 v5 v6 v7 v8 v9 v10 v11 v12 v13 b131_overdue b131_gap b131_nextProbe) else (if v7 = (0 : Int32) then (f0_162 v0 v2 v4 v5 v6 v7 v8 v9 v10 v11 v12 v13 b131_overdue b131_gap b131_nextProbe) else (f0_172 v0 v2 v4 v5 v6 v7 v8 v9 v10 v11 v12 v13 b131_overdue b131_gap b131_nextProbe)))
set_option maxRecDepth 65536 in
set_option maxHeartbeats 40000000 in
theorem b0_152 {p : Program} {l : Launch} {e : Env} {s : State} {m : MethodId} {args : Array Value} {below : List Frame} {meth : Method} {c : Code} {Z : State} {a0 : Array Value} (B : Ctx p Z s a0 m meth c "com/example/quietwire/quietwire/protocol/OverdueJudgePinLaw" "law" code 31 (some .boolean)) {T0 : State} {locs : List Loc} {h : Heap} (h0 : Heap) (n0 : Nat) (v0 : Int64) (v2 : Int64) (v4 : Int32) (v5 : Int32) (v6 : Int32) (v7 : Int32) (v8 : Int32) (v9 : Int32) (v10 : Int32) (v11 : Int32) (v12 : Int32) (v13 : Int64) (b131 : Addr) (b131_overdue : Int32) (b131_gap : Int64) (b131_nextProbe : Int64) (X0 : Stand p l e room_1 s m args below meth c T0 locs 1 3) (e0 : T0.heap = h) (N0 : Fr n0 locs) (Z0 : n0 ≤ h.size) (E_b131 : Exa Z h b131 "com/example/quietwire/quietwire/protocol/Overdue") (F_b131_overdue : Fld Z h b131 "com/example/quietwire/quietwire/protocol/Overdue" "overdue" "Z" (.int b131_overdue)) (F_b131_gap : Fld Z h b131 "com/example/quietwire/quietwire/protocol/Overdue" "gap" "J" (.long b131_gap)) (F_b131_nextProbe : Fld Z h b131 "com/example/quietwire/quietwire/protocol/Overdue" "nextProbe" "J" (.long b131_nextProbe)) (g_b131 : n0 ≤ b131) (r : Int32) (hr : f0_152 v0 v2 v4 v5 v6 v7 v8 v9 v10 v11 v12 v13 b131_overdue b131_gap b131_nextProbe = r) :
    Fin p e below s 1 3 (Q0 n0 r) (T0.setTop (mkF m 152 #[.val (.long v0), .second, .val (.long v2), .second, .val (.int v4), .val (.int v5), .val (.int v6), .val (.int v7), .val (.int v8), .val (.int v9), .val (.int v10), .val (.int v11), .val (.int v12), .val (.long v13), .second, .val (.ref b131), .unset, .unset, .unset, .unset, .unset, .unset, .unset, .unset, .unset, .unset, .unset, .unset, .unset, .unset, .unset] [])) := by
  obtain ⟨hx, hZ, hw, hby, hml, hret, hown, hnm, hlk⟩ := B
  unfold f0_152 at hr
  refine Fin.by (B := T0.setTop (mkF m 154 #[.val (.long v0), .second, .val (.long v2), .second, .val (.int v4), .val (.int v5), .val (.int v6), .val (.int v7), .val (.int v8), .val (.int v9), .val (.int v10), .val (.int v11), .val (.int v12), .val (.long v13), .second, .val (.ref b131), .unset, .unset, .unset, .unset, .unset, .unset, .unset, .unset, .unset, .unset, .unset, .unset, .unset, .unset, .unset] [(.int v6)])) (fun t k => ?_) ?_
  · show Steps p.tables e below (T0.setTop (mkF m 152 #[.val (.long v0), .second, .val (.long v2), .second, .val (.int v4), .val (.int v5), .val (.int v6), .val (.int v7), .val (.int v8), .val (.int v9), .val (.int v10), .val (.int v11), .val (.int v12), .val (.long v13), .second, .val (.ref b131), .unset, .unset, .unset, .unset, .unset, .unset, .unset, .unset, .unset, .unset, .unset, .unset, .unset, .unset, .unset] [])) _
    refine XS.iload X0.here hx rfl (hb hby at_152) rfl  ?_
    exact k
  by_cases hc154 : v6 = (0 : Int32)
  · rw [if_pos hc154] at hr
    refine Fin.by (B := T0.setTop (mkF m 162 #[.val (.long v0), .second, .val (.long v2), .second, .val (.int v4), .val (.int v5), .val (.int v6), .val (.int v7), .val (.int v8), .val (.int v9), .val (.int v10), .val (.int v11), .val (.int v12), .val (.long v13), .second, .val (.ref b131), .unset, .unset, .unset, .unset, .unset, .unset, .unset, .unset, .unset, .unset, .unset, .unset, .unset, .unset, .unset] [])) (fun t k => ?_) ?_
    · show Steps p.tables e below (T0.setTop (mkF m 154 #[.val (.long v0), .second, .val (.long v2), .second, .val (.int v4), .val (.int v5), .val (.int v6), .val (.int v7), .val (.int v8), .val (.int v9), .val (.int v10), .val (.int v11), .val (.int v12), .val (.long v13), .second, .val (.ref b131), .unset, .unset, .unset, .unset, .unset, .unset, .unset, .unset, .unset, .unset, .unset, .unset, .unset, .unset, .unset] [(.int v6)])) _
      exact XS.ifYes X0.here hx rfl (pc0 := 154) (pc' := 162) rfl (hb hby at_154) rfl ((if0 _ _).trans (teq hc154).1) (by decide) (by decide) k
    exact b0_162 ⟨hx, hZ, hw, hby, hml, hret, hown, hnm, hlk⟩ h0 n0 v0 v2 v4 v5 v6 v7 v8 v9 v10 v11 v12 v13 b131 b131_overdue b131_gap b131_nextProbe X0 e0 N0 Z0 E_b131 F_b131_overdue F_b131_gap F_b131_nextProbe g_b131 _ hr
  · rw [if_neg hc154] at hr
    refine Fin.by (B := T0.setTop (mkF m 157 #[.val (.long v0), .second, .val (.long v2), .second, .val (.int v4), .val (.int v5), .val (.int v6), .val (.int v7), .val (.int v8), .val (.int v9), .val (.int v10), .val (.int v11), .val (.int v12), .val (.long v13), .second, .val (.ref b131), .unset, .unset, .unset, .unset, .unset, .unset, .unset, .unset, .unset, .unset, .unset, .unset, .unset, .unset, .unset] [])) (fun t k => ?_) ?_
    · show Steps p.tables e below (T0.setTop (mkF m 154 #[.val (.long v0), .second, .val (.long v2), .second, .val (.int v4), .val (.int v5), .val (.int v6), .val (.int v7), .val (.int v8), .val (.int v9), .val (.int v10), .val (.int v11), .val (.int v12), .val (.long v13), .second, .val (.ref b131), .unset, .unset, .unset, .unset, .unset, .unset, .unset, .unset, .unset, .unset, .unset, .unset, .unset, .unset, .unset] [(.int v6)])) _
      exact XS.ifNo X0.here hx rfl (hb hby at_154) rfl ((if0 _ _).trans (feq hc154).1) k
    refine Fin.by (B := T0.setTop (mkF m 159 #[.val (.long v0), .second, .val (.long v2), .second, .val (.int v4), .val (.int v5), .val (.int v6), .val (.int v7), .val (.int v8), .val (.int v9), .val (.int v10), .val (.int v11), .val (.int v12), .val (.long v13), .second, .val (.ref b131), .unset, .unset, .unset, .unset, .unset, .unset, .unset, .unset, .unset, .unset, .unset, .unset, .unset, .unset, .unset] [(.int v7)])) (fun t k => ?_) ?_
    · show Steps p.tables e below (T0.setTop (mkF m 157 #[.val (.long v0), .second, .val (.long v2), .second, .val (.int v4), .val (.int v5), .val (.int v6), .val (.int v7), .val (.int v8), .val (.int v9), .val (.int v10), .val (.int v11), .val (.int v12), .val (.long v13), .second, .val (.ref b131), .unset, .unset, .unset, .unset, .unset, .unset, .unset, .unset, .unset, .unset, .unset, .unset, .unset, .unset, .unset] [])) _
      refine XS.iload X0.here hx rfl (hb hby at_157) rfl  ?_
      exact k
    by_cases hc159 : v7 = (0 : Int32)
    · rw [if_pos hc159] at hr
      refine Fin.by (B := T0.setTop (mkF m 162 #[.val (.long v0), .second, .val (.long v2), .second, .val (.int v4), .val (.int v5), .val (.int v6), .val (.int v7), .val (.int v8), .val (.int v9), .val (.int v10), .val (.int v11), .val (.int v12), .val (.long v13), .second, .val (.ref b131), .unset, .unset, .unset, .unset, .unset, .unset, .unset, .unset, .unset, .unset, .unset, .unset, .unset, .unset, .unset] [])) (fun t k => ?_) ?_
      · show Steps p.tables e below (T0.setTop (mkF m 159 #[.val (.long v0), .second, .val (.long v2), .second, .val (.int v4), .val (.int v5), .val (.int v6), .val (.int v7), .val (.int v8), .val (.int v9), .val (.int v10), .val (.int v11), .val (.int v12), .val (.long v13), .second, .val (.ref b131), .unset, .unset, .unset, .unset, .unset, .unset, .unset, .unset, .unset, .unset, .unset, .unset, .unset, .unset, .unset] [(.int v7)])) _
        exact XS.ifNo X0.here hx rfl (hb hby at_159) rfl ((if0 _ _).trans (teq hc159).2) k
      exact b0_162 ⟨hx, hZ, hw, hby, hml, hret, hown, hnm, hlk⟩ h0 n0 v0 v2 v4 v5 v6 v7 v8 v9 v10 v11 v12 v13 b131 b131_overdue b131_gap b131_nextProbe X0 e0 N0 Z0 E_b131 F_b131_overdue F_b131_gap F_b131_nextProbe g_b131 _ hr
    · rw [if_neg hc159] at hr
      refine Fin.by (B := T0.setTop (mkF m 172 #[.val (.long v0), .second, .val (.long v2), .second, .val (.int v4), .val (.int v5), .val (.int v6), .val (.int v7), .val (.int v8), .val (.int v9), .val (.int v10), .val (.int v11), .val (.int v12), .val (.long v13), .second, .val (.ref b131), .unset, .unset, .unset, .unset, .unset, .unset, .unset, .unset, .unset, .unset, .unset, .unset, .unset, .unset, .unset] [])) (fun t k => ?_) ?_
      · show Steps p.tables e below (T0.setTop (mkF m 159 #[.val (.long v0), .second, .val (.long v2), .second, .val (.int v4), .val (.int v5), .val (.int v6), .val (.int v7), .val (.int v8), .val (.int v9), .val (.int v10), .val (.int v11), .val (.int v12), .val (.long v13), .second, .val (.ref b131), .unset, .unset, .unset, .unset, .unset, .unset, .unset, .unset, .unset, .unset, .unset, .unset, .unset, .unset, .unset] [(.int v7)])) _
        exact XS.ifYes X0.here hx rfl (pc0 := 159) (pc' := 172) rfl (hb hby at_159) rfl ((if0 _ _).trans (feq hc159).2) (by decide) (by decide) k
      exact b0_172 ⟨hx, hZ, hw, hby, hml, hret, hown, hnm, hlk⟩ h0 n0 v0 v2 v4 v5 v6 v7 v8 v9 v10 v11 v12 v13 b131 b131_overdue b131_gap b131_nextProbe X0 e0 N0 Z0 E_b131 F_b131_overdue F_b131_gap F_b131_nextProbe g_b131 _ hr
def f0_116 (v0 : Int64) (v2 : Int64) (v4 : Int32) (v5 : Int32) (v6 : Int32) (v7 : Int32) (v8 : Int32) (v9 : Int32) (v10 : Int32) (v11 : Int32) (t0 : Int32) : Int32 := (f0_152 v0 v2 v4 v5 v6 v7 v8 v9 v10 v11 t0 (((((v4.toUInt32 >>> ((8 : Int32) &&& 31).toUInt32).toInt32) &&& (7 : Int32)) - (3 : Int32)).toInt64) ((f3_0 v0 v5 v6 v7 (0 : Int32) (0 : Int64) (0 : Int64)).1) ((f3_0 v0 v5 v6 v7 (0 : Int32) (0 : Int64) (0 : Int64)).2.1) ((f3_0 v0 v5 v6 v7 (0 : Int32) (0 : Int64) (0 : Int64)).2.2))
set_option maxRecDepth 65536 in
set_option maxHeartbeats 40000000 in
theorem b0_116 {p : Program} {l : Launch} {e : Env} {s : State} {m : MethodId} {args : Array Value} {below : List Frame} {meth : Method} {c : Code} {Z : State} {a0 : Array Value} (B : Ctx p Z s a0 m meth c "com/example/quietwire/quietwire/protocol/OverdueJudgePinLaw" "law" code 31 (some .boolean)) {T0 : State} {locs : List Loc} {h : Heap} (h0 : Heap) (n0 : Nat) (v0 : Int64) (v2 : Int64) (v4 : Int32) (v5 : Int32) (v6 : Int32) (v7 : Int32) (v8 : Int32) (v9 : Int32) (v10 : Int32) (v11 : Int32) (t0 : Int32) (X0 : Stand p l e room_1 s m args below meth c T0 locs 0 0) (e0 : T0.heap = h) (N0 : Fr n0 locs) (Z0 : n0 ≤ h.size) (r : Int32) (hr : f0_116 v0 v2 v4 v5 v6 v7 v8 v9 v10 v11 t0 = r) :
    Fin p e below s 1 3 (Q0 n0 r) (T0.setTop (mkF m 116 #[.val (.long v0), .second, .val (.long v2), .second, .val (.int v4), .val (.int v5), .val (.int v6), .val (.int v7), .val (.int v8), .val (.int v9), .val (.int v10), .val (.int v11), .unset, .unset, .unset, .unset, .unset, .unset, .unset, .unset, .unset, .unset, .unset, .unset, .unset, .unset, .unset, .unset, .unset, .unset, .unset] [(.int t0)])) := by
  obtain ⟨hx, hZ, hw, hby, hml, hret, hown, hnm, hlk⟩ := B
  unfold f0_116 at hr
  refine Fin.by (B := T0.setTop (mkF m 131 #[.val (.long v0), .second, .val (.long v2), .second, .val (.int v4), .val (.int v5), .val (.int v6), .val (.int v7), .val (.int v8), .val (.int v9), .val (.int v10), .val (.int v11), .val (.int t0), .val (.long (((((v4.toUInt32 >>> ((8 : Int32) &&& 31).toUInt32).toInt32) &&& (7 : Int32)) - (3 : Int32)).toInt64)), .second, .unset, .unset, .unset, .unset, .unset, .unset, .unset, .unset, .unset, .unset, .unset, .unset, .unset, .unset, .unset, .unset] [])) (fun t k => ?_) ?_
  · show Steps p.tables e below (T0.setTop (mkF m 116 #[.val (.long v0), .second, .val (.long v2), .second, .val (.int v4), .val (.int v5), .val (.int v6), .val (.int v7), .val (.int v8), .val (.int v9), .val (.int v10), .val (.int v11), .unset, .unset, .unset, .unset, .unset, .unset, .unset, .unset, .unset, .unset, .unset, .unset, .unset, .unset, .unset, .unset, .unset, .unset, .unset] [(.int t0)])) _
    refine XS.istore X0.here hx rfl (hb hby at_116) rfl (l' := #[.val (.long v0), .second, .val (.long v2), .second, .val (.int v4), .val (.int v5), .val (.int v6), .val (.int v7), .val (.int v8), .val (.int v9), .val (.int v10), .val (.int v11), .val (.int t0), .unset, .unset, .unset, .unset, .unset, .unset, .unset, .unset, .unset, .unset, .unset, .unset, .unset, .unset, .unset, .unset, .unset, .unset]) rfl ?_
    show Steps p.tables e below (T0.setTop (mkF m 118 #[.val (.long v0), .second, .val (.long v2), .second, .val (.int v4), .val (.int v5), .val (.int v6), .val (.int v7), .val (.int v8), .val (.int v9), .val (.int v10), .val (.int v11), .val (.int t0), .unset, .unset, .unset, .unset, .unset, .unset, .unset, .unset, .unset, .unset, .unset, .unset, .unset, .unset, .unset, .unset, .unset, .unset] [])) _
    refine XS.iload X0.here hx rfl (hb hby at_118) rfl  ?_
    show Steps p.tables e below (T0.setTop (mkF m 120 #[.val (.long v0), .second, .val (.long v2), .second, .val (.int v4), .val (.int v5), .val (.int v6), .val (.int v7), .val (.int v8), .val (.int v9), .val (.int v10), .val (.int v11), .val (.int t0), .unset, .unset, .unset, .unset, .unset, .unset, .unset, .unset, .unset, .unset, .unset, .unset, .unset, .unset, .unset, .unset, .unset, .unset] [(.int v4)])) _
    refine XS.bipush X0.here hx rfl (hb hby at_120) ?_
    show Steps p.tables e below (T0.setTop (mkF m 122 #[.val (.long v0), .second, .val (.long v2), .second, .val (.int v4), .val (.int v5), .val (.int v6), .val (.int v7), .val (.int v8), .val (.int v9), .val (.int v10), .val (.int v11), .val (.int t0), .unset, .unset, .unset, .unset, .unset, .unset, .unset, .unset, .unset, .unset, .unset, .unset, .unset, .unset, .unset, .unset, .unset, .unset] [(.int (8 : Int32)), (.int v4)])) _
    refine XS.iushr X0.here hx rfl (hb hby at_122) rfl ?_
    show Steps p.tables e below (T0.setTop (mkF m 123 #[.val (.long v0), .second, .val (.long v2), .second, .val (.int v4), .val (.int v5), .val (.int v6), .val (.int v7), .val (.int v8), .val (.int v9), .val (.int v10), .val (.int v11), .val (.int t0), .unset, .unset, .unset, .unset, .unset, .unset, .unset, .unset, .unset, .unset, .unset, .unset, .unset, .unset, .unset, .unset, .unset, .unset] [(.int ((v4.toUInt32 >>> ((8 : Int32) &&& 31).toUInt32).toInt32))])) _
    refine XS.bipush X0.here hx rfl (hb hby at_123) ?_
    show Steps p.tables e below (T0.setTop (mkF m 125 #[.val (.long v0), .second, .val (.long v2), .second, .val (.int v4), .val (.int v5), .val (.int v6), .val (.int v7), .val (.int v8), .val (.int v9), .val (.int v10), .val (.int v11), .val (.int t0), .unset, .unset, .unset, .unset, .unset, .unset, .unset, .unset, .unset, .unset, .unset, .unset, .unset, .unset, .unset, .unset, .unset, .unset] [(.int (7 : Int32)), (.int ((v4.toUInt32 >>> ((8 : Int32) &&& 31).toUInt32).toInt32))])) _
    refine XS.iand X0.here hx rfl (hb hby at_125) rfl ?_
    show Steps p.tables e below (T0.setTop (mkF m 126 #[.val (.long v0), .second, .val (.long v2), .second, .val (.int v4), .val (.int v5), .val (.int v6), .val (.int v7), .val (.int v8), .val (.int v9), .val (.int v10), .val (.int v11), .val (.int t0), .unset, .unset, .unset, .unset, .unset, .unset, .unset, .unset, .unset, .unset, .unset, .unset, .unset, .unset, .unset, .unset, .unset, .unset] [(.int (((v4.toUInt32 >>> ((8 : Int32) &&& 31).toUInt32).toInt32) &&& (7 : Int32)))])) _
    refine XS.iconst X0.here hx rfl (hb hby at_126) ?_
    show Steps p.tables e below (T0.setTop (mkF m 127 #[.val (.long v0), .second, .val (.long v2), .second, .val (.int v4), .val (.int v5), .val (.int v6), .val (.int v7), .val (.int v8), .val (.int v9), .val (.int v10), .val (.int v11), .val (.int t0), .unset, .unset, .unset, .unset, .unset, .unset, .unset, .unset, .unset, .unset, .unset, .unset, .unset, .unset, .unset, .unset, .unset, .unset] [(.int (3 : Int32)), (.int (((v4.toUInt32 >>> ((8 : Int32) &&& 31).toUInt32).toInt32) &&& (7 : Int32)))])) _
    refine XS.isub X0.here hx rfl (hb hby at_127) rfl ?_
    show Steps p.tables e below (T0.setTop (mkF m 128 #[.val (.long v0), .second, .val (.long v2), .second, .val (.int v4), .val (.int v5), .val (.int v6), .val (.int v7), .val (.int v8), .val (.int v9), .val (.int v10), .val (.int v11), .val (.int t0), .unset, .unset, .unset, .unset, .unset, .unset, .unset, .unset, .unset, .unset, .unset, .unset, .unset, .unset, .unset, .unset, .unset, .unset] [(.int ((((v4.toUInt32 >>> ((8 : Int32) &&& 31).toUInt32).toInt32) &&& (7 : Int32)) - (3 : Int32)))])) _
    refine XS.i2l X0.here hx rfl (hb hby at_128) rfl ?_
    show Steps p.tables e below (T0.setTop (mkF m 129 #[.val (.long v0), .second, .val (.long v2), .second, .val (.int v4), .val (.int v5), .val (.int v6), .val (.int v7), .val (.int v8), .val (.int v9), .val (.int v10), .val (.int v11), .val (.int t0), .unset, .unset, .unset, .unset, .unset, .unset, .unset, .unset, .unset, .unset, .unset, .unset, .unset, .unset, .unset, .unset, .unset, .unset] [(.long (((((v4.toUInt32 >>> ((8 : Int32) &&& 31).toUInt32).toInt32) &&& (7 : Int32)) - (3 : Int32)).toInt64))])) _
    refine XS.lstore X0.here hx rfl (hb hby at_129) rfl (l' := #[.val (.long v0), .second, .val (.long v2), .second, .val (.int v4), .val (.int v5), .val (.int v6), .val (.int v7), .val (.int v8), .val (.int v9), .val (.int v10), .val (.int v11), .val (.int t0), .val (.long (((((v4.toUInt32 >>> ((8 : Int32) &&& 31).toUInt32).toInt32) &&& (7 : Int32)) - (3 : Int32)).toInt64)), .second, .unset, .unset, .unset, .unset, .unset, .unset, .unset, .unset, .unset, .unset, .unset, .unset, .unset, .unset, .unset, .unset]) rfl ?_
    exact k
  obtain ⟨T1, h1, X1, e1, X1e, A1, D1, -, st1⟩ := newO X0 hx hZ hown (hw _ (List.mem_of_getElem? (i := 0) rfl)) (hw _ (List.mem_of_getElem? (i := 1) rfl)) (hw _ (List.mem_of_getElem? (i := 2) rfl)) e0 (g := (mkF m 131 #[.val (.long v0), .second, .val (.long v2), .second, .val (.int v4), .val (.int v5), .val (.int v6), .val (.int v7), .val (.int v8), .val (.int v9), .val (.int v10), .val (.int v11), .val (.int t0), .val (.long (((((v4.toUInt32 >>> ((8 : Int32) &&& 31).toUInt32).toInt32) &&& (7 : Int32)) - (3 : Int32)).toInt64)), .second, .unset, .unset, .unset, .unset, .unset, .unset, .unset, .unset, .unset, .unset, .unset, .unset, .unset, .unset, .unset, .unset] [])) rfl (hb hby at_131) (by decide) (by decide)
  obtain ⟨b131, g1⟩ : ∃ z, z = h.size := ⟨_, rfl⟩
  rw [← g1] at A1 D1 st1
  have g_b131 : n0 ≤ b131 := Nat.le_trans Z0 (Nat.le_of_eq g1.symm)
  have Z1 : n0 ≤ h1.size := Nat.le_trans Z0 X1e.1
  have E_b131_1 := A1
  have F_b131_overdue_1 : Fld Z h1 b131 "com/example/quietwire/quietwire/protocol/Overdue" "overdue" "Z" (.int (0 : Int32)) := D1 (Or.inl (hw _ (List.mem_of_getElem? (i := 15) rfl))) (ty := .boolean) (by decide)
  have F_b131_gap_1 : Fld Z h1 b131 "com/example/quietwire/quietwire/protocol/Overdue" "gap" "J" (.long (0 : Int64)) := D1 (Or.inl (hw _ (List.mem_of_getElem? (i := 17) rfl))) (ty := .long) (by decide)
  have F_b131_nextProbe_1 : Fld Z h1 b131 "com/example/quietwire/quietwire/protocol/Overdue" "nextProbe" "J" (.long (0 : Int64)) := D1 (Or.inl (hw _ (List.mem_of_getElem? (i := 34) rfl))) (ty := .long) (by decide)
  refine Fin.by (B := T1.setTop (mkF m 134 #[.val (.long v0), .second, .val (.long v2), .second, .val (.int v4), .val (.int v5), .val (.int v6), .val (.int v7), .val (.int v8), .val (.int v9), .val (.int v10), .val (.int v11), .val (.int t0), .val (.long (((((v4.toUInt32 >>> ((8 : Int32) &&& 31).toUInt32).toInt32) &&& (7 : Int32)) - (3 : Int32)).toInt64)), .second, .unset, .unset, .unset, .unset, .unset, .unset, .unset, .unset, .unset, .unset, .unset, .unset, .unset, .unset, .unset, .unset] [(.ref b131)])) (fun t k => st1 t k) ?_
  refine Fin.by (B := T1.setTop (mkF m 135 #[.val (.long v0), .second, .val (.long v2), .second, .val (.int v4), .val (.int v5), .val (.int v6), .val (.int v7), .val (.int v8), .val (.int v9), .val (.int v10), .val (.int v11), .val (.int t0), .val (.long (((((v4.toUInt32 >>> ((8 : Int32) &&& 31).toUInt32).toInt32) &&& (7 : Int32)) - (3 : Int32)).toInt64)), .second, .unset, .unset, .unset, .unset, .unset, .unset, .unset, .unset, .unset, .unset, .unset, .unset, .unset, .unset, .unset, .unset] [(.ref b131), (.ref b131)])) (fun t k => ?_) ?_
  · show Steps p.tables e below (T1.setTop (mkF m 134 #[.val (.long v0), .second, .val (.long v2), .second, .val (.int v4), .val (.int v5), .val (.int v6), .val (.int v7), .val (.int v8), .val (.int v9), .val (.int v10), .val (.int v11), .val (.int t0), .val (.long (((((v4.toUInt32 >>> ((8 : Int32) &&& 31).toUInt32).toInt32) &&& (7 : Int32)) - (3 : Int32)).toInt64)), .second, .unset, .unset, .unset, .unset, .unset, .unset, .unset, .unset, .unset, .unset, .unset, .unset, .unset, .unset, .unset, .unset] [(.ref b131)])) _
    refine XS.dup X1.here hx rfl (hb hby at_134) rfl rfl ?_
    exact k
  -- pc 135: com/example/quietwire/quietwire/protocol/Overdue.<init>
  obtain ⟨_, _, ⟨T2, L2, k2, n2⟩, -, X2, ⟨Lc2, hQ2, l2, y2, z2⟩, st2⟩ := X1.specialBack hx (y := (⟨"com/example/quietwire/quietwire/protocol/Overdue", "<init>", "()V"⟩ : MethodName)) rfl hown (mvT hZ (hw _ (List.mem_of_getElem? (i := 3) rfl))) (mvT hZ (hw _ (List.mem_of_getElem? (i := 4) rfl))) (mvT hZ (hw _ (List.mem_of_getElem? (i := 5) rfl))) (by decide) (backOf (W := 1) (rm1 l Z a0 hw [] b131 (0 : Int32) (0 : Int64) (0 : Int64) h1 n0 Z1 E_b131_1 F_b131_overdue_1 F_b131_gap_1 F_b131_nextProbe_1) hZ (hw _ (List.mem_of_getElem? (i := 5) rfl)) (hw _ (List.mem_of_getElem? (i := 2) rfl)) (by decide) (by decide)) (g := (mkF m 135 #[.val (.long v0), .second, .val (.long v2), .second, .val (.int v4), .val (.int v5), .val (.int v6), .val (.int v7), .val (.int v8), .val (.int v9), .val (.int v10), .val (.int v11), .val (.int t0), .val (.long (((((v4.toUInt32 >>> ((8 : Int32) &&& 31).toUInt32).toInt32) &&& (7 : Int32)) - (3 : Int32)).toInt64)), .second, .unset, .unset, .unset, .unset, .unset, .unset, .unset, .unset, .unset, .unset, .unset, .unset, .unset, .unset, .unset, .unset] [(.ref b131), (.ref b131)])) rfl (by rw [hml]; rfl) (Steps.refl _) (a := b131) (argsL := []) (rest := [(.ref b131)]) (lenOf pd_0 rfl) rfl (by show 2 * 0 + _ ≤ _; exact Nat.le_of_eq rfl) (hb hby at_135) (fun _ _ => ⟨rfl, e1, (by decide : 1 + R1.cells ≤ _), (by decide : 3 + R1.slots ≤ _)⟩)
  dsimp only [Pt.U, Pt.locs, Pt.cells, Pt.slots] at X2 l2 y2 z2 st2 hQ2
  subst l2 y2 z2
  obtain ⟨rfl, Nq2, e2⟩ := hQ2
  have N2 := Fr.app N0 Nq2
  refine Fin.by (B := T2.setTop (mkF m 138 #[.val (.long v0), .second, .val (.long v2), .second, .val (.int v4), .val (.int v5), .val (.int v6), .val (.int v7), .val (.int v8), .val (.int v9), .val (.int v10), .val (.int v11), .val (.int t0), .val (.long (((((v4.toUInt32 >>> ((8 : Int32) &&& 31).toUInt32).toInt32) &&& (7 : Int32)) - (3 : Int32)).toInt64)), .second, .unset, .unset, .unset, .unset, .unset, .unset, .unset, .unset, .unset, .unset, .unset, .unset, .unset, .unset, .unset, .unset] [(.ref b131)])) (fun t k => st2.trans k) ?_
  refine Fin.by (B := T2.setTop (mkF m 149 #[.val (.long v0), .second, .val (.long v2), .second, .val (.int v4), .val (.int v5), .val (.int v6), .val (.int v7), .val (.int v8), .val (.int v9), .val (.int v10), .val (.int v11), .val (.int t0), .val (.long (((((v4.toUInt32 >>> ((8 : Int32) &&& 31).toUInt32).toInt32) &&& (7 : Int32)) - (3 : Int32)).toInt64)), .second, .val (.ref b131), .unset, .unset, .unset, .unset, .unset, .unset, .unset, .unset, .unset, .unset, .unset, .unset, .unset, .unset, .unset] [(.int v7), (.int v6), (.int v5), (.long v0), (.ref b131)])) (fun t k => ?_) ?_
  · show Steps p.tables e below (T2.setTop (mkF m 138 #[.val (.long v0), .second, .val (.long v2), .second, .val (.int v4), .val (.int v5), .val (.int v6), .val (.int v7), .val (.int v8), .val (.int v9), .val (.int v10), .val (.int v11), .val (.int t0), .val (.long (((((v4.toUInt32 >>> ((8 : Int32) &&& 31).toUInt32).toInt32) &&& (7 : Int32)) - (3 : Int32)).toInt64)), .second, .unset, .unset, .unset, .unset, .unset, .unset, .unset, .unset, .unset, .unset, .unset, .unset, .unset, .unset, .unset, .unset] [(.ref b131)])) _
    refine XS.astore X2.here hx rfl (hb hby at_138) rfl rfl (l' := #[.val (.long v0), .second, .val (.long v2), .second, .val (.int v4), .val (.int v5), .val (.int v6), .val (.int v7), .val (.int v8), .val (.int v9), .val (.int v10), .val (.int v11), .val (.int t0), .val (.long (((((v4.toUInt32 >>> ((8 : Int32) &&& 31).toUInt32).toInt32) &&& (7 : Int32)) - (3 : Int32)).toInt64)), .second, .val (.ref b131), .unset, .unset, .unset, .unset, .unset, .unset, .unset, .unset, .unset, .unset, .unset, .unset, .unset, .unset, .unset]) rfl ?_
    show Steps p.tables e below (T2.setTop (mkF m 140 #[.val (.long v0), .second, .val (.long v2), .second, .val (.int v4), .val (.int v5), .val (.int v6), .val (.int v7), .val (.int v8), .val (.int v9), .val (.int v10), .val (.int v11), .val (.int t0), .val (.long (((((v4.toUInt32 >>> ((8 : Int32) &&& 31).toUInt32).toInt32) &&& (7 : Int32)) - (3 : Int32)).toInt64)), .second, .val (.ref b131), .unset, .unset, .unset, .unset, .unset, .unset, .unset, .unset, .unset, .unset, .unset, .unset, .unset, .unset, .unset] [])) _
    refine XS.aload X2.here hx rfl (hb hby at_140) rfl rfl ?_
    show Steps p.tables e below (T2.setTop (mkF m 142 #[.val (.long v0), .second, .val (.long v2), .second, .val (.int v4), .val (.int v5), .val (.int v6), .val (.int v7), .val (.int v8), .val (.int v9), .val (.int v10), .val (.int v11), .val (.int t0), .val (.long (((((v4.toUInt32 >>> ((8 : Int32) &&& 31).toUInt32).toInt32) &&& (7 : Int32)) - (3 : Int32)).toInt64)), .second, .val (.ref b131), .unset, .unset, .unset, .unset, .unset, .unset, .unset, .unset, .unset, .unset, .unset, .unset, .unset, .unset, .unset] [(.ref b131)])) _
    refine XS.lloadN X2.here hx rfl (hb hby at_142) rfl  ?_
    show Steps p.tables e below (T2.setTop (mkF m 143 #[.val (.long v0), .second, .val (.long v2), .second, .val (.int v4), .val (.int v5), .val (.int v6), .val (.int v7), .val (.int v8), .val (.int v9), .val (.int v10), .val (.int v11), .val (.int t0), .val (.long (((((v4.toUInt32 >>> ((8 : Int32) &&& 31).toUInt32).toInt32) &&& (7 : Int32)) - (3 : Int32)).toInt64)), .second, .val (.ref b131), .unset, .unset, .unset, .unset, .unset, .unset, .unset, .unset, .unset, .unset, .unset, .unset, .unset, .unset, .unset] [(.long v0), (.ref b131)])) _
    refine XS.iload X2.here hx rfl (hb hby at_143) rfl  ?_
    show Steps p.tables e below (T2.setTop (mkF m 145 #[.val (.long v0), .second, .val (.long v2), .second, .val (.int v4), .val (.int v5), .val (.int v6), .val (.int v7), .val (.int v8), .val (.int v9), .val (.int v10), .val (.int v11), .val (.int t0), .val (.long (((((v4.toUInt32 >>> ((8 : Int32) &&& 31).toUInt32).toInt32) &&& (7 : Int32)) - (3 : Int32)).toInt64)), .second, .val (.ref b131), .unset, .unset, .unset, .unset, .unset, .unset, .unset, .unset, .unset, .unset, .unset, .unset, .unset, .unset, .unset] [(.int v5), (.long v0), (.ref b131)])) _
    refine XS.iload X2.here hx rfl (hb hby at_145) rfl  ?_
    show Steps p.tables e below (T2.setTop (mkF m 147 #[.val (.long v0), .second, .val (.long v2), .second, .val (.int v4), .val (.int v5), .val (.int v6), .val (.int v7), .val (.int v8), .val (.int v9), .val (.int v10), .val (.int v11), .val (.int t0), .val (.long (((((v4.toUInt32 >>> ((8 : Int32) &&& 31).toUInt32).toInt32) &&& (7 : Int32)) - (3 : Int32)).toInt64)), .second, .val (.ref b131), .unset, .unset, .unset, .unset, .unset, .unset, .unset, .unset, .unset, .unset, .unset, .unset, .unset, .unset, .unset] [(.int v6), (.int v5), (.long v0), (.ref b131)])) _
    refine XS.iload X2.here hx rfl (hb hby at_147) rfl  ?_
    exact k
  -- pc 149: com/example/quietwire/quietwire/protocol/Overdue.judge
  obtain ⟨cq3, kq3, q3a, q3b, q3c⟩ := isOf hZ e2 E_b131_1
  obtain ⟨_, _, ⟨T3, L3, k3, n3⟩, -, X3, ⟨Lc3, hQ3, l3, y3, z3⟩, st3⟩ := X2.virtualBack hx (y := (⟨"com/example/quietwire/quietwire/protocol/Overdue", "judge", "(JZZZ)V"⟩ : MethodName)) (z := (⟨"com/example/quietwire/quietwire/protocol/Overdue", "judge", "(JZZZ)V"⟩ : MethodName)) hown (mvT hZ (hw _ (List.mem_of_getElem? (i := 9) rfl))) (mvT hZ (hw _ (List.mem_of_getElem? (i := 10) rfl))) (notFace_of_selects (args := #[]) (mvT hZ (hw _ (List.mem_of_getElem? (i := 12) rfl)))) (mvT hZ (hw _ (List.mem_of_getElem? (i := 12) rfl))) (mvT hZ (hw _ (List.mem_of_getElem? (i := 11) rfl))) (by decide) (backOf (W := 0) (rm3 l Z a0 hw [] b131 v0 v5 v6 v7 (0 : Int32) (0 : Int64) (0 : Int64) h1 n0 Z1 E_b131_1 F_b131_overdue_1 F_b131_gap_1 F_b131_nextProbe_1 g_b131) hZ (hw _ (List.mem_of_getElem? (i := 13) rfl)) (hw _ (List.mem_of_getElem? (i := 2) rfl)) (by decide) (by decide)) q3a q3c (g := (mkF m 149 #[.val (.long v0), .second, .val (.long v2), .second, .val (.int v4), .val (.int v5), .val (.int v6), .val (.int v7), .val (.int v8), .val (.int v9), .val (.int v10), .val (.int v11), .val (.int t0), .val (.long (((((v4.toUInt32 >>> ((8 : Int32) &&& 31).toUInt32).toInt32) &&& (7 : Int32)) - (3 : Int32)).toInt64)), .second, .val (.ref b131), .unset, .unset, .unset, .unset, .unset, .unset, .unset, .unset, .unset, .unset, .unset, .unset, .unset, .unset, .unset] [(.int v7), (.int v6), (.int v5), (.long v0), (.ref b131)])) rfl (by rw [hml]; rfl) (Steps.refl _) (argsL := [(.long v0), (.int v5), (.int v6), (.int v7)]) (rest := []) (lenOf pd_1 rfl) rfl (by show 2 * 0 + _ ≤ _; exact Nat.le_of_eq rfl) (hb hby at_149) (fun _ _ => ⟨rfl, e2, (by decide : 1 + R3.cells ≤ _), (by decide : 3 + R3.slots ≤ _)⟩)
  dsimp only [Pt.U, Pt.locs, Pt.cells, Pt.slots] at X3 l3 y3 z3 st3 hQ3
  subst l3 y3 z3
  obtain ⟨rfl, Nq3, Kq3, E_b131_3, F_b131_overdue_3, F_b131_gap_3, F_b131_nextProbe_3⟩ := hQ3
  obtain ⟨h3, e3⟩ : ∃ z, T3.heap = z := ⟨_, rfl⟩
  rw [e3] at Kq3 E_b131_3 F_b131_overdue_3 F_b131_gap_3 F_b131_nextProbe_3
  have N3 := Fr.app N2 Nq3
  have Z3 : n0 ≤ h3.size := Nat.le_trans Z1 Kq3.1
  refine Fin.by (B := T3.setTop (mkF m 152 #[.val (.long v0), .second, .val (.long v2), .second, .val (.int v4), .val (.int v5), .val (.int v6), .val (.int v7), .val (.int v8), .val (.int v9), .val (.int v10), .val (.int v11), .val (.int t0), .val (.long (((((v4.toUInt32 >>> ((8 : Int32) &&& 31).toUInt32).toInt32) &&& (7 : Int32)) - (3 : Int32)).toInt64)), .second, .val (.ref b131), .unset, .unset, .unset, .unset, .unset, .unset, .unset, .unset, .unset, .unset, .unset, .unset, .unset, .unset, .unset] [])) (fun t k => st3.trans k) ?_
  exact b0_152 ⟨hx, hZ, hw, hby, hml, hret, hown, hnm, hlk⟩ h0 n0 v0 v2 v4 v5 v6 v7 v8 v9 v10 v11 t0 (((((v4.toUInt32 >>> ((8 : Int32) &&& 31).toUInt32).toInt32) &&& (7 : Int32)) - (3 : Int32)).toInt64) b131 ((f3_0 v0 v5 v6 v7 (0 : Int32) (0 : Int64) (0 : Int64)).1) ((f3_0 v0 v5 v6 v7 (0 : Int32) (0 : Int64) (0 : Int64)).2.1) ((f3_0 v0 v5 v6 v7 (0 : Int32) (0 : Int64) (0 : Int64)).2.2) X3 e3 N3 Z3 E_b131_3 F_b131_overdue_3 F_b131_gap_3 F_b131_nextProbe_3 g_b131 _ hr
def f0_100 (v0 : Int64) (v2 : Int64) (v4 : Int32) (v5 : Int32) (v6 : Int32) (v7 : Int32) (v8 : Int32) (v9 : Int32) (v10 : Int32) (t0 : Int32) : Int32 := (if (v4 &&& (128 : Int32)) = (0 : Int32) then (f0_116 v0 v2 v4 v5 v6 v7 v8 v9 v10 t0 (0 : Int32)) else (f0_116 v0 v2 v4 v5 v6 v7 v8 v9 v10 t0 (1 : Int32)))
set_option maxRecDepth 65536 in
set_option maxHeartbeats 40000000 in
theorem b0_100 {p : Program} {l : Launch} {e : Env} {s : State} {m : MethodId} {args : Array Value} {below : List Frame} {meth : Method} {c : Code} {Z : State} {a0 : Array Value} (B : Ctx p Z s a0 m meth c "com/example/quietwire/quietwire/protocol/OverdueJudgePinLaw" "law" code 31 (some .boolean)) {T0 : State} {locs : List Loc} {h : Heap} (h0 : Heap) (n0 : Nat) (v0 : Int64) (v2 : Int64) (v4 : Int32) (v5 : Int32) (v6 : Int32) (v7 : Int32) (v8 : Int32) (v9 : Int32) (v10 : Int32) (t0 : Int32) (X0 : Stand p l e room_1 s m args below meth c T0 locs 0 0) (e0 : T0.heap = h) (N0 : Fr n0 locs) (Z0 : n0 ≤ h.size) (r : Int32) (hr : f0_100 v0 v2 v4 v5 v6 v7 v8 v9 v10 t0 = r) :
    Fin p e below s 1 3 (Q0 n0 r) (T0.setTop (mkF m 100 #[.val (.long v0), .second, .val (.long v2), .second, .val (.int v4), .val (.int v5), .val (.int v6), .val (.int v7), .val (.int v8), .val (.int v9), .val (.int v10), .unset, .unset, .unset, .unset, .unset, .unset, .unset, .unset, .unset, .unset, .unset, .unset, .unset, .unset, .unset, .unset, .unset, .unset, .unset, .unset] [(.int t0)])) := by
  obtain ⟨hx, hZ, hw, hby, hml, hret, hown, hnm, hlk⟩ := B
  unfold f0_100 at hr
  refine Fin.by (B := T0.setTop (mkF m 108 #[.val (.long v0), .second, .val (.long v2), .second, .val (.int v4), .val (.int v5), .val (.int v6), .val (.int v7), .val (.int v8), .val (.int v9), .val (.int v10), .val (.int t0), .unset, .unset, .unset, .unset, .unset, .unset, .unset, .unset, .unset, .unset, .unset, .unset, .unset, .unset, .unset, .unset, .unset, .unset, .unset] [(.int (v4 &&& (128 : Int32)))])) (fun t k => ?_) ?_
  · show Steps p.tables e below (T0.setTop (mkF m 100 #[.val (.long v0), .second, .val (.long v2), .second, .val (.int v4), .val (.int v5), .val (.int v6), .val (.int v7), .val (.int v8), .val (.int v9), .val (.int v10), .unset, .unset, .unset, .unset, .unset, .unset, .unset, .unset, .unset, .unset, .unset, .unset, .unset, .unset, .unset, .unset, .unset, .unset, .unset, .unset] [(.int t0)])) _
    refine XS.istore X0.here hx rfl (hb hby at_100) rfl (l' := #[.val (.long v0), .second, .val (.long v2), .second, .val (.int v4), .val (.int v5), .val (.int v6), .val (.int v7), .val (.int v8), .val (.int v9), .val (.int v10), .val (.int t0), .unset, .unset, .unset, .unset, .unset, .unset, .unset, .unset, .unset, .unset, .unset, .unset, .unset, .unset, .unset, .unset, .unset, .unset, .unset]) rfl ?_
    show Steps p.tables e below (T0.setTop (mkF m 102 #[.val (.long v0), .second, .val (.long v2), .second, .val (.int v4), .val (.int v5), .val (.int v6), .val (.int v7), .val (.int v8), .val (.int v9), .val (.int v10), .val (.int t0), .unset, .unset, .unset, .unset, .unset, .unset, .unset, .unset, .unset, .unset, .unset, .unset, .unset, .unset, .unset, .unset, .unset, .unset, .unset] [])) _
    refine XS.iload X0.here hx rfl (hb hby at_102) rfl  ?_
    show Steps p.tables e below (T0.setTop (mkF m 104 #[.val (.long v0), .second, .val (.long v2), .second, .val (.int v4), .val (.int v5), .val (.int v6), .val (.int v7), .val (.int v8), .val (.int v9), .val (.int v10), .val (.int t0), .unset, .unset, .unset, .unset, .unset, .unset, .unset, .unset, .unset, .unset, .unset, .unset, .unset, .unset, .unset, .unset, .unset, .unset, .unset] [(.int v4)])) _
    refine XS.sipush X0.here hx rfl (hb hby at_104) ?_
    show Steps p.tables e below (T0.setTop (mkF m 107 #[.val (.long v0), .second, .val (.long v2), .second, .val (.int v4), .val (.int v5), .val (.int v6), .val (.int v7), .val (.int v8), .val (.int v9), .val (.int v10), .val (.int t0), .unset, .unset, .unset, .unset, .unset, .unset, .unset, .unset, .unset, .unset, .unset, .unset, .unset, .unset, .unset, .unset, .unset, .unset, .unset] [(.int (128 : Int32)), (.int v4)])) _
    refine XS.iand X0.here hx rfl (hb hby at_107) rfl ?_
    exact k
  by_cases hc108 : (v4 &&& (128 : Int32)) = (0 : Int32)
  · rw [if_pos hc108] at hr
    refine Fin.by (B := T0.setTop (mkF m 115 #[.val (.long v0), .second, .val (.long v2), .second, .val (.int v4), .val (.int v5), .val (.int v6), .val (.int v7), .val (.int v8), .val (.int v9), .val (.int v10), .val (.int t0), .unset, .unset, .unset, .unset, .unset, .unset, .unset, .unset, .unset, .unset, .unset, .unset, .unset, .unset, .unset, .unset, .unset, .unset, .unset] [])) (fun t k => ?_) ?_
    · show Steps p.tables e below (T0.setTop (mkF m 108 #[.val (.long v0), .second, .val (.long v2), .second, .val (.int v4), .val (.int v5), .val (.int v6), .val (.int v7), .val (.int v8), .val (.int v9), .val (.int v10), .val (.int t0), .unset, .unset, .unset, .unset, .unset, .unset, .unset, .unset, .unset, .unset, .unset, .unset, .unset, .unset, .unset, .unset, .unset, .unset, .unset] [(.int (v4 &&& (128 : Int32)))])) _
      exact XS.ifYes X0.here hx rfl (pc0 := 108) (pc' := 115) rfl (hb hby at_108) rfl ((if0 _ _).trans (teq hc108).1) (by decide) (by decide) k
    refine Fin.by (B := T0.setTop (mkF m 116 #[.val (.long v0), .second, .val (.long v2), .second, .val (.int v4), .val (.int v5), .val (.int v6), .val (.int v7), .val (.int v8), .val (.int v9), .val (.int v10), .val (.int t0), .unset, .unset, .unset, .unset, .unset, .unset, .unset, .unset, .unset, .unset, .unset, .unset, .unset, .unset, .unset, .unset, .unset, .unset, .unset] [(.int (0 : Int32))])) (fun t k => ?_) ?_
    · show Steps p.tables e below (T0.setTop (mkF m 115 #[.val (.long v0), .second, .val (.long v2), .second, .val (.int v4), .val (.int v5), .val (.int v6), .val (.int v7), .val (.int v8), .val (.int v9), .val (.int v10), .val (.int t0), .unset, .unset, .unset, .unset, .unset, .unset, .unset, .unset, .unset, .unset, .unset, .unset, .unset, .unset, .unset, .unset, .unset, .unset, .unset] [])) _
      refine XS.iconst X0.here hx rfl (hb hby at_115) ?_
      exact k
    exact b0_116 ⟨hx, hZ, hw, hby, hml, hret, hown, hnm, hlk⟩ h0 n0 v0 v2 v4 v5 v6 v7 v8 v9 v10 t0 (0 : Int32) X0 e0 N0 Z0  _ hr
  · rw [if_neg hc108] at hr
    refine Fin.by (B := T0.setTop (mkF m 111 #[.val (.long v0), .second, .val (.long v2), .second, .val (.int v4), .val (.int v5), .val (.int v6), .val (.int v7), .val (.int v8), .val (.int v9), .val (.int v10), .val (.int t0), .unset, .unset, .unset, .unset, .unset, .unset, .unset, .unset, .unset, .unset, .unset, .unset, .unset, .unset, .unset, .unset, .unset, .unset, .unset] [])) (fun t k => ?_) ?_
    · show Steps p.tables e below (T0.setTop (mkF m 108 #[.val (.long v0), .second, .val (.long v2), .second, .val (.int v4), .val (.int v5), .val (.int v6), .val (.int v7), .val (.int v8), .val (.int v9), .val (.int v10), .val (.int t0), .unset, .unset, .unset, .unset, .unset, .unset, .unset, .unset, .unset, .unset, .unset, .unset, .unset, .unset, .unset, .unset, .unset, .unset, .unset] [(.int (v4 &&& (128 : Int32)))])) _
      exact XS.ifNo X0.here hx rfl (hb hby at_108) rfl ((if0 _ _).trans (feq hc108).1) k
    refine Fin.by (B := T0.setTop (mkF m 116 #[.val (.long v0), .second, .val (.long v2), .second, .val (.int v4), .val (.int v5), .val (.int v6), .val (.int v7), .val (.int v8), .val (.int v9), .val (.int v10), .val (.int t0), .unset, .unset, .unset, .unset, .unset, .unset, .unset, .unset, .unset, .unset, .unset, .unset, .unset, .unset, .unset, .unset, .unset, .unset, .unset] [(.int (1 : Int32))])) (fun t k => ?_) ?_
    · show Steps p.tables e below (T0.setTop (mkF m 111 #[.val (.long v0), .second, .val (.long v2), .second, .val (.int v4), .val (.int v5), .val (.int v6), .val (.int v7), .val (.int v8), .val (.int v9), .val (.int v10), .val (.int t0), .unset, .unset, .unset, .unset, .unset, .unset, .unset, .unset, .unset, .unset, .unset, .unset, .unset, .unset, .unset, .unset, .unset, .unset, .unset] [])) _
      refine XS.iconst X0.here hx rfl (hb hby at_111) ?_
      show Steps p.tables e below (T0.setTop (mkF m 112 #[.val (.long v0), .second, .val (.long v2), .second, .val (.int v4), .val (.int v5), .val (.int v6), .val (.int v7), .val (.int v8), .val (.int v9), .val (.int v10), .val (.int t0), .unset, .unset, .unset, .unset, .unset, .unset, .unset, .unset, .unset, .unset, .unset, .unset, .unset, .unset, .unset, .unset, .unset, .unset, .unset] [(.int (1 : Int32))])) _
      refine XS.goto X0.here hx rfl (pc0 := 112) (pc' := 116) rfl (hb hby at_112) (by decide) (by decide) ?_
      exact k
    exact b0_116 ⟨hx, hZ, hw, hby, hml, hret, hown, hnm, hlk⟩ h0 n0 v0 v2 v4 v5 v6 v7 v8 v9 v10 t0 (1 : Int32) X0 e0 N0 Z0  _ hr
def f0_85 (v0 : Int64) (v2 : Int64) (v4 : Int32) (v5 : Int32) (v6 : Int32) (v7 : Int32) (v8 : Int32) (v9 : Int32) (t0 : Int32) : Int32 := (if (v4 &&& (64 : Int32)) = (0 : Int32) then (f0_100 v0 v2 v4 v5 v6 v7 v8 v9 t0 (0 : Int32)) else (f0_100 v0 v2 v4 v5 v6 v7 v8 v9 t0 (1 : Int32)))
set_option maxRecDepth 65536 in
set_option maxHeartbeats 40000000 in
theorem b0_85 {p : Program} {l : Launch} {e : Env} {s : State} {m : MethodId} {args : Array Value} {below : List Frame} {meth : Method} {c : Code} {Z : State} {a0 : Array Value} (B : Ctx p Z s a0 m meth c "com/example/quietwire/quietwire/protocol/OverdueJudgePinLaw" "law" code 31 (some .boolean)) {T0 : State} {locs : List Loc} {h : Heap} (h0 : Heap) (n0 : Nat) (v0 : Int64) (v2 : Int64) (v4 : Int32) (v5 : Int32) (v6 : Int32) (v7 : Int32) (v8 : Int32) (v9 : Int32) (t0 : Int32) (X0 : Stand p l e room_1 s m args below meth c T0 locs 0 0) (e0 : T0.heap = h) (N0 : Fr n0 locs) (Z0 : n0 ≤ h.size) (r : Int32) (hr : f0_85 v0 v2 v4 v5 v6 v7 v8 v9 t0 = r) :
    Fin p e below s 1 3 (Q0 n0 r) (T0.setTop (mkF m 85 #[.val (.long v0), .second, .val (.long v2), .second, .val (.int v4), .val (.int v5), .val (.int v6), .val (.int v7), .val (.int v8), .val (.int v9), .unset, .unset, .unset, .unset, .unset, .unset, .unset, .unset, .unset, .unset, .unset, .unset, .unset, .unset, .unset, .unset, .unset, .unset, .unset, .unset, .unset] [(.int t0)])) := by
  obtain ⟨hx, hZ, hw, hby, hml, hret, hown, hnm, hlk⟩ := B
  unfold f0_85 at hr
  refine Fin.by (B := T0.setTop (mkF m 92 #[.val (.long v0), .second, .val (.long v2), .second, .val (.int v4), .val (.int v5), .val (.int v6), .val (.int v7), .val (.int v8), .val (.int v9), .val (.int t0), .unset, .unset, .unset, .unset, .unset, .unset, .unset, .unset, .unset, .unset, .unset, .unset, .unset, .unset, .unset, .unset, .unset, .unset, .unset, .unset] [(.int (v4 &&& (64 : Int32)))])) (fun t k => ?_) ?_
  · show Steps p.tables e below (T0.setTop (mkF m 85 #[.val (.long v0), .second, .val (.long v2), .second, .val (.int v4), .val (.int v5), .val (.int v6), .val (.int v7), .val (.int v8), .val (.int v9), .unset, .unset, .unset, .unset, .unset, .unset, .unset, .unset, .unset, .unset, .unset, .unset, .unset, .unset, .unset, .unset, .unset, .unset, .unset, .unset, .unset] [(.int t0)])) _
    refine XS.istore X0.here hx rfl (hb hby at_85) rfl (l' := #[.val (.long v0), .second, .val (.long v2), .second, .val (.int v4), .val (.int v5), .val (.int v6), .val (.int v7), .val (.int v8), .val (.int v9), .val (.int t0), .unset, .unset, .unset, .unset, .unset, .unset, .unset, .unset, .unset, .unset, .unset, .unset, .unset, .unset, .unset, .unset, .unset, .unset, .unset, .unset]) rfl ?_
    show Steps p.tables e below (T0.setTop (mkF m 87 #[.val (.long v0), .second, .val (.long v2), .second, .val (.int v4), .val (.int v5), .val (.int v6), .val (.int v7), .val (.int v8), .val (.int v9), .val (.int t0), .unset, .unset, .unset, .unset, .unset, .unset, .unset, .unset, .unset, .unset, .unset, .unset, .unset, .unset, .unset, .unset, .unset, .unset, .unset, .unset] [])) _
    refine XS.iload X0.here hx rfl (hb hby at_87) rfl  ?_
    show Steps p.tables e below (T0.setTop (mkF m 89 #[.val (.long v0), .second, .val (.long v2), .second, .val (.int v4), .val (.int v5), .val (.int v6), .val (.int v7), .val (.int v8), .val (.int v9), .val (.int t0), .unset, .unset, .unset, .unset, .unset, .unset, .unset, .unset, .unset, .unset, .unset, .unset, .unset, .unset, .unset, .unset, .unset, .unset, .unset, .unset] [(.int v4)])) _
    refine XS.bipush X0.here hx rfl (hb hby at_89) ?_
    show Steps p.tables e below (T0.setTop (mkF m 91 #[.val (.long v0), .second, .val (.long v2), .second, .val (.int v4), .val (.int v5), .val (.int v6), .val (.int v7), .val (.int v8), .val (.int v9), .val (.int t0), .unset, .unset, .unset, .unset, .unset, .unset, .unset, .unset, .unset, .unset, .unset, .unset, .unset, .unset, .unset, .unset, .unset, .unset, .unset, .unset] [(.int (64 : Int32)), (.int v4)])) _
    refine XS.iand X0.here hx rfl (hb hby at_91) rfl ?_
    exact k
  by_cases hc92 : (v4 &&& (64 : Int32)) = (0 : Int32)
  · rw [if_pos hc92] at hr
    refine Fin.by (B := T0.setTop (mkF m 99 #[.val (.long v0), .second, .val (.long v2), .second, .val (.int v4), .val (.int v5), .val (.int v6), .val (.int v7), .val (.int v8), .val (.int v9), .val (.int t0), .unset, .unset, .unset, .unset, .unset, .unset, .unset, .unset, .unset, .unset, .unset, .unset, .unset, .unset, .unset, .unset, .unset, .unset, .unset, .unset] [])) (fun t k => ?_) ?_
    · show Steps p.tables e below (T0.setTop (mkF m 92 #[.val (.long v0), .second, .val (.long v2), .second, .val (.int v4), .val (.int v5), .val (.int v6), .val (.int v7), .val (.int v8), .val (.int v9), .val (.int t0), .unset, .unset, .unset, .unset, .unset, .unset, .unset, .unset, .unset, .unset, .unset, .unset, .unset, .unset, .unset, .unset, .unset, .unset, .unset, .unset] [(.int (v4 &&& (64 : Int32)))])) _
      exact XS.ifYes X0.here hx rfl (pc0 := 92) (pc' := 99) rfl (hb hby at_92) rfl ((if0 _ _).trans (teq hc92).1) (by decide) (by decide) k
    refine Fin.by (B := T0.setTop (mkF m 100 #[.val (.long v0), .second, .val (.long v2), .second, .val (.int v4), .val (.int v5), .val (.int v6), .val (.int v7), .val (.int v8), .val (.int v9), .val (.int t0), .unset, .unset, .unset, .unset, .unset, .unset, .unset, .unset, .unset, .unset, .unset, .unset, .unset, .unset, .unset, .unset, .unset, .unset, .unset, .unset] [(.int (0 : Int32))])) (fun t k => ?_) ?_
    · show Steps p.tables e below (T0.setTop (mkF m 99 #[.val (.long v0), .second, .val (.long v2), .second, .val (.int v4), .val (.int v5), .val (.int v6), .val (.int v7), .val (.int v8), .val (.int v9), .val (.int t0), .unset, .unset, .unset, .unset, .unset, .unset, .unset, .unset, .unset, .unset, .unset, .unset, .unset, .unset, .unset, .unset, .unset, .unset, .unset, .unset] [])) _
      refine XS.iconst X0.here hx rfl (hb hby at_99) ?_
      exact k
    exact b0_100 ⟨hx, hZ, hw, hby, hml, hret, hown, hnm, hlk⟩ h0 n0 v0 v2 v4 v5 v6 v7 v8 v9 t0 (0 : Int32) X0 e0 N0 Z0  _ hr
  · rw [if_neg hc92] at hr
    refine Fin.by (B := T0.setTop (mkF m 95 #[.val (.long v0), .second, .val (.long v2), .second, .val (.int v4), .val (.int v5), .val (.int v6), .val (.int v7), .val (.int v8), .val (.int v9), .val (.int t0), .unset, .unset, .unset, .unset, .unset, .unset, .unset, .unset, .unset, .unset, .unset, .unset, .unset, .unset, .unset, .unset, .unset, .unset, .unset, .unset] [])) (fun t k => ?_) ?_
    · show Steps p.tables e below (T0.setTop (mkF m 92 #[.val (.long v0), .second, .val (.long v2), .second, .val (.int v4), .val (.int v5), .val (.int v6), .val (.int v7), .val (.int v8), .val (.int v9), .val (.int t0), .unset, .unset, .unset, .unset, .unset, .unset, .unset, .unset, .unset, .unset, .unset, .unset, .unset, .unset, .unset, .unset, .unset, .unset, .unset, .unset] [(.int (v4 &&& (64 : Int32)))])) _
      exact XS.ifNo X0.here hx rfl (hb hby at_92) rfl ((if0 _ _).trans (feq hc92).1) k
    refine Fin.by (B := T0.setTop (mkF m 100 #[.val (.long v0), .second, .val (.long v2), .second, .val (.int v4), .val (.int v5), .val (.int v6), .val (.int v7), .val (.int v8), .val (.int v9), .val (.int t0), .unset, .unset, .unset, .unset, .unset, .unset, .unset, .unset, .unset, .unset, .unset, .unset, .unset, .unset, .unset, .unset, .unset, .unset, .unset, .unset] [(.int (1 : Int32))])) (fun t k => ?_) ?_
    · show Steps p.tables e below (T0.setTop (mkF m 95 #[.val (.long v0), .second, .val (.long v2), .second, .val (.int v4), .val (.int v5), .val (.int v6), .val (.int v7), .val (.int v8), .val (.int v9), .val (.int t0), .unset, .unset, .unset, .unset, .unset, .unset, .unset, .unset, .unset, .unset, .unset, .unset, .unset, .unset, .unset, .unset, .unset, .unset, .unset, .unset] [])) _
      refine XS.iconst X0.here hx rfl (hb hby at_95) ?_
      show Steps p.tables e below (T0.setTop (mkF m 96 #[.val (.long v0), .second, .val (.long v2), .second, .val (.int v4), .val (.int v5), .val (.int v6), .val (.int v7), .val (.int v8), .val (.int v9), .val (.int t0), .unset, .unset, .unset, .unset, .unset, .unset, .unset, .unset, .unset, .unset, .unset, .unset, .unset, .unset, .unset, .unset, .unset, .unset, .unset, .unset] [(.int (1 : Int32))])) _
      refine XS.goto X0.here hx rfl (pc0 := 96) (pc' := 100) rfl (hb hby at_96) (by decide) (by decide) ?_
      exact k
    exact b0_100 ⟨hx, hZ, hw, hby, hml, hret, hown, hnm, hlk⟩ h0 n0 v0 v2 v4 v5 v6 v7 v8 v9 t0 (1 : Int32) X0 e0 N0 Z0  _ hr
def f0_70 (v0 : Int64) (v2 : Int64) (v4 : Int32) (v5 : Int32) (v6 : Int32) (v7 : Int32) (v8 : Int32) (t0 : Int32) : Int32 := (if (v4 &&& (32 : Int32)) = (0 : Int32) then (f0_85 v0 v2 v4 v5 v6 v7 v8 t0 (0 : Int32)) else (f0_85 v0 v2 v4 v5 v6 v7 v8 t0 (1 : Int32)))
set_option maxRecDepth 65536 in
set_option maxHeartbeats 40000000 in
theorem b0_70 {p : Program} {l : Launch} {e : Env} {s : State} {m : MethodId} {args : Array Value} {below : List Frame} {meth : Method} {c : Code} {Z : State} {a0 : Array Value} (B : Ctx p Z s a0 m meth c "com/example/quietwire/quietwire/protocol/OverdueJudgePinLaw" "law" code 31 (some .boolean)) {T0 : State} {locs : List Loc} {h : Heap} (h0 : Heap) (n0 : Nat) (v0 : Int64) (v2 : Int64) (v4 : Int32) (v5 : Int32) (v6 : Int32) (v7 : Int32) (v8 : Int32) (t0 : Int32) (X0 : Stand p l e room_1 s m args below meth c T0 locs 0 0) (e0 : T0.heap = h) (N0 : Fr n0 locs) (Z0 : n0 ≤ h.size) (r : Int32) (hr : f0_70 v0 v2 v4 v5 v6 v7 v8 t0 = r) :
    Fin p e below s 1 3 (Q0 n0 r) (T0.setTop (mkF m 70 #[.val (.long v0), .second, .val (.long v2), .second, .val (.int v4), .val (.int v5), .val (.int v6), .val (.int v7), .val (.int v8), .unset, .unset, .unset, .unset, .unset, .unset, .unset, .unset, .unset, .unset, .unset, .unset, .unset, .unset, .unset, .unset, .unset, .unset, .unset, .unset, .unset, .unset] [(.int t0)])) := by
  obtain ⟨hx, hZ, hw, hby, hml, hret, hown, hnm, hlk⟩ := B
  unfold f0_70 at hr
  refine Fin.by (B := T0.setTop (mkF m 77 #[.val (.long v0), .second, .val (.long v2), .second, .val (.int v4), .val (.int v5), .val (.int v6), .val (.int v7), .val (.int v8), .val (.int t0), .unset, .unset, .unset, .unset, .unset, .unset, .unset, .unset, .unset, .unset, .unset, .unset, .unset, .unset, .unset, .unset, .unset, .unset, .unset, .unset, .unset] [(.int (v4 &&& (32 : Int32)))])) (fun t k => ?_) ?_
  · show Steps p.tables e below (T0.setTop (mkF m 70 #[.val (.long v0), .second, .val (.long v2), .second, .val (.int v4), .val (.int v5), .val (.int v6), .val (.int v7), .val (.int v8), .unset, .unset, .unset, .unset, .unset, .unset, .unset, .unset, .unset, .unset, .unset, .unset, .unset, .unset, .unset, .unset, .unset, .unset, .unset, .unset, .unset, .unset] [(.int t0)])) _
    refine XS.istore X0.here hx rfl (hb hby at_70) rfl (l' := #[.val (.long v0), .second, .val (.long v2), .second, .val (.int v4), .val (.int v5), .val (.int v6), .val (.int v7), .val (.int v8), .val (.int t0), .unset, .unset, .unset, .unset, .unset, .unset, .unset, .unset, .unset, .unset, .unset, .unset, .unset, .unset, .unset, .unset, .unset, .unset, .unset, .unset, .unset]) rfl ?_
    show Steps p.tables e below (T0.setTop (mkF m 72 #[.val (.long v0), .second, .val (.long v2), .second, .val (.int v4), .val (.int v5), .val (.int v6), .val (.int v7), .val (.int v8), .val (.int t0), .unset, .unset, .unset, .unset, .unset, .unset, .unset, .unset, .unset, .unset, .unset, .unset, .unset, .unset, .unset, .unset, .unset, .unset, .unset, .unset, .unset] [])) _
    refine XS.iload X0.here hx rfl (hb hby at_72) rfl  ?_
    show Steps p.tables e below (T0.setTop (mkF m 74 #[.val (.long v0), .second, .val (.long v2), .second, .val (.int v4), .val (.int v5), .val (.int v6), .val (.int v7), .val (.int v8), .val (.int t0), .unset, .unset, .unset, .unset, .unset, .unset, .unset, .unset, .unset, .unset, .unset, .unset, .unset, .unset, .unset, .unset, .unset, .unset, .unset, .unset, .unset] [(.int v4)])) _
    refine XS.bipush X0.here hx rfl (hb hby at_74) ?_
    show Steps p.tables e below (T0.setTop (mkF m 76 #[.val (.long v0), .second, .val (.long v2), .second, .val (.int v4), .val (.int v5), .val (.int v6), .val (.int v7), .val (.int v8), .val (.int t0), .unset, .unset, .unset, .unset, .unset, .unset, .unset, .unset, .unset, .unset, .unset, .unset, .unset, .unset, .unset, .unset, .unset, .unset, .unset, .unset, .unset] [(.int (32 : Int32)), (.int v4)])) _
    refine XS.iand X0.here hx rfl (hb hby at_76) rfl ?_
    exact k
  by_cases hc77 : (v4 &&& (32 : Int32)) = (0 : Int32)
  · rw [if_pos hc77] at hr
    refine Fin.by (B := T0.setTop (mkF m 84 #[.val (.long v0), .second, .val (.long v2), .second, .val (.int v4), .val (.int v5), .val (.int v6), .val (.int v7), .val (.int v8), .val (.int t0), .unset, .unset, .unset, .unset, .unset, .unset, .unset, .unset, .unset, .unset, .unset, .unset, .unset, .unset, .unset, .unset, .unset, .unset, .unset, .unset, .unset] [])) (fun t k => ?_) ?_
    · show Steps p.tables e below (T0.setTop (mkF m 77 #[.val (.long v0), .second, .val (.long v2), .second, .val (.int v4), .val (.int v5), .val (.int v6), .val (.int v7), .val (.int v8), .val (.int t0), .unset, .unset, .unset, .unset, .unset, .unset, .unset, .unset, .unset, .unset, .unset, .unset, .unset, .unset, .unset, .unset, .unset, .unset, .unset, .unset, .unset] [(.int (v4 &&& (32 : Int32)))])) _
      exact XS.ifYes X0.here hx rfl (pc0 := 77) (pc' := 84) rfl (hb hby at_77) rfl ((if0 _ _).trans (teq hc77).1) (by decide) (by decide) k
    refine Fin.by (B := T0.setTop (mkF m 85 #[.val (.long v0), .second, .val (.long v2), .second, .val (.int v4), .val (.int v5), .val (.int v6), .val (.int v7), .val (.int v8), .val (.int t0), .unset, .unset, .unset, .unset, .unset, .unset, .unset, .unset, .unset, .unset, .unset, .unset, .unset, .unset, .unset, .unset, .unset, .unset, .unset, .unset, .unset] [(.int (0 : Int32))])) (fun t k => ?_) ?_
    · show Steps p.tables e below (T0.setTop (mkF m 84 #[.val (.long v0), .second, .val (.long v2), .second, .val (.int v4), .val (.int v5), .val (.int v6), .val (.int v7), .val (.int v8), .val (.int t0), .unset, .unset, .unset, .unset, .unset, .unset, .unset, .unset, .unset, .unset, .unset, .unset, .unset, .unset, .unset, .unset, .unset, .unset, .unset, .unset, .unset] [])) _
      refine XS.iconst X0.here hx rfl (hb hby at_84) ?_
      exact k
    exact b0_85 ⟨hx, hZ, hw, hby, hml, hret, hown, hnm, hlk⟩ h0 n0 v0 v2 v4 v5 v6 v7 v8 t0 (0 : Int32) X0 e0 N0 Z0  _ hr
  · rw [if_neg hc77] at hr
    refine Fin.by (B := T0.setTop (mkF m 80 #[.val (.long v0), .second, .val (.long v2), .second, .val (.int v4), .val (.int v5), .val (.int v6), .val (.int v7), .val (.int v8), .val (.int t0), .unset, .unset, .unset, .unset, .unset, .unset, .unset, .unset, .unset, .unset, .unset, .unset, .unset, .unset, .unset, .unset, .unset, .unset, .unset, .unset, .unset] [])) (fun t k => ?_) ?_
    · show Steps p.tables e below (T0.setTop (mkF m 77 #[.val (.long v0), .second, .val (.long v2), .second, .val (.int v4), .val (.int v5), .val (.int v6), .val (.int v7), .val (.int v8), .val (.int t0), .unset, .unset, .unset, .unset, .unset, .unset, .unset, .unset, .unset, .unset, .unset, .unset, .unset, .unset, .unset, .unset, .unset, .unset, .unset, .unset, .unset] [(.int (v4 &&& (32 : Int32)))])) _
      exact XS.ifNo X0.here hx rfl (hb hby at_77) rfl ((if0 _ _).trans (feq hc77).1) k
    refine Fin.by (B := T0.setTop (mkF m 85 #[.val (.long v0), .second, .val (.long v2), .second, .val (.int v4), .val (.int v5), .val (.int v6), .val (.int v7), .val (.int v8), .val (.int t0), .unset, .unset, .unset, .unset, .unset, .unset, .unset, .unset, .unset, .unset, .unset, .unset, .unset, .unset, .unset, .unset, .unset, .unset, .unset, .unset, .unset] [(.int (1 : Int32))])) (fun t k => ?_) ?_
    · show Steps p.tables e below (T0.setTop (mkF m 80 #[.val (.long v0), .second, .val (.long v2), .second, .val (.int v4), .val (.int v5), .val (.int v6), .val (.int v7), .val (.int v8), .val (.int t0), .unset, .unset, .unset, .unset, .unset, .unset, .unset, .unset, .unset, .unset, .unset, .unset, .unset, .unset, .unset, .unset, .unset, .unset, .unset, .unset, .unset] [])) _
      refine XS.iconst X0.here hx rfl (hb hby at_80) ?_
      show Steps p.tables e below (T0.setTop (mkF m 81 #[.val (.long v0), .second, .val (.long v2), .second, .val (.int v4), .val (.int v5), .val (.int v6), .val (.int v7), .val (.int v8), .val (.int t0), .unset, .unset, .unset, .unset, .unset, .unset, .unset, .unset, .unset, .unset, .unset, .unset, .unset, .unset, .unset, .unset, .unset, .unset, .unset, .unset, .unset] [(.int (1 : Int32))])) _
      refine XS.goto X0.here hx rfl (pc0 := 81) (pc' := 85) rfl (hb hby at_81) (by decide) (by decide) ?_
      exact k
    exact b0_85 ⟨hx, hZ, hw, hby, hml, hret, hown, hnm, hlk⟩ h0 n0 v0 v2 v4 v5 v6 v7 v8 t0 (1 : Int32) X0 e0 N0 Z0  _ hr
def f0_55 (v0 : Int64) (v2 : Int64) (v4 : Int32) (v5 : Int32) (v6 : Int32) (v7 : Int32) (t0 : Int32) : Int32 := (if (v4 &&& (16 : Int32)) = (0 : Int32) then (f0_70 v0 v2 v4 v5 v6 v7 t0 (0 : Int32)) else (f0_70 v0 v2 v4 v5 v6 v7 t0 (1 : Int32)))
set_option maxRecDepth 65536 in
set_option maxHeartbeats 40000000 in
theorem b0_55 {p : Program} {l : Launch} {e : Env} {s : State} {m : MethodId} {args : Array Value} {below : List Frame} {meth : Method} {c : Code} {Z : State} {a0 : Array Value} (B : Ctx p Z s a0 m meth c "com/example/quietwire/quietwire/protocol/OverdueJudgePinLaw" "law" code 31 (some .boolean)) {T0 : State} {locs : List Loc} {h : Heap} (h0 : Heap) (n0 : Nat) (v0 : Int64) (v2 : Int64) (v4 : Int32) (v5 : Int32) (v6 : Int32) (v7 : Int32) (t0 : Int32) (X0 : Stand p l e room_1 s m args below meth c T0 locs 0 0) (e0 : T0.heap = h) (N0 : Fr n0 locs) (Z0 : n0 ≤ h.size) (r : Int32) (hr : f0_55 v0 v2 v4 v5 v6 v7 t0 = r) :
    Fin p e below s 1 3 (Q0 n0 r) (T0.setTop (mkF m 55 #[.val (.long v0), .second, .val (.long v2), .second, .val (.int v4), .val (.int v5), .val (.int v6), .val (.int v7), .unset, .unset, .unset, .unset, .unset, .unset, .unset, .unset, .unset, .unset, .unset, .unset, .unset, .unset, .unset, .unset, .unset, .unset, .unset, .unset, .unset, .unset, .unset] [(.int t0)])) := by
  obtain ⟨hx, hZ, hw, hby, hml, hret, hown, hnm, hlk⟩ := B
  unfold f0_55 at hr
  refine Fin.by (B := T0.setTop (mkF m 62 #[.val (.long v0), .second, .val (.long v2), .second, .val (.int v4), .val (.int v5), .val (.int v6), .val (.int v7), .val (.int t0), .unset, .unset, .unset, .unset, .unset, .unset, .unset, .unset, .unset, .unset, .unset, .unset, .unset, .unset, .unset, .unset, .unset, .unset, .unset, .unset, .unset, .unset] [(.int (v4 &&& (16 : Int32)))])) (fun t k => ?_) ?_
  · show Steps p.tables e below (T0.setTop (mkF m 55 #[.val (.long v0), .second, .val (.long v2), .second, .val (.int v4), .val (.int v5), .val (.int v6), .val (.int v7), .unset, .unset, .unset, .unset, .unset, .unset, .unset, .unset, .unset, .unset, .unset, .unset, .unset, .unset, .unset, .unset, .unset, .unset, .unset, .unset, .unset, .unset, .unset] [(.int t0)])) _
    refine XS.istore X0.here hx rfl (hb hby at_55) rfl (l' := #[.val (.long v0), .second, .val (.long v2), .second, .val (.int v4), .val (.int v5), .val (.int v6), .val (.int v7), .val (.int t0), .unset, .unset, .unset, .unset, .unset, .unset, .unset, .unset, .unset, .unset, .unset, .unset, .unset, .unset, .unset, .unset, .unset, .unset, .unset, .unset, .unset, .unset]) rfl ?_
    show Steps p.tables e below (T0.setTop (mkF m 57 #[.val (.long v0), .second, .val (.long v2), .second, .val (.int v4), .val (.int v5), .val (.int v6), .val (.int v7), .val (.int t0), .unset, .unset, .unset, .unset, .unset, .unset, .unset, .unset, .unset, .unset, .unset, .unset, .unset, .unset, .unset, .unset, .unset, .unset, .unset, .unset, .unset, .unset] [])) _
    refine XS.iload X0.here hx rfl (hb hby at_57) rfl  ?_
    show Steps p.tables e below (T0.setTop (mkF m 59 #[.val (.long v0), .second, .val (.long v2), .second, .val (.int v4), .val (.int v5), .val (.int v6), .val (.int v7), .val (.int t0), .unset, .unset, .unset, .unset, .unset, .unset, .unset, .unset, .unset, .unset, .unset, .unset, .unset, .unset, .unset, .unset, .unset, .unset, .unset, .unset, .unset, .unset] [(.int v4)])) _
    refine XS.bipush X0.here hx rfl (hb hby at_59) ?_
    show Steps p.tables e below (T0.setTop (mkF m 61 #[.val (.long v0), .second, .val (.long v2), .second, .val (.int v4), .val (.int v5), .val (.int v6), .val (.int v7), .val (.int t0), .unset, .unset, .unset, .unset, .unset, .unset, .unset, .unset, .unset, .unset, .unset, .unset, .unset, .unset, .unset, .unset, .unset, .unset, .unset, .unset, .unset, .unset] [(.int (16 : Int32)), (.int v4)])) _
    refine XS.iand X0.here hx rfl (hb hby at_61) rfl ?_
    exact k
  by_cases hc62 : (v4 &&& (16 : Int32)) = (0 : Int32)
  · rw [if_pos hc62] at hr
    refine Fin.by (B := T0.setTop (mkF m 69 #[.val (.long v0), .second, .val (.long v2), .second, .val (.int v4), .val (.int v5), .val (.int v6), .val (.int v7), .val (.int t0), .unset, .unset, .unset, .unset, .unset, .unset, .unset, .unset, .unset, .unset, .unset, .unset, .unset, .unset, .unset, .unset, .unset, .unset, .unset, .unset, .unset, .unset] [])) (fun t k => ?_) ?_
    · show Steps p.tables e below (T0.setTop (mkF m 62 #[.val (.long v0), .second, .val (.long v2), .second, .val (.int v4), .val (.int v5), .val (.int v6), .val (.int v7), .val (.int t0), .unset, .unset, .unset, .unset, .unset, .unset, .unset, .unset, .unset, .unset, .unset, .unset, .unset, .unset, .unset, .unset, .unset, .unset, .unset, .unset, .unset, .unset] [(.int (v4 &&& (16 : Int32)))])) _
      exact XS.ifYes X0.here hx rfl (pc0 := 62) (pc' := 69) rfl (hb hby at_62) rfl ((if0 _ _).trans (teq hc62).1) (by decide) (by decide) k
    refine Fin.by (B := T0.setTop (mkF m 70 #[.val (.long v0), .second, .val (.long v2), .second, .val (.int v4), .val (.int v5), .val (.int v6), .val (.int v7), .val (.int t0), .unset, .unset, .unset, .unset, .unset, .unset, .unset, .unset, .unset, .unset, .unset, .unset, .unset, .unset, .unset, .unset, .unset, .unset, .unset, .unset, .unset, .unset] [(.int (0 : Int32))])) (fun t k => ?_) ?_
    · show Steps p.tables e below (T0.setTop (mkF m 69 #[.val (.long v0), .second, .val (.long v2), .second, .val (.int v4), .val (.int v5), .val (.int v6), .val (.int v7), .val (.int t0), .unset, .unset, .unset, .unset, .unset, .unset, .unset, .unset, .unset, .unset, .unset, .unset, .unset, .unset, .unset, .unset, .unset, .unset, .unset, .unset, .unset, .unset] [])) _
      refine XS.iconst X0.here hx rfl (hb hby at_69) ?_
      exact k
    exact b0_70 ⟨hx, hZ, hw, hby, hml, hret, hown, hnm, hlk⟩ h0 n0 v0 v2 v4 v5 v6 v7 t0 (0 : Int32) X0 e0 N0 Z0  _ hr
  · rw [if_neg hc62] at hr
    refine Fin.by (B := T0.setTop (mkF m 65 #[.val (.long v0), .second, .val (.long v2), .second, .val (.int v4), .val (.int v5), .val (.int v6), .val (.int v7), .val (.int t0), .unset, .unset, .unset, .unset, .unset, .unset, .unset, .unset, .unset, .unset, .unset, .unset, .unset, .unset, .unset, .unset, .unset, .unset, .unset, .unset, .unset, .unset] [])) (fun t k => ?_) ?_
    · show Steps p.tables e below (T0.setTop (mkF m 62 #[.val (.long v0), .second, .val (.long v2), .second, .val (.int v4), .val (.int v5), .val (.int v6), .val (.int v7), .val (.int t0), .unset, .unset, .unset, .unset, .unset, .unset, .unset, .unset, .unset, .unset, .unset, .unset, .unset, .unset, .unset, .unset, .unset, .unset, .unset, .unset, .unset, .unset] [(.int (v4 &&& (16 : Int32)))])) _
      exact XS.ifNo X0.here hx rfl (hb hby at_62) rfl ((if0 _ _).trans (feq hc62).1) k
    refine Fin.by (B := T0.setTop (mkF m 70 #[.val (.long v0), .second, .val (.long v2), .second, .val (.int v4), .val (.int v5), .val (.int v6), .val (.int v7), .val (.int t0), .unset, .unset, .unset, .unset, .unset, .unset, .unset, .unset, .unset, .unset, .unset, .unset, .unset, .unset, .unset, .unset, .unset, .unset, .unset, .unset, .unset, .unset] [(.int (1 : Int32))])) (fun t k => ?_) ?_
    · show Steps p.tables e below (T0.setTop (mkF m 65 #[.val (.long v0), .second, .val (.long v2), .second, .val (.int v4), .val (.int v5), .val (.int v6), .val (.int v7), .val (.int t0), .unset, .unset, .unset, .unset, .unset, .unset, .unset, .unset, .unset, .unset, .unset, .unset, .unset, .unset, .unset, .unset, .unset, .unset, .unset, .unset, .unset, .unset] [])) _
      refine XS.iconst X0.here hx rfl (hb hby at_65) ?_
      show Steps p.tables e below (T0.setTop (mkF m 66 #[.val (.long v0), .second, .val (.long v2), .second, .val (.int v4), .val (.int v5), .val (.int v6), .val (.int v7), .val (.int t0), .unset, .unset, .unset, .unset, .unset, .unset, .unset, .unset, .unset, .unset, .unset, .unset, .unset, .unset, .unset, .unset, .unset, .unset, .unset, .unset, .unset, .unset] [(.int (1 : Int32))])) _
      refine XS.goto X0.here hx rfl (pc0 := 66) (pc' := 70) rfl (hb hby at_66) (by decide) (by decide) ?_
      exact k
    exact b0_70 ⟨hx, hZ, hw, hby, hml, hret, hown, hnm, hlk⟩ h0 n0 v0 v2 v4 v5 v6 v7 t0 (1 : Int32) X0 e0 N0 Z0  _ hr
def f0_40 (v0 : Int64) (v2 : Int64) (v4 : Int32) (v5 : Int32) (v6 : Int32) (t0 : Int32) : Int32 := (if (v4 &&& (8 : Int32)) = (0 : Int32) then (f0_55 v0 v2 v4 v5 v6 t0 (0 : Int32)) else (f0_55 v0 v2 v4 v5 v6 t0 (1 : Int32)))
set_option maxRecDepth 65536 in
set_option maxHeartbeats 40000000 in
theorem b0_40 {p : Program} {l : Launch} {e : Env} {s : State} {m : MethodId} {args : Array Value} {below : List Frame} {meth : Method} {c : Code} {Z : State} {a0 : Array Value} (B : Ctx p Z s a0 m meth c "com/example/quietwire/quietwire/protocol/OverdueJudgePinLaw" "law" code 31 (some .boolean)) {T0 : State} {locs : List Loc} {h : Heap} (h0 : Heap) (n0 : Nat) (v0 : Int64) (v2 : Int64) (v4 : Int32) (v5 : Int32) (v6 : Int32) (t0 : Int32) (X0 : Stand p l e room_1 s m args below meth c T0 locs 0 0) (e0 : T0.heap = h) (N0 : Fr n0 locs) (Z0 : n0 ≤ h.size) (r : Int32) (hr : f0_40 v0 v2 v4 v5 v6 t0 = r) :
    Fin p e below s 1 3 (Q0 n0 r) (T0.setTop (mkF m 40 #[.val (.long v0), .second, .val (.long v2), .second, .val (.int v4), .val (.int v5), .val (.int v6), .unset, .unset, .unset, .unset, .unset, .unset, .unset, .unset, .unset, .unset, .unset, .unset, .unset, .unset, .unset, .unset, .unset, .unset, .unset, .unset, .unset, .unset, .unset, .unset] [(.int t0)])) := by
  obtain ⟨hx, hZ, hw, hby, hml, hret, hown, hnm, hlk⟩ := B
  unfold f0_40 at hr
  refine Fin.by (B := T0.setTop (mkF m 47 #[.val (.long v0), .second, .val (.long v2), .second, .val (.int v4), .val (.int v5), .val (.int v6), .val (.int t0), .unset, .unset, .unset, .unset, .unset, .unset, .unset, .unset, .unset, .unset, .unset, .unset, .unset, .unset, .unset, .unset, .unset, .unset, .unset, .unset, .unset, .unset, .unset] [(.int (v4 &&& (8 : Int32)))])) (fun t k => ?_) ?_
  · show Steps p.tables e below (T0.setTop (mkF m 40 #[.val (.long v0), .second, .val (.long v2), .second, .val (.int v4), .val (.int v5), .val (.int v6), .unset, .unset, .unset, .unset, .unset, .unset, .unset, .unset, .unset, .unset, .unset, .unset, .unset, .unset, .unset, .unset, .unset, .unset, .unset, .unset, .unset, .unset, .unset, .unset] [(.int t0)])) _
    refine XS.istore X0.here hx rfl (hb hby at_40) rfl (l' := #[.val (.long v0), .second, .val (.long v2), .second, .val (.int v4), .val (.int v5), .val (.int v6), .val (.int t0), .unset, .unset, .unset, .unset, .unset, .unset, .unset, .unset, .unset, .unset, .unset, .unset, .unset, .unset, .unset, .unset, .unset, .unset, .unset, .unset, .unset, .unset, .unset]) rfl ?_
    show Steps p.tables e below (T0.setTop (mkF m 42 #[.val (.long v0), .second, .val (.long v2), .second, .val (.int v4), .val (.int v5), .val (.int v6), .val (.int t0), .unset, .unset, .unset, .unset, .unset, .unset, .unset, .unset, .unset, .unset, .unset, .unset, .unset, .unset, .unset, .unset, .unset, .unset, .unset, .unset, .unset, .unset, .unset] [])) _
    refine XS.iload X0.here hx rfl (hb hby at_42) rfl  ?_
    show Steps p.tables e below (T0.setTop (mkF m 44 #[.val (.long v0), .second, .val (.long v2), .second, .val (.int v4), .val (.int v5), .val (.int v6), .val (.int t0), .unset, .unset, .unset, .unset, .unset, .unset, .unset, .unset, .unset, .unset, .unset, .unset, .unset, .unset, .unset, .unset, .unset, .unset, .unset, .unset, .unset, .unset, .unset] [(.int v4)])) _
    refine XS.bipush X0.here hx rfl (hb hby at_44) ?_
    show Steps p.tables e below (T0.setTop (mkF m 46 #[.val (.long v0), .second, .val (.long v2), .second, .val (.int v4), .val (.int v5), .val (.int v6), .val (.int t0), .unset, .unset, .unset, .unset, .unset, .unset, .unset, .unset, .unset, .unset, .unset, .unset, .unset, .unset, .unset, .unset, .unset, .unset, .unset, .unset, .unset, .unset, .unset] [(.int (8 : Int32)), (.int v4)])) _
    refine XS.iand X0.here hx rfl (hb hby at_46) rfl ?_
    exact k
  by_cases hc47 : (v4 &&& (8 : Int32)) = (0 : Int32)
  · rw [if_pos hc47] at hr
    refine Fin.by (B := T0.setTop (mkF m 54 #[.val (.long v0), .second, .val (.long v2), .second, .val (.int v4), .val (.int v5), .val (.int v6), .val (.int t0), .unset, .unset, .unset, .unset, .unset, .unset, .unset, .unset, .unset, .unset, .unset, .unset, .unset, .unset, .unset, .unset, .unset, .unset, .unset, .unset, .unset, .unset, .unset] [])) (fun t k => ?_) ?_
    · show Steps p.tables e below (T0.setTop (mkF m 47 #[.val (.long v0), .second, .val (.long v2), .second, .val (.int v4), .val (.int v5), .val (.int v6), .val (.int t0), .unset, .unset, .unset, .unset, .unset, .unset, .unset, .unset, .unset, .unset, .unset, .unset, .unset, .unset, .unset, .unset, .unset, .unset, .unset, .unset, .unset, .unset, .unset] [(.int (v4 &&& (8 : Int32)))])) _
      exact XS.ifYes X0.here hx rfl (pc0 := 47) (pc' := 54) rfl (hb hby at_47) rfl ((if0 _ _).trans (teq hc47).1) (by decide) (by decide) k
    refine Fin.by (B := T0.setTop (mkF m 55 #[.val (.long v0), .second, .val (.long v2), .second, .val (.int v4), .val (.int v5), .val (.int v6), .val (.int t0), .unset, .unset, .unset, .unset, .unset, .unset, .unset, .unset, .unset, .unset, .unset, .unset, .unset, .unset, .unset, .unset, .unset, .unset, .unset, .unset, .unset, .unset, .unset] [(.int (0 : Int32))])) (fun t k => ?_) ?_
    · show Steps p.tables e below (T0.setTop (mkF m 54 #[.val (.long v0), .second, .val (.long v2), .second, .val (.int v4), .val (.int v5), .val (.int v6), .val (.int t0), .unset, .unset, .unset, .unset, .unset, .unset, .unset, .unset, .unset, .unset, .unset, .unset, .unset, .unset, .unset, .unset, .unset, .unset, .unset, .unset, .unset, .unset, .unset] [])) _
      refine XS.iconst X0.here hx rfl (hb hby at_54) ?_
      exact k
    exact b0_55 ⟨hx, hZ, hw, hby, hml, hret, hown, hnm, hlk⟩ h0 n0 v0 v2 v4 v5 v6 t0 (0 : Int32) X0 e0 N0 Z0  _ hr
  · rw [if_neg hc47] at hr
    refine Fin.by (B := T0.setTop (mkF m 50 #[.val (.long v0), .second, .val (.long v2), .second, .val (.int v4), .val (.int v5), .val (.int v6), .val (.int t0), .unset, .unset, .unset, .unset, .unset, .unset, .unset, .unset, .unset, .unset, .unset, .unset, .unset, .unset, .unset, .unset, .unset, .unset, .unset, .unset, .unset, .unset, .unset] [])) (fun t k => ?_) ?_
    · show Steps p.tables e below (T0.setTop (mkF m 47 #[.val (.long v0), .second, .val (.long v2), .second, .val (.int v4), .val (.int v5), .val (.int v6), .val (.int t0), .unset, .unset, .unset, .unset, .unset, .unset, .unset, .unset, .unset, .unset, .unset, .unset, .unset, .unset, .unset, .unset, .unset, .unset, .unset, .unset, .unset, .unset, .unset] [(.int (v4 &&& (8 : Int32)))])) _
      exact XS.ifNo X0.here hx rfl (hb hby at_47) rfl ((if0 _ _).trans (feq hc47).1) k
    refine Fin.by (B := T0.setTop (mkF m 55 #[.val (.long v0), .second, .val (.long v2), .second, .val (.int v4), .val (.int v5), .val (.int v6), .val (.int t0), .unset, .unset, .unset, .unset, .unset, .unset, .unset, .unset, .unset, .unset, .unset, .unset, .unset, .unset, .unset, .unset, .unset, .unset, .unset, .unset, .unset, .unset, .unset] [(.int (1 : Int32))])) (fun t k => ?_) ?_
    · show Steps p.tables e below (T0.setTop (mkF m 50 #[.val (.long v0), .second, .val (.long v2), .second, .val (.int v4), .val (.int v5), .val (.int v6), .val (.int t0), .unset, .unset, .unset, .unset, .unset, .unset, .unset, .unset, .unset, .unset, .unset, .unset, .unset, .unset, .unset, .unset, .unset, .unset, .unset, .unset, .unset, .unset, .unset] [])) _
      refine XS.iconst X0.here hx rfl (hb hby at_50) ?_
      show Steps p.tables e below (T0.setTop (mkF m 51 #[.val (.long v0), .second, .val (.long v2), .second, .val (.int v4), .val (.int v5), .val (.int v6), .val (.int t0), .unset, .unset, .unset, .unset, .unset, .unset, .unset, .unset, .unset, .unset, .unset, .unset, .unset, .unset, .unset, .unset, .unset, .unset, .unset, .unset, .unset, .unset, .unset] [(.int (1 : Int32))])) _
      refine XS.goto X0.here hx rfl (pc0 := 51) (pc' := 55) rfl (hb hby at_51) (by decide) (by decide) ?_
      exact k
    exact b0_55 ⟨hx, hZ, hw, hby, hml, hret, hown, hnm, hlk⟩ h0 n0 v0 v2 v4 v5 v6 t0 (1 : Int32) X0 e0 N0 Z0  _ hr
def f0_26 (v0 : Int64) (v2 : Int64) (v4 : Int32) (v5 : Int32) (t0 : Int32) : Int32 := (if (v4 &&& (4 : Int32)) = (0 : Int32) then (f0_40 v0 v2 v4 v5 t0 (0 : Int32)) else (f0_40 v0 v2 v4 v5 t0 (1 : Int32)))
set_option maxRecDepth 65536 in
set_option maxHeartbeats 40000000 in
theorem b0_26 {p : Program} {l : Launch} {e : Env} {s : State} {m : MethodId} {args : Array Value} {below : List Frame} {meth : Method} {c : Code} {Z : State} {a0 : Array Value} (B : Ctx p Z s a0 m meth c "com/example/quietwire/quietwire/protocol/OverdueJudgePinLaw" "law" code 31 (some .boolean)) {T0 : State} {locs : List Loc} {h : Heap} (h0 : Heap) (n0 : Nat) (v0 : Int64) (v2 : Int64) (v4 : Int32) (v5 : Int32) (t0 : Int32) (X0 : Stand p l e room_1 s m args below meth c T0 locs 0 0) (e0 : T0.heap = h) (N0 : Fr n0 locs) (Z0 : n0 ≤ h.size) (r : Int32) (hr : f0_26 v0 v2 v4 v5 t0 = r) :
    Fin p e below s 1 3 (Q0 n0 r) (T0.setTop (mkF m 26 #[.val (.long v0), .second, .val (.long v2), .second, .val (.int v4), .val (.int v5), .unset, .unset, .unset, .unset, .unset, .unset, .unset, .unset, .unset, .unset, .unset, .unset, .unset, .unset, .unset, .unset, .unset, .unset, .unset, .unset, .unset, .unset, .unset, .unset, .unset] [(.int t0)])) := by
  obtain ⟨hx, hZ, hw, hby, hml, hret, hown, hnm, hlk⟩ := B
  unfold f0_26 at hr
  refine Fin.by (B := T0.setTop (mkF m 32 #[.val (.long v0), .second, .val (.long v2), .second, .val (.int v4), .val (.int v5), .val (.int t0), .unset, .unset, .unset, .unset, .unset, .unset, .unset, .unset, .unset, .unset, .unset, .unset, .unset, .unset, .unset, .unset, .unset, .unset, .unset, .unset, .unset, .unset, .unset, .unset] [(.int (v4 &&& (4 : Int32)))])) (fun t k => ?_) ?_
  · show Steps p.tables e below (T0.setTop (mkF m 26 #[.val (.long v0), .second, .val (.long v2), .second, .val (.int v4), .val (.int v5), .unset, .unset, .unset, .unset, .unset, .unset, .unset, .unset, .unset, .unset, .unset, .unset, .unset, .unset, .unset, .unset, .unset, .unset, .unset, .unset, .unset, .unset, .unset, .unset, .unset] [(.int t0)])) _
    refine XS.istore X0.here hx rfl (hb hby at_26) rfl (l' := #[.val (.long v0), .second, .val (.long v2), .second, .val (.int v4), .val (.int v5), .val (.int t0), .unset, .unset, .unset, .unset, .unset, .unset, .unset, .unset, .unset, .unset, .unset, .unset, .unset, .unset, .unset, .unset, .unset, .unset, .unset, .unset, .unset, .unset, .unset, .unset]) rfl ?_
    show Steps p.tables e below (T0.setTop (mkF m 28 #[.val (.long v0), .second, .val (.long v2), .second, .val (.int v4), .val (.int v5), .val (.int t0), .unset, .unset, .unset, .unset, .unset, .unset, .unset, .unset, .unset, .unset, .unset, .unset, .unset, .unset, .unset, .unset, .unset, .unset, .unset, .unset, .unset, .unset, .unset, .unset] [])) _
    refine XS.iload X0.here hx rfl (hb hby at_28) rfl  ?_
    show Steps p.tables e below (T0.setTop (mkF m 30 #[.val (.long v0), .second, .val (.long v2), .second, .val (.int v4), .val (.int v5), .val (.int t0), .unset, .unset, .unset, .unset, .unset, .unset, .unset, .unset, .unset, .unset, .unset, .unset, .unset, .unset, .unset, .unset, .unset, .unset, .unset, .unset, .unset, .unset, .unset, .unset] [(.int v4)])) _
    refine XS.iconst X0.here hx rfl (hb hby at_30) ?_
    show Steps p.tables e below (T0.setTop (mkF m 31 #[.val (.long v0), .second, .val (.long v2), .second, .val (.int v4), .val (.int v5), .val (.int t0), .unset, .unset, .unset, .unset, .unset, .unset, .unset, .unset, .unset, .unset, .unset, .unset, .unset, .unset, .unset, .unset, .unset, .unset, .unset, .unset, .unset, .unset, .unset, .unset] [(.int (4 : Int32)), (.int v4)])) _
    refine XS.iand X0.here hx rfl (hb hby at_31) rfl ?_
    exact k
  by_cases hc32 : (v4 &&& (4 : Int32)) = (0 : Int32)
  · rw [if_pos hc32] at hr
    refine Fin.by (B := T0.setTop (mkF m 39 #[.val (.long v0), .second, .val (.long v2), .second, .val (.int v4), .val (.int v5), .val (.int t0), .unset, .unset, .unset, .unset, .unset, .unset, .unset, .unset, .unset, .unset, .unset, .unset, .unset, .unset, .unset, .unset, .unset, .unset, .unset, .unset, .unset, .unset, .unset, .unset] [])) (fun t k => ?_) ?_
    · show Steps p.tables e below (T0.setTop (mkF m 32 #[.val (.long v0), .second, .val (.long v2), .second, .val (.int v4), .val (.int v5), .val (.int t0), .unset, .unset, .unset, .unset, .unset, .unset, .unset, .unset, .unset, .unset, .unset, .unset, .unset, .unset, .unset, .unset, .unset, .unset, .unset, .unset, .unset, .unset, .unset, .unset] [(.int (v4 &&& (4 : Int32)))])) _
      exact XS.ifYes X0.here hx rfl (pc0 := 32) (pc' := 39) rfl (hb hby at_32) rfl ((if0 _ _).trans (teq hc32).1) (by decide) (by decide) k
    refine Fin.by (B := T0.setTop (mkF m 40 #[.val (.long v0), .second, .val (.long v2), .second, .val (.int v4), .val (.int v5), .val (.int t0), .unset, .unset, .unset, .unset, .unset, .unset, .unset, .unset, .unset, .unset, .unset, .unset, .unset, .unset, .unset, .unset, .unset, .unset, .unset, .unset, .unset, .unset, .unset, .unset] [(.int (0 : Int32))])) (fun t k => ?_) ?_
    · show Steps p.tables e below (T0.setTop (mkF m 39 #[.val (.long v0), .second, .val (.long v2), .second, .val (.int v4), .val (.int v5), .val (.int t0), .unset, .unset, .unset, .unset, .unset, .unset, .unset, .unset, .unset, .unset, .unset, .unset, .unset, .unset, .unset, .unset, .unset, .unset, .unset, .unset, .unset, .unset, .unset, .unset] [])) _
      refine XS.iconst X0.here hx rfl (hb hby at_39) ?_
      exact k
    exact b0_40 ⟨hx, hZ, hw, hby, hml, hret, hown, hnm, hlk⟩ h0 n0 v0 v2 v4 v5 t0 (0 : Int32) X0 e0 N0 Z0  _ hr
  · rw [if_neg hc32] at hr
    refine Fin.by (B := T0.setTop (mkF m 35 #[.val (.long v0), .second, .val (.long v2), .second, .val (.int v4), .val (.int v5), .val (.int t0), .unset, .unset, .unset, .unset, .unset, .unset, .unset, .unset, .unset, .unset, .unset, .unset, .unset, .unset, .unset, .unset, .unset, .unset, .unset, .unset, .unset, .unset, .unset, .unset] [])) (fun t k => ?_) ?_
    · show Steps p.tables e below (T0.setTop (mkF m 32 #[.val (.long v0), .second, .val (.long v2), .second, .val (.int v4), .val (.int v5), .val (.int t0), .unset, .unset, .unset, .unset, .unset, .unset, .unset, .unset, .unset, .unset, .unset, .unset, .unset, .unset, .unset, .unset, .unset, .unset, .unset, .unset, .unset, .unset, .unset, .unset] [(.int (v4 &&& (4 : Int32)))])) _
      exact XS.ifNo X0.here hx rfl (hb hby at_32) rfl ((if0 _ _).trans (feq hc32).1) k
    refine Fin.by (B := T0.setTop (mkF m 40 #[.val (.long v0), .second, .val (.long v2), .second, .val (.int v4), .val (.int v5), .val (.int t0), .unset, .unset, .unset, .unset, .unset, .unset, .unset, .unset, .unset, .unset, .unset, .unset, .unset, .unset, .unset, .unset, .unset, .unset, .unset, .unset, .unset, .unset, .unset, .unset] [(.int (1 : Int32))])) (fun t k => ?_) ?_
    · show Steps p.tables e below (T0.setTop (mkF m 35 #[.val (.long v0), .second, .val (.long v2), .second, .val (.int v4), .val (.int v5), .val (.int t0), .unset, .unset, .unset, .unset, .unset, .unset, .unset, .unset, .unset, .unset, .unset, .unset, .unset, .unset, .unset, .unset, .unset, .unset, .unset, .unset, .unset, .unset, .unset, .unset] [])) _
      refine XS.iconst X0.here hx rfl (hb hby at_35) ?_
      show Steps p.tables e below (T0.setTop (mkF m 36 #[.val (.long v0), .second, .val (.long v2), .second, .val (.int v4), .val (.int v5), .val (.int t0), .unset, .unset, .unset, .unset, .unset, .unset, .unset, .unset, .unset, .unset, .unset, .unset, .unset, .unset, .unset, .unset, .unset, .unset, .unset, .unset, .unset, .unset, .unset, .unset] [(.int (1 : Int32))])) _
      refine XS.goto X0.here hx rfl (pc0 := 36) (pc' := 40) rfl (hb hby at_36) (by decide) (by decide) ?_
      exact k
    exact b0_40 ⟨hx, hZ, hw, hby, hml, hret, hown, hnm, hlk⟩ h0 n0 v0 v2 v4 v5 t0 (1 : Int32) X0 e0 N0 Z0  _ hr
def f0_12 (v0 : Int64) (v2 : Int64) (v4 : Int32) (t0 : Int32) : Int32 := (if (v4 &&& (2 : Int32)) = (0 : Int32) then (f0_26 v0 v2 v4 t0 (0 : Int32)) else (f0_26 v0 v2 v4 t0 (1 : Int32)))
set_option maxRecDepth 65536 in
set_option maxHeartbeats 40000000 in
theorem b0_12 {p : Program} {l : Launch} {e : Env} {s : State} {m : MethodId} {args : Array Value} {below : List Frame} {meth : Method} {c : Code} {Z : State} {a0 : Array Value} (B : Ctx p Z s a0 m meth c "com/example/quietwire/quietwire/protocol/OverdueJudgePinLaw" "law" code 31 (some .boolean)) {T0 : State} {locs : List Loc} {h : Heap} (h0 : Heap) (n0 : Nat) (v0 : Int64) (v2 : Int64) (v4 : Int32) (t0 : Int32) (X0 : Stand p l e room_1 s m args below meth c T0 locs 0 0) (e0 : T0.heap = h) (N0 : Fr n0 locs) (Z0 : n0 ≤ h.size) (r : Int32) (hr : f0_12 v0 v2 v4 t0 = r) :
    Fin p e below s 1 3 (Q0 n0 r) (T0.setTop (mkF m 12 #[.val (.long v0), .second, .val (.long v2), .second, .val (.int v4), .unset, .unset, .unset, .unset, .unset, .unset, .unset, .unset, .unset, .unset, .unset, .unset, .unset, .unset, .unset, .unset, .unset, .unset, .unset, .unset, .unset, .unset, .unset, .unset, .unset, .unset] [(.int t0)])) := by
  obtain ⟨hx, hZ, hw, hby, hml, hret, hown, hnm, hlk⟩ := B
  unfold f0_12 at hr
  refine Fin.by (B := T0.setTop (mkF m 18 #[.val (.long v0), .second, .val (.long v2), .second, .val (.int v4), .val (.int t0), .unset, .unset, .unset, .unset, .unset, .unset, .unset, .unset, .unset, .unset, .unset, .unset, .unset, .unset, .unset, .unset, .unset, .unset, .unset, .unset, .unset, .unset, .unset, .unset, .unset] [(.int (v4 &&& (2 : Int32)))])) (fun t k => ?_) ?_
  · show Steps p.tables e below (T0.setTop (mkF m 12 #[.val (.long v0), .second, .val (.long v2), .second, .val (.int v4), .unset, .unset, .unset, .unset, .unset, .unset, .unset, .unset, .unset, .unset, .unset, .unset, .unset, .unset, .unset, .unset, .unset, .unset, .unset, .unset, .unset, .unset, .unset, .unset, .unset, .unset] [(.int t0)])) _
    refine XS.istore X0.here hx rfl (hb hby at_12) rfl (l' := #[.val (.long v0), .second, .val (.long v2), .second, .val (.int v4), .val (.int t0), .unset, .unset, .unset, .unset, .unset, .unset, .unset, .unset, .unset, .unset, .unset, .unset, .unset, .unset, .unset, .unset, .unset, .unset, .unset, .unset, .unset, .unset, .unset, .unset, .unset]) rfl ?_
    show Steps p.tables e below (T0.setTop (mkF m 14 #[.val (.long v0), .second, .val (.long v2), .second, .val (.int v4), .val (.int t0), .unset, .unset, .unset, .unset, .unset, .unset, .unset, .unset, .unset, .unset, .unset, .unset, .unset, .unset, .unset, .unset, .unset, .unset, .unset, .unset, .unset, .unset, .unset, .unset, .unset] [])) _
    refine XS.iload X0.here hx rfl (hb hby at_14) rfl  ?_
    show Steps p.tables e below (T0.setTop (mkF m 16 #[.val (.long v0), .second, .val (.long v2), .second, .val (.int v4), .val (.int t0), .unset, .unset, .unset, .unset, .unset, .unset, .unset, .unset, .unset, .unset, .unset, .unset, .unset, .unset, .unset, .unset, .unset, .unset, .unset, .unset, .unset, .unset, .unset, .unset, .unset] [(.int v4)])) _
    refine XS.iconst X0.here hx rfl (hb hby at_16) ?_
    show Steps p.tables e below (T0.setTop (mkF m 17 #[.val (.long v0), .second, .val (.long v2), .second, .val (.int v4), .val (.int t0), .unset, .unset, .unset, .unset, .unset, .unset, .unset, .unset, .unset, .unset, .unset, .unset, .unset, .unset, .unset, .unset, .unset, .unset, .unset, .unset, .unset, .unset, .unset, .unset, .unset] [(.int (2 : Int32)), (.int v4)])) _
    refine XS.iand X0.here hx rfl (hb hby at_17) rfl ?_
    exact k
  by_cases hc18 : (v4 &&& (2 : Int32)) = (0 : Int32)
  · rw [if_pos hc18] at hr
    refine Fin.by (B := T0.setTop (mkF m 25 #[.val (.long v0), .second, .val (.long v2), .second, .val (.int v4), .val (.int t0), .unset, .unset, .unset, .unset, .unset, .unset, .unset, .unset, .unset, .unset, .unset, .unset, .unset, .unset, .unset, .unset, .unset, .unset, .unset, .unset, .unset, .unset, .unset, .unset, .unset] [])) (fun t k => ?_) ?_
    · show Steps p.tables e below (T0.setTop (mkF m 18 #[.val (.long v0), .second, .val (.long v2), .second, .val (.int v4), .val (.int t0), .unset, .unset, .unset, .unset, .unset, .unset, .unset, .unset, .unset, .unset, .unset, .unset, .unset, .unset, .unset, .unset, .unset, .unset, .unset, .unset, .unset, .unset, .unset, .unset, .unset] [(.int (v4 &&& (2 : Int32)))])) _
      exact XS.ifYes X0.here hx rfl (pc0 := 18) (pc' := 25) rfl (hb hby at_18) rfl ((if0 _ _).trans (teq hc18).1) (by decide) (by decide) k
    refine Fin.by (B := T0.setTop (mkF m 26 #[.val (.long v0), .second, .val (.long v2), .second, .val (.int v4), .val (.int t0), .unset, .unset, .unset, .unset, .unset, .unset, .unset, .unset, .unset, .unset, .unset, .unset, .unset, .unset, .unset, .unset, .unset, .unset, .unset, .unset, .unset, .unset, .unset, .unset, .unset] [(.int (0 : Int32))])) (fun t k => ?_) ?_
    · show Steps p.tables e below (T0.setTop (mkF m 25 #[.val (.long v0), .second, .val (.long v2), .second, .val (.int v4), .val (.int t0), .unset, .unset, .unset, .unset, .unset, .unset, .unset, .unset, .unset, .unset, .unset, .unset, .unset, .unset, .unset, .unset, .unset, .unset, .unset, .unset, .unset, .unset, .unset, .unset, .unset] [])) _
      refine XS.iconst X0.here hx rfl (hb hby at_25) ?_
      exact k
    exact b0_26 ⟨hx, hZ, hw, hby, hml, hret, hown, hnm, hlk⟩ h0 n0 v0 v2 v4 t0 (0 : Int32) X0 e0 N0 Z0  _ hr
  · rw [if_neg hc18] at hr
    refine Fin.by (B := T0.setTop (mkF m 21 #[.val (.long v0), .second, .val (.long v2), .second, .val (.int v4), .val (.int t0), .unset, .unset, .unset, .unset, .unset, .unset, .unset, .unset, .unset, .unset, .unset, .unset, .unset, .unset, .unset, .unset, .unset, .unset, .unset, .unset, .unset, .unset, .unset, .unset, .unset] [])) (fun t k => ?_) ?_
    · show Steps p.tables e below (T0.setTop (mkF m 18 #[.val (.long v0), .second, .val (.long v2), .second, .val (.int v4), .val (.int t0), .unset, .unset, .unset, .unset, .unset, .unset, .unset, .unset, .unset, .unset, .unset, .unset, .unset, .unset, .unset, .unset, .unset, .unset, .unset, .unset, .unset, .unset, .unset, .unset, .unset] [(.int (v4 &&& (2 : Int32)))])) _
      exact XS.ifNo X0.here hx rfl (hb hby at_18) rfl ((if0 _ _).trans (feq hc18).1) k
    refine Fin.by (B := T0.setTop (mkF m 26 #[.val (.long v0), .second, .val (.long v2), .second, .val (.int v4), .val (.int t0), .unset, .unset, .unset, .unset, .unset, .unset, .unset, .unset, .unset, .unset, .unset, .unset, .unset, .unset, .unset, .unset, .unset, .unset, .unset, .unset, .unset, .unset, .unset, .unset, .unset] [(.int (1 : Int32))])) (fun t k => ?_) ?_
    · show Steps p.tables e below (T0.setTop (mkF m 21 #[.val (.long v0), .second, .val (.long v2), .second, .val (.int v4), .val (.int t0), .unset, .unset, .unset, .unset, .unset, .unset, .unset, .unset, .unset, .unset, .unset, .unset, .unset, .unset, .unset, .unset, .unset, .unset, .unset, .unset, .unset, .unset, .unset, .unset, .unset] [])) _
      refine XS.iconst X0.here hx rfl (hb hby at_21) ?_
      show Steps p.tables e below (T0.setTop (mkF m 22 #[.val (.long v0), .second, .val (.long v2), .second, .val (.int v4), .val (.int t0), .unset, .unset, .unset, .unset, .unset, .unset, .unset, .unset, .unset, .unset, .unset, .unset, .unset, .unset, .unset, .unset, .unset, .unset, .unset, .unset, .unset, .unset, .unset, .unset, .unset] [(.int (1 : Int32))])) _
      refine XS.goto X0.here hx rfl (pc0 := 22) (pc' := 26) rfl (hb hby at_22) (by decide) (by decide) ?_
      exact k
    exact b0_26 ⟨hx, hZ, hw, hby, hml, hret, hown, hnm, hlk⟩ h0 n0 v0 v2 v4 t0 (1 : Int32) X0 e0 N0 Z0  _ hr
def f0_0 (v0 : Int64) (v2 : Int64) (v4 : Int32) : Int32 := (if (v4 &&& (1 : Int32)) = (0 : Int32) then (f0_12 v0 v2 v4 (0 : Int32)) else (f0_12 v0 v2 v4 (1 : Int32)))
set_option maxRecDepth 65536 in
set_option maxHeartbeats 40000000 in
theorem b0_0 {p : Program} {l : Launch} {e : Env} {s : State} {m : MethodId} {args : Array Value} {below : List Frame} {meth : Method} {c : Code} {Z : State} {a0 : Array Value} (B : Ctx p Z s a0 m meth c "com/example/quietwire/quietwire/protocol/OverdueJudgePinLaw" "law" code 31 (some .boolean)) {T0 : State} {locs : List Loc} {h : Heap} (h0 : Heap) (n0 : Nat) (v0 : Int64) (v2 : Int64) (v4 : Int32) (X0 : Stand p l e room_1 s m args below meth c T0 locs 0 0) (e0 : T0.heap = h) (N0 : Fr n0 locs) (Z0 : n0 ≤ h.size) (r : Int32) (hr : f0_0 v0 v2 v4 = r) :
    Fin p e below s 1 3 (Q0 n0 r) (T0.setTop (mkF m 0 #[.val (.long v0), .second, .val (.long v2), .second, .val (.int v4), .unset, .unset, .unset, .unset, .unset, .unset, .unset, .unset, .unset, .unset, .unset, .unset, .unset, .unset, .unset, .unset, .unset, .unset, .unset, .unset, .unset, .unset, .unset, .unset, .unset, .unset] [])) := by
  obtain ⟨hx, hZ, hw, hby, hml, hret, hown, hnm, hlk⟩ := B
  unfold f0_0 at hr
  refine Fin.by (B := T0.setTop (mkF m 4 #[.val (.long v0), .second, .val (.long v2), .second, .val (.int v4), .unset, .unset, .unset, .unset, .unset, .unset, .unset, .unset, .unset, .unset, .unset, .unset, .unset, .unset, .unset, .unset, .unset, .unset, .unset, .unset, .unset, .unset, .unset, .unset, .unset, .unset] [(.int (v4 &&& (1 : Int32)))])) (fun t k => ?_) ?_
  · show Steps p.tables e below (T0.setTop (mkF m 0 #[.val (.long v0), .second, .val (.long v2), .second, .val (.int v4), .unset, .unset, .unset, .unset, .unset, .unset, .unset, .unset, .unset, .unset, .unset, .unset, .unset, .unset, .unset, .unset, .unset, .unset, .unset, .unset, .unset, .unset, .unset, .unset, .unset, .unset] [])) _
    refine XS.iload X0.here hx rfl (hb hby at_0) rfl  ?_
    show Steps p.tables e below (T0.setTop (mkF m 2 #[.val (.long v0), .second, .val (.long v2), .second, .val (.int v4), .unset, .unset, .unset, .unset, .unset, .unset, .unset, .unset, .unset, .unset, .unset, .unset, .unset, .unset, .unset, .unset, .unset, .unset, .unset, .unset, .unset, .unset, .unset, .unset, .unset, .unset] [(.int v4)])) _
    refine XS.iconst X0.here hx rfl (hb hby at_2) ?_
    show Steps p.tables e below (T0.setTop (mkF m 3 #[.val (.long v0), .second, .val (.long v2), .second, .val (.int v4), .unset, .unset, .unset, .unset, .unset, .unset, .unset, .unset, .unset, .unset, .unset, .unset, .unset, .unset, .unset, .unset, .unset, .unset, .unset, .unset, .unset, .unset, .unset, .unset, .unset, .unset] [(.int (1 : Int32)), (.int v4)])) _
    refine XS.iand X0.here hx rfl (hb hby at_3) rfl ?_
    exact k
  by_cases hc4 : (v4 &&& (1 : Int32)) = (0 : Int32)
  · rw [if_pos hc4] at hr
    refine Fin.by (B := T0.setTop (mkF m 11 #[.val (.long v0), .second, .val (.long v2), .second, .val (.int v4), .unset, .unset, .unset, .unset, .unset, .unset, .unset, .unset, .unset, .unset, .unset, .unset, .unset, .unset, .unset, .unset, .unset, .unset, .unset, .unset, .unset, .unset, .unset, .unset, .unset, .unset] [])) (fun t k => ?_) ?_
    · show Steps p.tables e below (T0.setTop (mkF m 4 #[.val (.long v0), .second, .val (.long v2), .second, .val (.int v4), .unset, .unset, .unset, .unset, .unset, .unset, .unset, .unset, .unset, .unset, .unset, .unset, .unset, .unset, .unset, .unset, .unset, .unset, .unset, .unset, .unset, .unset, .unset, .unset, .unset, .unset] [(.int (v4 &&& (1 : Int32)))])) _
      exact XS.ifYes X0.here hx rfl (pc0 := 4) (pc' := 11) rfl (hb hby at_4) rfl ((if0 _ _).trans (teq hc4).1) (by decide) (by decide) k
    refine Fin.by (B := T0.setTop (mkF m 12 #[.val (.long v0), .second, .val (.long v2), .second, .val (.int v4), .unset, .unset, .unset, .unset, .unset, .unset, .unset, .unset, .unset, .unset, .unset, .unset, .unset, .unset, .unset, .unset, .unset, .unset, .unset, .unset, .unset, .unset, .unset, .unset, .unset, .unset] [(.int (0 : Int32))])) (fun t k => ?_) ?_
    · show Steps p.tables e below (T0.setTop (mkF m 11 #[.val (.long v0), .second, .val (.long v2), .second, .val (.int v4), .unset, .unset, .unset, .unset, .unset, .unset, .unset, .unset, .unset, .unset, .unset, .unset, .unset, .unset, .unset, .unset, .unset, .unset, .unset, .unset, .unset, .unset, .unset, .unset, .unset, .unset] [])) _
      refine XS.iconst X0.here hx rfl (hb hby at_11) ?_
      exact k
    exact b0_12 ⟨hx, hZ, hw, hby, hml, hret, hown, hnm, hlk⟩ h0 n0 v0 v2 v4 (0 : Int32) X0 e0 N0 Z0  _ hr
  · rw [if_neg hc4] at hr
    refine Fin.by (B := T0.setTop (mkF m 7 #[.val (.long v0), .second, .val (.long v2), .second, .val (.int v4), .unset, .unset, .unset, .unset, .unset, .unset, .unset, .unset, .unset, .unset, .unset, .unset, .unset, .unset, .unset, .unset, .unset, .unset, .unset, .unset, .unset, .unset, .unset, .unset, .unset, .unset] [])) (fun t k => ?_) ?_
    · show Steps p.tables e below (T0.setTop (mkF m 4 #[.val (.long v0), .second, .val (.long v2), .second, .val (.int v4), .unset, .unset, .unset, .unset, .unset, .unset, .unset, .unset, .unset, .unset, .unset, .unset, .unset, .unset, .unset, .unset, .unset, .unset, .unset, .unset, .unset, .unset, .unset, .unset, .unset, .unset] [(.int (v4 &&& (1 : Int32)))])) _
      exact XS.ifNo X0.here hx rfl (hb hby at_4) rfl ((if0 _ _).trans (feq hc4).1) k
    refine Fin.by (B := T0.setTop (mkF m 12 #[.val (.long v0), .second, .val (.long v2), .second, .val (.int v4), .unset, .unset, .unset, .unset, .unset, .unset, .unset, .unset, .unset, .unset, .unset, .unset, .unset, .unset, .unset, .unset, .unset, .unset, .unset, .unset, .unset, .unset, .unset, .unset, .unset, .unset] [(.int (1 : Int32))])) (fun t k => ?_) ?_
    · show Steps p.tables e below (T0.setTop (mkF m 7 #[.val (.long v0), .second, .val (.long v2), .second, .val (.int v4), .unset, .unset, .unset, .unset, .unset, .unset, .unset, .unset, .unset, .unset, .unset, .unset, .unset, .unset, .unset, .unset, .unset, .unset, .unset, .unset, .unset, .unset, .unset, .unset, .unset, .unset] [])) _
      refine XS.iconst X0.here hx rfl (hb hby at_7) ?_
      show Steps p.tables e below (T0.setTop (mkF m 8 #[.val (.long v0), .second, .val (.long v2), .second, .val (.int v4), .unset, .unset, .unset, .unset, .unset, .unset, .unset, .unset, .unset, .unset, .unset, .unset, .unset, .unset, .unset, .unset, .unset, .unset, .unset, .unset, .unset, .unset, .unset, .unset, .unset, .unset] [(.int (1 : Int32))])) _
      refine XS.goto X0.here hx rfl (pc0 := 8) (pc' := 12) rfl (hb hby at_8) (by decide) (by decide) ?_
      exact k
    exact b0_12 ⟨hx, hZ, hw, hby, hml, hret, hown, hnm, hlk⟩ h0 n0 v0 v2 v4 (1 : Int32) X0 e0 N0 Z0  _ hr
theorem ef_0 (m : MethodId) (v0 : Int64) (v2 : Int64) (v4 : Int32) : entryFrame m #[(.long v0), (.long v2), (.int v4)] maxLocals = (mkF m 0 #[.val (.long v0), .second, .val (.long v2), .second, .val (.int v4), .unset, .unset, .unset, .unset, .unset, .unset, .unset, .unset, .unset, .unset, .unset, .unset, .unset, .unset, .unset, .unset, .unset, .unset, .unset, .unset, .unset, .unset, .unset, .unset, .unset, .unset] []) := by first | (simp [entryFrame, mkF, argsToLocals, Value.category, maxLocals]; done) | rfl
set_option maxRecDepth 65536 in
set_option maxHeartbeats 40000000 in
theorem rm0 (l : Launch) (Z : State) (a0 : Array Value) (hw : ∀ d ∈ tables_1, d.before a0 Z = true) (ws : List Jvm.Cond) (v0 : Int64) (v2 : Int64) (v4 : Int32) (h0 : Heap) (n0 : Nat) (Z0 : n0 ≤ h0.size) :
    MetFree l x (head1 (Jvm.Cond.code x code maxLocals ret :: ws) room_1) (fun a U => a = #[(.long v0), (.long v2), (.int v4)] ∧ Z.Warmed39 U.vm ∧ U.heap = h0) (fun _ _ _ _ _ => True) (fun _ U o U' => ∃ v L, o = .returned v ∧ (Q0 n0 (f0_0 v0 v2 v4)) v U'.heap L ∧ FrameEnd U o U' L 1 3) := by
  refine MetFree.of_bodySF (plainFor_of_name pn_0) hisR ?_
  intro p e s m args below meth c s₁ Bd hml0 hP hK
  obtain ⟨rfl, hZ, hh⟩ := hP
  have B : Ctx p Z s a0 m meth c "com/example/quietwire/quietwire/protocol/OverdueJudgePinLaw" "law" code 31 (some .boolean) := ⟨Bd.exec, hZ, hw, Bd.bytes, hml0, Bd.returns, findClass_of_methodNamed Bd.named, (name_of_methodNamed Bd.named Bd.method).1, Bd.notSynchronized⟩
  have X0 : Stand p l e room_1 s m #[(.long v0), (.long v2), (.int v4)] below meth c s₁ [] 0 0 := Stand.of_body Bd
  have e0 : s₁.heap = h0 := by rw [← hh, Bd.state]; rfl
  have K := Keep.refl h0 []
  show Fin p e below s 1 3 (Q0 n0 (f0_0 v0 v2 v4)) (s₁.setTop (entryFrame m #[(.long v0), (.long v2), (.int v4)] maxLocals))
  refine Fin.by (fun t k => castTop (ef_0 m v0 v2 v4) k) ?_
  exact b0_0 B h0 n0 v0 v2 v4 X0 e0 (Fr.nil n0) Z0  _ rfl

theorem own_nb0 : nar .boolean 0 = 0 := by decide
theorem own_nb1 : nar .boolean 1 = 1 := by decide
theorem own_m7 (g : Int64) (hg : g = 1 ∨ g = 2) : f7_0 ((2 : Int64) * g) 64 = 2 * g := by
  rcases hg with rfl | rfl <;> decide
theorem own_nz (g : Int64) (hg : g = 1 ∨ g = 2) : ¬ (g = 0) ∧ ¬ ((2 : Int64) * g = 0) ∧ (0 : Int64) < g := by
  rcases hg with rfl | rfl <;> decide
theorem own_345 (v0 v2 : Int64) (v4 v5 v6 v7 v8 v9 v10 v11 v12 : Int32) (v13 : Int64) (v16 : Int32) (v17 v19 : Int64) (v21 v22 : Int32) (t0 : Int64) (ov : Int32) (gap nx : Int64)
    (h : (v21 = 0 ∧ gap = 0) ∨ (v21 = 1 ∧ (v17 = 1 ∨ v17 = 2) ∧ gap = v17 ∧ nx = v19)) : f0_345 v0 v2 v4 v5 v6 v7 v8 v9 v10 v11 v12 v13 v16 v17 v19 v21 v22 t0 ov gap nx = 1 := by
  unfold f0_345
  rcases h with ⟨rfl, rfl⟩ | ⟨rfl, hg, rfl, rfl⟩
  · rw [if_pos rfl]
    unfold f0_367 f0_368
    rw [show f6_0 (t0 + v13) ov 0 nx = (0, ov, 0, nx) from by unfold f6_0; rw [if_pos rfl]]
    rfl
  · obtain ⟨g0, g1, g2⟩ := own_nz gap hg
    rw [if_neg (by decide)]
    generalize t0 + v13 = t
    by_cases q : t < nx
    · rw [if_pos q]
      unfold f0_367 f0_368
      rw [show f6_0 t ov gap nx = (0, ov, gap, nx) from by unfold f6_0; rw [if_neg g0, if_pos q]]
      rfl
    · rw [if_neg q]
      unfold f0_368
      rw [show f6_0 t ov gap nx = (1, ov, 2 * gap, t + 2 * gap) from by unfold f6_0; rw [if_neg g0, if_neg q, own_m7 gap hg]]
      unfold f0_377
      dsimp only
      rw [if_pos rfl, if_neg (by decide)]
      by_cases w : t + 2 < t + 2 * gap
      · rw [if_pos w]
        unfold f0_423
        rw [show f6_0 (t + 2) ov (2 * gap) (t + 2 * gap) = (0, ov, 2 * gap, t + 2 * gap) from by unfold f6_0; rw [if_neg g1, if_pos w]]
        rfl
      · rw [if_neg w]
        unfold f0_423
        rw [show f6_0 (t + 2) ov (2 * gap) (t + 2 * gap) = (1, ov, f7_0 (2 * (2 * gap)) 64, t + 2 + f7_0 (2 * (2 * gap)) 64) from by unfold f6_0; rw [if_neg g1, if_neg w]]
        rfl
theorem own_311 (v0 v2 : Int64) (v4 v5 v6 v7 v8 v9 v10 v11 v12 : Int32) (v13 : Int64) (v16 : Int32) (v17 v19 : Int64) (v21 v22 : Int32) (ov : Int32) (gap nx : Int64) (h1 : nar .boolean ov = v22)
    (h : (v21 = 0 ∧ gap = 0) ∨ (v21 = 1 ∧ (v17 = 1 ∨ v17 = 2) ∧ gap = v17 ∧ nx = v19)) : f0_311 v0 v2 v4 v5 v6 v7 v8 v9 v10 v11 v12 v13 v16 v17 v19 v21 v22 ov gap nx = 1 := by
  unfold f0_311
  have e : f5_0 ov gap nx = v21 := by
    unfold f5_0
    rcases h with ⟨rfl, rfl⟩ | ⟨rfl, hg, rfl, rfl⟩
    · decide
    · rw [if_pos (own_nz gap hg).2.2]
  rw [if_pos (show f4_0 ov gap nx = v22 from h1), if_pos e]
  split <;> exact own_345 _ _ _ _ _ _ _ _ _ _ _ _ _ _ _ _ _ _ _ _ _ h
theorem own_287 (v0 v2 : Int64) (v4 v5 v6 v7 v8 v9 v10 v11 v12 : Int32) (v13 : Int64) (v16 : Int32) (v17 v19 : Int64) (v21 t0 : Int32) (ov : Int32) (gap nx : Int64) (h1 : nar .boolean ov = t0)
    (h : (v21 = 0 ∧ gap = 0) ∨ (v21 = 1 ∧ v16 = 0 ∧ gap = 1 ∧ nx = v2) ∨ (v21 = 1 ∧ v16 = 1 ∧ (v17 = 1 ∨ v17 = 2) ∧ gap = v17 ∧ nx = v19)) : f0_287 v0 v2 v4 v5 v6 v7 v8 v9 v10 v11 v12 v13 v16 v17 v19 v21 t0 ov gap nx = 1 := by
  unfold f0_287
  rcases h with ⟨rfl, rfl⟩ | ⟨rfl, rfl, rfl, rfl⟩ | ⟨rfl, rfl, hg, rfl, rfl⟩
  · rw [if_pos rfl]; exact own_311 _ _ _ _ _ _ _ _ _ _ _ _ _ _ _ _ _ _ _ _ h1 (Or.inl ⟨rfl, rfl⟩)
  · rw [if_neg (by decide), if_pos rfl]; exact own_311 _ _ _ _ _ _ _ _ _ _ _ _ _ _ _ _ _ _ _ _ h1 (Or.inr ⟨rfl, Or.inl rfl, rfl, rfl⟩)
  · rw [if_neg (by decide), if_neg (by decide)]; exact own_311 _ _ _ _ _ _ _ _ _ _ _ _ _ _ _ _ _ _ _ _ h1 (Or.inr ⟨rfl, hg, rfl, rfl⟩)
/-- what judge leaves, by the three flags -/
theorem own_j (n : Int64) (u w s ov : Int32) (g nx : Int64) (hu : u = 0 ∨ u = 1) (hw : w = 0 ∨ w = 1) (hs : s = 0 ∨ s = 1) :
    (f3_0 n u w s ov g nx = ((if u = 0 then 0 else 1), 0, nx) ∧ ((w = 0 ∧ u = 0) ∨ (w = 1 ∧ s = 0))) ∨ (f3_0 n u w s ov g nx = (1, (if g = 0 then 1 else g), (if g = 0 then n else nx)) ∧ ((w = 0 ∧ u = 1) ∨ (w = 1 ∧ s = 1))) := by
  rcases hw with rfl | rfl
  · rcases hu with rfl | rfl
    · exact Or.inl ⟨rfl, Or.inl ⟨rfl, rfl⟩⟩
    · refine Or.inr ⟨?_, Or.inl ⟨rfl, rfl⟩⟩
      show f3_28 n 1 0 s 1 1 ov g nx = _
      unfold f3_28
      rw [if_neg (by decide)]
      by_cases q : g = 0
      · rw [if_pos q, if_pos q, if_pos q]; rfl
      · rw [if_neg q, if_neg q, if_neg q]; rfl
  · rcases hs with rfl | rfl
    · refine Or.inl ⟨?_, Or.inr ⟨rfl, rfl⟩⟩
      rcases hu with rfl | rfl <;> rfl
    · refine Or.inr ⟨?_, Or.inr ⟨rfl, rfl⟩⟩
      have e : f3_0 n u 1 1 ov g nx = f3_28 n u 1 1 1 1 ov g nx := by
        rcases hu with rfl | rfl <;> rfl
      rw [e]
      unfold f3_28
      rw [if_neg (by decide)]
      by_cases q : g = 0
      · rw [if_pos q, if_pos q, if_pos q]; rfl
      · rw [if_neg q, if_neg q, if_neg q]; rfl
/-- what the law says of the second judging: probed, overdue -/
def own_p (u w s : Int32) : Int32 := if w = 0 then (if u = 0 then 0 else 1) else (if s = 0 then 0 else 1)
def own_e (u w s : Int32) : Int32 := if u = 0 then (if w = 0 then 0 else (if s = 0 then 0 else 1)) else 1
theorem own_240 (v0 v2 : Int64) (v4 v5 v6 v7 v8 v9 v10 v11 v12 : Int32) (v13 : Int64) (v16 : Int32) (v17 v19 : Int64) (ov : Int32) (gap nx : Int64) (hu : v8 = 0 ∨ v8 = 1) (hw : v9 = 0 ∨ v9 = 1) (hs : v10 = 0 ∨ v10 = 1) :
    f0_240 v0 v2 v4 v5 v6 v7 v8 v9 v10 v11 v12 v13 v16 v17 v19 ov gap nx = f0_287 v0 v2 v4 v5 v6 v7 v8 v9 v10 v11 v12 v13 v16 v17 v19 (own_p v8 v9 v10) (own_e v8 v9 v10) ov gap nx := by
  unfold f0_240 f0_250 f0_260 f0_264 f0_265 f0_282 f0_286 own_p own_e
  rcases hu with rfl | rfl <;> rcases hw with rfl | rfl <;> rcases hs with rfl | rfl <;> simp +decide only [if_true, if_false]
theorem own_228_1 (v0 v2 : Int64) (v4 v5 v6 v7 v8 v9 v10 v11 v12 : Int32) (v13 : Int64) (v16 : Int32) (v17 v19 : Int64) (v21 ov : Int32) (gap nx : Int64) : f0_228_1 v0 v2 v4 v5 v6 v7 v8 v9 v10 v11 v12 v13 v16 v17 v19 v21 ov gap nx = f0_228 v0 v2 v4 v5 v6 v7 v8 v9 v10 v11 v12 v13 v16 v17 v19 ov gap nx := by
  unfold f0_228_1 f0_228 f0_240_1 f0_240 f0_250_1 f0_250 f0_260_1 f0_260 f0_264_1 f0_264 f0_265_1 f0_265; rfl
theorem own_228 (v0 v2 : Int64) (v4 v5 v6 v7 v8 v9 v10 v11 v12 : Int32) (v13 : Int64) (v16 : Int32) (v17 v19 : Int64) (ov : Int32) (gap nx : Int64) (hu : v8 = 0 ∨ v8 = 1) (hw : v9 = 0 ∨ v9 = 1) (hs : v10 = 0 ∨ v10 = 1)
    (h : (v16 = 0 ∧ gap = 0) ∨ (v16 = 1 ∧ (v17 = 1 ∨ v17 = 2) ∧ gap = v17 ∧ nx = v19)) : f0_228 v0 v2 v4 v5 v6 v7 v8 v9 v10 v11 v12 v13 v16 v17 v19 ov gap nx = 1 := by
  unfold f0_228
  have hq : ∀ (z : Int64) (hz : v16 = 0 ∧ gap = 0 ∨ v16 = 1 ∧ (v17 = 1 ∨ v17 = 2) ∧ gap = v17 ∧ nx = v19), ((1 : Int32) = 0 ∧ (if gap = 0 then (1 : Int64) else gap) = 0) ∨ ((1 : Int32) = 1 ∧ v16 = 0 ∧ (if gap = 0 then (1 : Int64) else gap) = 1 ∧ (if gap = 0 then v2 else nx) = v2) ∨ ((1 : Int32) = 1 ∧ v16 = 1 ∧ (v17 = 1 ∨ v17 = 2) ∧ (if gap = 0 then (1 : Int64) else gap) = v17 ∧ (if gap = 0 then v2 else nx) = v19) := by
    intro _ hz
    rcases hz with ⟨a, b⟩ | ⟨a, hg, c, d⟩
    · exact Or.inr (Or.inl ⟨rfl, a, by rw [if_pos b], by rw [if_pos b]⟩)
    · have := (own_nz v17 hg).1
      rw [← c] at this
      exact Or.inr (Or.inr ⟨rfl, a, hg, by rw [if_neg this]; exact c, by rw [if_neg this]; exact d⟩)
  rw [own_240 _ _ _ _ _ _ _ _ _ _ _ _ _ _ _ _ _ _ hu hw hs]
  rcases own_j v2 v8 v9 v10 ov gap nx hu hw hs with ⟨e, hp⟩ | ⟨e, hp⟩
  · rw [e]
    refine own_287 _ _ _ _ _ _ _ _ _ _ _ _ _ _ _ _ _ _ _ _ ?_ (Or.inl ⟨?_, rfl⟩)
    · rcases hp with ⟨rfl, rfl⟩ | ⟨rfl, rfl⟩
      · exact own_nb0
      · rcases hu with rfl | rfl
        · exact own_nb0
        · exact own_nb1
    · rcases hp with ⟨rfl, rfl⟩ | ⟨rfl, rfl⟩ <;> rfl
  · have ep : own_p v8 v9 v10 = 1 := by rcases hp with ⟨rfl, rfl⟩ | ⟨rfl, rfl⟩ <;> rfl
    have ee : own_e v8 v9 v10 = 1 := by
      rcases hp with ⟨rfl, rfl⟩ | ⟨rfl, rfl⟩
      · rfl
      · rcases hu with rfl | rfl <;> rfl
    rw [e, ep, ee]
    exact own_287 _ _ _ _ _ _ _ _ _ _ _ _ _ _ _ _ _ _ _ _ own_nb1 (hq 0 h)
theorem own_177 (v0 v2 : Int64) (v4 v5 v6 v7 v8 v9 v10 v11 v12 : Int32) (v13 : Int64) (t0 : Int32) (ov : Int32) (gap nx : Int64) (hu : v8 = 0 ∨ v8 = 1) (hw : v9 = 0 ∨ v9 = 1) (hs : v10 = 0 ∨ v10 = 1)
    (h : (t0 = 0 ∧ gap = 0) ∨ (t0 = 1 ∧ gap = 1 ∧ nx = v0)) : f0_177 v0 v2 v4 v5 v6 v7 v8 v9 v10 v11 v12 v13 t0 ov gap nx = 1 := by
  unfold f0_177
  rcases h with ⟨rfl, rfl⟩ | ⟨rfl, rfl, rfl⟩
  · rw [if_pos rfl]; exact own_228 _ _ _ _ _ _ _ _ _ _ _ _ _ _ _ _ _ _ hu hw hs (Or.inl ⟨rfl, rfl⟩)
  · rw [if_neg (by decide)]
    by_cases q : v11 = 0
    · rw [if_pos q]; exact own_228 _ _ _ _ _ _ _ _ _ _ _ _ _ _ _ _ _ _ hu hw hs (Or.inr ⟨rfl, Or.inl rfl, rfl, rfl⟩)
    · rw [if_neg q, show f6_0 nx ov 1 nx = (1, ov, 2, nx + 2) from by unfold f6_0; rw [if_neg (by decide), if_neg Int64.lt_irrefl, show f7_0 (2 * 1) 64 = 2 from by decide]]
      unfold f0_207
      rw [if_neg (show ¬ ((1 : Int32) = 0) from by decide), own_228_1]
      exact own_228 nx v2 v4 v5 v6 v7 v8 v9 v10 v11 v12 v13 1 2 (nx + 2) ov 2 (nx + 2) hu hw hs (Or.inr ⟨rfl, Or.inr rfl, rfl, rfl⟩)
theorem own_152 (v0 v2 : Int64) (v4 v5 v6 v7 v8 v9 v10 v11 v12 : Int32) (v13 : Int64) (ov : Int32) (gap nx : Int64) (hu : v5 = 0 ∨ v5 = 1) (hw : v6 = 0 ∨ v6 = 1) (hs : v7 = 0 ∨ v7 = 1) :
    f0_152 v0 v2 v4 v5 v6 v7 v8 v9 v10 v11 v12 v13 ov gap nx = f0_177 v0 v2 v4 v5 v6 v7 v8 v9 v10 v11 v12 v13 (own_p v5 v6 v7) ov gap nx := by
  unfold f0_152 f0_162 f0_172 f0_176 own_p
  rcases hu with rfl | rfl <;> rcases hw with rfl | rfl <;> rcases hs with rfl | rfl <;> simp +decide only [if_true, if_false]
theorem own_116 (v0 v2 : Int64) (v4 v5 v6 v7 v8 v9 v10 v11 v12 : Int32) (hu1 : v5 = 0 ∨ v5 = 1) (hw1 : v6 = 0 ∨ v6 = 1) (hs1 : v7 = 0 ∨ v7 = 1) (hu : v8 = 0 ∨ v8 = 1) (hw : v9 = 0 ∨ v9 = 1) (hs : v10 = 0 ∨ v10 = 1) : f0_116 v0 v2 v4 v5 v6 v7 v8 v9 v10 v11 v12 = 1 := by
  unfold f0_116
  rw [own_152 _ _ _ _ _ _ _ _ _ _ _ _ _ _ _ hu1 hw1 hs1]
  rcases own_j v0 v5 v6 v7 0 0 0 hu1 hw1 hs1 with ⟨e, hp⟩ | ⟨e, hp⟩
  · rw [e]
    exact own_177 _ _ _ _ _ _ _ _ _ _ _ _ _ _ _ _ hu hw hs (Or.inl ⟨by rcases hp with ⟨rfl, rfl⟩ | ⟨rfl, rfl⟩ <;> rfl, rfl⟩)
  · have ep : own_p v5 v6 v7 = 1 := by rcases hp with ⟨rfl, rfl⟩ | ⟨rfl, rfl⟩ <;> rfl
    rw [e, ep]
    exact own_177 _ _ _ _ _ _ _ _ _ _ _ _ _ _ _ _ hu hw hs (Or.inr ⟨rfl, rfl, rfl⟩)
theorem own_z : (0 : Int32) = 0 ∨ (0 : Int32) = 1 := Or.inl rfl
theorem own_o : (1 : Int32) = 0 ∨ (1 : Int32) = 1 := Or.inr rfl
theorem own_law (v0 v2 : Int64) (v4 : Int32) : f0_0 v0 v2 v4 = 1 := by
  have h100 : ∀ v5 v6 v7 v8 v9 v10 t : Int32, (v5 = 0 ∨ v5 = 1) → (v6 = 0 ∨ v6 = 1) → (v7 = 0 ∨ v7 = 1) → (v8 = 0 ∨ v8 = 1) → (v9 = 0 ∨ v9 = 1) → (v10 = 0 ∨ v10 = 1) → f0_100 v0 v2 v4 v5 v6 v7 v8 v9 v10 t = 1 := by
    intro v5 v6 v7 v8 v9 v10 t a b c d e f
    unfold f0_100
    split <;> exact own_116 _ _ _ _ _ _ _ _ _ _ _ a b c d e f
  have h70 : ∀ v5 v6 v7 v8 t : Int32, (v5 = 0 ∨ v5 = 1) → (v6 = 0 ∨ v6 = 1) → (v7 = 0 ∨ v7 = 1) → (v8 = 0 ∨ v8 = 1) → (t = 0 ∨ t = 1) → f0_70 v0 v2 v4 v5 v6 v7 v8 t = 1 := by
    intro v5 v6 v7 v8 t a b c d e
    unfold f0_70 f0_85
    split <;> split <;> exact h100 _ _ _ _ _ _ _ a b c d e (by first | exact own_z | exact own_o)
  have h40 : ∀ v5 v6 t : Int32, (v5 = 0 ∨ v5 = 1) → (v6 = 0 ∨ v6 = 1) → (t = 0 ∨ t = 1) → f0_40 v0 v2 v4 v5 v6 t = 1 := by
    intro v5 v6 t a b c
    unfold f0_40 f0_55
    split <;> split <;> exact h70 _ _ _ _ _ a b c (by first | exact own_z | exact own_o) (by first | exact own_z | exact own_o)
  unfold f0_0 f0_12 f0_26
  split <;> split <;> split <;> exact h40 _ _ _ (by first | exact own_z | exact own_o) (by first | exact own_z | exact own_o) (by first | exact own_z | exact own_o)

set_option maxRecDepth 65536 in
set_option maxHeartbeats 40000000 in
theorem comes_1 {Post : Tables → Env → Array Value → State → Outcome → State → Prop} (hpost : ∀ tb e args s v u, (limb_1_1.after args s (.returned v) u = true ∧ limb_1_2.after args s (.returned v) u = true ∧ True) → FrameEnd s (.returned v) u (Jvm.fieldLocs frame_1_writes args s ++ Jvm.arrayLocs frame_1_arrays args s ++ Jvm.staticLocs frame_1_statics s) 16 128 → Post tb e args s (.returned v) u) :
    ArmFor flags0 classFile x code maxLocals ret World_1 tables_1 room_1 Calls_1 rest_1 Pre_1 Post := by
  intro l hfl _ _ p e ha hc hk s m args below hf hA hF happ hP
  obtain ⟨hcalls, hrest, hpre⟩ := hP
  obtain ⟨-, -, -, hnamed, -, -, -, hat⟩ := (Spec.applies_iff hf).mp happ
  obtain ⟨hg, hn⟩ := and_e (Cond.before_iff.mp (show (Jvm.Cond.and given_1 narrow_1).before args s = true from hpre))
  obtain ⟨gg1, gg2⟩ := and_e hg
  obtain ⟨gg3, gg4⟩ := and_e gg2
  obtain ⟨gg5, gg6⟩ := and_e gg4
  obtain ⟨w0, w1, w2, rfl⟩ : ∃ w0 w1 w2 : Value, args = #[w0, w1, w2] := by
    have hs : args.size = 3 := by simpa [Cond.value, given_1] using gg1
    obtain ⟨L⟩ := args
    match L, hs with
    | [w0, w1, w2], _ => exact ⟨w0, w1, w2, rfl⟩
  have hw := fun d (hd : d ∈ tables_1) => atoms_spec (ws := Jvm.Cond.code x code maxLocals ret :: tables_1) hat d (List.mem_cons_of_mem _ hd)
  have hfit : Fit s := fun {y c} hc i hi => by
    obtain ⟨ha, rfl⟩ := Array.getElem?_eq_some_iff.mp hc
    have q := List.all_eq_true.mp ((Array.all_eq_true_iff_forall_mem.mp hF) _ (Array.getElem_mem ha)) i (List.mem_range.mpr hi)
    simpa [Array.getElem?_eq_getElem hi] using q
  obtain ⟨i0, ei0⟩ := isL_v gg3
  obtain rfl : w0 = (.long i0) := Option.some.inj ei0
  obtain ⟨i1, ei1⟩ := isL_v gg5
  obtain rfl : w1 = (.long i1) := Option.some.inj ei1
  obtain ⟨i2, ei2⟩ := is_v gg6
  obtain rfl : w2 = (.int i2) := Option.some.inj ei2
  obtain ⟨n, o, h1, h2, h3, _, L, rfl, ⟨rfl, N⟩, hq⟩ := rm0 l s _ hw tables_1 i0 i1 i2 s.heap s.heap.size (Nat.le_refl _)  p e ha hc hk s m _ below hf ((Spec.applies_iff_loose hf).mp happ).1 ⟨rfl, State.Warmed39.refl s, rfl⟩ trivial
  refine ⟨n, _, h1, h2, h3, hpost _ _ _ _ _ _ ⟨Cond.after_iff.mpr rfl, Cond.after_iff.mpr (eq_i res_at (Term.int_eval (1)) (congrArg Value.int (own_law i0 i1 i2))), trivial⟩ ⟨hq.1, hq.2.1, (hq.2.2.sift fun y hy => Or.inr (N y hy)).mono (by decide) (by decide)⟩⟩
theorem main_1_1 : Claimed_1_1 := comes_1 fun _ _ _ _ _ _ h hF => ⟨h.1, hF⟩
theorem main_1_2 : Claimed_1_2 := comes_1 fun _ _ _ _ _ _ h hF => ⟨h.2.1, hF⟩
end Jvm.Pilot.@@N@@
namespace Jvm.Pilot.@@N@@
open Jvm Jvm.ClassFile Sem Op Lib Jvm.Free Jvm.Stand Jvm.Pilot.@@N@@.Jvm.D
/-! MADE BY PROGRAM (witnessworld.py) out of the Statement's table words and the real class files: 10 classes; the members and pool entries that the words name. The judged class is class 1, her method 1. -/
namespace start1
open Jvm.ClassFile
def u (s : String) : CpInfo := .utf8 (stringToUtf16 s)
/-- a pool by its gaps: so many unusable entries, then the entry; so many at the end -/
def gap : Nat → List CpInfo → List CpInfo
  | 0, r => r
  | n + 1, r => .unusable :: gap n r
def poolList (es : List (Nat × CpInfo)) (last : Nat) : List CpInfo := es.foldr (fun e r => gap e.1 (e.2 :: r)) (gap last [])
def pool (es : List (Nat × CpInfo)) (last : Nat) : Array CpInfo := ⟨poolList es last⟩
def fileOf (pool : Array CpInfo) (this : Nat) (attrs : Array Attribute := #[]) (ms : Array MethodInfo := #[]) (fl : Nat := 33) (sup : Nat := 0) (ifs : Array Nat := #[]) (fds : Array FieldInfo := #[]) : ClassFile where
  minorVersion := 0
  majorVersion := 65
  constantPool := pool
  accessFlags := fl
  thisClass := this
  superClass := sup
  interfaces := ifs
  fields := fds
  methods := ms
  attributes := attrs
def plain (name : String) (sup : Option ClassId) : Class where
  name := name
  kind := .ordinary
  loader := none
  accessFlags := 33
  super := sup
  interfaces := #[]
  cf := none
  fields := #[]
  methods := #[]
  instanceTypes := #[]
  staticTypes := #[]
  resolved := #[]
  callSites := []
  init := .initialized
  statics := none
  mirror := none

def pool0 : Array CpInfo := pool [(5, u "<init>"), (0, u "()V"), (1, .class_ 10), (1, u "java/lang/Object")] 113

def k0c0 : Code := { maxStack := 0, maxLocals := 1, code := object_method_1_code, exceptionTable := #[], attributes := #[] }
def k0m0 : Method := { name := "<init>", desc := "()V", sig := { parameters := [], returnType := none }, accessFlags := 1, code := some k0c0 }
/-- java/lang/Object -/
def k0 : Class := { plain "java/lang/Object" none with
  accessFlags := 33
  interfaces := #[]
  cf := some (fileOf pool0 8 #[] #[{ accessFlags := 1, nameIndex := 5, descriptorIndex := 6, attributes := #[] }] 33 0 #[] #[])
  fields := #[]
  methods := #[k0m0]
  instanceTypes := #[]
  staticTypes := #[]
  resolved := Array.replicate 124 none
  statics := none }

def pool1 : Array CpInfo := pool [(2, .class_ 4), (0, .nameAndType 5 6), (0, u "java/lang/Object"), (0, u "<init>"), (0, u "()V"), (0, .class_ 8), (0, u "com/example/quietwire/quietwire/protocol/Overdue"), (0, .methodref 7 3), (0, .methodref 7 11), (0, .nameAndType 12 13), (0, u "judge"), (0, u "(JZZZ)V"), (0, .methodref 7 15), (0, .nameAndType 16 17), (0, u "probeDue"), (0, u "(J)Z"), (0, .long 2), (1, .methodref 7 21), (0, .nameAndType 22 23), (0, u "isOverdue"), (0, u "()Z"), (0, .methodref 7 25), (0, .nameAndType 26 23), (0, u "isProbed"), (0, .class_ 28), (0, u "com/example/quietwire/quietwire/protocol/OverdueJudgePinLaw"), (2, u "law"), (0, u "(JJI)Z")] 3

def k1m0 : Method := { name := "<init>", desc := "()V", sig := { parameters := [], returnType := none }, accessFlags := 1, code := none }
def k1c1 : Code := { maxStack := 8, maxLocals := 31, code := code, exceptionTable := #[], attributes := #[] }
def k1m1 : Method := { name := "law", desc := "(JJI)Z", sig := { parameters := [.long, .long, .int], returnType := some .boolean }, accessFlags := 9, code := some k1c1 }
/-- com/example/quietwire/quietwire/protocol/OverdueJudgePinLaw -/
def k1 : Class := { plain "com/example/quietwire/quietwire/protocol/OverdueJudgePinLaw" (some 0) with
  accessFlags := 49
  interfaces := #[]
  cf := some (fileOf pool1 27 #[] #[{ accessFlags := 1, nameIndex := 5, descriptorIndex := 6, attributes := #[] }, { accessFlags := 9, nameIndex := 31, descriptorIndex := 32, attributes := #[] }] 49 2 #[] #[])
  fields := #[]
  methods := #[k1m0, k1m1]
  instanceTypes := #[]
  staticTypes := #[]
  resolved := Array.replicate 36 none
  statics := none }

def pool2 : Array CpInfo := pool [(1, .methodref 2 3), (0, .class_ 4), (0, .nameAndType 5 6), (0, u "java/lang/Object"), (0, u "<init>"), (0, u "()V"), (0, .fieldref 8 9), (0, .class_ 10), (0, .nameAndType 11 12), (0, u "com/example/quietwire/quietwire/protocol/Overdue"), (0, u "overdue"), (0, u "Z"), (0, .fieldref 8 14), (0, .nameAndType 15 16), (0, u "gap"), (0, u "J"), (0, .fieldref 8 18), (0, .nameAndType 19 16), (0, u "nextProbe"), (0, .long 2), (1, .long 64), (1, .methodref 25 26), (0, .class_ 27), (0, .nameAndType 28 29), (0, u "java/lang/Math"), (0, u "min"), (0, u "(JJ)J"), (0, u "MOST_TICKS_BETWEEN_PROBES"), (0, u "I"), (5, u "judge"), (0, u "(JZZZ)V"), (1, u "isOverdue"), (0, u "()Z"), (0, u "isProbed"), (0, u "probeDue"), (0, u "(J)Z")] 2

def k2c0 : Code := { maxStack := 1, maxLocals := 1, code := prog_58_method_1_code, exceptionTable := #[], attributes := #[] }
def k2m0 : Method := { name := "<init>", desc := "()V", sig := { parameters := [], returnType := none }, accessFlags := 0, code := some k2c0 }
def k2c1 : Code := { maxStack := 4, maxLocals := 7, code := prog_58_method_3_code, exceptionTable := #[], attributes := #[] }
def k2m1 : Method := { name := "judge", desc := "(JZZZ)V", sig := { parameters := [.long, .boolean, .boolean, .boolean], returnType := none }, accessFlags := 0, code := some k2c1 }
def k2c2 : Code := { maxStack := 1, maxLocals := 1, code := prog_58_method_4_code, exceptionTable := #[], attributes := #[] }
def k2m2 : Method := { name := "isOverdue", desc := "()Z", sig := { parameters := [], returnType := some .boolean }, accessFlags := 0, code := some k2c2 }
def k2c3 : Code := { maxStack := 4, maxLocals := 1, code := prog_58_method_5_code, exceptionTable := #[], attributes := #[] }
def k2m3 : Method := { name := "isProbed", desc := "()Z", sig := { parameters := [], returnType := some .boolean }, accessFlags := 0, code := some k2c3 }
def k2c4 : Code := { maxStack := 5, maxLocals := 3, code := prog_58_method_6_code, exceptionTable := #[], attributes := #[] }
def k2m4 : Method := { name := "probeDue", desc := "(J)Z", sig := { parameters := [.long], returnType := some .boolean }, accessFlags := 0, code := some k2c4 }
/-- com/example/quietwire/quietwire/protocol/Overdue -/
def k2 : Class := { plain "com/example/quietwire/quietwire/protocol/Overdue" (some 0) with
  accessFlags := 48
  interfaces := #[]
  cf := some (fileOf pool2 8 #[] #[{ accessFlags := 0, nameIndex := 5, descriptorIndex := 6, attributes := #[] }, { accessFlags := 0, nameIndex := 37, descriptorIndex := 38, attributes := #[] }, { accessFlags := 0, nameIndex := 40, descriptorIndex := 41, attributes := #[] }, { accessFlags := 0, nameIndex := 42, descriptorIndex := 41, attributes := #[] }, { accessFlags := 0, nameIndex := 43, descriptorIndex := 44, attributes := #[] }] 48 2 #[] #[{ accessFlags := 24, nameIndex := 30, descriptorIndex := 31, attributes := #[] }, { accessFlags := 2, nameIndex := 11, descriptorIndex := 12, attributes := #[] }, { accessFlags := 2, nameIndex := 19, descriptorIndex := 16, attributes := #[] }, { accessFlags := 2, nameIndex := 15, descriptorIndex := 16, attributes := #[] }])
  fields := #[{ name := "MOST_TICKS_BETWEEN_PROBES", type := .int, accessFlags := 24, slot := 0, constantValue := 0 }, { name := "overdue", type := .boolean, accessFlags := 2, slot := 0, constantValue := 0 }, { name := "nextProbe", type := .long, accessFlags := 2, slot := 1, constantValue := 0 }, { name := "gap", type := .long, accessFlags := 2, slot := 2, constantValue := 0 }]
  methods := #[k2m0, k2m1, k2m2, k2m3, k2m4]
  instanceTypes := #[.boolean, .long, .long]
  staticTypes := #[.int]
  resolved := Array.replicate 47 none
  statics := none }

def pool3 : Array CpInfo := pool [(1, .class_ 2), (0, u "java/lang/Math"), (1, .class_ 6), (1, u "java/lang/Object"), (0, u "<init>"), (0, u "()V"), (89, .class_ 100), (1, u "java/lang/Math$RandomNumberGeneratorHolder"), (20, u "(JJ)J"), (50, u "negativeZeroFloatBits"), (0, u "J"), (2, u "negativeZeroDoubleBits"), (24, u "min"), (43, u "$assertionsDisabled"), (0, u "Z"), (91, u "twoToTheDoubleScaleDown"), (0, u "D"), (4, u "twoToTheDoubleScaleUp"), (9, u "E"), (3, u "PI"), (2, u "TAU"), (2, u "DEGREES_TO_RADIANS"), (0, u "RADIANS_TO_DEGREES")] 94

def k3m0 : Method := { name := "<init>", desc := "()V", sig := { parameters := [], returnType := none }, accessFlags := 2, code := none }
def k3c1 : Code := { maxStack := 4, maxLocals := 4, code := jdk_29_method_70_code, exceptionTable := #[], attributes := #[] }
def k3m1 : Method := { name := "min", desc := "(JJ)J", sig := { parameters := [.long, .long], returnType := some .long }, accessFlags := 9, code := some k3c1 }
/-- java/lang/Math -/
def k3 : Class := { plain "java/lang/Math" (some 0) with
  accessFlags := 49
  interfaces := #[]
  cf := some (fileOf pool3 1 #[.nestMembers #[98]] #[{ accessFlags := 2, nameIndex := 7, descriptorIndex := 8, attributes := #[] }, { accessFlags := 9, nameIndex := 201, descriptorIndex := 121, attributes := #[] }] 49 4 #[] #[{ accessFlags := 25, nameIndex := 354, descriptorIndex := 339, attributes := #[] }, { accessFlags := 25, nameIndex := 358, descriptorIndex := 339, attributes := #[] }, { accessFlags := 25, nameIndex := 361, descriptorIndex := 339, attributes := #[] }, { accessFlags := 26, nameIndex := 364, descriptorIndex := 339, attributes := #[] }, { accessFlags := 26, nameIndex := 365, descriptorIndex := 339, attributes := #[] }, { accessFlags := 26, nameIndex := 172, descriptorIndex := 173, attributes := #[] }, { accessFlags := 26, nameIndex := 176, descriptorIndex := 173, attributes := #[] }, { accessFlags := 8, nameIndex := 344, descriptorIndex := 339, attributes := #[] }, { accessFlags := 8, nameIndex := 338, descriptorIndex := 339, attributes := #[] }, { accessFlags := 4120, nameIndex := 245, descriptorIndex := 246, attributes := #[] }])
  fields := #[{ name := "E", type := .double, accessFlags := 25, slot := 0, constantValue := 0 }, { name := "PI", type := .double, accessFlags := 25, slot := 1, constantValue := 0 }, { name := "TAU", type := .double, accessFlags := 25, slot := 2, constantValue := 0 }, { name := "DEGREES_TO_RADIANS", type := .double, accessFlags := 26, slot := 3, constantValue := 0 }, { name := "RADIANS_TO_DEGREES", type := .double, accessFlags := 26, slot := 4, constantValue := 0 }, { name := "negativeZeroFloatBits", type := .long, accessFlags := 26, slot := 5, constantValue := 0 }, { name := "negativeZeroDoubleBits", type := .long, accessFlags := 26, slot := 6, constantValue := 0 }, { name := "twoToTheDoubleScaleUp", type := .double, accessFlags := 8, slot := 7, constantValue := 0 }, { name := "twoToTheDoubleScaleDown", type := .double, accessFlags := 8, slot := 8, constantValue := 0 }, { name := "$assertionsDisabled", type := .boolean, accessFlags := 4120, slot := 9, constantValue := 0 }]
  methods := #[k3m0, k3m1]
  instanceTypes := #[]
  staticTypes := #[.double, .double, .double, .double, .double, .long, .long, .double, .double, .boolean]
  resolved := Array.replicate 460 none
  statics := none }

def pool4 : Array CpInfo := pool [(1, u "java/lang/Cloneable"), (0, .class_ 1), (0, u "java/lang/Object"), (0, .class_ 3)] 3

/-- java/lang/Cloneable -/
def k4 : Class := { plain "java/lang/Cloneable" (some 0) with
  accessFlags := 1537
  interfaces := #[]
  cf := some (fileOf pool4 2 #[] #[] 1537 4 #[] #[])
  fields := #[]
  methods := #[]
  instanceTypes := #[]
  staticTypes := #[]
  resolved := Array.replicate 8 none
  statics := none }

def pool5 : Array CpInfo := pool [(1, u "java/io/Serializable"), (0, .class_ 1), (0, u "java/lang/Object"), (0, .class_ 3)] 3

/-- java/io/Serializable -/
def k5 : Class := { plain "java/io/Serializable" (some 0) with
  accessFlags := 1537
  interfaces := #[]
  cf := some (fileOf pool5 2 #[] #[] 1537 4 #[] #[])
  fields := #[]
  methods := #[]
  instanceTypes := #[]
  staticTypes := #[]
  resolved := Array.replicate 8 none
  statics := none }

/-- the primitive byte -/
def k6 : Class := { plain "byte" none with kind := .primitive 'B', accessFlags := 0x411 }
/-- [B -/
def k7 : Class := { plain "[B" (some 0) with kind := .array 6 .byte, interfaces := #[4, 5], accessFlags := 1041 }

/-- the primitive int -/
def k8 : Class := { plain "int" none with kind := .primitive 'I', accessFlags := 0x411 }
/-- [I -/
def k9 : Class := { plain "[I" (some 0) with kind := .array 8 .int, interfaces := #[4, 5], accessFlags := 1041 }

def heap : Heap := #[]
def classes : Array Class := #[k0, k1, k2, k3, k4, k5, k6, k7, k8, k9]
def interned : List (Array UInt16 × Addr) := []
def slotsUsed : Nat := 0
def theMethod : MethodId := ⟨1, 1⟩
def args0 : Array Value := #[.long 5, .long 6, .int 7]
def aboutOver (below : List Frame) : State where
  vm := { classes := classes, interned := interned.toArray }
  heap := heap
  slotsUsed := slotsUsed
  threads := #[{ frames := .invoking theMethod args0 :: below }]
def below0 : List Frame := [.native { method := ⟨0, 0⟩, args := #[] }]
def about1 : State := aboutOver below0
def p0 : Program := .bare "" "" ""
def e0 : Env := launch0.env 0 0 0
theorem w_frames : about1.frames = Frame.invoking theMethod args0 :: below0 := rfl
set_option maxRecDepth 65536 in
theorem w_args : argsFit about1.vm theMethod args0 = true := by decide +kernel
set_option maxRecDepth 65536 in
theorem w_heap : heapFits about1 = true := by decide +kernel
set_option maxRecDepth 65536 in
theorem w_runnable : about1.curStatus? = some .runnable := by decide +kernel
set_option maxRecDepth 65536 in
theorem w_alone : about1.alone = true := by decide +kernel
set_option maxRecDepth 65536 in
theorem w_named : about1.methodNamed? x = some theMethod := by decide +kernel
set_option maxRecDepth 65536 in
theorem w_hears : about1.hears theMethod below0 = true := by decide +kernel
set_option maxRecDepth 65536 in
theorem w_ripe : about1.ripe theMethod args0 below0 = true := by decide +kernel
theorem w_running : about1.status = .running := rfl
set_option maxRecDepth 65536 in
theorem w_room : about1.hasRoom e0.platform room_1 = true :=
  launch0.hasRoom_least _ room_1 (by decide +kernel) (by decide +kernel) (by decide +kernel) (by decide +kernel) (by decide +kernel) (by decide +kernel)
theorem allAtoms_all (ts : List Jvm.Cond) (a : Array Jvm.Value) (st : Jvm.State) : (allAtoms ts).before a st = ts.all (fun c => c.before a st) := by
  induction ts with
  | nil => rfl
  | cons c t ih =>
    show (Jvm.Cond.and c (allAtoms t)).before a st = _
    rw [Jvm.Cond.before_and, ih, List.all_cons]
def words1 : List Jvm.Cond := Jvm.Cond.code x code maxLocals ret :: tables_1
/-- a 'code' word, met by the world's own term for the bytes: nothing is compared byte by byte -/
theorem code_word {y : MethodName} {bytes : ByteArray} {mx : Nat} {rt : Option FieldType} {a : Array Value} {s : State} {m : MethodId} {meth : Method} {c : Code} (h1 : s.methodNamed? y = some m) (h2 : s.vm.method? m = some meth) (h3 : meth.code = some c) (h4 : c.code = bytes)
    (h5 : (c.maxLocals == mx && c.exceptionTable.isEmpty && decide (c.maxStack ≤ mostOperands) && decide (meth.sig.returnType = rt) && !meth.locks && decide (parseMethodDescriptor y.desc = some meth.sig)) = true) : (Jvm.Cond.code y bytes mx rt).before a s = true := by
  simp only [Bool.and_eq_true, beq_iff_eq, Bool.not_eq_true', decide_eq_true_eq] at h5
  obtain ⟨⟨⟨⟨⟨g1, g2⟩, g3⟩, g4⟩, g5⟩, g6⟩ := h5
  simp [Cond.before, Cond.holds, Cond.value, h1, h2, h3, h4, g1, g2, g3, g4, g5, g6]
def isCode : Jvm.Cond → Bool
  | .code _ _ _ _ => true
  | _ => false
theorem all_split {L : List Jvm.Cond} {P : Jvm.Cond → Bool} (h1 : L.all (fun c => isCode c || P c) = true) (h2 : ∀ c ∈ L.filter isCode, P c = true) : L.all P = true := by
  refine List.all_eq_true.mpr fun c hc => ?_
  have h := List.all_eq_true.mp h1 c hc
  rcases Bool.eq_false_or_eq_true (isCode c) with hi | hi
  · exact h2 c (List.mem_filter.mpr ⟨hc, hi⟩)
  · simpa [hi] using h
set_option maxRecDepth 65536 in
theorem w_c0 : (Jvm.Cond.code x code maxLocals ret).before args0 about1 = true := code_word (m := ⟨1, 1⟩) (meth := k1m1) (c := k1c1) (by decide +kernel) rfl rfl rfl (by decide +kernel)
set_option maxRecDepth 65536 in
theorem w_c1 : (Jvm.Cond.code ({ cls := "com/example/quietwire/quietwire/protocol/Overdue", name := "<init>", desc := "()V" } : Jvm.MethodName) prog_58_method_1_code (1 : Nat) (Option.none : Option Jvm.ClassFile.FieldType)).before args0 about1 = true := code_word (m := ⟨2, 0⟩) (meth := k2m0) (c := k2c0) (by decide +kernel) rfl rfl rfl (by decide +kernel)
set_option maxRecDepth 65536 in
theorem w_c2 : (Jvm.Cond.code ({ cls := "java/lang/Object", name := "<init>", desc := "()V" } : Jvm.MethodName) object_method_1_code (1 : Nat) (Option.none : Option Jvm.ClassFile.FieldType)).before args0 about1 = true := code_word (m := ⟨0, 0⟩) (meth := k0m0) (c := k0c0) (by decide +kernel) rfl rfl rfl (by decide +kernel)
set_option maxRecDepth 65536 in
theorem w_c3 : (Jvm.Cond.code ({ cls := "com/example/quietwire/quietwire/protocol/Overdue", name := "judge", desc := "(JZZZ)V" } : Jvm.MethodName) prog_58_method_3_code (7 : Nat) (Option.none : Option Jvm.ClassFile.FieldType)).before args0 about1 = true := code_word (m := ⟨2, 1⟩) (meth := k2m1) (c := k2c1) (by decide +kernel) rfl rfl rfl (by decide +kernel)
set_option maxRecDepth 65536 in
theorem w_c4 : (Jvm.Cond.code ({ cls := "com/example/quietwire/quietwire/protocol/Overdue", name := "isOverdue", desc := "()Z" } : Jvm.MethodName) prog_58_method_4_code (1 : Nat) (Option.some Jvm.ClassFile.FieldType.boolean)).before args0 about1 = true := code_word (m := ⟨2, 2⟩) (meth := k2m2) (c := k2c2) (by decide +kernel) rfl rfl rfl (by decide +kernel)
set_option maxRecDepth 65536 in
theorem w_c5 : (Jvm.Cond.code ({ cls := "com/example/quietwire/quietwire/protocol/Overdue", name := "isProbed", desc := "()Z" } : Jvm.MethodName) prog_58_method_5_code (1 : Nat) (Option.some Jvm.ClassFile.FieldType.boolean)).before args0 about1 = true := code_word (m := ⟨2, 3⟩) (meth := k2m3) (c := k2c3) (by decide +kernel) rfl rfl rfl (by decide +kernel)
set_option maxRecDepth 65536 in
theorem w_c6 : (Jvm.Cond.code ({ cls := "com/example/quietwire/quietwire/protocol/Overdue", name := "probeDue", desc := "(J)Z" } : Jvm.MethodName) prog_58_method_6_code (3 : Nat) (Option.some Jvm.ClassFile.FieldType.boolean)).before args0 about1 = true := code_word (m := ⟨2, 4⟩) (meth := k2m4) (c := k2c4) (by decide +kernel) rfl rfl rfl (by decide +kernel)
set_option maxRecDepth 65536 in
theorem w_c7 : (Jvm.Cond.code ({ cls := "java/lang/Math", name := "min", desc := "(JJ)J" } : Jvm.MethodName) jdk_29_method_70_code (4 : Nat) (Option.some Jvm.ClassFile.FieldType.long)).before args0 about1 = true := code_word (m := ⟨3, 1⟩) (meth := k3m1) (c := k3c1) (by decide +kernel) rfl rfl rfl (by decide +kernel)
def codes1 : List Jvm.Cond := [Jvm.Cond.code x code maxLocals ret, Jvm.Cond.code ({ cls := "com/example/quietwire/quietwire/protocol/Overdue", name := "<init>", desc := "()V" } : Jvm.MethodName) prog_58_method_1_code (1 : Nat) (Option.none : Option Jvm.ClassFile.FieldType), Jvm.Cond.code ({ cls := "java/lang/Object", name := "<init>", desc := "()V" } : Jvm.MethodName) object_method_1_code (1 : Nat) (Option.none : Option Jvm.ClassFile.FieldType), Jvm.Cond.code ({ cls := "com/example/quietwire/quietwire/protocol/Overdue", name := "judge", desc := "(JZZZ)V" } : Jvm.MethodName) prog_58_method_3_code (7 : Nat) (Option.none : Option Jvm.ClassFile.FieldType), Jvm.Cond.code ({ cls := "com/example/quietwire/quietwire/protocol/Overdue", name := "isOverdue", desc := "()Z" } : Jvm.MethodName) prog_58_method_4_code (1 : Nat) (Option.some Jvm.ClassFile.FieldType.boolean), Jvm.Cond.code ({ cls := "com/example/quietwire/quietwire/protocol/Overdue", name := "isProbed", desc := "()Z" } : Jvm.MethodName) prog_58_method_5_code (1 : Nat) (Option.some Jvm.ClassFile.FieldType.boolean), Jvm.Cond.code ({ cls := "com/example/quietwire/quietwire/protocol/Overdue", name := "probeDue", desc := "(J)Z" } : Jvm.MethodName) prog_58_method_6_code (3 : Nat) (Option.some Jvm.ClassFile.FieldType.boolean), Jvm.Cond.code ({ cls := "java/lang/Math", name := "min", desc := "(JJ)J" } : Jvm.MethodName) jdk_29_method_70_code (4 : Nat) (Option.some Jvm.ClassFile.FieldType.long)]
set_option maxRecDepth 65536 in
theorem codes_eq : words1.filter isCode = codes1 := rfl
theorem w_codes : ∀ c ∈ words1.filter isCode, c.before args0 about1 = true := by
  rw [codes_eq]
  intro c hc
  simp only [codes1, List.mem_cons, List.not_mem_nil, or_false] at hc
  rcases hc with rfl | rfl | rfl | rfl | rfl | rfl | rfl | rfl
  · exact w_c0
  · exact w_c1
  · exact w_c2
  · exact w_c3
  · exact w_c4
  · exact w_c5
  · exact w_c6
  · exact w_c7
set_option maxRecDepth 65536 in
theorem w_t1 : (words1.take 24).all (fun c => isCode c || c.before args0 about1) = true := by decide +kernel
set_option maxRecDepth 65536 in
theorem w_t2 : (words1.drop 24).all (fun c => isCode c || c.before args0 about1) = true := by decide +kernel
theorem w_tables : (allAtoms (Jvm.Cond.code x code maxLocals ret :: tables_1)).before args0 about1 = true := by
  rw [allAtoms_all]
  show words1.all (fun c => c.before args0 about1) = true
  refine all_split ?_ w_codes
  rw [← List.take_append_drop 24 words1, List.all_append, w_t1, w_t2]
  rfl
set_option maxRecDepth 65536 in
theorem w_case : (Jvm.Cond.and given_1 narrow_1).before args0 about1 = true := by decide +kernel
theorem w_applies : (headSpec (Jvm.Cond.code x code maxLocals ret :: tables_1) room_1).applies x e0.platform about1 = true :=
  (Spec.applies_iff w_frames).mpr ⟨w_running, w_runnable, w_alone, w_named, w_hears, w_ripe, w_room, w_tables⟩
theorem atStart : AtStart classFile x code maxLocals ret World_1 tables_1 room_1 Calls_1 rest_1 Pre_1 launch0 p0 e0 about1 theMethod args0 below0 :=
  ⟨lists_1, trivial, launch0.admits_env _ _ _, launch0.least_env, fairChoices_fair.cas, fairChoices_fair.clock, w_frames, w_args, w_heap, w_applies, trivial, trivial, w_case⟩
end start1
theorem witness_1 : WitnessClaimed_1 := ⟨start1.p0, start1.e0, start1.about1, start1.theMethod, start1.args0, start1.below0, start1.atStart⟩
end Jvm.Pilot.@@N@@
