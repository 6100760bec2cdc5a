import JvmDerived
import JvmDerived.Pilot.@@N@@Statement
import JvmDerived.Pilot.@@N@@Code
set_option linter.unusedVariables false
set_option linter.unusedSimpArgs false
namespace Jvm.RoadKit
open Sem ClassFile Op Lib Jvm.Stand Jvm.Free Jvm.LawKit
section New
variable {p : Program} {l : Launch} {e : Env} {R : Room} {s : State} {m : MethodId} {args : Array Value} {below : List Frame} {meth : Method} {c : Code} {T : State} {locs : List Loc} {cells slots : Nat}
theorem retI (X : Stand p l e R s m args below meth c T locs cells slots) (hx : p.tables.exec = Jvm.exec) {pc : Nat} {Ls : Array Slot} {z : Int32} {rest : List Value} (hret : meth.sig.returnType = some .int) (hd : decode c.code pc = .ok (.ireturn, 1)) {fs : List Frame}
    (hl : ∀ (f : JFrame) (acts : List Action), f.method = m → f.locked = none → f.entered = [] → (doReturn e (T.setTop f) acts (some (.int z))).1 = T.setFrames fs) : Steps p.tables e below (T.setTop (mkF m pc Ls (.int z :: rest))) (T.setFrames fs) := by
  have hm' : T.vm.method? m = some meth := X.method'
  have hn : narrow .int (.int z) = .int z := rfl
  show Steps p.tables e below (T.setTop { method := m, pc := pc, locals := Ls, stack := _ :: rest, locked := none }) _
  jvm_step X.here [X.here.top, hx, hd, hm', hret, hn]
  first | (intro acts; rw [hl _ acts rfl rfl rfl]) | rw [hl _ _ rfl rfl rfl]
  exact Steps.refl _
end New
end Jvm.RoadKit
namespace Jvm.Pilot.@@N@@
open Jvm Jvm.ClassFile Sem Op Lib Jvm.Free Jvm.Stand Jvm.LawKit Jvm.RoadKit Bundle Jvm.Pilot.@@N@@.Jvm.D
/-! what every block of a body's walk is given -/
def Ctx (p : Program) (Z s : State) (a0 : Array Value) (m : MethodId) (meth : Method) (c : Code) (own nm : String) (bytes : ByteArray) (maxl : Nat) (rt : Option FieldType) : Prop :=
  p.tables.exec = Jvm.exec ∧ Z.Warmed39 s.vm ∧ (∀ d ∈ tables_1, d.before a0 Z = true) ∧ c.code = bytes ∧ c.maxLocals = maxl ∧ meth.sig.returnType = rt ∧ s.vm.findClass own = some m.cls ∧ meth.name = nm ∧ meth.locks = false
/-- from the state A the body's run ends, returns, and leaves what Q says -/
def Fin (p : Program) (e : Env) (below : List Frame) (s : State) (cells slots : Nat) (Q : Option Value → Heap → List Loc → Prop) (A : State) : Prop :=
  ∃ s₂ o, Steps p.tables e below A s₂ ∧ s₂.status = .running ∧ Ended s₂ below o ∧ ∃ v L, o = .returned v ∧ Q v s₂.heap L ∧ FrameEnd s o s₂ L cells slots
section Ends
variable {p : Program} {l : Launch} {e : Env} {R : Room} {s : State} {m : MethodId} {args : Array Value} {below : List Frame} {meth : Method} {c : Code} {T : State} {locs : List Loc} {cells slots : Nat} {C S : Nat} {Q : Option Value → Heap → List Loc → Prop}
theorem Fin.by {A B : State} (h : ∀ t, Steps p.tables e below B t → Steps p.tables e below A t) (k : Fin p e below s C S Q B) : Fin p e below s C S Q A := by
  obtain ⟨s₂, o, h1, r⟩ := k
  exact ⟨s₂, o, h _ h1, r⟩
theorem own_retI (X : Stand p l e R s m args below meth c T locs cells slots) (hx : p.tables.exec = Jvm.exec) (hlk : meth.locks = false) {pc : Nat} {Ls : Array Slot} {z : Int32} {rest : List Value} (hret : meth.sig.returnType = some .int) (hd : decode c.code pc = .ok (.ireturn, 1)) (hc : cells ≤ C) (hs : slots ≤ S)
    (hq : Q (some (.int z)) T.heap locs) : Fin p e below s C S Q (T.setTop (mkF m pc Ls (.int z :: rest))) := by
  obtain ⟨fs, hr, hrun, hended, hW, hsame⟩ := X.leave (v := some (.int z)) (fun h => by rw [hret] at h; cases h) hlk
  exact ⟨_, _, retI X hx hret hd hr, hrun, hended, _, _, rfl, hq, ⟨_, rfl⟩, hW, hsame.mono hc hs⟩
theorem own_retN (X : Stand p l e R s m args below meth c T locs cells slots) (hx : p.tables.exec = Jvm.exec) (hlk : meth.locks = false) {pc : Nat} {Ls : Array Slot} {z : Int32} {rest : List Value} {t : FieldType} (hret : meth.sig.returnType = some t) (ht : t = .boolean ∨ t = .byte ∨ t = .char ∨ t = .short) (hd : decode c.code pc = .ok (.ireturn, 1)) (hc : cells ≤ C) (hs : slots ≤ S)
    (hq : Q (some (.int (nar t z))) T.heap locs) : Fin p e below s C S Q (T.setTop (mkF m pc Ls (.int z :: rest))) := by
  obtain ⟨fs, hr, hrun, hended, hW, hsame⟩ := X.leave (v := some (.int (nar t z))) (fun h => by rw [hret] at h; cases h) hlk
  exact ⟨_, _, retN X hx hret ht hd hr, hrun, hended, _, _, rfl, hq, ⟨_, rfl⟩, hW, hsame.mono hc hs⟩
theorem own_retJ (X : Stand p l e R s m args below meth c T locs cells slots) (hx : p.tables.exec = Jvm.exec) (hlk : meth.locks = false) {pc : Nat} {Ls : Array Slot} {z : Int64} (hret : meth.sig.returnType = some .long) (hd : decode c.code pc = .ok (.lreturn, 1)) (hc : cells ≤ C) (hs : slots ≤ S)
    (hq : Q (some (.long z)) T.heap locs) : Fin p e below s C S Q (T.setTop (mkF m pc Ls [.long z])) := by
  obtain ⟨fs, hr, hrun, hended, hW, hsame⟩ := X.leave (v := some (.long z)) (fun h => by rw [hret] at h; cases h) hlk
  exact ⟨_, _, X.lreturnOut hx hret hd hr, hrun, hended, _, _, rfl, hq, ⟨_, rfl⟩, hW, hsame.mono hc hs⟩
theorem own_retR (X : Stand p l e R s m args below meth c T locs cells slots) (hx : p.tables.exec = Jvm.exec) (hlk : meth.locks = false) {pc : Nat} {Ls : Array Slot} {z : Addr} {t : FieldType} (hret : meth.sig.returnType = some t) (ht : t.isReference = true) (hd : decode c.code pc = .ok (.areturn, 1)) (hc : cells ≤ C) (hs : slots ≤ S)
    (hq : Q (some (.ref z)) T.heap locs) : Fin p e below s C S Q (T.setTop (mkF m pc Ls [.ref z])) := by
  obtain ⟨fs, hr, hrun, hended, hW, hsame⟩ := X.leave (v := some (.ref z)) (fun h => by rw [hret] at h; cases h) hlk
  exact ⟨_, _, X.areturnOut hx rfl hret ht hd hr, hrun, hended, _, _, rfl, hq, ⟨_, rfl⟩, hW, hsame.mono hc hs⟩
theorem own_ret0 (X : Stand p l e R s m args below meth c T locs cells slots) (hx : p.tables.exec = Jvm.exec) (hlk : meth.locks = false) {pc : Nat} {Ls : Array Slot} (hret : meth.sig.returnType = none) (hd : decode c.code pc = .ok (.return_, 1)) (hc : cells ≤ C) (hs : slots ≤ S)
    (hq : Q none T.heap locs) : Fin p e below s C S Q (T.setTop (mkF m pc Ls [])) := by
  obtain ⟨fs, hr, hrun, hended, hW, hsame⟩ := X.leave (v := none) (fun _ => rfl) hlk
  exact ⟨_, _, X.returnOut hx hret hd hr, hrun, hended, _, _, rfl, hq, ⟨_, rfl⟩, hW, hsame.mono hc hs⟩
end Ends
section Arrays
variable {Z : State} {h h' : Heap} {a : Addr} {k : ClassId} {ty : FieldType} {n j : Int32} {vs : List Value} {d : Value}
/-- what an array of ints holds at the place j -/
def own_at (xs : List Int32) (j : Int32) : Int32 := xs.getD j.toNatClampNeg 0
def own_atJ (xs : List Int64) (j : Int32) : Int64 := xs.getD j.toNatClampNeg 0
theorem own_mapD (xs : List Int32) (i : Nat) : (xs.map Value.int).getD i (.int 0) = .int (xs.getD i 0) := by
  rw [List.getD_eq_getElem?_getD, List.getD_eq_getElem?_getD, List.getElem?_map]; cases xs[i]? <;> rfl
theorem own_mapDJ (xs : List Int64) (i : Nat) : (xs.map Value.long).getD i (.long 0) = .long (xs.getD i 0) := by
  rw [List.getD_eq_getElem?_getD, List.getD_eq_getElem?_getD, List.getElem?_map]; cases xs[i]? <;> rfl
theorem own_open (V : Arv Z h a k ty n vs d) (hj : ¬ (j < 0) ∧ j < n) : ∃ cl, Arr Z h a cl ty ∧ ¬ (j < 0 ∨ cl.slots.size ≤ j.toNatClampNeg) ∧ True := by
  obtain ⟨cl, Ar, -, S, -, -, -⟩ := V
  exact ⟨cl, Ar, inb_of S hj, trivial⟩
theorem own_readI {xs : List Int32} (V : Arv Z h a k ty n (xs.map Value.int) (.int 0)) (hj : ¬ (j < 0) ∧ j < n) (i : Nat) (hi : j.toNatClampNeg = i) : ∃ cl, Arr Z h a cl ty ∧ ¬ (j < 0 ∨ cl.slots.size ≤ j.toNatClampNeg) ∧ cl.slots[j.toNatClampNeg]? = some (.int (xs.getD i 0)) := by
  obtain ⟨cl, Ar, -, S, -, H, -⟩ := V
  have q := inb_of S hj
  refine ⟨cl, Ar, q, ?_⟩
  rw [H _ (Nat.lt_of_not_le fun y => q (Or.inr y)), own_mapD, hi]
theorem own_readJ {xs : List Int64} (V : Arv Z h a k ty n (xs.map Value.long) (.long 0)) (hj : ¬ (j < 0) ∧ j < n) (i : Nat) (hi : j.toNatClampNeg = i) : ∃ cl, Arr Z h a cl ty ∧ ¬ (j < 0 ∨ cl.slots.size ≤ j.toNatClampNeg) ∧ cl.slots[j.toNatClampNeg]? = some (.long (xs.getD i 0)) := by
  obtain ⟨cl, Ar, -, S, -, H, -⟩ := V
  have q := inb_of S hj
  refine ⟨cl, Ar, q, ?_⟩
  rw [H _ (Nat.lt_of_not_le fun y => q (Or.inr y)), own_mapDJ, hi]
theorem own_setI {xs : List Int32} {v : Int32} (V : Arv Z h a k ty n (xs.map Value.int) (.int 0)) (ln : xs.length = n.toNatClampNeg) (hj : ¬ (j < 0) ∧ j < n) (W : Wr h h' a j.toNatClampNeg (.int v)) (hf : fits ty (.int v) = true) (i : Nat) (hi : j.toNatClampNeg = i) :
    Arv Z h' a k ty n ((xs.set i v).map Value.int) (.int 0) ∧ (xs.set i v).length = n.toNatClampNeg := by
  subst hi
  obtain ⟨cl, Ar, q1, S, q3, H, G⟩ := V
  have q := inb_of S hj
  have W2 := Arv.set Ar q1 S q3 H G hf W j.toNatClampNeg rfl (by rw [List.length_map, ln, ← S]; exact Nat.lt_of_not_le fun y => q (Or.inr y))
  rw [List.map_set]
  exact ⟨W2, by rw [List.length_set]; exact ln⟩
theorem own_setJ {xs : List Int64} {v : Int64} (V : Arv Z h a k ty n (xs.map Value.long) (.long 0)) (ln : xs.length = n.toNatClampNeg) (hj : ¬ (j < 0) ∧ j < n) (W : Wr h h' a j.toNatClampNeg (.long v)) (hf : fits ty (.long v) = true) (i : Nat) (hi : j.toNatClampNeg = i) :
    Arv Z h' a k ty n ((xs.set i v).map Value.long) (.long 0) ∧ (xs.set i v).length = n.toNatClampNeg := by
  subst hi
  obtain ⟨cl, Ar, q1, S, q3, H, G⟩ := V
  have q := inb_of S hj
  have W2 := Arv.set Ar q1 S q3 H G hf W j.toNatClampNeg rfl (by rw [List.length_map, ln, ← S]; exact Nat.lt_of_not_le fun y => q (Or.inr y))
  rw [List.map_set]
  exact ⟨W2, by rw [List.length_set]; exact ln⟩
theorem own_newI (A : Arr Z h a (newA k ty n) ty) (hd : defaultValue ty = .int 0) (q : ¬ n < 0) {xs : List Int32} (hxs : xs = List.replicate n.toNatClampNeg 0) : Arv Z h a k ty n (xs.map Value.int) (.int 0) ∧ xs.length = n.toNatClampNeg := by
  subst hxs
  have V := Arv.new A q
  rw [hd] at V
  have V2 := V.pad (pad_rep [] (.int 0) n.toNatClampNeg)
  rw [List.map_replicate]
  exact ⟨V2, by rw [List.length_replicate]⟩
theorem own_newJ (A : Arr Z h a (newA k ty n) ty) (hd : defaultValue ty = .long 0) (q : ¬ n < 0) {xs : List Int64} (hxs : xs = List.replicate n.toNatClampNeg 0) : Arv Z h a k ty n (xs.map Value.long) (.long 0) ∧ xs.length = n.toNatClampNeg := by
  subst hxs
  have V := Arv.new A q
  rw [hd] at V
  have V2 := V.pad (pad_rep [] (.long 0) n.toNatClampNeg)
  rw [List.map_replicate]
  exact ⟨V2, by rw [List.length_replicate]⟩
end Arrays
theorem d1_0 : decode prog_3_method_1_code 0 = .ok (.aload_n 0, 1) := by decide +kernel
theorem d1_1 : decode prog_3_method_1_code 1 = .ok (.invokespecial 1, 3) := by decide +kernel
theorem d1_4 : decode prog_3_method_1_code 4 = .ok (.aload_n 0, 1) := by decide +kernel
theorem d1_5 : decode prog_3_method_1_code 5 = .ok (.aload_n 1, 1) := by decide +kernel
theorem d1_6 : decode prog_3_method_1_code 6 = .ok (.putfield 7, 3) := by decide +kernel
theorem d1_9 : decode prog_3_method_1_code 9 = .ok (.aload_n 0, 1) := by decide +kernel
theorem d1_10 : decode prog_3_method_1_code 10 = .ok (.iload_n 2, 1) := by decide +kernel
theorem d1_11 : decode prog_3_method_1_code 11 = .ok (.putfield 13, 3) := by decide +kernel
theorem d1_14 : decode prog_3_method_1_code 14 = .ok (.return_, 1) := by decide +kernel
theorem pn_1 : plainName "com/example/pure_mrtd/puremrtd/chip/Response" = true := by first | (simp [plainName, overriddenIn]; done) | decide +kernel
def R1 : Room := { frames := 1, cells := 0, slots := 0, locals := 12 }
def Q1 (Z : State) (o0 : Addr) (o1 : Addr) (h0 : Heap) (n0 : Nat) (r : Int32) (v : Option Value) (h : Heap) (L : List Loc) : Prop := v = none ∧ Fr n0 L ∧ Keep h0 h [o0] ∧ Exa Z h o0 "com/example/pure_mrtd/puremrtd/chip/Response" ∧ Fld Z h o0 "com/example/pure_mrtd/puremrtd/chip/Response" "data" "[B" (.ref o1) ∧ Fld Z h o0 "com/example/pure_mrtd/puremrtd/chip/Response" "statusWord" "I" (.int r)
def f1_0 (v2 : Int32) (o0_statusWord : Int32) : Int32 := v2
set_option maxRecDepth 65536 in
set_option maxHeartbeats 40000000 in
theorem b1_0 {p : Program} {l : Launch} {e : Env} {s : State} {m : MethodId} {args : Array Value} {below : List Frame} {meth : Method} {c : Code} {Z : State} {a0 : Array Value} (B : Ctx p Z s a0 m meth c "com/example/pure_mrtd/puremrtd/chip/Response" "<init>" prog_3_method_1_code 3 none) {T0 : State} {locs : List Loc} {h : Heap} (h0 : Heap) (n0 : Nat) (o0 : Addr) (o1 : Addr) (v2 : Int32) (o0_data : Value) (o0_statusWord : Int32) (X0 : Stand p l e R1 s m args below meth c T0 locs 0 0) (e0 : T0.heap = h) (N0 : Fr n0 locs) (Z0 : n0 ≤ h.size) (K : Keep h0 h [o0]) (E_o0 : Exa Z h o0 "com/example/pure_mrtd/puremrtd/chip/Response") (F_o0_data : Fld Z h o0 "com/example/pure_mrtd/puremrtd/chip/Response" "data" "[B" o0_data) (F_o0_statusWord : Fld Z h o0 "com/example/pure_mrtd/puremrtd/chip/Response" "statusWord" "I" (.int o0_statusWord)) (g_o0 : n0 ≤ o0) (r : Int32) (hr : f1_0 v2 o0_statusWord = r) :
    Fin p e below s R1.cells R1.slots (Q1 Z o0 o1 h0 n0 r) (T0.setTop (mkF m 0 #[.val (.ref o0), .val (.ref o1), .val (.int v2)] [])) := by
  obtain ⟨hx, hZ, hw, hby, hml, hret, hown, hnm, hlk⟩ := B
  unfold f1_0 at hr
  refine Fin.by (B := T0.setTop (mkF m 1 #[.val (.ref o0), .val (.ref o1), .val (.int v2)] [(.ref o0)])) (fun t k => ?_) ?_
  · show Steps p.tables e below (T0.setTop (mkF m 0 #[.val (.ref o0), .val (.ref o1), .val (.int v2)] [])) _
    refine XS.aloadN X0.here hx rfl (hb hby d1_0) rfl rfl ?_
    exact k
  obtain ⟨T1, X1, e1, st1⟩ := initO X0 hx hZ hown (hw _ (List.mem_of_getElem? (i := 7) rfl)) (hw _ (List.mem_of_getElem? (i := 8) rfl)) (hw _ (List.mem_of_getElem? (i := 9) rfl)) e0 (g := (mkF m 1 #[.val (.ref o0), .val (.ref o1), .val (.int v2)] [(.ref o0)])) rfl (by rw [hml]; rfl) rfl (hb hby d1_1) (by decide) (W := 0) (by show 2 * 0 + _ ≤ _; exact Nat.le_of_eq rfl) (by decide)
  refine Fin.by (B := T1.setTop (mkF m 4 #[.val (.ref o0), .val (.ref o1), .val (.int v2)] [])) (fun t k => st1 t k) ?_
  refine Fin.by (B := T1.setTop (mkF m 6 #[.val (.ref o0), .val (.ref o1), .val (.int v2)] [(.ref o1), (.ref o0)])) (fun t k => ?_) ?_
  · show Steps p.tables e below (T1.setTop (mkF m 4 #[.val (.ref o0), .val (.ref o1), .val (.int v2)] [])) _
    refine XS.aloadN X1.here hx rfl (hb hby d1_4) rfl rfl ?_
    show Steps p.tables e below (T1.setTop (mkF m 5 #[.val (.ref o0), .val (.ref o1), .val (.int v2)] [(.ref o0)])) _
    refine XS.aloadN X1.here hx rfl (hb hby d1_5) rfl rfl ?_
    exact k
  obtain ⟨T2, h2, X2, e2, W2, st2⟩ := putF X1 hx hZ hown (host := "") (Or.inl (hw _ (List.mem_of_getElem? (i := 10) rfl))) Via.refl e1 F_o0_data E_o0 (Or.inr ⟨(hw _ (List.mem_of_getElem? (i := 11) rfl)), rfl, hnm⟩) (hw _ (List.mem_of_getElem? (i := 1) rfl)) (ty := (.array .byte)) (by decide) rfl rfl (g := (mkF m 6 #[.val (.ref o0), .val (.ref o1), .val (.int v2)] [(.ref o1), (.ref o0)])) rfl rfl (hb hby d1_6)
  have E_o0_2 := E_o0.wr W2
  have F_o0_data_2 := F_o0_data.same W2
  have F_o0_statusWord_2 := F_o0_statusWord.other W2 (Or.inr (slot_ne (Or.inr (hw _ (List.mem_of_getElem? (i := 13) rfl))) (Or.inr (hw _ (List.mem_of_getElem? (i := 11) rfl))) (by decide) (t := .int) (t' := (.array .byte)) (by decide) (by decide)))
  have N2 := Fr.snoc X2 N0 g_o0
  have Z2 : n0 ≤ h2.size := Nat.le_trans Z0 (Nat.le_of_eq W2.size.symm)
  have K2 := K.wr W2 (Or.inl (by simp))
  refine Fin.by (B := T2.setTop (mkF m 9 #[.val (.ref o0), .val (.ref o1), .val (.int v2)] [])) (fun t k => st2 t k) ?_
  refine Fin.by (B := T2.setTop (mkF m 11 #[.val (.ref o0), .val (.ref o1), .val (.int v2)] [(.int v2), (.ref o0)])) (fun t k => ?_) ?_
  · show Steps p.tables e below (T2.setTop (mkF m 9 #[.val (.ref o0), .val (.ref o1), .val (.int v2)] [])) _
    refine XS.aloadN X2.here hx rfl (hb hby d1_9) rfl rfl ?_
    show Steps p.tables e below (T2.setTop (mkF m 10 #[.val (.ref o0), .val (.ref o1), .val (.int v2)] [(.ref o0)])) _
    refine XS.iloadN X2.here hx rfl (hb hby d1_10) rfl  ?_
    exact k
  obtain ⟨T3, h3, X3, e3, W3, st3⟩ := putF X2 hx hZ hown (host := "") (Or.inl (hw _ (List.mem_of_getElem? (i := 12) rfl))) Via.refl e2 F_o0_statusWord_2 E_o0_2 (Or.inr ⟨(hw _ (List.mem_of_getElem? (i := 13) rfl)), rfl, hnm⟩) (hw _ (List.mem_of_getElem? (i := 1) rfl)) (ty := .int) (by decide) rfl rfl (g := (mkF m 11 #[.val (.ref o0), .val (.ref o1), .val (.int v2)] [(.int v2), (.ref o0)])) rfl rfl (hb hby d1_11)
  have E_o0_3 := E_o0_2.wr W3
  have F_o0_data_3 := F_o0_data_2.other W3 (Or.inr (slot_ne (Or.inr (hw _ (List.mem_of_getElem? (i := 11) rfl))) (Or.inr (hw _ (List.mem_of_getElem? (i := 13) rfl))) (by decide) (t := (.array .byte)) (t' := .int) (by decide) (by decide)))
  have F_o0_statusWord_3 := F_o0_statusWord_2.same W3
  have N3 := Fr.snoc X3 N2 g_o0
  have Z3 : n0 ≤ h3.size := Nat.le_trans Z2 (Nat.le_of_eq W3.size.symm)
  have K3 := K2.wr W3 (Or.inl (by simp))
  refine Fin.by (B := T3.setTop (mkF m 14 #[.val (.ref o0), .val (.ref o1), .val (.int v2)] [])) (fun t k => st3 t k) ?_
  subst hr
  exact own_ret0 X3 hx hlk hret (hb hby d1_14) (by decide) (by decide) ⟨rfl, N3, (by rw [e3]; exact K3), (by rw [e3]; exact E_o0_3), (by rw [e3]; exact F_o0_data_3), (by rw [e3]; exact F_o0_statusWord_3)⟩
theorem ef_1 (m : MethodId) (o0 : Addr) (o1 : Addr) (v2 : Int32) : entryFrame m #[(.ref o0), (.ref o1), (.int v2)] 3 = (mkF m 0 #[.val (.ref o0), .val (.ref o1), .val (.int v2)] []) := by first | (simp [entryFrame, mkF, argsToLocals, Value.category]; done) | rfl
set_option maxRecDepth 65536 in
set_option maxHeartbeats 40000000 in
theorem rm1 (l : Launch) (Z : State) (a0 : Array Value) (hw : ∀ d ∈ tables_1, d.before a0 Z = true) (ws : List Jvm.Cond) (o0 : Addr) (o1 : Addr) (v2 : Int32) (o0_data : Value) (o0_statusWord : Int32) (h0 : Heap) (n0 : Nat) (Z0 : n0 ≤ h0.size) (E_o0 : Exa Z h0 o0 "com/example/pure_mrtd/puremrtd/chip/Response") (F_o0_data : Fld Z h0 o0 "com/example/pure_mrtd/puremrtd/chip/Response" "data" "[B" o0_data) (F_o0_statusWord : Fld Z h0 o0 "com/example/pure_mrtd/puremrtd/chip/Response" "statusWord" "I" (.int o0_statusWord)) (g_o0 : n0 ≤ o0) :
    MetFree l (⟨"com/example/pure_mrtd/puremrtd/chip/Response", "<init>", "([BI)V"⟩ : MethodName) (head1 (Jvm.Cond.code (⟨"com/example/pure_mrtd/puremrtd/chip/Response", "<init>", "([BI)V"⟩ : MethodName) prog_3_method_1_code 3 none :: ws) R1) (fun a U => a = #[(.ref o0), (.ref o1), (.int v2)] ∧ Z.Warmed39 U.vm ∧ U.heap = h0) (fun _ _ _ _ _ => True) (fun _ U o U' => ∃ v L, o = .returned v ∧ (Q1 Z o0 o1 h0 n0 (f1_0 v2 o0_statusWord)) v U'.heap L ∧ FrameEnd U o U' L R1.cells R1.slots) := by
  refine MetFree.of_bodySF (plainFor_of_name pn_1) hisR ?_
  intro p e s m args below meth c s₁ Bd hml0 hP hK
  obtain ⟨rfl, hZ, hh⟩ := hP
  have B : Ctx p Z s a0 m meth c "com/example/pure_mrtd/puremrtd/chip/Response" "<init>" prog_3_method_1_code 3 none := ⟨Bd.exec, hZ, hw, Bd.bytes, hml0, Bd.returns, findClass_of_methodNamed Bd.named, (name_of_methodNamed Bd.named Bd.method).1, Bd.notSynchronized⟩
  have X0 : Stand p l e R1 s m #[(.ref o0), (.ref o1), (.int v2)] below meth c s₁ [] 0 0 := Stand.of_body Bd
  have e0 : s₁.heap = h0 := by rw [← hh, Bd.state]; rfl
  have K := Keep.refl h0 [o0]
  show Fin p e below s R1.cells R1.slots (Q1 Z o0 o1 h0 n0 (f1_0 v2 o0_statusWord)) (s₁.setTop (entryFrame m #[(.ref o0), (.ref o1), (.int v2)] 3))
  refine Fin.by (fun t k => castTop (ef_1 m o0 o1 v2) k) ?_
  exact b1_0 B h0 n0 o0 o1 v2 o0_data o0_statusWord X0 e0 (Fr.nil n0) Z0 K E_o0 F_o0_data F_o0_statusWord g_o0 _ rfl
theorem pd_0 : parseMethodDescriptor "([BI)V" = some ⟨[(.array .byte), .int], none⟩ := by decide +kernel
theorem d3_0 : decode prog_3_method_5_code 0 = .ok (.iconst 2, 1) := by decide +kernel
theorem d3_1 : decode prog_3_method_5_code 1 = .ok (.newarray .byte, 2) := by decide +kernel
theorem d3_3 : decode prog_3_method_5_code 3 = .ok (.dup, 1) := by decide +kernel
theorem d3_4 : decode prog_3_method_5_code 4 = .ok (.iconst 0, 1) := by decide +kernel
theorem d3_5 : decode prog_3_method_5_code 5 = .ok (.aload_n 0, 1) := by decide +kernel
theorem d3_6 : decode prog_3_method_5_code 6 = .ok (.getfield 13, 3) := by decide +kernel
theorem d3_9 : decode prog_3_method_5_code 9 = .ok (.bipush 8, 2) := by decide +kernel
theorem d3_11 : decode prog_3_method_5_code 11 = .ok (.ishr, 1) := by decide +kernel
theorem d3_12 : decode prog_3_method_5_code 12 = .ok (.i2b, 1) := by decide +kernel
theorem d3_13 : decode prog_3_method_5_code 13 = .ok (.bastore, 1) := by decide +kernel
theorem d3_14 : decode prog_3_method_5_code 14 = .ok (.dup, 1) := by decide +kernel
theorem d3_15 : decode prog_3_method_5_code 15 = .ok (.iconst 1, 1) := by decide +kernel
theorem d3_16 : decode prog_3_method_5_code 16 = .ok (.aload_n 0, 1) := by decide +kernel
theorem d3_17 : decode prog_3_method_5_code 17 = .ok (.getfield 13, 3) := by decide +kernel
theorem d3_20 : decode prog_3_method_5_code 20 = .ok (.i2b, 1) := by decide +kernel
theorem d3_21 : decode prog_3_method_5_code 21 = .ok (.bastore, 1) := by decide +kernel
theorem d3_22 : decode prog_3_method_5_code 22 = .ok (.areturn, 1) := by decide +kernel
theorem pn_3 : plainName "com/example/pure_mrtd/puremrtd/chip/Response" = true := by first | (simp [plainName, overriddenIn]; done) | decide +kernel
def R3 : Room := { frames := 0, cells := 1, slots := 2, locals := 0 }
def Q3 (Z : State)  (h0 : Heap) (n0 : Nat) (r : List Int32) (v : Option Value) (h : Heap) (L : List Loc) : Prop := ∃ (b : Addr) (kb : ClassId), v = some (.ref b) ∧ Fr n0 L ∧ n0 ≤ b ∧ h0.size ≤ b ∧ Keep h0 h [] ∧ Arv Z h b kb .byte (2 : Int32) (r.map Value.int) (.int 0) ∧ r.length = (2 : Int32).toNatClampNeg
def f3_0 (o0_statusWord : Int32) : List Int32 := ([(((o0_statusWord >>> ((8 : Int32) &&& 31)).toInt8.toInt32).toInt8.toInt32), ((o0_statusWord.toInt8.toInt32).toInt8.toInt32)] : List Int32)
set_option maxRecDepth 65536 in
set_option maxHeartbeats 40000000 in
theorem b3_0 {p : Program} {l : Launch} {e : Env} {s : State} {m : MethodId} {args : Array Value} {below : List Frame} {meth : Method} {c : Code} {Z : State} {a0 : Array Value} (B : Ctx p Z s a0 m meth c "com/example/pure_mrtd/puremrtd/chip/Response" "statusBytes" prog_3_method_5_code 1 (some (.array .byte))) {T0 : State} {locs : List Loc} {h : Heap} (h0 : Heap) (n0 : Nat) (o0 : Addr) (o0_data : Value) (o0_statusWord : Int32) (X0 : Stand p l e R3 s m args below meth c T0 locs 0 0) (e0 : T0.heap = h) (N0 : Fr n0 locs) (Z0 : n0 ≤ h.size) (K : Keep h0 h []) (E_o0 : Exa Z h o0 "com/example/pure_mrtd/puremrtd/chip/Response") (F_o0_data : Fld Z h o0 "com/example/pure_mrtd/puremrtd/chip/Response" "data" "[B" o0_data) (F_o0_statusWord : Fld Z h o0 "com/example/pure_mrtd/puremrtd/chip/Response" "statusWord" "I" (.int o0_statusWord)) (r : List Int32) (hr : f3_0 o0_statusWord = r) :
    Fin p e below s R3.cells R3.slots (Q3 Z  h0 n0 r) (T0.setTop (mkF m 0 #[.val (.ref o0)] [])) := by
  obtain ⟨hx, hZ, hw, hby, hml, hret, hown, hnm, hlk⟩ := B
  unfold f3_0 at hr
  refine Fin.by (B := T0.setTop (mkF m 1 #[.val (.ref o0)] [(.int (2 : Int32))])) (fun t k => ?_) ?_
  · show Steps p.tables e below (T0.setTop (mkF m 0 #[.val (.ref o0)] [])) _
    refine XS.iconst X0.here hx rfl (hb hby d3_0) ?_
    exact k
  obtain ⟨T1, h1, k1, X1, e1, X1e, A1, st1⟩ := newP X0 hx hZ (hw _ (List.mem_of_getElem? (i := 3) rfl)) e0 (g := (mkF m 1 #[.val (.ref o0)] [(.int (2 : Int32))])) rfl (hb hby d3_1) rfl (by decide) (cap := 2) (by decide) (by decide) (by decide) (by decide)
  obtain ⟨b1, g1⟩ : ∃ z, z = h.size := ⟨_, rfl⟩
  rw [← g1] at A1 st1
  have g_b1 : n0 ≤ b1 := Nat.le_trans Z0 (Nat.le_of_eq g1.symm)
  have sz_b1 : h0.size ≤ b1 := Nat.le_trans K.1 (Nat.le_of_eq g1.symm)
  have ne_o0_b1 : o0 ≠ b1 := Nat.ne_of_lt (Nat.lt_of_lt_of_le E_o0.lt (Nat.le_of_eq g1.symm))
  have E_o0_1 := E_o0.ext X1e
  have F_o0_data_1 := F_o0_data.ext X1e
  have F_o0_statusWord_1 := F_o0_statusWord.ext X1e
  have Z1 : n0 ≤ h1.size := Nat.le_trans Z0 X1e.1
  have K1 := K.ext X1e
  obtain ⟨V_b1_1, ln_b1_1⟩ : Arv Z h1 b1 k1 .byte (2 : Int32) (([0, 0] : List Int32).map Value.int) (.int 0) ∧ ([0, 0] : List Int32).length = (2 : Int32).toNatClampNeg := own_newI A1 rfl (by decide) (xs := ([0, 0] : List Int32)) (by decide)
  refine Fin.by (B := T1.setTop (mkF m 3 #[.val (.ref o0)] [(.ref b1)])) (fun t k => st1 t k) ?_
  refine Fin.by (B := T1.setTop (mkF m 6 #[.val (.ref o0)] [(.ref o0), (.int (0 : Int32)), (.ref b1), (.ref b1)])) (fun t k => ?_) ?_
  · show Steps p.tables e below (T1.setTop (mkF m 3 #[.val (.ref o0)] [(.ref b1)])) _
    refine XS.dup X1.here hx rfl (hb hby d3_3) rfl rfl ?_
    show Steps p.tables e below (T1.setTop (mkF m 4 #[.val (.ref o0)] [(.ref b1), (.ref b1)])) _
    refine XS.iconst X1.here hx rfl (hb hby d3_4) ?_
    show Steps p.tables e below (T1.setTop (mkF m 5 #[.val (.ref o0)] [(.int (0 : Int32)), (.ref b1), (.ref b1)])) _
    refine XS.aloadN X1.here hx rfl (hb hby d3_5) rfl rfl ?_
    exact k
  obtain ⟨T2, X2, e2, st2⟩ := getF X1 hx hZ hown (host := "") (Or.inl (hw _ (List.mem_of_getElem? (i := 12) rfl))) Via.refl e1 F_o0_statusWord_1 (g := (mkF m 6 #[.val (.ref o0)] [(.ref o0), (.int (0 : Int32)), (.ref b1), (.ref b1)])) rfl rfl (hb hby d3_6)
  refine Fin.by (B := T2.setTop (mkF m 9 #[.val (.ref o0)] [(.int o0_statusWord), (.int (0 : Int32)), (.ref b1), (.ref b1)])) (fun t k => st2 t k) ?_
  refine Fin.by (B := T2.setTop (mkF m 13 #[.val (.ref o0)] [(.int ((o0_statusWord >>> ((8 : Int32) &&& 31)).toInt8.toInt32)), (.int (0 : Int32)), (.ref b1), (.ref b1)])) (fun t k => ?_) ?_
  · show Steps p.tables e below (T2.setTop (mkF m 9 #[.val (.ref o0)] [(.int o0_statusWord), (.int (0 : Int32)), (.ref b1), (.ref b1)])) _
    refine XS.bipush X2.here hx rfl (hb hby d3_9) ?_
    show Steps p.tables e below (T2.setTop (mkF m 11 #[.val (.ref o0)] [(.int (8 : Int32)), (.int o0_statusWord), (.int (0 : Int32)), (.ref b1), (.ref b1)])) _
    refine XS.ishr X2.here hx rfl (hb hby d3_11) rfl ?_
    show Steps p.tables e below (T2.setTop (mkF m 12 #[.val (.ref o0)] [(.int (o0_statusWord >>> ((8 : Int32) &&& 31))), (.int (0 : Int32)), (.ref b1), (.ref b1)])) _
    refine XS.i2b X2.here hx rfl (hb hby d3_12) rfl ?_
    exact k
  have hin3 : ¬ ((0 : Int32) < 0) ∧ (0 : Int32) < (2 : Int32) := by decide
  obtain ⟨cl3, Ar3, hi3, q3⟩ := own_open V_b1_1 hin3
  obtain ⟨T3, h3, X3, e3, W3, st3⟩ := stB X2 hx hZ e2 Ar3 (j := (0 : Int32)) hi3 (g := (mkF m 13 #[.val (.ref o0)] [(.int ((o0_statusWord >>> ((8 : Int32) &&& 31)).toInt8.toInt32)), (.int (0 : Int32)), (.ref b1), (.ref b1)])) rfl rfl (hb hby d3_13)
  have E_o0_3 := E_o0_1.wr W3
  have F_o0_data_3 := F_o0_data_1.other W3 (Or.inl ne_o0_b1)
  have F_o0_statusWord_3 := F_o0_statusWord_1.other W3 (Or.inl ne_o0_b1)
  obtain ⟨V_b1_3, ln_b1_3⟩ : Arv Z h3 b1 k1 .byte (2 : Int32) (([(((o0_statusWord >>> ((8 : Int32) &&& 31)).toInt8.toInt32).toInt8.toInt32), 0] : List Int32).map Value.int) (.int 0) ∧ ([(((o0_statusWord >>> ((8 : Int32) &&& 31)).toInt8.toInt32).toInt8.toInt32), 0] : List Int32).length = (2 : Int32).toNatClampNeg := own_setI V_b1_1 ln_b1_1 hin3 W3 (fits_nar_byte _) 0 (by decide)
  have N3 := Fr.snoc X3 N0 g_b1
  have Z3 : n0 ≤ h3.size := Nat.le_trans Z1 (Nat.le_of_eq W3.size.symm)
  have K3 := K1.wr W3 (Or.inr sz_b1)
  refine Fin.by (B := T3.setTop (mkF m 14 #[.val (.ref o0)] [(.ref b1)])) (fun t k => st3 t k) ?_
  refine Fin.by (B := T3.setTop (mkF m 17 #[.val (.ref o0)] [(.ref o0), (.int (1 : Int32)), (.ref b1), (.ref b1)])) (fun t k => ?_) ?_
  · show Steps p.tables e below (T3.setTop (mkF m 14 #[.val (.ref o0)] [(.ref b1)])) _
    refine XS.dup X3.here hx rfl (hb hby d3_14) rfl rfl ?_
    show Steps p.tables e below (T3.setTop (mkF m 15 #[.val (.ref o0)] [(.ref b1), (.ref b1)])) _
    refine XS.iconst X3.here hx rfl (hb hby d3_15) ?_
    show Steps p.tables e below (T3.setTop (mkF m 16 #[.val (.ref o0)] [(.int (1 : Int32)), (.ref b1), (.ref b1)])) _
    refine XS.aloadN X3.here hx rfl (hb hby d3_16) rfl rfl ?_
    exact k
  obtain ⟨T4, X4, e4, st4⟩ := getF X3 hx hZ hown (host := "") (Or.inl (hw _ (List.mem_of_getElem? (i := 12) rfl))) Via.refl e3 F_o0_statusWord_3 (g := (mkF m 17 #[.val (.ref o0)] [(.ref o0), (.int (1 : Int32)), (.ref b1), (.ref b1)])) rfl rfl (hb hby d3_17)
  refine Fin.by (B := T4.setTop (mkF m 20 #[.val (.ref o0)] [(.int o0_statusWord), (.int (1 : Int32)), (.ref b1), (.ref b1)])) (fun t k => st4 t k) ?_
  refine Fin.by (B := T4.setTop (mkF m 21 #[.val (.ref o0)] [(.int (o0_statusWord.toInt8.toInt32)), (.int (1 : Int32)), (.ref b1), (.ref b1)])) (fun t k => ?_) ?_
  · show Steps p.tables e below (T4.setTop (mkF m 20 #[.val (.ref o0)] [(.int o0_statusWord), (.int (1 : Int32)), (.ref b1), (.ref b1)])) _
    refine XS.i2b X4.here hx rfl (hb hby d3_20) rfl ?_
    exact k
  have hin5 : ¬ ((1 : Int32) < 0) ∧ (1 : Int32) < (2 : Int32) := by decide
  obtain ⟨cl5, Ar5, hi5, q5⟩ := own_open V_b1_3 hin5
  obtain ⟨T5, h5, X5, e5, W5, st5⟩ := stB X4 hx hZ e4 Ar5 (j := (1 : Int32)) hi5 (g := (mkF m 21 #[.val (.ref o0)] [(.int (o0_statusWord.toInt8.toInt32)), (.int (1 : Int32)), (.ref b1), (.ref b1)])) rfl rfl (hb hby d3_21)
  have E_o0_5 := E_o0_3.wr W5
  have F_o0_data_5 := F_o0_data_3.other W5 (Or.inl ne_o0_b1)
  have F_o0_statusWord_5 := F_o0_statusWord_3.other W5 (Or.inl ne_o0_b1)
  obtain ⟨V_b1_5, ln_b1_5⟩ : Arv Z h5 b1 k1 .byte (2 : Int32) (([(((o0_statusWord >>> ((8 : Int32) &&& 31)).toInt8.toInt32).toInt8.toInt32), ((o0_statusWord.toInt8.toInt32).toInt8.toInt32)] : List Int32).map Value.int) (.int 0) ∧ ([(((o0_statusWord >>> ((8 : Int32) &&& 31)).toInt8.toInt32).toInt8.toInt32), ((o0_statusWord.toInt8.toInt32).toInt8.toInt32)] : List Int32).length = (2 : Int32).toNatClampNeg := own_setI V_b1_3 ln_b1_3 hin5 W5 (fits_nar_byte _) 1 (by decide)
  have N5 := Fr.snoc X5 N3 g_b1
  have Z5 : n0 ≤ h5.size := Nat.le_trans Z3 (Nat.le_of_eq W5.size.symm)
  have K5 := K3.wr W5 (Or.inr sz_b1)
  refine Fin.by (B := T5.setTop (mkF m 22 #[.val (.ref o0)] [(.ref b1)])) (fun t k => st5 t k) ?_
  subst hr
  exact own_retR X5 hx hlk hret rfl (hb hby d3_22) (by decide) (by decide) ⟨b1, k1, rfl, N5, g_b1, sz_b1, (by rw [e5]; exact K5), (by rw [e5]; exact V_b1_5), ln_b1_5⟩
theorem ef_3 (m : MethodId) (o0 : Addr) : entryFrame m #[(.ref o0)] 1 = (mkF m 0 #[.val (.ref o0)] []) := by first | (simp [entryFrame, mkF, argsToLocals, Value.category]; done) | rfl
set_option maxRecDepth 65536 in
set_option maxHeartbeats 40000000 in
theorem rm3 (l : Launch) (Z : State) (a0 : Array Value) (hw : ∀ d ∈ tables_1, d.before a0 Z = true) (ws : List Jvm.Cond) (o0 : Addr) (o0_data : Value) (o0_statusWord : Int32) (h0 : Heap) (n0 : Nat) (Z0 : n0 ≤ h0.size) (E_o0 : Exa Z h0 o0 "com/example/pure_mrtd/puremrtd/chip/Response") (F_o0_data : Fld Z h0 o0 "com/example/pure_mrtd/puremrtd/chip/Response" "data" "[B" o0_data) (F_o0_statusWord : Fld Z h0 o0 "com/example/pure_mrtd/puremrtd/chip/Response" "statusWord" "I" (.int o0_statusWord)) :
    MetFree l (⟨"com/example/pure_mrtd/puremrtd/chip/Response", "statusBytes", "()[B"⟩ : MethodName) (head1 (Jvm.Cond.code (⟨"com/example/pure_mrtd/puremrtd/chip/Response", "statusBytes", "()[B"⟩ : MethodName) prog_3_method_5_code 1 (some (.array .byte)) :: ws) R3) (fun a U => a = #[(.ref o0)] ∧ Z.Warmed39 U.vm ∧ U.heap = h0) (fun _ _ _ _ _ => True) (fun _ U o U' => ∃ v L, o = .returned v ∧ (Q3 Z  h0 n0 (f3_0 o0_statusWord)) v U'.heap L ∧ FrameEnd U o U' L R3.cells R3.slots) := by
  refine MetFree.of_bodySF (plainFor_of_name pn_3) hisR ?_
  intro p e s m args below meth c s₁ Bd hml0 hP hK
  obtain ⟨rfl, hZ, hh⟩ := hP
  have B : Ctx p Z s a0 m meth c "com/example/pure_mrtd/puremrtd/chip/Response" "statusBytes" prog_3_method_5_code 1 (some (.array .byte)) := ⟨Bd.exec, hZ, hw, Bd.bytes, hml0, Bd.returns, findClass_of_methodNamed Bd.named, (name_of_methodNamed Bd.named Bd.method).1, Bd.notSynchronized⟩
  have X0 : Stand p l e R3 s m #[(.ref o0)] below meth c s₁ [] 0 0 := Stand.of_body Bd
  have e0 : s₁.heap = h0 := by rw [← hh, Bd.state]; rfl
  have K := Keep.refl h0 []
  show Fin p e below s R3.cells R3.slots (Q3 Z  h0 n0 (f3_0 o0_statusWord)) (s₁.setTop (entryFrame m #[(.ref o0)] 1))
  refine Fin.by (fun t k => castTop (ef_3 m o0) k) ?_
  exact b3_0 B h0 n0 o0 o0_data o0_statusWord X0 e0 (Fr.nil n0) Z0 K E_o0 F_o0_data F_o0_statusWord _ rfl
theorem pd_1 : parseMethodDescriptor "()[B" = some ⟨[], some (.array .byte)⟩ := by decide +kernel
theorem pn_0 : plainName "com/example/pure_mrtd/puremrtd/chip/ResponseStatusBytesPinLaw" = true := by first | (simp [plainName, overriddenIn]; done) | decide +kernel
def Q0 (n0 : Nat) (r : Int32) (v : Option Value) (h : Heap) (L : List Loc) : Prop := v = some (.int r) ∧ Fr n0 L
def f0_16 (v0 : Int32) (b0_statusWord : Int32) (b5_xs : List Int32) (c13_xs : List Int32) : Int32 := (if (2 : Int32) = (2 : Int32) then (if ((((own_at c13_xs (0 : Int32)) &&& (255 : Int32)) <<< ((8 : Int32) &&& 31)) ||| ((own_at c13_xs (1 : Int32)) &&& (255 : Int32))) = (v0 &&& (65535 : Int32)) then (1 : Int32) else (0 : Int32)) else (0 : Int32))
set_option maxRecDepth 65536 in
set_option maxHeartbeats 40000000 in
theorem b0_16 {p : Program} {l : Launch} {e : Env} {s : State} {m : MethodId} {args : Array Value} {below : List Frame} {meth : Method} {c : Code} {Z : State} {a0 : Array Value} (B : Ctx p Z s a0 m meth c "com/example/pure_mrtd/puremrtd/chip/ResponseStatusBytesPinLaw" "law" code 4 (some .boolean)) {T0 : State} {locs : List Loc} {h : Heap} (h0 : Heap) (n0 : Nat) (v0 : Int32) (b0 : Addr) (c13 : Addr) (b5 : Addr) (b0_statusWord : Int32) (b5_k : ClassId) (b5_xs : List Int32) (c13_k : ClassId) (c13_xs : List Int32) (X0 : Stand p l e room_1 s m args below meth c T0 locs 3 4) (e0 : T0.heap = h) (N0 : Fr n0 locs) (Z0 : n0 ≤ h.size) (E_b0 : Exa Z h b0 "com/example/pure_mrtd/puremrtd/chip/Response") (F_b0_data : Fld Z h b0 "com/example/pure_mrtd/puremrtd/chip/Response" "data" "[B" (.ref b5)) (F_b0_statusWord : Fld Z h b0 "com/example/pure_mrtd/puremrtd/chip/Response" "statusWord" "I" (.int b0_statusWord)) (g_b0 : n0 ≤ b0) (V_b5 : Arv Z h b5 b5_k .byte (0 : Int32) (b5_xs.map Value.int) (.int 0)) (ln_b5 : b5_xs.length = (0 : Int32).toNatClampNeg) (g_b5 : n0 ≤ b5) (V_c13 : Arv Z h c13 c13_k .byte (2 : Int32) (c13_xs.map Value.int) (.int 0)) (ln_c13 : c13_xs.length = (2 : Int32).toNatClampNeg) (g_c13 : n0 ≤ c13) (ne_b0_b5 : b0 ≠ b5) (ne_b0_c13 : b0 ≠ c13) (ne_b5_c13 : b5 ≠ c13) (r : Int32) (hr : f0_16 v0 b0_statusWord b5_xs c13_xs = r) :
    Fin p e below s 3 4 (Q0 n0 r) (T0.setTop (mkF m 16 #[.val (.int v0), .val (.ref b0), .unset, .unset] [(.ref c13)])) := by
  obtain ⟨hx, hZ, hw, hby, hml, hret, hown, hnm, hlk⟩ := B
  unfold f0_16 at hr
  refine Fin.by (B := T0.setTop (mkF m 22 #[.val (.int v0), .val (.ref b0), .val (.ref c13), .unset] [(.ref c13)])) (fun t k => ?_) ?_
  · show Steps p.tables e below (T0.setTop (mkF m 16 #[.val (.int v0), .val (.ref b0), .unset, .unset] [(.ref c13)])) _
    refine XS.astoreN X0.here hx rfl (hb hby at_16) rfl rfl (l' := #[.val (.int v0), .val (.ref b0), .val (.ref c13), .unset]) rfl ?_
    show Steps p.tables e below (T0.setTop (mkF m 17 #[.val (.int v0), .val (.ref b0), .val (.ref c13), .unset] [])) _
    refine XS.aloadN X0.here hx rfl (hb hby at_17) rfl rfl ?_
    show Steps p.tables e below (T0.setTop (mkF m 18 #[.val (.int v0), .val (.ref b0), .val (.ref c13), .unset] [(.ref c13)])) _
    refine XS.ifnullNo X0.here hx rfl (hb hby at_18) rfl ?_
    show Steps p.tables e below (T0.setTop (mkF m 21 #[.val (.int v0), .val (.ref b0), .val (.ref c13), .unset] [])) _
    refine XS.aloadN X0.here hx rfl (hb hby at_21) rfl rfl ?_
    exact k
  have V5 := V_c13
  obtain ⟨cl5, Ar5, -, S5, M5, -, -⟩ := V5
  refine Fin.by (B := T0.setTop (mkF m 23 #[.val (.int v0), .val (.ref b0), .val (.ref c13), .unset] [(.int (2 : Int32))])) (fun t k => ?_) ?_
  · show Steps p.tables e below (T0.setTop (mkF m 22 #[.val (.int v0), .val (.ref b0), .val (.ref c13), .unset] [(.ref c13)])) _
    refine X0.arraylength hx (by rw [e0]; exact Ar5.1) (State.isArrayOf_alike hZ.alike Ar5.2.1) (g := (mkF m 22 #[.val (.int v0), .val (.ref b0), .val (.ref c13), .unset] [(.ref c13)])) rfl rfl (hb hby at_22) _ ?_
    rw [len_of S5 M5]
    exact k
  refine Fin.by (B := T0.setTop (mkF m 24 #[.val (.int v0), .val (.ref b0), .val (.ref c13), .unset] [(.int (2 : Int32)), (.int (2 : Int32))])) (fun t k => ?_) ?_
  · show Steps p.tables e below (T0.setTop (mkF m 23 #[.val (.int v0), .val (.ref b0), .val (.ref c13), .unset] [(.int (2 : Int32))])) _
    refine XS.iconst X0.here hx rfl (hb hby at_23) ?_
    exact k
  by_cases hc24 : (2 : Int32) = (2 : Int32)
  · rw [if_pos hc24] at hr
    refine Fin.by (B := T0.setTop (mkF m 29 #[.val (.int v0), .val (.ref b0), .val (.ref c13), .unset] [])) (fun t k => ?_) ?_
    · show Steps p.tables e below (T0.setTop (mkF m 24 #[.val (.int v0), .val (.ref b0), .val (.ref c13), .unset] [(.int (2 : Int32)), (.int (2 : Int32))])) _
      exact XS.icmpYes X0.here hx rfl (pc0 := 24) (pc' := 29) rfl (hb hby at_24) rfl (teq hc24).1 (by decide) (by decide) k
    refine Fin.by (B := T0.setTop (mkF m 31 #[.val (.int v0), .val (.ref b0), .val (.ref c13), .unset] [(.int (0 : Int32)), (.ref c13)])) (fun t k => ?_) ?_
    · show Steps p.tables e below (T0.setTop (mkF m 29 #[.val (.int v0), .val (.ref b0), .val (.ref c13), .unset] [])) _
      refine XS.aloadN X0.here hx rfl (hb hby at_29) rfl rfl ?_
      show Steps p.tables e below (T0.setTop (mkF m 30 #[.val (.int v0), .val (.ref b0), .val (.ref c13), .unset] [(.ref c13)])) _
      refine XS.iconst X0.here hx rfl (hb hby at_30) ?_
      exact k
    have hin6 : ¬ ((0 : Int32) < 0) ∧ (0 : Int32) < (2 : Int32) := by decide
    obtain ⟨cl6, Ar6, hi6, q6⟩ := own_readI V_c13 hin6 _ rfl
    refine Fin.by (B := T0.setTop (mkF m 32 #[.val (.int v0), .val (.ref b0), .val (.ref c13), .unset] [(.int (own_at c13_xs (0 : Int32)))])) (fun t k => ?_) ?_
    · show Steps p.tables e below (T0.setTop (mkF m 31 #[.val (.int v0), .val (.ref b0), .val (.ref c13), .unset] [(.int (0 : Int32)), (.ref c13)])) _
      exact X0.baloadBytes hx (j := (0 : Int32)) (v := (.int (own_at c13_xs (0 : Int32)))) (by rw [e0]; exact Ar6.1) (State.isArrayOf_alike hZ.alike Ar6.2.1) Ar6.2.2 hi6 q6 (g := (mkF m 31 #[.val (.int v0), .val (.ref b0), .val (.ref c13), .unset] [(.int (0 : Int32)), (.ref c13)])) rfl rfl (hb hby at_31) _ k
    refine Fin.by (B := T0.setTop (mkF m 41 #[.val (.int v0), .val (.ref b0), .val (.ref c13), .unset] [(.int (1 : Int32)), (.ref c13), (.int (((own_at c13_xs (0 : Int32)) &&& (255 : Int32)) <<< ((8 : Int32) &&& 31)))])) (fun t k => ?_) ?_
    · show Steps p.tables e below (T0.setTop (mkF m 32 #[.val (.int v0), .val (.ref b0), .val (.ref c13), .unset] [(.int (own_at c13_xs (0 : Int32)))])) _
      refine XS.sipush X0.here hx rfl (hb hby at_32) ?_
      show Steps p.tables e below (T0.setTop (mkF m 35 #[.val (.int v0), .val (.ref b0), .val (.ref c13), .unset] [(.int (255 : Int32)), (.int (own_at c13_xs (0 : Int32)))])) _
      refine XS.iand X0.here hx rfl (hb hby at_35) rfl ?_
      show Steps p.tables e below (T0.setTop (mkF m 36 #[.val (.int v0), .val (.ref b0), .val (.ref c13), .unset] [(.int ((own_at c13_xs (0 : Int32)) &&& (255 : Int32)))])) _
      refine XS.bipush X0.here hx rfl (hb hby at_36) ?_
      show Steps p.tables e below (T0.setTop (mkF m 38 #[.val (.int v0), .val (.ref b0), .val (.ref c13), .unset] [(.int (8 : Int32)), (.int ((own_at c13_xs (0 : Int32)) &&& (255 : Int32)))])) _
      refine XS.ishl X0.here hx rfl (hb hby at_38) rfl ?_
      show Steps p.tables e below (T0.setTop (mkF m 39 #[.val (.int v0), .val (.ref b0), .val (.ref c13), .unset] [(.int (((own_at c13_xs (0 : Int32)) &&& (255 : Int32)) <<< ((8 : Int32) &&& 31)))])) _
      refine XS.aloadN X0.here hx rfl (hb hby at_39) rfl rfl ?_
      show Steps p.tables e below (T0.setTop (mkF m 40 #[.val (.int v0), .val (.ref b0), .val (.ref c13), .unset] [(.ref c13), (.int (((own_at c13_xs (0 : Int32)) &&& (255 : Int32)) <<< ((8 : Int32) &&& 31)))])) _
      refine XS.iconst X0.here hx rfl (hb hby at_40) ?_
      exact k
    have hin7 : ¬ ((1 : Int32) < 0) ∧ (1 : Int32) < (2 : Int32) := by decide
    obtain ⟨cl7, Ar7, hi7, q7⟩ := own_readI V_c13 hin7 _ rfl
    refine Fin.by (B := T0.setTop (mkF m 42 #[.val (.int v0), .val (.ref b0), .val (.ref c13), .unset] [(.int (own_at c13_xs (1 : Int32))), (.int (((own_at c13_xs (0 : Int32)) &&& (255 : Int32)) <<< ((8 : Int32) &&& 31)))])) (fun t k => ?_) ?_
    · show Steps p.tables e below (T0.setTop (mkF m 41 #[.val (.int v0), .val (.ref b0), .val (.ref c13), .unset] [(.int (1 : Int32)), (.ref c13), (.int (((own_at c13_xs (0 : Int32)) &&& (255 : Int32)) <<< ((8 : Int32) &&& 31)))])) _
      exact X0.baloadBytes hx (j := (1 : Int32)) (v := (.int (own_at c13_xs (1 : Int32)))) (by rw [e0]; exact Ar7.1) (State.isArrayOf_alike hZ.alike Ar7.2.1) Ar7.2.2 hi7 q7 (g := (mkF m 41 #[.val (.int v0), .val (.ref b0), .val (.ref c13), .unset] [(.int (1 : Int32)), (.ref c13), (.int (((own_at c13_xs (0 : Int32)) &&& (255 : Int32)) <<< ((8 : Int32) &&& 31)))])) rfl rfl (hb hby at_41) _ k
    refine Fin.by (B := T0.setTop (mkF m 53 #[.val (.int v0), .val (.ref b0), .val (.ref c13), .val (.int ((((own_at c13_xs (0 : Int32)) &&& (255 : Int32)) <<< ((8 : Int32) &&& 31)) ||| ((own_at c13_xs (1 : Int32)) &&& (255 : Int32))))] [(.int (v0 &&& (65535 : Int32))), (.int ((((own_at c13_xs (0 : Int32)) &&& (255 : Int32)) <<< ((8 : Int32) &&& 31)) ||| ((own_at c13_xs (1 : Int32)) &&& (255 : Int32))))])) (fun t k => ?_) ?_
    · show Steps p.tables e below (T0.setTop (mkF m 42 #[.val (.int v0), .val (.ref b0), .val (.ref c13), .unset] [(.int (own_at c13_xs (1 : Int32))), (.int (((own_at c13_xs (0 : Int32)) &&& (255 : Int32)) <<< ((8 : Int32) &&& 31)))])) _
      refine XS.sipush X0.here hx rfl (hb hby at_42) ?_
      show Steps p.tables e below (T0.setTop (mkF m 45 #[.val (.int v0), .val (.ref b0), .val (.ref c13), .unset] [(.int (255 : Int32)), (.int (own_at c13_xs (1 : Int32))), (.int (((own_at c13_xs (0 : Int32)) &&& (255 : Int32)) <<< ((8 : Int32) &&& 31)))])) _
      refine XS.iand X0.here hx rfl (hb hby at_45) rfl ?_
      show Steps p.tables e below (T0.setTop (mkF m 46 #[.val (.int v0), .val (.ref b0), .val (.ref c13), .unset] [(.int ((own_at c13_xs (1 : Int32)) &&& (255 : Int32))), (.int (((own_at c13_xs (0 : Int32)) &&& (255 : Int32)) <<< ((8 : Int32) &&& 31)))])) _
      refine XS.ior X0.here hx rfl (hb hby at_46) rfl ?_
      show Steps p.tables e below (T0.setTop (mkF m 47 #[.val (.int v0), .val (.ref b0), .val (.ref c13), .unset] [(.int ((((own_at c13_xs (0 : Int32)) &&& (255 : Int32)) <<< ((8 : Int32) &&& 31)) ||| ((own_at c13_xs (1 : Int32)) &&& (255 : Int32))))])) _
      refine XS.istoreN X0.here hx rfl (hb hby at_47) rfl (l' := #[.val (.int v0), .val (.ref b0), .val (.ref c13), .val (.int ((((own_at c13_xs (0 : Int32)) &&& (255 : Int32)) <<< ((8 : Int32) &&& 31)) ||| ((own_at c13_xs (1 : Int32)) &&& (255 : Int32))))]) rfl ?_
      show Steps p.tables e below (T0.setTop (mkF m 48 #[.val (.int v0), .val (.ref b0), .val (.ref c13), .val (.int ((((own_at c13_xs (0 : Int32)) &&& (255 : Int32)) <<< ((8 : Int32) &&& 31)) ||| ((own_at c13_xs (1 : Int32)) &&& (255 : Int32))))] [])) _
      refine XS.iloadN X0.here hx rfl (hb hby at_48) rfl  ?_
      show Steps p.tables e below (T0.setTop (mkF m 49 #[.val (.int v0), .val (.ref b0), .val (.ref c13), .val (.int ((((own_at c13_xs (0 : Int32)) &&& (255 : Int32)) <<< ((8 : Int32) &&& 31)) ||| ((own_at c13_xs (1 : Int32)) &&& (255 : Int32))))] [(.int ((((own_at c13_xs (0 : Int32)) &&& (255 : Int32)) <<< ((8 : Int32) &&& 31)) ||| ((own_at c13_xs (1 : Int32)) &&& (255 : Int32))))])) _
      refine XS.iloadN X0.here hx rfl (hb hby at_49) rfl  ?_
      show Steps p.tables e below (T0.setTop (mkF m 50 #[.val (.int v0), .val (.ref b0), .val (.ref c13), .val (.int ((((own_at c13_xs (0 : Int32)) &&& (255 : Int32)) <<< ((8 : Int32) &&& 31)) ||| ((own_at c13_xs (1 : Int32)) &&& (255 : Int32))))] [(.int v0), (.int ((((own_at c13_xs (0 : Int32)) &&& (255 : Int32)) <<< ((8 : Int32) &&& 31)) ||| ((own_at c13_xs (1 : Int32)) &&& (255 : Int32))))])) _
      refine X0.ldcInt hx hown (mvT hZ (hw _ (List.mem_of_getElem? (i := 19) rfl))) (g := (mkF m 50 #[.val (.int v0), .val (.ref b0), .val (.ref c13), .val (.int ((((own_at c13_xs (0 : Int32)) &&& (255 : Int32)) <<< ((8 : Int32) &&& 31)) ||| ((own_at c13_xs (1 : Int32)) &&& (255 : Int32))))] [(.int v0), (.int ((((own_at c13_xs (0 : Int32)) &&& (255 : Int32)) <<< ((8 : Int32) &&& 31)) ||| ((own_at c13_xs (1 : Int32)) &&& (255 : Int32))))])) rfl (hb hby at_50) _ ?_
      show Steps p.tables e below (T0.setTop (mkF m 52 #[.val (.int v0), .val (.ref b0), .val (.ref c13), .val (.int ((((own_at c13_xs (0 : Int32)) &&& (255 : Int32)) <<< ((8 : Int32) &&& 31)) ||| ((own_at c13_xs (1 : Int32)) &&& (255 : Int32))))] [(.int (65535 : Int32)), (.int v0), (.int ((((own_at c13_xs (0 : Int32)) &&& (255 : Int32)) <<< ((8 : Int32) &&& 31)) ||| ((own_at c13_xs (1 : Int32)) &&& (255 : Int32))))])) _
      refine XS.iand X0.here hx rfl (hb hby at_52) rfl ?_
      exact k
    by_cases hc53 : ((((own_at c13_xs (0 : Int32)) &&& (255 : Int32)) <<< ((8 : Int32) &&& 31)) ||| ((own_at c13_xs (1 : Int32)) &&& (255 : Int32))) = (v0 &&& (65535 : Int32))
    · rw [if_pos hc53] at hr
      refine Fin.by (B := T0.setTop (mkF m 56 #[.val (.int v0), .val (.ref b0), .val (.ref c13), .val (.int ((((own_at c13_xs (0 : Int32)) &&& (255 : Int32)) <<< ((8 : Int32) &&& 31)) ||| ((own_at c13_xs (1 : Int32)) &&& (255 : Int32))))] [])) (fun t k => ?_) ?_
      · show Steps p.tables e below (T0.setTop (mkF m 53 #[.val (.int v0), .val (.ref b0), .val (.ref c13), .val (.int ((((own_at c13_xs (0 : Int32)) &&& (255 : Int32)) <<< ((8 : Int32) &&& 31)) ||| ((own_at c13_xs (1 : Int32)) &&& (255 : Int32))))] [(.int (v0 &&& (65535 : Int32))), (.int ((((own_at c13_xs (0 : Int32)) &&& (255 : Int32)) <<< ((8 : Int32) &&& 31)) ||| ((own_at c13_xs (1 : Int32)) &&& (255 : Int32))))])) _
        exact XS.icmpNo X0.here hx rfl (hb hby at_53) rfl (teq hc53).2 k
      refine Fin.by (B := T0.setTop (mkF m 61 #[.val (.int v0), .val (.ref b0), .val (.ref c13), .val (.int ((((own_at c13_xs (0 : Int32)) &&& (255 : Int32)) <<< ((8 : Int32) &&& 31)) ||| ((own_at c13_xs (1 : Int32)) &&& (255 : Int32))))] [(.int (1 : Int32))])) (fun t k => ?_) ?_
      · show Steps p.tables e below (T0.setTop (mkF m 56 #[.val (.int v0), .val (.ref b0), .val (.ref c13), .val (.int ((((own_at c13_xs (0 : Int32)) &&& (255 : Int32)) <<< ((8 : Int32) &&& 31)) ||| ((own_at c13_xs (1 : Int32)) &&& (255 : Int32))))] [])) _
        refine XS.iconst X0.here hx rfl (hb hby at_56) ?_
        show Steps p.tables e below (T0.setTop (mkF m 57 #[.val (.int v0), .val (.ref b0), .val (.ref c13), .val (.int ((((own_at c13_xs (0 : Int32)) &&& (255 : Int32)) <<< ((8 : Int32) &&& 31)) ||| ((own_at c13_xs (1 : Int32)) &&& (255 : Int32))))] [(.int (1 : Int32))])) _
        refine XS.goto X0.here hx rfl (pc0 := 57) (pc' := 61) rfl (hb hby at_57) (by decide) (by decide) ?_
        exact k
      subst hr
      exact own_retN X0 hx hlk (t := .boolean) hret (by simp) (hb hby at_61) (by decide) (by decide) ⟨rfl, N0⟩
    · rw [if_neg hc53] at hr
      refine Fin.by (B := T0.setTop (mkF m 60 #[.val (.int v0), .val (.ref b0), .val (.ref c13), .val (.int ((((own_at c13_xs (0 : Int32)) &&& (255 : Int32)) <<< ((8 : Int32) &&& 31)) ||| ((own_at c13_xs (1 : Int32)) &&& (255 : Int32))))] [])) (fun t k => ?_) ?_
      · show Steps p.tables e below (T0.setTop (mkF m 53 #[.val (.int v0), .val (.ref b0), .val (.ref c13), .val (.int ((((own_at c13_xs (0 : Int32)) &&& (255 : Int32)) <<< ((8 : Int32) &&& 31)) ||| ((own_at c13_xs (1 : Int32)) &&& (255 : Int32))))] [(.int (v0 &&& (65535 : Int32))), (.int ((((own_at c13_xs (0 : Int32)) &&& (255 : Int32)) <<< ((8 : Int32) &&& 31)) ||| ((own_at c13_xs (1 : Int32)) &&& (255 : Int32))))])) _
        exact XS.icmpYes X0.here hx rfl (pc0 := 53) (pc' := 60) rfl (hb hby at_53) rfl (feq hc53).2 (by decide) (by decide) k
      refine Fin.by (B := T0.setTop (mkF m 61 #[.val (.int v0), .val (.ref b0), .val (.ref c13), .val (.int ((((own_at c13_xs (0 : Int32)) &&& (255 : Int32)) <<< ((8 : Int32) &&& 31)) ||| ((own_at c13_xs (1 : Int32)) &&& (255 : Int32))))] [(.int (0 : Int32))])) (fun t k => ?_) ?_
      · show Steps p.tables e below (T0.setTop (mkF m 60 #[.val (.int v0), .val (.ref b0), .val (.ref c13), .val (.int ((((own_at c13_xs (0 : Int32)) &&& (255 : Int32)) <<< ((8 : Int32) &&& 31)) ||| ((own_at c13_xs (1 : Int32)) &&& (255 : Int32))))] [])) _
        refine XS.iconst X0.here hx rfl (hb hby at_60) ?_
        exact k
      subst hr
      exact own_retN X0 hx hlk (t := .boolean) hret (by simp) (hb hby at_61) (by decide) (by decide) ⟨rfl, N0⟩
  · rw [if_neg hc24] at hr
    refine Fin.by (B := T0.setTop (mkF m 27 #[.val (.int v0), .val (.ref b0), .val (.ref c13), .unset] [])) (fun t k => ?_) ?_
    · show Steps p.tables e below (T0.setTop (mkF m 24 #[.val (.int v0), .val (.ref b0), .val (.ref c13), .unset] [(.int (2 : Int32)), (.int (2 : Int32))])) _
      exact XS.icmpNo X0.here hx rfl (hb hby at_24) rfl (feq hc24).1 k
    refine Fin.by (B := T0.setTop (mkF m 28 #[.val (.int v0), .val (.ref b0), .val (.ref c13), .unset] [(.int (0 : Int32))])) (fun t k => ?_) ?_
    · show Steps p.tables e below (T0.setTop (mkF m 27 #[.val (.int v0), .val (.ref b0), .val (.ref c13), .unset] [])) _
      refine XS.iconst X0.here hx rfl (hb hby at_27) ?_
      exact k
    subst hr
    exact own_retN X0 hx hlk (t := .boolean) hret (by simp) (hb hby at_28) (by decide) (by decide) ⟨rfl, N0⟩
def f0_11 (v0 : Int32) (b0_statusWord : Int32) (b5_xs : List Int32) : Int32 := (f0_16 v0 b0_statusWord b5_xs (f3_0 b0_statusWord))
set_option maxRecDepth 65536 in
set_option maxHeartbeats 40000000 in
theorem b0_11 {p : Program} {l : Launch} {e : Env} {s : State} {m : MethodId} {args : Array Value} {below : List Frame} {meth : Method} {c : Code} {Z : State} {a0 : Array Value} (B : Ctx p Z s a0 m meth c "com/example/pure_mrtd/puremrtd/chip/ResponseStatusBytesPinLaw" "law" code 4 (some .boolean)) {T0 : State} {locs : List Loc} {h : Heap} (h0 : Heap) (n0 : Nat) (v0 : Int32) (b0 : Addr) (b5 : Addr) (b0_statusWord : Int32) (b5_k : ClassId) (b5_xs : List Int32) (X0 : Stand p l e room_1 s m args below meth c T0 locs 2 2) (e0 : T0.heap = h) (N0 : Fr n0 locs) (Z0 : n0 ≤ h.size) (E_b0 : Exa Z h b0 "com/example/pure_mrtd/puremrtd/chip/Response") (F_b0_data : Fld Z h b0 "com/example/pure_mrtd/puremrtd/chip/Response" "data" "[B" (.ref b5)) (F_b0_statusWord : Fld Z h b0 "com/example/pure_mrtd/puremrtd/chip/Response" "statusWord" "I" (.int b0_statusWord)) (g_b0 : n0 ≤ b0) (V_b5 : Arv Z h b5 b5_k .byte (0 : Int32) (b5_xs.map Value.int) (.int 0)) (ln_b5 : b5_xs.length = (0 : Int32).toNatClampNeg) (g_b5 : n0 ≤ b5) (ne_b0_b5 : b0 ≠ b5) (r : Int32) (hr : f0_11 v0 b0_statusWord b5_xs = r) :
    Fin p e below s 3 4 (Q0 n0 r) (T0.setTop (mkF m 11 #[.val (.int v0), .unset, .unset, .unset] [(.ref b0)])) := by
  obtain ⟨hx, hZ, hw, hby, hml, hret, hown, hnm, hlk⟩ := B
  unfold f0_11 at hr
  refine Fin.by (B := T0.setTop (mkF m 13 #[.val (.int v0), .val (.ref b0), .unset, .unset] [(.ref b0)])) (fun t k => ?_) ?_
  · show Steps p.tables e below (T0.setTop (mkF m 11 #[.val (.int v0), .unset, .unset, .unset] [(.ref b0)])) _
    refine XS.astoreN X0.here hx rfl (hb hby at_11) rfl rfl (l' := #[.val (.int v0), .val (.ref b0), .unset, .unset]) rfl ?_
    show Steps p.tables e below (T0.setTop (mkF m 12 #[.val (.int v0), .val (.ref b0), .unset, .unset] [])) _
    refine XS.aloadN X0.here hx rfl (hb hby at_12) rfl rfl ?_
    exact k
  -- pc 13: com/example/pure_mrtd/puremrtd/chip/Response.statusBytes
  obtain ⟨cq4, kq4, q4a, q4b, q4c⟩ := isOf hZ e0 E_b0
  obtain ⟨_, _, ⟨T4, L4, k4, n4⟩, -, X4, ⟨Lc4, hQ4, l4, y4, z4⟩, st4⟩ := X0.virtualBack hx (y := (⟨"com/example/pure_mrtd/puremrtd/chip/Response", "statusBytes", "()[B"⟩ : MethodName)) (z := (⟨"com/example/pure_mrtd/puremrtd/chip/Response", "statusBytes", "()[B"⟩ : MethodName)) hown (mvT hZ (hw _ (List.mem_of_getElem? (i := 14) rfl))) (mvT hZ (hw _ (List.mem_of_getElem? (i := 15) rfl))) (notFace_of_selects (args := #[]) (mvT hZ (hw _ (List.mem_of_getElem? (i := 17) rfl)))) (mvT hZ (hw _ (List.mem_of_getElem? (i := 17) rfl))) (mvT hZ (hw _ (List.mem_of_getElem? (i := 16) rfl))) (by decide) (backOf (W := 0) (rm3 l Z a0 hw [] b0 (.ref b5) b0_statusWord h n0 Z0 E_b0 F_b0_data F_b0_statusWord) hZ (hw _ (List.mem_of_getElem? (i := 18) rfl)) (hw _ (List.mem_of_getElem? (i := 2) rfl)) (by decide) (by decide)) q4a q4c (g := (mkF m 13 #[.val (.int v0), .val (.ref b0), .unset, .unset] [(.ref b0)])) rfl (by rw [hml]; rfl) (Steps.refl _) (argsL := []) (rest := []) (lenOf pd_1 rfl) rfl (by show 2 * 0 + _ ≤ _; exact Nat.le_of_eq rfl) (hb hby at_13) (fun _ _ => ⟨rfl, e0, (by decide : 2 + R3.cells ≤ _), (by decide : 2 + R3.slots ≤ _)⟩)
  dsimp only [Pt.U, Pt.locs, Pt.cells, Pt.slots] at X4 l4 y4 z4 st4 hQ4
  subst l4 y4 z4
  obtain ⟨c13, kb_4, rfl, Nq4, g_c13, szq4, Kq4, Vb_4, lnb_4⟩ := hQ4
  obtain ⟨h4, e4⟩ : ∃ z, T4.heap = z := ⟨_, rfl⟩
  rw [e4] at Kq4 Vb_4
  have N4 := Fr.app N0 Nq4
  have Z4 : n0 ≤ h4.size := Nat.le_trans Z0 Kq4.1
  have ne_b0_c13 : b0 ≠ c13 := Nat.ne_of_lt (Nat.lt_of_lt_of_le E_b0.lt szq4)
  have ne_b5_c13 : b5 ≠ c13 := Nat.ne_of_lt (Nat.lt_of_lt_of_le V_b5.lt szq4)
  have E_b0_4 := E_b0.keep Kq4
  have F_b0_data_4 := F_b0_data.keep Kq4 (by simp)
  have F_b0_statusWord_4 := F_b0_statusWord.keep Kq4 (by simp)
  have V_b5_4 := V_b5.keep Kq4 (by simp)
  refine Fin.by (B := T4.setTop (mkF m 16 #[.val (.int v0), .val (.ref b0), .unset, .unset] [(.ref c13)])) (fun t k => st4.trans k) ?_
  exact b0_16 ⟨hx, hZ, hw, hby, hml, hret, hown, hnm, hlk⟩ h0 n0 v0 b0 c13 b5 b0_statusWord b5_k b5_xs kb_4 (f3_0 b0_statusWord) X4 e4 N4 Z4 E_b0_4 F_b0_data_4 F_b0_statusWord_4 g_b0 V_b5_4 ln_b5 g_b5 Vb_4 lnb_4 g_c13 ne_b0_b5 ne_b0_c13 ne_b5_c13 _ hr
def f0_0 (v0 : Int32) : Int32 := (f0_11 v0 (f1_0 v0 (0 : Int32)) ([] : List Int32))
set_option maxRecDepth 65536 in
set_option maxHeartbeats 40000000 in
theorem b0_0 {p : Program} {l : Launch} {e : Env} {s : State} {m : MethodId} {args : Array Value} {below : List Frame} {meth : Method} {c : Code} {Z : State} {a0 : Array Value} (B : Ctx p Z s a0 m meth c "com/example/pure_mrtd/puremrtd/chip/ResponseStatusBytesPinLaw" "law" code 4 (some .boolean)) {T0 : State} {locs : List Loc} {h : Heap} (h0 : Heap) (n0 : Nat) (v0 : Int32) (X0 : Stand p l e room_1 s m args below meth c T0 locs 0 0) (e0 : T0.heap = h) (N0 : Fr n0 locs) (Z0 : n0 ≤ h.size) (r : Int32) (hr : f0_0 v0 = r) :
    Fin p e below s 3 4 (Q0 n0 r) (T0.setTop (mkF m 0 #[.val (.int v0), .unset, .unset, .unset] [])) := by
  obtain ⟨hx, hZ, hw, hby, hml, hret, hown, hnm, hlk⟩ := B
  unfold f0_0 at hr
  obtain ⟨T1, h1, X1, e1, X1e, A1, D1, -, st1⟩ := newO X0 hx hZ hown (hw _ (List.mem_of_getElem? (i := 0) rfl)) (hw _ (List.mem_of_getElem? (i := 1) rfl)) (hw _ (List.mem_of_getElem? (i := 2) rfl)) e0 (g := (mkF m 0 #[.val (.int v0), .unset, .unset, .unset] [])) rfl (hb hby at_0) (by decide) (by decide)
  obtain ⟨b0, g1⟩ : ∃ z, z = h.size := ⟨_, rfl⟩
  rw [← g1] at A1 D1 st1
  have g_b0 : n0 ≤ b0 := Nat.le_trans Z0 (Nat.le_of_eq g1.symm)
  have Z1 : n0 ≤ h1.size := Nat.le_trans Z0 X1e.1
  have E_b0_1 := A1
  have F_b0_data_1 : Fld Z h1 b0 "com/example/pure_mrtd/puremrtd/chip/Response" "data" "[B" .null := D1 (Or.inr (hw _ (List.mem_of_getElem? (i := 11) rfl))) (ty := (.array .byte)) (by decide)
  have F_b0_statusWord_1 : Fld Z h1 b0 "com/example/pure_mrtd/puremrtd/chip/Response" "statusWord" "I" (.int (0 : Int32)) := D1 (Or.inr (hw _ (List.mem_of_getElem? (i := 13) rfl))) (ty := .int) (by decide)
  refine Fin.by (B := T1.setTop (mkF m 3 #[.val (.int v0), .unset, .unset, .unset] [(.ref b0)])) (fun t k => st1 t k) ?_
  refine Fin.by (B := T1.setTop (mkF m 5 #[.val (.int v0), .unset, .unset, .unset] [(.int (0 : Int32)), (.ref b0), (.ref b0)])) (fun t k => ?_) ?_
  · show Steps p.tables e below (T1.setTop (mkF m 3 #[.val (.int v0), .unset, .unset, .unset] [(.ref b0)])) _
    refine XS.dup X1.here hx rfl (hb hby at_3) rfl rfl ?_
    show Steps p.tables e below (T1.setTop (mkF m 4 #[.val (.int v0), .unset, .unset, .unset] [(.ref b0), (.ref b0)])) _
    refine XS.iconst X1.here hx rfl (hb hby at_4) ?_
    exact k
  obtain ⟨T2, h2, k2, X2, e2, X2e, A2, st2⟩ := newP X1 hx hZ (hw _ (List.mem_of_getElem? (i := 3) rfl)) e1 (g := (mkF m 5 #[.val (.int v0), .unset, .unset, .unset] [(.int (0 : Int32)), (.ref b0), (.ref b0)])) rfl (hb hby at_5) rfl (by decide) (cap := 0) (by decide) (by decide) (by decide) (by decide)
  obtain ⟨b5, g2⟩ : ∃ z, z = h1.size := ⟨_, rfl⟩
  rw [← g2] at A2 st2
  have g_b5 : n0 ≤ b5 := Nat.le_trans Z1 (Nat.le_of_eq g2.symm)
  have ne_b0_b5 : b0 ≠ b5 := Nat.ne_of_lt (Nat.lt_of_lt_of_le E_b0_1.lt (Nat.le_of_eq g2.symm))
  have E_b0_2 := E_b0_1.ext X2e
  have F_b0_data_2 := F_b0_data_1.ext X2e
  have F_b0_statusWord_2 := F_b0_statusWord_1.ext X2e
  have Z2 : n0 ≤ h2.size := Nat.le_trans Z1 X2e.1
  obtain ⟨V_b5_2, ln_b5_2⟩ : Arv Z h2 b5 k2 .byte (0 : Int32) (([] : List Int32).map Value.int) (.int 0) ∧ ([] : List Int32).length = (0 : Int32).toNatClampNeg := own_newI A2 rfl (by decide) (xs := ([] : List Int32)) (by decide)
  refine Fin.by (B := T2.setTop (mkF m 7 #[.val (.int v0), .unset, .unset, .unset] [(.ref b5), (.ref b0), (.ref b0)])) (fun t k => st2 t k) ?_
  refine Fin.by (B := T2.setTop (mkF m 8 #[.val (.int v0), .unset, .unset, .unset] [(.int v0), (.ref b5), (.ref b0), (.ref b0)])) (fun t k => ?_) ?_
  · show Steps p.tables e below (T2.setTop (mkF m 7 #[.val (.int v0), .unset, .unset, .unset] [(.ref b5), (.ref b0), (.ref b0)])) _
    refine XS.iloadN X2.here hx rfl (hb hby at_7) rfl  ?_
    exact k
  -- pc 8: com/example/pure_mrtd/puremrtd/chip/Response.<init>
  obtain ⟨_, _, ⟨T3, L3, k3, n3⟩, -, X3, ⟨Lc3, hQ3, l3, y3, z3⟩, st3⟩ := X2.specialBack hx (y := (⟨"com/example/pure_mrtd/puremrtd/chip/Response", "<init>", "([BI)V"⟩ : MethodName)) rfl hown (mvT hZ (hw _ (List.mem_of_getElem? (i := 4) rfl))) (mvT hZ (hw _ (List.mem_of_getElem? (i := 5) rfl))) (mvT hZ (hw _ (List.mem_of_getElem? (i := 6) rfl))) (by decide) (backOf (W := 1) (rm1 l Z a0 hw [] b0 b5 v0 .null (0 : Int32) h2 n0 Z2 E_b0_2 F_b0_data_2 F_b0_statusWord_2 g_b0) hZ (hw _ (List.mem_of_getElem? (i := 6) rfl)) (hw _ (List.mem_of_getElem? (i := 2) rfl)) (by decide) (by decide)) (g := (mkF m 8 #[.val (.int v0), .unset, .unset, .unset] [(.int v0), (.ref b5), (.ref b0), (.ref b0)])) rfl (by rw [hml]; rfl) (Steps.refl _) (a := b0) (argsL := [(.ref b5), (.int v0)]) (rest := [(.ref b0)]) (lenOf pd_0 rfl) rfl (by show 2 * 0 + _ ≤ _; exact Nat.le_of_eq rfl) (hb hby at_8) (fun _ _ => ⟨rfl, e2, (by decide : 2 + R1.cells ≤ _), (by decide : 2 + R1.slots ≤ _)⟩)
  dsimp only [Pt.U, Pt.locs, Pt.cells, Pt.slots] at X3 l3 y3 z3 st3 hQ3
  subst l3 y3 z3
  obtain ⟨rfl, Nq3, Kq3, E_b0_3, F_b0_data_3, F_b0_statusWord_3⟩ := hQ3
  obtain ⟨h3, e3⟩ : ∃ z, T3.heap = z := ⟨_, rfl⟩
  rw [e3] at Kq3 E_b0_3 F_b0_data_3 F_b0_statusWord_3
  have N3 := Fr.app N0 Nq3
  have Z3 : n0 ≤ h3.size := Nat.le_trans Z2 Kq3.1
  have V_b5_3 := V_b5_2.keep Kq3 (ninS (Ne.symm ne_b0_b5) nin0)
  refine Fin.by (B := T3.setTop (mkF m 11 #[.val (.int v0), .unset, .unset, .unset] [(.ref b0)])) (fun t k => st3.trans k) ?_
  exact b0_11 ⟨hx, hZ, hw, hby, hml, hret, hown, hnm, hlk⟩ h0 n0 v0 b0 b5 (f1_0 v0 (0 : Int32)) k2 ([] : List Int32) X3 e3 N3 Z3 E_b0_3 F_b0_data_3 F_b0_statusWord_3 g_b0 V_b5_3 ln_b5_2 g_b5 ne_b0_b5 _ hr
theorem ef_0 (m : MethodId) (v0 : Int32) : entryFrame m #[(.int v0)] maxLocals = (mkF m 0 #[.val (.int v0), .unset, .unset, .unset] []) := by first | (simp [entryFrame, mkF, argsToLocals, Value.category, maxLocals]; done) | rfl
set_option maxRecDepth 65536 in
set_option maxHeartbeats 40000000 in
theorem rm0 (l : Launch) (Z : State) (a0 : Array Value) (hw : ∀ d ∈ tables_1, d.before a0 Z = true) (ws : List Jvm.Cond) (v0 : Int32) (h0 : Heap) (n0 : Nat) (Z0 : n0 ≤ h0.size) :
    MetFree l x (head1 (Jvm.Cond.code x code maxLocals ret :: ws) room_1) (fun a U => a = #[(.int v0)] ∧ Z.Warmed39 U.vm ∧ U.heap = h0) (fun _ _ _ _ _ => True) (fun _ U o U' => ∃ v L, o = .returned v ∧ (Q0 n0 (f0_0 v0)) v U'.heap L ∧ FrameEnd U o U' L 3 4) := by
  refine MetFree.of_bodySF (plainFor_of_name pn_0) hisR ?_
  intro p e s m args below meth c s₁ Bd hml0 hP hK
  obtain ⟨rfl, hZ, hh⟩ := hP
  have B : Ctx p Z s a0 m meth c "com/example/pure_mrtd/puremrtd/chip/ResponseStatusBytesPinLaw" "law" code 4 (some .boolean) := ⟨Bd.exec, hZ, hw, Bd.bytes, hml0, Bd.returns, findClass_of_methodNamed Bd.named, (name_of_methodNamed Bd.named Bd.method).1, Bd.notSynchronized⟩
  have X0 : Stand p l e room_1 s m #[(.int v0)] below meth c s₁ [] 0 0 := Stand.of_body Bd
  have e0 : s₁.heap = h0 := by rw [← hh, Bd.state]; rfl
  have K := Keep.refl h0 []
  show Fin p e below s 3 4 (Q0 n0 (f0_0 v0)) (s₁.setTop (entryFrame m #[(.int v0)] maxLocals))
  refine Fin.by (fun t k => castTop (ef_0 m v0) k) ?_
  exact b0_0 B h0 n0 v0 X0 e0 (Fr.nil n0) Z0  _ rfl

theorem own_bb (x : Int32) : ((x.toInt8.toInt32).toInt8.toInt32 &&& (255 : Int32)) = x &&& (255 : Int32) := by
  apply Int32.toInt_inj.mp
  have h1 := c_mask ((x.toInt8.toInt32).toInt8.toInt32) 255 8 (by decide) (by decide)
  have h2 := c_mask x 255 8 (by decide) (by decide)
  have h3 := c_i2b x; have h4 := c_i2b x.toInt8.toInt32
  omega
theorem own_law (x : Int32) : f0_0 x = 1 := by
  show f0_16 x x [] [(((x >>> ((8 : Int32) &&& 31)).toInt8.toInt32).toInt8.toInt32), ((x.toInt8.toInt32).toInt8.toInt32)] = 1
  unfold f0_16
  rw [if_pos rfl, if_pos]
  show ((((x >>> ((8 : Int32) &&& 31)).toInt8.toInt32).toInt8.toInt32 &&& (255 : Int32)) <<< ((8 : Int32) &&& 31)) ||| ((x.toInt8.toInt32).toInt8.toInt32 &&& (255 : Int32)) = x &&& (65535 : Int32)
  rw [own_bb, own_bb]
  apply Int32.toInt_inj.mp
  have h1 := c_ishr x 8 8 (by decide)
  have h2 := c_mask (x >>> ((8 : Int32) &&& 31)) 255 8 (by decide) (by decide)
  have h3 := c_ishl (x >>> ((8 : Int32) &&& 31) &&& 255) 8 8 (by decide)
  have h4 := c_mask x 255 8 (by decide) (by decide)
  have h5 := c_mask x 65535 16 (by decide) (by decide)
  have r1 := rng32 ((x >>> ((8 : Int32) &&& 31) &&& 255) <<< ((8 : Int32) &&& 31))
  have e : ((x >>> ((8 : Int32) &&& 31) &&& 255) <<< ((8 : Int32) &&& 31)).toInt = (x >>> ((8 : Int32) &&& 31) &&& 255).toInt * 256 := by omega
  have h6 := c_or ((x >>> ((8 : Int32) &&& 31) &&& 255) <<< ((8 : Int32) &&& 31)) (x &&& 255) 8 (by decide) 256 (by decide) (by omega) (by omega) (by omega)
  have r2 := rng32 ((x >>> ((8 : Int32) &&& 31) &&& 255) <<< ((8 : Int32) &&& 31) ||| x &&& 255)
  omega

set_option maxRecDepth 65536 in
set_option maxHeartbeats 40000000 in
theorem comes_1 {Post : Tables → Env → Array Value → State → Outcome → State → Prop} (hpost : ∀ tb e args s v u, (limb_1_1.after args s (.returned v) u = true ∧ limb_1_2.after args s (.returned v) u = true ∧ True) → FrameEnd s (.returned v) u (Jvm.fieldLocs frame_1_writes args s ++ Jvm.arrayLocs frame_1_arrays args s ++ Jvm.staticLocs frame_1_statics s) 16 128 → Post tb e args s (.returned v) u) :
    ArmFor flags0 classFile x code maxLocals ret World_1 tables_1 room_1 Calls_1 rest_1 Pre_1 Post := by
  intro l hfl _ _ p e ha hc hk s m args below hf hA hF happ hP
  obtain ⟨hcalls, hrest, hpre⟩ := hP
  obtain ⟨-, -, -, hnamed, -, -, -, hat⟩ := (Spec.applies_iff hf).mp happ
  obtain ⟨hg, hn⟩ := and_e (Cond.before_iff.mp (show (Jvm.Cond.and given_1 narrow_1).before args s = true from hpre))
  obtain ⟨gg1, gg2⟩ := and_e hg
  obtain ⟨w0, rfl⟩ : ∃ w0 : Value, args = #[w0] := by
    have hs : args.size = 1 := by simpa [Cond.value, given_1] using gg1
    obtain ⟨L⟩ := args
    match L, hs with
    | [w0], _ => exact ⟨w0, rfl⟩
  have hw := fun d (hd : d ∈ tables_1) => atoms_spec (ws := Jvm.Cond.code x code maxLocals ret :: tables_1) hat d (List.mem_cons_of_mem _ hd)
  have hfit : Fit s := fun {y c} hc i hi => by
    obtain ⟨ha, rfl⟩ := Array.getElem?_eq_some_iff.mp hc
    have q := List.all_eq_true.mp ((Array.all_eq_true_iff_forall_mem.mp hF) _ (Array.getElem_mem ha)) i (List.mem_range.mpr hi)
    simpa [Array.getElem?_eq_getElem hi] using q
  obtain ⟨i0, ei0⟩ := is_v gg2
  obtain rfl : w0 = (.int i0) := Option.some.inj ei0
  obtain ⟨n, o, h1, h2, h3, _, L, rfl, ⟨rfl, N⟩, hq⟩ := rm0 l s _ hw tables_1 i0 s.heap s.heap.size (Nat.le_refl _)  p e ha hc hk s m _ below hf ((Spec.applies_iff_loose hf).mp happ).1 ⟨rfl, State.Warmed39.refl s, rfl⟩ trivial
  refine ⟨n, _, h1, h2, h3, hpost _ _ _ _ _ _ ⟨Cond.after_iff.mpr rfl, Cond.after_iff.mpr (eq_i res_at (Term.int_eval (1)) (congrArg Value.int (own_law i0))), trivial⟩ ⟨hq.1, hq.2.1, (hq.2.2.sift fun y hy => Or.inr (N y hy)).mono (by decide) (by decide)⟩⟩
theorem main_1_1 : Claimed_1_1 := comes_1 fun _ _ _ _ _ _ h hF => ⟨h.1, hF⟩
theorem main_1_2 : Claimed_1_2 := comes_1 fun _ _ _ _ _ _ h hF => ⟨h.2.1, hF⟩
end Jvm.Pilot.@@N@@
namespace Jvm.Pilot.@@N@@
open Jvm Jvm.ClassFile Sem Op Lib Jvm.Free Jvm.Stand Jvm.Pilot.@@N@@.Jvm.D
/-! MADE BY PROGRAM (witnessworld.py) out of the Statement's table words and the real class files: 9 classes; the members and pool entries that the words name. The judged class is class 1, her method 1. -/
namespace start1
open Jvm.ClassFile
def u (s : String) : CpInfo := .utf8 (stringToUtf16 s)
/-- a pool by its gaps: so many unusable entries, then the entry; so many at the end -/
def gap : Nat → List CpInfo → List CpInfo
  | 0, r => r
  | n + 1, r => .unusable :: gap n r
def poolList (es : List (Nat × CpInfo)) (last : Nat) : List CpInfo := es.foldr (fun e r => gap e.1 (e.2 :: r)) (gap last [])
def pool (es : List (Nat × CpInfo)) (last : Nat) : Array CpInfo := ⟨poolList es last⟩
def fileOf (pool : Array CpInfo) (this : Nat) (attrs : Array Attribute := #[]) (ms : Array MethodInfo := #[]) (fl : Nat := 33) (sup : Nat := 0) (ifs : Array Nat := #[]) (fds : Array FieldInfo := #[]) : ClassFile where
  minorVersion := 0
  majorVersion := 65
  constantPool := pool
  accessFlags := fl
  thisClass := this
  superClass := sup
  interfaces := ifs
  fields := fds
  methods := ms
  attributes := attrs
def plain (name : String) (sup : Option ClassId) : Class where
  name := name
  kind := .ordinary
  loader := none
  accessFlags := 33
  super := sup
  interfaces := #[]
  cf := none
  fields := #[]
  methods := #[]
  instanceTypes := #[]
  staticTypes := #[]
  resolved := #[]
  callSites := []
  init := .initialized
  statics := none
  mirror := none

def pool0 : Array CpInfo := pool [(5, u "<init>"), (0, u "()V"), (1, .class_ 10), (1, u "java/lang/Object")] 113

def k0c0 : Code := { maxStack := 0, maxLocals := 1, code := object_method_1_code, exceptionTable := #[], attributes := #[] }
def k0m0 : Method := { name := "<init>", desc := "()V", sig := { parameters := [], returnType := none }, accessFlags := 1, code := some k0c0 }
/-- java/lang/Object -/
def k0 : Class := { plain "java/lang/Object" none with
  accessFlags := 33
  interfaces := #[]
  cf := some (fileOf pool0 8 #[] #[{ accessFlags := 1, nameIndex := 5, descriptorIndex := 6, attributes := #[] }] 33 0 #[] #[])
  fields := #[]
  methods := #[k0m0]
  instanceTypes := #[]
  staticTypes := #[]
  resolved := Array.replicate 124 none
  statics := none }

def pool1 : Array CpInfo := pool [(2, .class_ 4), (1, u "java/lang/Object"), (0, u "<init>"), (0, u "()V"), (0, .class_ 8), (0, u "com/example/pure_mrtd/puremrtd/chip/Response"), (0, .methodref 7 10), (0, .nameAndType 5 11), (0, u "([BI)V"), (0, .methodref 7 13), (0, .nameAndType 14 15), (0, u "statusBytes"), (0, u "()[B"), (0, .integer 65535), (0, .class_ 18), (0, u "com/example/pure_mrtd/puremrtd/chip/ResponseStatusBytesPinLaw"), (2, u "law"), (0, u "(I)Z")] 5

def k1m0 : Method := { name := "<init>", desc := "()V", sig := { parameters := [], returnType := none }, accessFlags := 1, code := none }
def k1c1 : Code := { maxStack := 4, maxLocals := 4, code := code, exceptionTable := #[], attributes := #[] }
def k1m1 : Method := { name := "law", desc := "(I)Z", sig := { parameters := [.int], returnType := some .boolean }, accessFlags := 9, code := some k1c1 }
/-- com/example/pure_mrtd/puremrtd/chip/ResponseStatusBytesPinLaw -/
def k1 : Class := { plain "com/example/pure_mrtd/puremrtd/chip/ResponseStatusBytesPinLaw" (some 0) with
  accessFlags := 49
  interfaces := #[]
  cf := some (fileOf pool1 17 #[] #[{ accessFlags := 1, nameIndex := 5, descriptorIndex := 6, attributes := #[] }, { accessFlags := 9, nameIndex := 21, descriptorIndex := 22, attributes := #[] }] 49 2 #[] #[])
  fields := #[]
  methods := #[k1m0, k1m1]
  instanceTypes := #[]
  staticTypes := #[]
  resolved := Array.replicate 28 none
  statics := none }

def pool2 : Array CpInfo := pool [(1, .methodref 2 3), (0, .class_ 4), (0, .nameAndType 5 6), (0, u "java/lang/Object"), (0, u "<init>"), (0, u "()V"), (0, .fieldref 8 9), (0, .class_ 10), (0, .nameAndType 11 12), (0, u "com/example/pure_mrtd/puremrtd/chip/Response"), (0, u "data"), (0, u "[B"), (0, .fieldref 8 14), (0, .nameAndType 15 16), (0, u "statusWord"), (0, u "I"), (2, u "NO_DATA"), (2, u "([BI)V"), (8, u "statusBytes"), (0, u "()[B")] 15

def k2c0 : Code := { maxStack := 2, maxLocals := 3, code := prog_3_method_1_code, exceptionTable := #[], attributes := #[] }
def k2m0 : Method := { name := "<init>", desc := "([BI)V", sig := { parameters := [(.array .byte), .int], returnType := none }, accessFlags := 0, code := some k2c0 }
def k2c1 : Code := { maxStack := 5, maxLocals := 1, code := prog_3_method_5_code, exceptionTable := #[], attributes := #[] }
def k2m1 : Method := { name := "statusBytes", desc := "()[B", sig := { parameters := [], returnType := some (.array .byte) }, accessFlags := 0, code := some k2c1 }
/-- com/example/pure_mrtd/puremrtd/chip/Response -/
def k2 : Class := { plain "com/example/pure_mrtd/puremrtd/chip/Response" (some 0) with
  accessFlags := 48
  interfaces := #[]
  cf := some (fileOf pool2 8 #[] #[{ accessFlags := 0, nameIndex := 5, descriptorIndex := 22, attributes := #[] }, { accessFlags := 0, nameIndex := 31, descriptorIndex := 32, attributes := #[] }] 48 2 #[] #[{ accessFlags := 26, nameIndex := 19, descriptorIndex := 12, attributes := #[] }, { accessFlags := 18, nameIndex := 11, descriptorIndex := 12, attributes := #[] }, { accessFlags := 18, nameIndex := 15, descriptorIndex := 16, attributes := #[] }])
  fields := #[{ name := "NO_DATA", type := (.array .byte), accessFlags := 26, slot := 0, constantValue := 0 }, { name := "data", type := (.array .byte), accessFlags := 18, slot := 0, constantValue := 0 }, { name := "statusWord", type := .int, accessFlags := 18, slot := 1, constantValue := 0 }]
  methods := #[k2m0, k2m1]
  instanceTypes := #[(.array .byte), .int]
  staticTypes := #[(.array .byte)]
  resolved := Array.replicate 48 none
  statics := none }

def pool3 : Array CpInfo := pool [(1, u "java/lang/Cloneable"), (0, .class_ 1), (0, u "java/lang/Object"), (0, .class_ 3)] 3

/-- java/lang/Cloneable -/
def k3 : Class := { plain "java/lang/Cloneable" (some 0) with
  accessFlags := 1537
  interfaces := #[]
  cf := some (fileOf pool3 2 #[] #[] 1537 4 #[] #[])
  fields := #[]
  methods := #[]
  instanceTypes := #[]
  staticTypes := #[]
  resolved := Array.replicate 8 none
  statics := none }

def pool4 : Array CpInfo := pool [(1, u "java/io/Serializable"), (0, .class_ 1), (0, u "java/lang/Object"), (0, .class_ 3)] 3

/-- java/io/Serializable -/
def k4 : Class := { plain "java/io/Serializable" (some 0) with
  accessFlags := 1537
  interfaces := #[]
  cf := some (fileOf pool4 2 #[] #[] 1537 4 #[] #[])
  fields := #[]
  methods := #[]
  instanceTypes := #[]
  staticTypes := #[]
  resolved := Array.replicate 8 none
  statics := none }

/-- the primitive byte -/
def k5 : Class := { plain "byte" none with kind := .primitive 'B', accessFlags := 0x411 }
/-- [B -/
def k6 : Class := { plain "[B" (some 0) with kind := .array 5 .byte, interfaces := #[3, 4], accessFlags := 1041 }

/-- the primitive int -/
def k7 : Class := { plain "int" none with kind := .primitive 'I', accessFlags := 0x411 }
/-- [I -/
def k8 : Class := { plain "[I" (some 0) with kind := .array 7 .int, interfaces := #[3, 4], accessFlags := 1041 }

def heap : Heap := #[]
def classes : Array Class := #[k0, k1, k2, k3, k4, k5, k6, k7, k8]
def interned : List (Array UInt16 × Addr) := []
def slotsUsed : Nat := 0
def theMethod : MethodId := ⟨1, 1⟩
def args0 : Array Value := #[.int 36864]
def aboutOver (below : List Frame) : State where
  vm := { classes := classes, interned := interned.toArray }
  heap := heap
  slotsUsed := slotsUsed
  threads := #[{ frames := .invoking theMethod args0 :: below }]
def below0 : List Frame := [.native { method := ⟨0, 0⟩, args := #[] }]
def about1 : State := aboutOver below0
def p0 : Program := .bare "" "" ""
def e0 : Env := launch0.env 0 0 0
theorem w_frames : about1.frames = Frame.invoking theMethod args0 :: below0 := rfl
set_option maxRecDepth 65536 in
theorem w_args : argsFit about1.vm theMethod args0 = true := by decide +kernel
set_option maxRecDepth 65536 in
theorem w_heap : heapFits about1 = true := by decide +kernel
set_option maxRecDepth 65536 in
theorem w_runnable : about1.curStatus? = some .runnable := by decide +kernel
set_option maxRecDepth 65536 in
theorem w_alone : about1.alone = true := by decide +kernel
set_option maxRecDepth 65536 in
theorem w_named : about1.methodNamed? x = some theMethod := by decide +kernel
set_option maxRecDepth 65536 in
theorem w_hears : about1.hears theMethod below0 = true := by decide +kernel
set_option maxRecDepth 65536 in
theorem w_ripe : about1.ripe theMethod args0 below0 = true := by decide +kernel
theorem w_running : about1.status = .running := rfl
set_option maxRecDepth 65536 in
theorem w_room : about1.hasRoom e0.platform room_1 = true :=
  launch0.hasRoom_least _ room_1 (by decide +kernel) (by decide +kernel) (by decide +kernel) (by decide +kernel) (by decide +kernel) (by decide +kernel)
theorem allAtoms_all (ts : List Jvm.Cond) (a : Array Jvm.Value) (st : Jvm.State) : (allAtoms ts).before a st = ts.all (fun c => c.before a st) := by
  induction ts with
  | nil => rfl
  | cons c t ih =>
    show (Jvm.Cond.and c (allAtoms t)).before a st = _
    rw [Jvm.Cond.before_and, ih, List.all_cons]
def words1 : List Jvm.Cond := Jvm.Cond.code x code maxLocals ret :: tables_1
/-- a 'code' word, met by the world's own term for the bytes: nothing is compared byte by byte -/
theorem code_word {y : MethodName} {bytes : ByteArray} {mx : Nat} {rt : Option FieldType} {a : Array Value} {s : State} {m : MethodId} {meth : Method} {c : Code} (h1 : s.methodNamed? y = some m) (h2 : s.vm.method? m = some meth) (h3 : meth.code = some c) (h4 : c.code = bytes)
    (h5 : (c.maxLocals == mx && c.exceptionTable.isEmpty && decide (c.maxStack ≤ mostOperands) && decide (meth.sig.returnType = rt) && !meth.locks && decide (parseMethodDescriptor y.desc = some meth.sig)) = true) : (Jvm.Cond.code y bytes mx rt).before a s = true := by
  simp only [Bool.and_eq_true, beq_iff_eq, Bool.not_eq_true', decide_eq_true_eq] at h5
  obtain ⟨⟨⟨⟨⟨g1, g2⟩, g3⟩, g4⟩, g5⟩, g6⟩ := h5
  simp [Cond.before, Cond.holds, Cond.value, h1, h2, h3, h4, g1, g2, g3, g4, g5, g6]
def isCode : Jvm.Cond → Bool
  | .code _ _ _ _ => true
  | _ => false
theorem all_split {L : List Jvm.Cond} {P : Jvm.Cond → Bool} (h1 : L.all (fun c => isCode c || P c) = true) (h2 : ∀ c ∈ L.filter isCode, P c = true) : L.all P = true := by
  refine List.all_eq_true.mpr fun c hc => ?_
  have h := List.all_eq_true.mp h1 c hc
  rcases Bool.eq_false_or_eq_true (isCode c) with hi | hi
  · exact h2 c (List.mem_filter.mpr ⟨hc, hi⟩)
  · simpa [hi] using h
set_option maxRecDepth 65536 in
theorem w_c0 : (Jvm.Cond.code x code maxLocals ret).before args0 about1 = true := code_word (m := ⟨1, 1⟩) (meth := k1m1) (c := k1c1) (by decide +kernel) rfl rfl rfl (by decide +kernel)
set_option maxRecDepth 65536 in
theorem w_c1 : (Jvm.Cond.code ({ cls := "com/example/pure_mrtd/puremrtd/chip/Response", name := "<init>", desc := "([BI)V" } : Jvm.MethodName) prog_3_method_1_code (3 : Nat) (Option.none : Option Jvm.ClassFile.FieldType)).before args0 about1 = true := code_word (m := ⟨2, 0⟩) (meth := k2m0) (c := k2c0) (by decide +kernel) rfl rfl rfl (by decide +kernel)
set_option maxRecDepth 65536 in
theorem w_c2 : (Jvm.Cond.code ({ cls := "java/lang/Object", name := "<init>", desc := "()V" } : Jvm.MethodName) object_method_1_code (1 : Nat) (Option.none : Option Jvm.ClassFile.FieldType)).before args0 about1 = true := code_word (m := ⟨0, 0⟩) (meth := k0m0) (c := k0c0) (by decide +kernel) rfl rfl rfl (by decide +kernel)
set_option maxRecDepth 65536 in
theorem w_c3 : (Jvm.Cond.code ({ cls := "com/example/pure_mrtd/puremrtd/chip/Response", name := "statusBytes", desc := "()[B" } : Jvm.MethodName) prog_3_method_5_code (1 : Nat) (Option.some (Jvm.ClassFile.FieldType.array Jvm.ClassFile.FieldType.byte))).before args0 about1 = true := code_word (m := ⟨2, 1⟩) (meth := k2m1) (c := k2c1) (by decide +kernel) rfl rfl rfl (by decide +kernel)
def codes1 : List Jvm.Cond := [Jvm.Cond.code x code maxLocals ret, Jvm.Cond.code ({ cls := "com/example/pure_mrtd/puremrtd/chip/Response", name := "<init>", desc := "([BI)V" } : Jvm.MethodName) prog_3_method_1_code (3 : Nat) (Option.none : Option Jvm.ClassFile.FieldType), Jvm.Cond.code ({ cls := "java/lang/Object", name := "<init>", desc := "()V" } : Jvm.MethodName) object_method_1_code (1 : Nat) (Option.none : Option Jvm.ClassFile.FieldType), Jvm.Cond.code ({ cls := "com/example/pure_mrtd/puremrtd/chip/Response", name := "statusBytes", desc := "()[B" } : Jvm.MethodName) prog_3_method_5_code (1 : Nat) (Option.some (Jvm.ClassFile.FieldType.array Jvm.ClassFile.FieldType.byte))]
set_option maxRecDepth 65536 in
theorem codes_eq : words1.filter isCode = codes1 := rfl
theorem w_codes : ∀ c ∈ words1.filter isCode, c.before args0 about1 = true := by
  rw [codes_eq]
  intro c hc
  simp only [codes1, List.mem_cons, List.not_mem_nil, or_false] at hc
  rcases hc with rfl | rfl | rfl | rfl
  · exact w_c0
  · exact w_c1
  · exact w_c2
  · exact w_c3
set_option maxRecDepth 65536 in
theorem w_t1 : words1.all (fun c => isCode c || c.before args0 about1) = true := by decide +kernel
theorem w_tables : (allAtoms (Jvm.Cond.code x code maxLocals ret :: tables_1)).before args0 about1 = true := by
  rw [allAtoms_all]
  show words1.all (fun c => c.before args0 about1) = true
  refine all_split ?_ w_codes
  rw [w_t1]
set_option maxRecDepth 65536 in
theorem w_case : (Jvm.Cond.and given_1 narrow_1).before args0 about1 = true := by decide +kernel
theorem w_applies : (headSpec (Jvm.Cond.code x code maxLocals ret :: tables_1) room_1).applies x e0.platform about1 = true :=
  (Spec.applies_iff w_frames).mpr ⟨w_running, w_runnable, w_alone, w_named, w_hears, w_ripe, w_room, w_tables⟩
theorem atStart : AtStart classFile x code maxLocals ret World_1 tables_1 room_1 Calls_1 rest_1 Pre_1 launch0 p0 e0 about1 theMethod args0 below0 :=
  ⟨lists_1, trivial, launch0.admits_env _ _ _, launch0.least_env, fairChoices_fair.cas, fairChoices_fair.clock, w_frames, w_args, w_heap, w_applies, trivial, trivial, w_case⟩
end start1
theorem witness_1 : WitnessClaimed_1 := ⟨start1.p0, start1.e0, start1.about1, start1.theMethod, start1.args0, start1.below0, start1.atStart⟩
end Jvm.Pilot.@@N@@
