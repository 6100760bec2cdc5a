import JvmDerived
import JvmDerived.Pilot.@@N@@Statement
import JvmDerived.Pilot.@@N@@Code
set_option linter.unusedVariables false
set_option linter.unusedSimpArgs false
namespace Jvm.RoadKit
open Sem ClassFile Op Lib Jvm.Stand Jvm.Free Jvm.LawKit
section New
variable {p : Program} {l : Launch} {e : Env} {R : Room} {s : State} {m : MethodId} {args : Array Value} {below : List Frame} {meth : Method} {c : Code} {T : State} {locs : List Loc} {cells slots : Nat}
theorem retI (X : Stand p l e R s m args below meth c T locs cells slots) (hx : p.tables.exec = Jvm.exec) {pc : Nat} {Ls : Array Slot} {z : Int32} {rest : List Value} (hret : meth.sig.returnType = some .int) (hd : decode c.code pc = .ok (.ireturn, 1)) {fs : List Frame}
    (hl : ∀ (f : JFrame) (acts : List Action), f.method = m → f.locked = none → f.entered = [] → (doReturn e (T.setTop f) acts (some (.int z))).1 = T.setFrames fs) : Steps p.tables e below (T.setTop (mkF m pc Ls (.int z :: rest))) (T.setFrames fs) := by
  have hm' : T.vm.method? m = some meth := X.method'
  have hn : narrow .int (.int z) = .int z := rfl
  show Steps p.tables e below (T.setTop { method := m, pc := pc, locals := Ls, stack := _ :: rest, locked := none }) _
  jvm_step X.here [X.here.top, hx, hd, hm', hret, hn]
  first | (intro acts; rw [hl _ acts rfl rfl rfl]) | rw [hl _ _ rfl rfl rfl]
  exact Steps.refl _
end New
end Jvm.RoadKit
namespace Jvm.Pilot.@@N@@
open Jvm Jvm.ClassFile Sem Op Lib Jvm.Free Jvm.Stand Jvm.LawKit Jvm.RoadKit Bundle Jvm.Pilot.@@N@@.Jvm.D
/-! what every block of a body's walk is given -/
def Ctx (p : Program) (Z s : State) (a0 : Array Value) (m : MethodId) (meth : Method) (c : Code) (own nm : String) (bytes : ByteArray) (maxl : Nat) (rt : Option FieldType) : Prop :=
  p.tables.exec = Jvm.exec ∧ Z.Warmed39 s.vm ∧ (∀ d ∈ tables_1, d.before a0 Z = true) ∧ c.code = bytes ∧ c.maxLocals = maxl ∧ meth.sig.returnType = rt ∧ s.vm.findClass own = some m.cls ∧ meth.name = nm ∧ meth.locks = false
/-- from the state A the body's run ends, returns, and leaves what Q says -/
def Fin (p : Program) (e : Env) (below : List Frame) (s : State) (cells slots : Nat) (Q : Option Value → Heap → List Loc → Prop) (A : State) : Prop :=
  ∃ s₂ o, Steps p.tables e below A s₂ ∧ s₂.status = .running ∧ Ended s₂ below o ∧ ∃ v L, o = .returned v ∧ Q v s₂.heap L ∧ FrameEnd s o s₂ L cells slots
section Ends
variable {p : Program} {l : Launch} {e : Env} {R : Room} {s : State} {m : MethodId} {args : Array Value} {below : List Frame} {meth : Method} {c : Code} {T : State} {locs : List Loc} {cells slots : Nat} {C S : Nat} {Q : Option Value → Heap → List Loc → Prop}
theorem Fin.by {A B : State} (h : ∀ t, Steps p.tables e below B t → Steps p.tables e below A t) (k : Fin p e below s C S Q B) : Fin p e below s C S Q A := by
  obtain ⟨s₂, o, h1, r⟩ := k
  exact ⟨s₂, o, h _ h1, r⟩
theorem own_retI (X : Stand p l e R s m args below meth c T locs cells slots) (hx : p.tables.exec = Jvm.exec) (hlk : meth.locks = false) {pc : Nat} {Ls : Array Slot} {z : Int32} {rest : List Value} (hret : meth.sig.returnType = some .int) (hd : decode c.code pc = .ok (.ireturn, 1)) (hc : cells ≤ C) (hs : slots ≤ S)
    (hq : Q (some (.int z)) T.heap locs) : Fin p e below s C S Q (T.setTop (mkF m pc Ls (.int z :: rest))) := by
  obtain ⟨fs, hr, hrun, hended, hW, hsame⟩ := X.leave (v := some (.int z)) (fun h => by rw [hret] at h; cases h) hlk
  exact ⟨_, _, retI X hx hret hd hr, hrun, hended, _, _, rfl, hq, ⟨_, rfl⟩, hW, hsame.mono hc hs⟩
theorem own_retN (X : Stand p l e R s m args below meth c T locs cells slots) (hx : p.tables.exec = Jvm.exec) (hlk : meth.locks = false) {pc : Nat} {Ls : Array Slot} {z : Int32} {rest : List Value} {t : FieldType} (hret : meth.sig.returnType = some t) (ht : t = .boolean ∨ t = .byte ∨ t = .char ∨ t = .short) (hd : decode c.code pc = .ok (.ireturn, 1)) (hc : cells ≤ C) (hs : slots ≤ S)
    (hq : Q (some (.int (nar t z))) T.heap locs) : Fin p e below s C S Q (T.setTop (mkF m pc Ls (.int z :: rest))) := by
  obtain ⟨fs, hr, hrun, hended, hW, hsame⟩ := X.leave (v := some (.int (nar t z))) (fun h => by rw [hret] at h; cases h) hlk
  exact ⟨_, _, retN X hx hret ht hd hr, hrun, hended, _, _, rfl, hq, ⟨_, rfl⟩, hW, hsame.mono hc hs⟩
theorem own_retJ (X : Stand p l e R s m args below meth c T locs cells slots) (hx : p.tables.exec = Jvm.exec) (hlk : meth.locks = false) {pc : Nat} {Ls : Array Slot} {z : Int64} (hret : meth.sig.returnType = some .long) (hd : decode c.code pc = .ok (.lreturn, 1)) (hc : cells ≤ C) (hs : slots ≤ S)
    (hq : Q (some (.long z)) T.heap locs) : Fin p e below s C S Q (T.setTop (mkF m pc Ls [.long z])) := by
  obtain ⟨fs, hr, hrun, hended, hW, hsame⟩ := X.leave (v := some (.long z)) (fun h => by rw [hret] at h; cases h) hlk
  exact ⟨_, _, X.lreturnOut hx hret hd hr, hrun, hended, _, _, rfl, hq, ⟨_, rfl⟩, hW, hsame.mono hc hs⟩
theorem own_retR (X : Stand p l e R s m args below meth c T locs cells slots) (hx : p.tables.exec = Jvm.exec) (hlk : meth.locks = false) {pc : Nat} {Ls : Array Slot} {z : Addr} {t : FieldType} (hret : meth.sig.returnType = some t) (ht : t.isReference = true) (hd : decode c.code pc = .ok (.areturn, 1)) (hc : cells ≤ C) (hs : slots ≤ S)
    (hq : Q (some (.ref z)) T.heap locs) : Fin p e below s C S Q (T.setTop (mkF m pc Ls [.ref z])) := by
  obtain ⟨fs, hr, hrun, hended, hW, hsame⟩ := X.leave (v := some (.ref z)) (fun h => by rw [hret] at h; cases h) hlk
  exact ⟨_, _, X.areturnOut hx rfl hret ht hd hr, hrun, hended, _, _, rfl, hq, ⟨_, rfl⟩, hW, hsame.mono hc hs⟩
theorem own_ret0 (X : Stand p l e R s m args below meth c T locs cells slots) (hx : p.tables.exec = Jvm.exec) (hlk : meth.locks = false) {pc : Nat} {Ls : Array Slot} (hret : meth.sig.returnType = none) (hd : decode c.code pc = .ok (.return_, 1)) (hc : cells ≤ C) (hs : slots ≤ S)
    (hq : Q none T.heap locs) : Fin p e below s C S Q (T.setTop (mkF m pc Ls [])) := by
  obtain ⟨fs, hr, hrun, hended, hW, hsame⟩ := X.leave (v := none) (fun _ => rfl) hlk
  exact ⟨_, _, X.returnOut hx hret hd hr, hrun, hended, _, _, rfl, hq, ⟨_, rfl⟩, hW, hsame.mono hc hs⟩
end Ends
section Arrays
variable {Z : State} {h h' : Heap} {a : Addr} {k : ClassId} {ty : FieldType} {n j : Int32} {vs : List Value} {d : Value}
/-- what an array of ints holds at the place j -/
def own_at (xs : List Int32) (j : Int32) : Int32 := xs.getD j.toNatClampNeg 0
def own_atJ (xs : List Int64) (j : Int32) : Int64 := xs.getD j.toNatClampNeg 0
theorem own_mapD (xs : List Int32) (i : Nat) : (xs.map Value.int).getD i (.int 0) = .int (xs.getD i 0) := by
  rw [List.getD_eq_getElem?_getD, List.getD_eq_getElem?_getD, List.getElem?_map]; cases xs[i]? <;> rfl
theorem own_mapDJ (xs : List Int64) (i : Nat) : (xs.map Value.long).getD i (.long 0) = .long (xs.getD i 0) := by
  rw [List.getD_eq_getElem?_getD, List.getD_eq_getElem?_getD, List.getElem?_map]; cases xs[i]? <;> rfl
theorem own_open (V : Arv Z h a k ty n vs d) (hj : ¬ (j < 0) ∧ j < n) : ∃ cl, Arr Z h a cl ty ∧ ¬ (j < 0 ∨ cl.slots.size ≤ j.toNatClampNeg) ∧ True := by
  obtain ⟨cl, Ar, -, S, -, -, -⟩ := V
  exact ⟨cl, Ar, inb_of S hj, trivial⟩
theorem own_readI {xs : List Int32} (V : Arv Z h a k ty n (xs.map Value.int) (.int 0)) (hj : ¬ (j < 0) ∧ j < n) (i : Nat) (hi : j.toNatClampNeg = i) : ∃ cl, Arr Z h a cl ty ∧ ¬ (j < 0 ∨ cl.slots.size ≤ j.toNatClampNeg) ∧ cl.slots[j.toNatClampNeg]? = some (.int (xs.getD i 0)) := by
  obtain ⟨cl, Ar, -, S, -, H, -⟩ := V
  have q := inb_of S hj
  refine ⟨cl, Ar, q, ?_⟩
  rw [H _ (Nat.lt_of_not_le fun y => q (Or.inr y)), own_mapD, hi]
theorem own_readJ {xs : List Int64} (V : Arv Z h a k ty n (xs.map Value.long) (.long 0)) (hj : ¬ (j < 0) ∧ j < n) (i : Nat) (hi : j.toNatClampNeg = i) : ∃ cl, Arr Z h a cl ty ∧ ¬ (j < 0 ∨ cl.slots.size ≤ j.toNatClampNeg) ∧ cl.slots[j.toNatClampNeg]? = some (.long (xs.getD i 0)) := by
  obtain ⟨cl, Ar, -, S, -, H, -⟩ := V
  have q := inb_of S hj
  refine ⟨cl, Ar, q, ?_⟩
  rw [H _ (Nat.lt_of_not_le fun y => q (Or.inr y)), own_mapDJ, hi]
theorem own_setI {xs : List Int32} {v : Int32} (V : Arv Z h a k ty n (xs.map Value.int) (.int 0)) (ln : xs.length = n.toNatClampNeg) (hj : ¬ (j < 0) ∧ j < n) (W : Wr h h' a j.toNatClampNeg (.int v)) (hf : fits ty (.int v) = true) (i : Nat) (hi : j.toNatClampNeg = i) :
    Arv Z h' a k ty n ((xs.set i v).map Value.int) (.int 0) ∧ (xs.set i v).length = n.toNatClampNeg := by
  subst hi
  obtain ⟨cl, Ar, q1, S, q3, H, G⟩ := V
  have q := inb_of S hj
  have W2 := Arv.set Ar q1 S q3 H G hf W j.toNatClampNeg rfl (by rw [List.length_map, ln, ← S]; exact Nat.lt_of_not_le fun y => q (Or.inr y))
  rw [List.map_set]
  exact ⟨W2, by rw [List.length_set]; exact ln⟩
theorem own_setJ {xs : List Int64} {v : Int64} (V : Arv Z h a k ty n (xs.map Value.long) (.long 0)) (ln : xs.length = n.toNatClampNeg) (hj : ¬ (j < 0) ∧ j < n) (W : Wr h h' a j.toNatClampNeg (.long v)) (hf : fits ty (.long v) = true) (i : Nat) (hi : j.toNatClampNeg = i) :
    Arv Z h' a k ty n ((xs.set i v).map Value.long) (.long 0) ∧ (xs.set i v).length = n.toNatClampNeg := by
  subst hi
  obtain ⟨cl, Ar, q1, S, q3, H, G⟩ := V
  have q := inb_of S hj
  have W2 := Arv.set Ar q1 S q3 H G hf W j.toNatClampNeg rfl (by rw [List.length_map, ln, ← S]; exact Nat.lt_of_not_le fun y => q (Or.inr y))
  rw [List.map_set]
  exact ⟨W2, by rw [List.length_set]; exact ln⟩
theorem own_newI (A : Arr Z h a (newA k ty n) ty) (hd : defaultValue ty = .int 0) (q : ¬ n < 0) {xs : List Int32} (hxs : xs = List.replicate n.toNatClampNeg 0) : Arv Z h a k ty n (xs.map Value.int) (.int 0) ∧ xs.length = n.toNatClampNeg := by
  subst hxs
  have V := Arv.new A q
  rw [hd] at V
  have V2 := V.pad (pad_rep [] (.int 0) n.toNatClampNeg)
  rw [List.map_replicate]
  exact ⟨V2, by rw [List.length_replicate]⟩
theorem own_newJ (A : Arr Z h a (newA k ty n) ty) (hd : defaultValue ty = .long 0) (q : ¬ n < 0) {xs : List Int64} (hxs : xs = List.replicate n.toNatClampNeg 0) : Arv Z h a k ty n (xs.map Value.long) (.long 0) ∧ xs.length = n.toNatClampNeg := by
  subst hxs
  have V := Arv.new A q
  rw [hd] at V
  have V2 := V.pad (pad_rep [] (.long 0) n.toNatClampNeg)
  rw [List.map_replicate]
  exact ⟨V2, by rw [List.length_replicate]⟩
end Arrays
theorem d1_0 : decode prog_37_method_2_code 0 = .ok (.iload_n 0, 1) := by decide +kernel
theorem d1_1 : decode prog_37_method_2_code 1 = .ok (.sipush 224, 3) := by decide +kernel
theorem d1_4 : decode prog_37_method_2_code 4 = .ok (.iand, 1) := by decide +kernel
theorem d1_5 : decode prog_37_method_2_code 5 = .ok (.sipush 192, 3) := by decide +kernel
theorem d1_8 : decode prog_37_method_2_code 8 = .ok (.if_icmp .ne 7, 3) := by decide +kernel
theorem d1_11 : decode prog_37_method_2_code 11 = .ok (.iconst 2, 1) := by decide +kernel
theorem d1_12 : decode prog_37_method_2_code 12 = .ok (.goto 19, 3) := by decide +kernel
theorem d1_15 : decode prog_37_method_2_code 15 = .ok (.iload_n 0, 1) := by decide +kernel
theorem d1_16 : decode prog_37_method_2_code 16 = .ok (.sipush 240, 3) := by decide +kernel
theorem d1_19 : decode prog_37_method_2_code 19 = .ok (.iand, 1) := by decide +kernel
theorem d1_20 : decode prog_37_method_2_code 20 = .ok (.sipush 224, 3) := by decide +kernel
theorem d1_23 : decode prog_37_method_2_code 23 = .ok (.if_icmp .ne 7, 3) := by decide +kernel
theorem d1_26 : decode prog_37_method_2_code 26 = .ok (.iconst 3, 1) := by decide +kernel
theorem d1_27 : decode prog_37_method_2_code 27 = .ok (.goto 4, 3) := by decide +kernel
theorem d1_30 : decode prog_37_method_2_code 30 = .ok (.iconst 4, 1) := by decide +kernel
theorem d1_31 : decode prog_37_method_2_code 31 = .ok (.ireturn, 1) := by decide +kernel
theorem pn_1 : plainName "com/example/tallywick/tallywick/input/Utf8" = true := by first | (simp [plainName, overriddenIn]; done) | decide +kernel
def R1 : Room := { frames := 0, cells := 0, slots := 0, locals := 0 }
def Q1 (Z : State)  (h0 : Heap) (n0 : Nat) (r : Int32) (v : Option Value) (h : Heap) (L : List Loc) : Prop := v = some (.int r) ∧ Fr n0 L ∧ h = h0
def f1_0 (v0 : Int32) : Int32 := (if (v0 &&& (224 : Int32)) = (192 : Int32) then (2 : Int32) else (if (v0 &&& (240 : Int32)) = (224 : Int32) then (3 : Int32) else (4 : Int32)))
set_option maxRecDepth 65536 in
set_option maxHeartbeats 40000000 in
theorem b1_0 {p : Program} {l : Launch} {e : Env} {s : State} {m : MethodId} {args : Array Value} {below : List Frame} {meth : Method} {c : Code} {Z : State} {a0 : Array Value} (B : Ctx p Z s a0 m meth c "com/example/tallywick/tallywick/input/Utf8" "sequenceLength" prog_37_method_2_code 1 (some .int)) {T0 : State} {locs : List Loc} {h : Heap} (h0 : Heap) (n0 : Nat) (v0 : Int32) (X0 : Stand p l e R1 s m args below meth c T0 locs 0 0) (e0 : T0.heap = h) (N0 : Fr n0 locs) (Z0 : n0 ≤ h.size) (hh0 : h = h0) (r : Int32) (hr : f1_0 v0 = r) :
    Fin p e below s R1.cells R1.slots (Q1 Z  h0 n0 r) (T0.setTop (mkF m 0 #[.val (.int v0)] [])) := by
  obtain ⟨hx, hZ, hw, hby, hml, hret, hown, hnm, hlk⟩ := B
  unfold f1_0 at hr
  refine Fin.by (B := T0.setTop (mkF m 8 #[.val (.int v0)] [(.int (192 : Int32)), (.int (v0 &&& (224 : Int32)))])) (fun t k => ?_) ?_
  · show Steps p.tables e below (T0.setTop (mkF m 0 #[.val (.int v0)] [])) _
    refine XS.iloadN X0.here hx rfl (hb hby d1_0) rfl  ?_
    show Steps p.tables e below (T0.setTop (mkF m 1 #[.val (.int v0)] [(.int v0)])) _
    refine XS.sipush X0.here hx rfl (hb hby d1_1) ?_
    show Steps p.tables e below (T0.setTop (mkF m 4 #[.val (.int v0)] [(.int (224 : Int32)), (.int v0)])) _
    refine XS.iand X0.here hx rfl (hb hby d1_4) rfl ?_
    show Steps p.tables e below (T0.setTop (mkF m 5 #[.val (.int v0)] [(.int (v0 &&& (224 : Int32)))])) _
    refine XS.sipush X0.here hx rfl (hb hby d1_5) ?_
    exact k
  by_cases hc8 : (v0 &&& (224 : Int32)) = (192 : Int32)
  · rw [if_pos hc8] at hr
    refine Fin.by (B := T0.setTop (mkF m 11 #[.val (.int v0)] [])) (fun t k => ?_) ?_
    · show Steps p.tables e below (T0.setTop (mkF m 8 #[.val (.int v0)] [(.int (192 : Int32)), (.int (v0 &&& (224 : Int32)))])) _
      exact XS.icmpNo X0.here hx rfl (hb hby d1_8) rfl (teq hc8).2 k
    refine Fin.by (B := T0.setTop (mkF m 31 #[.val (.int v0)] [(.int (2 : Int32))])) (fun t k => ?_) ?_
    · show Steps p.tables e below (T0.setTop (mkF m 11 #[.val (.int v0)] [])) _
      refine XS.iconst X0.here hx rfl (hb hby d1_11) ?_
      show Steps p.tables e below (T0.setTop (mkF m 12 #[.val (.int v0)] [(.int (2 : Int32))])) _
      refine XS.goto X0.here hx rfl (pc0 := 12) (pc' := 31) rfl (hb hby d1_12) (by decide) (by decide) ?_
      exact k
    subst hr
    exact own_retI X0 hx hlk hret (hb hby d1_31) (by decide) (by decide) ⟨rfl, N0, (e0.trans hh0)⟩
  · rw [if_neg hc8] at hr
    refine Fin.by (B := T0.setTop (mkF m 15 #[.val (.int v0)] [])) (fun t k => ?_) ?_
    · show Steps p.tables e below (T0.setTop (mkF m 8 #[.val (.int v0)] [(.int (192 : Int32)), (.int (v0 &&& (224 : Int32)))])) _
      exact XS.icmpYes X0.here hx rfl (pc0 := 8) (pc' := 15) rfl (hb hby d1_8) rfl (feq hc8).2 (by decide) (by decide) k
    refine Fin.by (B := T0.setTop (mkF m 23 #[.val (.int v0)] [(.int (224 : Int32)), (.int (v0 &&& (240 : Int32)))])) (fun t k => ?_) ?_
    · show Steps p.tables e below (T0.setTop (mkF m 15 #[.val (.int v0)] [])) _
      refine XS.iloadN X0.here hx rfl (hb hby d1_15) rfl  ?_
      show Steps p.tables e below (T0.setTop (mkF m 16 #[.val (.int v0)] [(.int v0)])) _
      refine XS.sipush X0.here hx rfl (hb hby d1_16) ?_
      show Steps p.tables e below (T0.setTop (mkF m 19 #[.val (.int v0)] [(.int (240 : Int32)), (.int v0)])) _
      refine XS.iand X0.here hx rfl (hb hby d1_19) rfl ?_
      show Steps p.tables e below (T0.setTop (mkF m 20 #[.val (.int v0)] [(.int (v0 &&& (240 : Int32)))])) _
      refine XS.sipush X0.here hx rfl (hb hby d1_20) ?_
      exact k
    by_cases hc23 : (v0 &&& (240 : Int32)) = (224 : Int32)
    · rw [if_pos hc23] at hr
      refine Fin.by (B := T0.setTop (mkF m 26 #[.val (.int v0)] [])) (fun t k => ?_) ?_
      · show Steps p.tables e below (T0.setTop (mkF m 23 #[.val (.int v0)] [(.int (224 : Int32)), (.int (v0 &&& (240 : Int32)))])) _
        exact XS.icmpNo X0.here hx rfl (hb hby d1_23) rfl (teq hc23).2 k
      refine Fin.by (B := T0.setTop (mkF m 31 #[.val (.int v0)] [(.int (3 : Int32))])) (fun t k => ?_) ?_
      · show Steps p.tables e below (T0.setTop (mkF m 26 #[.val (.int v0)] [])) _
        refine XS.iconst X0.here hx rfl (hb hby d1_26) ?_
        show Steps p.tables e below (T0.setTop (mkF m 27 #[.val (.int v0)] [(.int (3 : Int32))])) _
        refine XS.goto X0.here hx rfl (pc0 := 27) (pc' := 31) rfl (hb hby d1_27) (by decide) (by decide) ?_
        exact k
      subst hr
      exact own_retI X0 hx hlk hret (hb hby d1_31) (by decide) (by decide) ⟨rfl, N0, (e0.trans hh0)⟩
    · rw [if_neg hc23] at hr
      refine Fin.by (B := T0.setTop (mkF m 30 #[.val (.int v0)] [])) (fun t k => ?_) ?_
      · show Steps p.tables e below (T0.setTop (mkF m 23 #[.val (.int v0)] [(.int (224 : Int32)), (.int (v0 &&& (240 : Int32)))])) _
        exact XS.icmpYes X0.here hx rfl (pc0 := 23) (pc' := 30) rfl (hb hby d1_23) rfl (feq hc23).2 (by decide) (by decide) k
      refine Fin.by (B := T0.setTop (mkF m 31 #[.val (.int v0)] [(.int (4 : Int32))])) (fun t k => ?_) ?_
      · show Steps p.tables e below (T0.setTop (mkF m 30 #[.val (.int v0)] [])) _
        refine XS.iconst X0.here hx rfl (hb hby d1_30) ?_
        exact k
      subst hr
      exact own_retI X0 hx hlk hret (hb hby d1_31) (by decide) (by decide) ⟨rfl, N0, (e0.trans hh0)⟩
theorem ef_1 (m : MethodId) (v0 : Int32) : entryFrame m #[(.int v0)] 1 = (mkF m 0 #[.val (.int v0)] []) := by first | (simp [entryFrame, mkF, argsToLocals, Value.category]; done) | rfl
set_option maxRecDepth 65536 in
set_option maxHeartbeats 40000000 in
theorem rm1 (l : Launch) (Z : State) (a0 : Array Value) (hw : ∀ d ∈ tables_1, d.before a0 Z = true) (ws : List Jvm.Cond) (v0 : Int32) (h0 : Heap) (n0 : Nat) (Z0 : n0 ≤ h0.size) :
    MetFree l (⟨"com/example/tallywick/tallywick/input/Utf8", "sequenceLength", "(I)I"⟩ : MethodName) (head1 (Jvm.Cond.code (⟨"com/example/tallywick/tallywick/input/Utf8", "sequenceLength", "(I)I"⟩ : MethodName) prog_37_method_2_code 1 (some .int) :: ws) R1) (fun a U => a = #[(.int v0)] ∧ Z.Warmed39 U.vm ∧ U.heap = h0) (fun _ _ _ _ _ => True) (fun _ U o U' => ∃ v L, o = .returned v ∧ (Q1 Z  h0 n0 (f1_0 v0)) v U'.heap L ∧ FrameEnd U o U' L R1.cells R1.slots) := by
  refine MetFree.of_bodySF (plainFor_of_name pn_1) hisR ?_
  intro p e s m args below meth c s₁ Bd hml0 hP hK
  obtain ⟨rfl, hZ, hh⟩ := hP
  have B : Ctx p Z s a0 m meth c "com/example/tallywick/tallywick/input/Utf8" "sequenceLength" prog_37_method_2_code 1 (some .int) := ⟨Bd.exec, hZ, hw, Bd.bytes, hml0, Bd.returns, findClass_of_methodNamed Bd.named, (name_of_methodNamed Bd.named Bd.method).1, Bd.notSynchronized⟩
  have X0 : Stand p l e R1 s m #[(.int v0)] below meth c s₁ [] 0 0 := Stand.of_body Bd
  have e0 : s₁.heap = h0 := by rw [← hh, Bd.state]; rfl
  have K := Keep.refl h0 []
  show Fin p e below s R1.cells R1.slots (Q1 Z  h0 n0 (f1_0 v0)) (s₁.setTop (entryFrame m #[(.int v0)] 1))
  refine Fin.by (fun t k => castTop (ef_1 m v0) k) ?_
  exact b1_0 B h0 n0 v0 X0 e0 (Fr.nil n0) Z0 rfl  _ rfl
theorem pd_0 : parseMethodDescriptor "(I)I" = some ⟨[.int], some .int⟩ := by decide +kernel
theorem d2_0 : decode method_2_code 0 = .ok (.iload_n 0, 1) := by decide +kernel
theorem d2_1 : decode method_2_code 1 = .ok (.sipush 255, 3) := by decide +kernel
theorem d2_4 : decode method_2_code 4 = .ok (.iand, 1) := by decide +kernel
theorem d2_5 : decode method_2_code 5 = .ok (.istore_n 1, 1) := by decide +kernel
theorem d2_6 : decode method_2_code 6 = .ok (.iload_n 1, 1) := by decide +kernel
theorem d2_7 : decode method_2_code 7 = .ok (.sipush 192, 3) := by decide +kernel
theorem d2_10 : decode method_2_code 10 = .ok (.if_icmp .lt 12, 3) := by decide +kernel
theorem d2_13 : decode method_2_code 13 = .ok (.iload_n 1, 1) := by decide +kernel
theorem d2_14 : decode method_2_code 14 = .ok (.sipush 223, 3) := by decide +kernel
theorem d2_17 : decode method_2_code 17 = .ok (.if_icmp .gt 5, 3) := by decide +kernel
theorem d2_20 : decode method_2_code 20 = .ok (.iconst 2, 1) := by decide +kernel
theorem d2_21 : decode method_2_code 21 = .ok (.ireturn, 1) := by decide +kernel
theorem d2_22 : decode method_2_code 22 = .ok (.iload_n 1, 1) := by decide +kernel
theorem d2_23 : decode method_2_code 23 = .ok (.sipush 224, 3) := by decide +kernel
theorem d2_26 : decode method_2_code 26 = .ok (.if_icmp .lt 12, 3) := by decide +kernel
theorem d2_29 : decode method_2_code 29 = .ok (.iload_n 1, 1) := by decide +kernel
theorem d2_30 : decode method_2_code 30 = .ok (.sipush 239, 3) := by decide +kernel
theorem d2_33 : decode method_2_code 33 = .ok (.if_icmp .gt 5, 3) := by decide +kernel
theorem d2_36 : decode method_2_code 36 = .ok (.iconst 3, 1) := by decide +kernel
theorem d2_37 : decode method_2_code 37 = .ok (.ireturn, 1) := by decide +kernel
theorem d2_38 : decode method_2_code 38 = .ok (.iconst 4, 1) := by decide +kernel
theorem d2_39 : decode method_2_code 39 = .ok (.ireturn, 1) := by decide +kernel
theorem pn_2 : plainName "com/example/tallywick/tallywick/input/Utf8SequenceLengthPinLaw" = true := by first | (simp [plainName, overriddenIn]; done) | decide +kernel
def R2 : Room := { frames := 0, cells := 0, slots := 0, locals := 0 }
def Q2 (Z : State)  (h0 : Heap) (n0 : Nat) (r : Int32) (v : Option Value) (h : Heap) (L : List Loc) : Prop := v = some (.int r) ∧ Fr n0 L ∧ h = h0
def f2_22 (v0 : Int32) (v1 : Int32) : Int32 := (if v1 < (224 : Int32) then (4 : Int32) else (if (239 : Int32) < v1 then (4 : Int32) else (3 : Int32)))
set_option maxRecDepth 65536 in
set_option maxHeartbeats 40000000 in
theorem b2_22 {p : Program} {l : Launch} {e : Env} {s : State} {m : MethodId} {args : Array Value} {below : List Frame} {meth : Method} {c : Code} {Z : State} {a0 : Array Value} (B : Ctx p Z s a0 m meth c "com/example/tallywick/tallywick/input/Utf8SequenceLengthPinLaw" "expected" method_2_code 2 (some .int)) {T0 : State} {locs : List Loc} {h : Heap} (h0 : Heap) (n0 : Nat) (v0 : Int32) (v1 : Int32) (X0 : Stand p l e R2 s m args below meth c T0 locs 0 0) (e0 : T0.heap = h) (N0 : Fr n0 locs) (Z0 : n0 ≤ h.size) (hh0 : h = h0) (r : Int32) (hr : f2_22 v0 v1 = r) :
    Fin p e below s R2.cells R2.slots (Q2 Z  h0 n0 r) (T0.setTop (mkF m 22 #[.val (.int v0), .val (.int v1)] [])) := by
  obtain ⟨hx, hZ, hw, hby, hml, hret, hown, hnm, hlk⟩ := B
  unfold f2_22 at hr
  refine Fin.by (B := T0.setTop (mkF m 26 #[.val (.int v0), .val (.int v1)] [(.int (224 : Int32)), (.int v1)])) (fun t k => ?_) ?_
  · show Steps p.tables e below (T0.setTop (mkF m 22 #[.val (.int v0), .val (.int v1)] [])) _
    refine XS.iloadN X0.here hx rfl (hb hby d2_22) rfl  ?_
    show Steps p.tables e below (T0.setTop (mkF m 23 #[.val (.int v0), .val (.int v1)] [(.int v1)])) _
    refine XS.sipush X0.here hx rfl (hb hby d2_23) ?_
    exact k
  by_cases hc26 : v1 < (224 : Int32)
  · rw [if_pos hc26] at hr
    refine Fin.by (B := T0.setTop (mkF m 38 #[.val (.int v0), .val (.int v1)] [])) (fun t k => ?_) ?_
    · show Steps p.tables e below (T0.setTop (mkF m 26 #[.val (.int v0), .val (.int v1)] [(.int (224 : Int32)), (.int v1)])) _
      exact XS.icmpYes X0.here hx rfl (pc0 := 26) (pc' := 38) rfl (hb hby d2_26) rfl (tlt hc26).1 (by decide) (by decide) k
    refine Fin.by (B := T0.setTop (mkF m 39 #[.val (.int v0), .val (.int v1)] [(.int (4 : Int32))])) (fun t k => ?_) ?_
    · show Steps p.tables e below (T0.setTop (mkF m 38 #[.val (.int v0), .val (.int v1)] [])) _
      refine XS.iconst X0.here hx rfl (hb hby d2_38) ?_
      exact k
    subst hr
    exact own_retI X0 hx hlk hret (hb hby d2_39) (by decide) (by decide) ⟨rfl, N0, (e0.trans hh0)⟩
  · rw [if_neg hc26] at hr
    refine Fin.by (B := T0.setTop (mkF m 29 #[.val (.int v0), .val (.int v1)] [])) (fun t k => ?_) ?_
    · show Steps p.tables e below (T0.setTop (mkF m 26 #[.val (.int v0), .val (.int v1)] [(.int (224 : Int32)), (.int v1)])) _
      exact XS.icmpNo X0.here hx rfl (hb hby d2_26) rfl (flt hc26).1 k
    refine Fin.by (B := T0.setTop (mkF m 33 #[.val (.int v0), .val (.int v1)] [(.int (239 : Int32)), (.int v1)])) (fun t k => ?_) ?_
    · show Steps p.tables e below (T0.setTop (mkF m 29 #[.val (.int v0), .val (.int v1)] [])) _
      refine XS.iloadN X0.here hx rfl (hb hby d2_29) rfl  ?_
      show Steps p.tables e below (T0.setTop (mkF m 30 #[.val (.int v0), .val (.int v1)] [(.int v1)])) _
      refine XS.sipush X0.here hx rfl (hb hby d2_30) ?_
      exact k
    by_cases hc33 : (239 : Int32) < v1
    · rw [if_pos hc33] at hr
      refine Fin.by (B := T0.setTop (mkF m 38 #[.val (.int v0), .val (.int v1)] [])) (fun t k => ?_) ?_
      · show Steps p.tables e below (T0.setTop (mkF m 33 #[.val (.int v0), .val (.int v1)] [(.int (239 : Int32)), (.int v1)])) _
        exact XS.icmpYes X0.here hx rfl (pc0 := 33) (pc' := 38) rfl (hb hby d2_33) rfl (tlt hc33).2.2.1 (by decide) (by decide) k
      refine Fin.by (B := T0.setTop (mkF m 39 #[.val (.int v0), .val (.int v1)] [(.int (4 : Int32))])) (fun t k => ?_) ?_
      · show Steps p.tables e below (T0.setTop (mkF m 38 #[.val (.int v0), .val (.int v1)] [])) _
        refine XS.iconst X0.here hx rfl (hb hby d2_38) ?_
        exact k
      subst hr
      exact own_retI X0 hx hlk hret (hb hby d2_39) (by decide) (by decide) ⟨rfl, N0, (e0.trans hh0)⟩
    · rw [if_neg hc33] at hr
      refine Fin.by (B := T0.setTop (mkF m 36 #[.val (.int v0), .val (.int v1)] [])) (fun t k => ?_) ?_
      · show Steps p.tables e below (T0.setTop (mkF m 33 #[.val (.int v0), .val (.int v1)] [(.int (239 : Int32)), (.int v1)])) _
        exact XS.icmpNo X0.here hx rfl (hb hby d2_33) rfl (flt hc33).2.2.1 k
      refine Fin.by (B := T0.setTop (mkF m 37 #[.val (.int v0), .val (.int v1)] [(.int (3 : Int32))])) (fun t k => ?_) ?_
      · show Steps p.tables e below (T0.setTop (mkF m 36 #[.val (.int v0), .val (.int v1)] [])) _
        refine XS.iconst X0.here hx rfl (hb hby d2_36) ?_
        exact k
      subst hr
      exact own_retI X0 hx hlk hret (hb hby d2_37) (by decide) (by decide) ⟨rfl, N0, (e0.trans hh0)⟩
def f2_0 (v0 : Int32) : Int32 := (if (v0 &&& (255 : Int32)) < (192 : Int32) then (f2_22 v0 (v0 &&& (255 : Int32))) else (if (223 : Int32) < (v0 &&& (255 : Int32)) then (f2_22 v0 (v0 &&& (255 : Int32))) else (2 : Int32)))
set_option maxRecDepth 65536 in
set_option maxHeartbeats 40000000 in
theorem b2_0 {p : Program} {l : Launch} {e : Env} {s : State} {m : MethodId} {args : Array Value} {below : List Frame} {meth : Method} {c : Code} {Z : State} {a0 : Array Value} (B : Ctx p Z s a0 m meth c "com/example/tallywick/tallywick/input/Utf8SequenceLengthPinLaw" "expected" method_2_code 2 (some .int)) {T0 : State} {locs : List Loc} {h : Heap} (h0 : Heap) (n0 : Nat) (v0 : Int32) (X0 : Stand p l e R2 s m args below meth c T0 locs 0 0) (e0 : T0.heap = h) (N0 : Fr n0 locs) (Z0 : n0 ≤ h.size) (hh0 : h = h0) (r : Int32) (hr : f2_0 v0 = r) :
    Fin p e below s R2.cells R2.slots (Q2 Z  h0 n0 r) (T0.setTop (mkF m 0 #[.val (.int v0), .unset] [])) := by
  obtain ⟨hx, hZ, hw, hby, hml, hret, hown, hnm, hlk⟩ := B
  unfold f2_0 at hr
  refine Fin.by (B := T0.setTop (mkF m 10 #[.val (.int v0), .val (.int (v0 &&& (255 : Int32)))] [(.int (192 : Int32)), (.int (v0 &&& (255 : Int32)))])) (fun t k => ?_) ?_
  · show Steps p.tables e below (T0.setTop (mkF m 0 #[.val (.int v0), .unset] [])) _
    refine XS.iloadN X0.here hx rfl (hb hby d2_0) rfl  ?_
    show Steps p.tables e below (T0.setTop (mkF m 1 #[.val (.int v0), .unset] [(.int v0)])) _
    refine XS.sipush X0.here hx rfl (hb hby d2_1) ?_
    show Steps p.tables e below (T0.setTop (mkF m 4 #[.val (.int v0), .unset] [(.int (255 : Int32)), (.int v0)])) _
    refine XS.iand X0.here hx rfl (hb hby d2_4) rfl ?_
    show Steps p.tables e below (T0.setTop (mkF m 5 #[.val (.int v0), .unset] [(.int (v0 &&& (255 : Int32)))])) _
    refine XS.istoreN X0.here hx rfl (hb hby d2_5) rfl (l' := #[.val (.int v0), .val (.int (v0 &&& (255 : Int32)))]) rfl ?_
    show Steps p.tables e below (T0.setTop (mkF m 6 #[.val (.int v0), .val (.int (v0 &&& (255 : Int32)))] [])) _
    refine XS.iloadN X0.here hx rfl (hb hby d2_6) rfl  ?_
    show Steps p.tables e below (T0.setTop (mkF m 7 #[.val (.int v0), .val (.int (v0 &&& (255 : Int32)))] [(.int (v0 &&& (255 : Int32)))])) _
    refine XS.sipush X0.here hx rfl (hb hby d2_7) ?_
    exact k
  by_cases hc10 : (v0 &&& (255 : Int32)) < (192 : Int32)
  · rw [if_pos hc10] at hr
    refine Fin.by (B := T0.setTop (mkF m 22 #[.val (.int v0), .val (.int (v0 &&& (255 : Int32)))] [])) (fun t k => ?_) ?_
    · show Steps p.tables e below (T0.setTop (mkF m 10 #[.val (.int v0), .val (.int (v0 &&& (255 : Int32)))] [(.int (192 : Int32)), (.int (v0 &&& (255 : Int32)))])) _
      exact XS.icmpYes X0.here hx rfl (pc0 := 10) (pc' := 22) rfl (hb hby d2_10) rfl (tlt hc10).1 (by decide) (by decide) k
    exact b2_22 ⟨hx, hZ, hw, hby, hml, hret, hown, hnm, hlk⟩ h0 n0 v0 (v0 &&& (255 : Int32)) X0 e0 N0 Z0 hh0  _ hr
  · rw [if_neg hc10] at hr
    refine Fin.by (B := T0.setTop (mkF m 13 #[.val (.int v0), .val (.int (v0 &&& (255 : Int32)))] [])) (fun t k => ?_) ?_
    · show Steps p.tables e below (T0.setTop (mkF m 10 #[.val (.int v0), .val (.int (v0 &&& (255 : Int32)))] [(.int (192 : Int32)), (.int (v0 &&& (255 : Int32)))])) _
      exact XS.icmpNo X0.here hx rfl (hb hby d2_10) rfl (flt hc10).1 k
    refine Fin.by (B := T0.setTop (mkF m 17 #[.val (.int v0), .val (.int (v0 &&& (255 : Int32)))] [(.int (223 : Int32)), (.int (v0 &&& (255 : Int32)))])) (fun t k => ?_) ?_
    · show Steps p.tables e below (T0.setTop (mkF m 13 #[.val (.int v0), .val (.int (v0 &&& (255 : Int32)))] [])) _
      refine XS.iloadN X0.here hx rfl (hb hby d2_13) rfl  ?_
      show Steps p.tables e below (T0.setTop (mkF m 14 #[.val (.int v0), .val (.int (v0 &&& (255 : Int32)))] [(.int (v0 &&& (255 : Int32)))])) _
      refine XS.sipush X0.here hx rfl (hb hby d2_14) ?_
      exact k
    by_cases hc17 : (223 : Int32) < (v0 &&& (255 : Int32))
    · rw [if_pos hc17] at hr
      refine Fin.by (B := T0.setTop (mkF m 22 #[.val (.int v0), .val (.int (v0 &&& (255 : Int32)))] [])) (fun t k => ?_) ?_
      · show Steps p.tables e below (T0.setTop (mkF m 17 #[.val (.int v0), .val (.int (v0 &&& (255 : Int32)))] [(.int (223 : Int32)), (.int (v0 &&& (255 : Int32)))])) _
        exact XS.icmpYes X0.here hx rfl (pc0 := 17) (pc' := 22) rfl (hb hby d2_17) rfl (tlt hc17).2.2.1 (by decide) (by decide) k
      exact b2_22 ⟨hx, hZ, hw, hby, hml, hret, hown, hnm, hlk⟩ h0 n0 v0 (v0 &&& (255 : Int32)) X0 e0 N0 Z0 hh0  _ hr
    · rw [if_neg hc17] at hr
      refine Fin.by (B := T0.setTop (mkF m 20 #[.val (.int v0), .val (.int (v0 &&& (255 : Int32)))] [])) (fun t k => ?_) ?_
      · show Steps p.tables e below (T0.setTop (mkF m 17 #[.val (.int v0), .val (.int (v0 &&& (255 : Int32)))] [(.int (223 : Int32)), (.int (v0 &&& (255 : Int32)))])) _
        exact XS.icmpNo X0.here hx rfl (hb hby d2_17) rfl (flt hc17).2.2.1 k
      refine Fin.by (B := T0.setTop (mkF m 21 #[.val (.int v0), .val (.int (v0 &&& (255 : Int32)))] [(.int (2 : Int32))])) (fun t k => ?_) ?_
      · show Steps p.tables e below (T0.setTop (mkF m 20 #[.val (.int v0), .val (.int (v0 &&& (255 : Int32)))] [])) _
        refine XS.iconst X0.here hx rfl (hb hby d2_20) ?_
        exact k
      subst hr
      exact own_retI X0 hx hlk hret (hb hby d2_21) (by decide) (by decide) ⟨rfl, N0, (e0.trans hh0)⟩
theorem ef_2 (m : MethodId) (v0 : Int32) : entryFrame m #[(.int v0)] 2 = (mkF m 0 #[.val (.int v0), .unset] []) := by first | (simp [entryFrame, mkF, argsToLocals, Value.category]; done) | rfl
set_option maxRecDepth 65536 in
set_option maxHeartbeats 40000000 in
theorem rm2 (l : Launch) (Z : State) (a0 : Array Value) (hw : ∀ d ∈ tables_1, d.before a0 Z = true) (ws : List Jvm.Cond) (v0 : Int32) (h0 : Heap) (n0 : Nat) (Z0 : n0 ≤ h0.size) :
    MetFree l (⟨"com/example/tallywick/tallywick/input/Utf8SequenceLengthPinLaw", "expected", "(I)I"⟩ : MethodName) (head1 (Jvm.Cond.code (⟨"com/example/tallywick/tallywick/input/Utf8SequenceLengthPinLaw", "expected", "(I)I"⟩ : MethodName) method_2_code 2 (some .int) :: ws) R2) (fun a U => a = #[(.int v0)] ∧ Z.Warmed39 U.vm ∧ U.heap = h0) (fun _ _ _ _ _ => True) (fun _ U o U' => ∃ v L, o = .returned v ∧ (Q2 Z  h0 n0 (f2_0 v0)) v U'.heap L ∧ FrameEnd U o U' L R2.cells R2.slots) := by
  refine MetFree.of_bodySF (plainFor_of_name pn_2) hisR ?_
  intro p e s m args below meth c s₁ Bd hml0 hP hK
  obtain ⟨rfl, hZ, hh⟩ := hP
  have B : Ctx p Z s a0 m meth c "com/example/tallywick/tallywick/input/Utf8SequenceLengthPinLaw" "expected" method_2_code 2 (some .int) := ⟨Bd.exec, hZ, hw, Bd.bytes, hml0, Bd.returns, findClass_of_methodNamed Bd.named, (name_of_methodNamed Bd.named Bd.method).1, Bd.notSynchronized⟩
  have X0 : Stand p l e R2 s m #[(.int v0)] below meth c s₁ [] 0 0 := Stand.of_body Bd
  have e0 : s₁.heap = h0 := by rw [← hh, Bd.state]; rfl
  have K := Keep.refl h0 []
  show Fin p e below s R2.cells R2.slots (Q2 Z  h0 n0 (f2_0 v0)) (s₁.setTop (entryFrame m #[(.int v0)] 2))
  refine Fin.by (fun t k => castTop (ef_2 m v0) k) ?_
  exact b2_0 B h0 n0 v0 X0 e0 (Fr.nil n0) Z0 rfl  _ rfl
theorem pn_0 : plainName "com/example/tallywick/tallywick/input/Utf8SequenceLengthPinLaw" = true := by first | (simp [plainName, overriddenIn]; done) | decide +kernel
def Q0 (n0 : Nat) (r : Int32) (v : Option Value) (h : Heap) (L : List Loc) : Prop := v = some (.int r) ∧ Fr n0 L
def f0_0 (v0 : Int32) : Int32 := (if (f1_0 v0) = (f2_0 v0) then (if (f1_0 (v0.toInt8.toInt32)) = (f2_0 v0) then (1 : Int32) else (0 : Int32)) else (0 : Int32))
set_option maxRecDepth 65536 in
set_option maxHeartbeats 40000000 in
theorem b0_0 {p : Program} {l : Launch} {e : Env} {s : State} {m : MethodId} {args : Array Value} {below : List Frame} {meth : Method} {c : Code} {Z : State} {a0 : Array Value} (B : Ctx p Z s a0 m meth c "com/example/tallywick/tallywick/input/Utf8SequenceLengthPinLaw" "law" code 4 (some .boolean)) {T0 : State} {locs : List Loc} {h : Heap} (h0 : Heap) (n0 : Nat) (v0 : Int32) (X0 : Stand p l e room_1 s m args below meth c T0 locs 0 0) (e0 : T0.heap = h) (N0 : Fr n0 locs) (Z0 : n0 ≤ h.size) (r : Int32) (hr : f0_0 v0 = r) :
    Fin p e below s 0 0 (Q0 n0 r) (T0.setTop (mkF m 0 #[.val (.int v0), .unset, .unset, .unset] [])) := by
  obtain ⟨hx, hZ, hw, hby, hml, hret, hown, hnm, hlk⟩ := B
  unfold f0_0 at hr
  refine Fin.by (B := T0.setTop (mkF m 4 #[.val (.int v0), .val (.int (v0.toInt8.toInt32)), .unset, .unset] [(.int v0)])) (fun t k => ?_) ?_
  · show Steps p.tables e below (T0.setTop (mkF m 0 #[.val (.int v0), .unset, .unset, .unset] [])) _
    refine XS.iloadN X0.here hx rfl (hb hby at_0) rfl  ?_
    show Steps p.tables e below (T0.setTop (mkF m 1 #[.val (.int v0), .unset, .unset, .unset] [(.int v0)])) _
    refine XS.i2b X0.here hx rfl (hb hby at_1) rfl ?_
    show Steps p.tables e below (T0.setTop (mkF m 2 #[.val (.int v0), .unset, .unset, .unset] [(.int (v0.toInt8.toInt32))])) _
    refine XS.istoreN X0.here hx rfl (hb hby at_2) rfl (l' := #[.val (.int v0), .val (.int (v0.toInt8.toInt32)), .unset, .unset]) rfl ?_
    show Steps p.tables e below (T0.setTop (mkF m 3 #[.val (.int v0), .val (.int (v0.toInt8.toInt32)), .unset, .unset] [])) _
    refine XS.iloadN X0.here hx rfl (hb hby at_3) rfl  ?_
    exact k
  -- pc 4: com/example/tallywick/tallywick/input/Utf8.sequenceLength
  obtain ⟨_, _, ⟨T1, L1, k1, n1⟩, -, X1, ⟨Lc1, hQ1, l1, y1, z1⟩, st1⟩ := Jvm.LawKit.callS X0 hx (y := (⟨"com/example/tallywick/tallywick/input/Utf8", "sequenceLength", "(I)I"⟩ : MethodName)) hown (mvT hZ (hw _ (List.mem_of_getElem? (i := 0) rfl))) (mvT hZ (hw _ (List.mem_of_getElem? (i := 1) rfl))) (mvT hZ (hw _ (List.mem_of_getElem? (i := 2) rfl))) (mvT hZ (hw _ (List.mem_of_getElem? (i := 3) rfl))) (by decide) (backOf (W := 0) (rm1 l Z a0 hw [] v0 h n0 Z0 ) hZ (hw _ (List.mem_of_getElem? (i := 3) rfl)) (hw _ (List.mem_of_getElem? (i := 2) rfl)) (by decide) (by decide)) (g := (mkF m 4 #[.val (.int v0), .val (.int (v0.toInt8.toInt32)), .unset, .unset] [(.int v0)])) rfl (by rw [hml]; rfl) (argsL := [(.int v0)]) (rest := []) (lenOf pd_0 rfl) rfl (by show 2 * 0 + _ ≤ _; exact Nat.le_of_eq rfl) (hb hby at_4) (fun _ _ => ⟨rfl, e0, (by decide : 0 + R1.cells ≤ _), (by decide : 0 + R1.slots ≤ _)⟩)
  dsimp only [Pt.U, Pt.locs, Pt.cells, Pt.slots] at X1 l1 y1 z1 st1 hQ1
  subst l1 y1 z1
  obtain ⟨rfl, Nq1, e1⟩ := hQ1
  have N1 := Fr.app N0 Nq1
  refine Fin.by (B := T1.setTop (mkF m 7 #[.val (.int v0), .val (.int (v0.toInt8.toInt32)), .unset, .unset] [(.int (f1_0 v0))])) (fun t k => st1 t k) ?_
  refine Fin.by (B := T1.setTop (mkF m 9 #[.val (.int v0), .val (.int (v0.toInt8.toInt32)), .val (.int (f1_0 v0)), .unset] [(.int (v0.toInt8.toInt32))])) (fun t k => ?_) ?_
  · show Steps p.tables e below (T1.setTop (mkF m 7 #[.val (.int v0), .val (.int (v0.toInt8.toInt32)), .unset, .unset] [(.int (f1_0 v0))])) _
    refine XS.istoreN X1.here hx rfl (hb hby at_7) rfl (l' := #[.val (.int v0), .val (.int (v0.toInt8.toInt32)), .val (.int (f1_0 v0)), .unset]) rfl ?_
    show Steps p.tables e below (T1.setTop (mkF m 8 #[.val (.int v0), .val (.int (v0.toInt8.toInt32)), .val (.int (f1_0 v0)), .unset] [])) _
    refine XS.iloadN X1.here hx rfl (hb hby at_8) rfl  ?_
    exact k
  -- pc 9: com/example/tallywick/tallywick/input/Utf8.sequenceLength
  obtain ⟨_, _, ⟨T2, L2, k2, n2⟩, -, X2, ⟨Lc2, hQ2, l2, y2, z2⟩, st2⟩ := Jvm.LawKit.callS X1 hx (y := (⟨"com/example/tallywick/tallywick/input/Utf8", "sequenceLength", "(I)I"⟩ : MethodName)) hown (mvT hZ (hw _ (List.mem_of_getElem? (i := 0) rfl))) (mvT hZ (hw _ (List.mem_of_getElem? (i := 1) rfl))) (mvT hZ (hw _ (List.mem_of_getElem? (i := 2) rfl))) (mvT hZ (hw _ (List.mem_of_getElem? (i := 3) rfl))) (by decide) (backOf (W := 0) (rm1 l Z a0 hw [] (v0.toInt8.toInt32) h n0 Z0 ) hZ (hw _ (List.mem_of_getElem? (i := 3) rfl)) (hw _ (List.mem_of_getElem? (i := 2) rfl)) (by decide) (by decide)) (g := (mkF m 9 #[.val (.int v0), .val (.int (v0.toInt8.toInt32)), .val (.int (f1_0 v0)), .unset] [(.int (v0.toInt8.toInt32))])) rfl (by rw [hml]; rfl) (argsL := [(.int (v0.toInt8.toInt32))]) (rest := []) (lenOf pd_0 rfl) rfl (by show 2 * 0 + _ ≤ _; exact Nat.le_of_eq rfl) (hb hby at_9) (fun _ _ => ⟨rfl, e1, (by decide : 0 + R1.cells ≤ _), (by decide : 0 + R1.slots ≤ _)⟩)
  dsimp only [Pt.U, Pt.locs, Pt.cells, Pt.slots] at X2 l2 y2 z2 st2 hQ2
  subst l2 y2 z2
  obtain ⟨rfl, Nq2, e2⟩ := hQ2
  have N2 := Fr.app N1 Nq2
  refine Fin.by (B := T2.setTop (mkF m 12 #[.val (.int v0), .val (.int (v0.toInt8.toInt32)), .val (.int (f1_0 v0)), .unset] [(.int (f1_0 (v0.toInt8.toInt32)))])) (fun t k => st2 t k) ?_
  refine Fin.by (B := T2.setTop (mkF m 15 #[.val (.int v0), .val (.int (v0.toInt8.toInt32)), .val (.int (f1_0 v0)), .val (.int (f1_0 (v0.toInt8.toInt32)))] [(.int v0), (.int (f1_0 v0))])) (fun t k => ?_) ?_
  · show Steps p.tables e below (T2.setTop (mkF m 12 #[.val (.int v0), .val (.int (v0.toInt8.toInt32)), .val (.int (f1_0 v0)), .unset] [(.int (f1_0 (v0.toInt8.toInt32)))])) _
    refine XS.istoreN X2.here hx rfl (hb hby at_12) rfl (l' := #[.val (.int v0), .val (.int (v0.toInt8.toInt32)), .val (.int (f1_0 v0)), .val (.int (f1_0 (v0.toInt8.toInt32)))]) rfl ?_
    show Steps p.tables e below (T2.setTop (mkF m 13 #[.val (.int v0), .val (.int (v0.toInt8.toInt32)), .val (.int (f1_0 v0)), .val (.int (f1_0 (v0.toInt8.toInt32)))] [])) _
    refine XS.iloadN X2.here hx rfl (hb hby at_13) rfl  ?_
    show Steps p.tables e below (T2.setTop (mkF m 14 #[.val (.int v0), .val (.int (v0.toInt8.toInt32)), .val (.int (f1_0 v0)), .val (.int (f1_0 (v0.toInt8.toInt32)))] [(.int (f1_0 v0))])) _
    refine XS.iloadN X2.here hx rfl (hb hby at_14) rfl  ?_
    exact k
  -- pc 15: com/example/tallywick/tallywick/input/Utf8SequenceLengthPinLaw.expected
  obtain ⟨_, _, ⟨T3, L3, k3, n3⟩, -, X3, ⟨Lc3, hQ3, l3, y3, z3⟩, st3⟩ := Jvm.LawKit.callS X2 hx (y := (⟨"com/example/tallywick/tallywick/input/Utf8SequenceLengthPinLaw", "expected", "(I)I"⟩ : MethodName)) hown (mvT hZ (hw _ (List.mem_of_getElem? (i := 4) rfl))) (mvT hZ (hw _ (List.mem_of_getElem? (i := 5) rfl))) (mvT hZ (hw _ (List.mem_of_getElem? (i := 6) rfl))) (mvT hZ (hw _ (List.mem_of_getElem? (i := 7) rfl))) (by decide) (backOf (W := 1) (rm2 l Z a0 hw [] v0 h n0 Z0 ) hZ (hw _ (List.mem_of_getElem? (i := 7) rfl)) (hw _ (List.mem_of_getElem? (i := 6) rfl)) (by decide) (by decide)) (g := (mkF m 15 #[.val (.int v0), .val (.int (v0.toInt8.toInt32)), .val (.int (f1_0 v0)), .val (.int (f1_0 (v0.toInt8.toInt32)))] [(.int v0), (.int (f1_0 v0))])) rfl (by rw [hml]; rfl) (argsL := [(.int v0)]) (rest := [(.int (f1_0 v0))]) (lenOf pd_0 rfl) rfl (by show 2 * 0 + _ ≤ _; exact Nat.le_of_eq rfl) (hb hby at_15) (fun _ _ => ⟨rfl, e2, (by decide : 0 + R2.cells ≤ _), (by decide : 0 + R2.slots ≤ _)⟩)
  dsimp only [Pt.U, Pt.locs, Pt.cells, Pt.slots] at X3 l3 y3 z3 st3 hQ3
  subst l3 y3 z3
  obtain ⟨rfl, Nq3, e3⟩ := hQ3
  have N3 := Fr.app N2 Nq3
  refine Fin.by (B := T3.setTop (mkF m 18 #[.val (.int v0), .val (.int (v0.toInt8.toInt32)), .val (.int (f1_0 v0)), .val (.int (f1_0 (v0.toInt8.toInt32)))] [(.int (f2_0 v0)), (.int (f1_0 v0))])) (fun t k => st3 t k) ?_
  by_cases hc18 : (f1_0 v0) = (f2_0 v0)
  · rw [if_pos hc18] at hr
    refine Fin.by (B := T3.setTop (mkF m 21 #[.val (.int v0), .val (.int (v0.toInt8.toInt32)), .val (.int (f1_0 v0)), .val (.int (f1_0 (v0.toInt8.toInt32)))] [])) (fun t k => ?_) ?_
    · show Steps p.tables e below (T3.setTop (mkF m 18 #[.val (.int v0), .val (.int (v0.toInt8.toInt32)), .val (.int (f1_0 v0)), .val (.int (f1_0 (v0.toInt8.toInt32)))] [(.int (f2_0 v0)), (.int (f1_0 v0))])) _
      exact XS.icmpNo X3.here hx rfl (hb hby at_18) rfl (teq hc18).2 k
    refine Fin.by (B := T3.setTop (mkF m 23 #[.val (.int v0), .val (.int (v0.toInt8.toInt32)), .val (.int (f1_0 v0)), .val (.int (f1_0 (v0.toInt8.toInt32)))] [(.int v0), (.int (f1_0 (v0.toInt8.toInt32)))])) (fun t k => ?_) ?_
    · show Steps p.tables e below (T3.setTop (mkF m 21 #[.val (.int v0), .val (.int (v0.toInt8.toInt32)), .val (.int (f1_0 v0)), .val (.int (f1_0 (v0.toInt8.toInt32)))] [])) _
      refine XS.iloadN X3.here hx rfl (hb hby at_21) rfl  ?_
      show Steps p.tables e below (T3.setTop (mkF m 22 #[.val (.int v0), .val (.int (v0.toInt8.toInt32)), .val (.int (f1_0 v0)), .val (.int (f1_0 (v0.toInt8.toInt32)))] [(.int (f1_0 (v0.toInt8.toInt32)))])) _
      refine XS.iloadN X3.here hx rfl (hb hby at_22) rfl  ?_
      exact k
    -- pc 23: com/example/tallywick/tallywick/input/Utf8SequenceLengthPinLaw.expected
    obtain ⟨_, _, ⟨T4, L4, k4, n4⟩, -, X4, ⟨Lc4, hQ4, l4, y4, z4⟩, st4⟩ := Jvm.LawKit.callS X3 hx (y := (⟨"com/example/tallywick/tallywick/input/Utf8SequenceLengthPinLaw", "expected", "(I)I"⟩ : MethodName)) hown (mvT hZ (hw _ (List.mem_of_getElem? (i := 4) rfl))) (mvT hZ (hw _ (List.mem_of_getElem? (i := 5) rfl))) (mvT hZ (hw _ (List.mem_of_getElem? (i := 6) rfl))) (mvT hZ (hw _ (List.mem_of_getElem? (i := 7) rfl))) (by decide) (backOf (W := 1) (rm2 l Z a0 hw [] v0 h n0 Z0 ) hZ (hw _ (List.mem_of_getElem? (i := 7) rfl)) (hw _ (List.mem_of_getElem? (i := 6) rfl)) (by decide) (by decide)) (g := (mkF m 23 #[.val (.int v0), .val (.int (v0.toInt8.toInt32)), .val (.int (f1_0 v0)), .val (.int (f1_0 (v0.toInt8.toInt32)))] [(.int v0), (.int (f1_0 (v0.toInt8.toInt32)))])) rfl (by rw [hml]; rfl) (argsL := [(.int v0)]) (rest := [(.int (f1_0 (v0.toInt8.toInt32)))]) (lenOf pd_0 rfl) rfl (by show 2 * 0 + _ ≤ _; exact Nat.le_of_eq rfl) (hb hby at_23) (fun _ _ => ⟨rfl, e3, (by decide : 0 + R2.cells ≤ _), (by decide : 0 + R2.slots ≤ _)⟩)
    dsimp only [Pt.U, Pt.locs, Pt.cells, Pt.slots] at X4 l4 y4 z4 st4 hQ4
    subst l4 y4 z4
    obtain ⟨rfl, Nq4, e4⟩ := hQ4
    have N4 := Fr.app N3 Nq4
    refine Fin.by (B := T4.setTop (mkF m 26 #[.val (.int v0), .val (.int (v0.toInt8.toInt32)), .val (.int (f1_0 v0)), .val (.int (f1_0 (v0.toInt8.toInt32)))] [(.int (f2_0 v0)), (.int (f1_0 (v0.toInt8.toInt32)))])) (fun t k => st4 t k) ?_
    by_cases hc26 : (f1_0 (v0.toInt8.toInt32)) = (f2_0 v0)
    · rw [if_pos hc26] at hr
      refine Fin.by (B := T4.setTop (mkF m 29 #[.val (.int v0), .val (.int (v0.toInt8.toInt32)), .val (.int (f1_0 v0)), .val (.int (f1_0 (v0.toInt8.toInt32)))] [])) (fun t k => ?_) ?_
      · show Steps p.tables e below (T4.setTop (mkF m 26 #[.val (.int v0), .val (.int (v0.toInt8.toInt32)), .val (.int (f1_0 v0)), .val (.int (f1_0 (v0.toInt8.toInt32)))] [(.int (f2_0 v0)), (.int (f1_0 (v0.toInt8.toInt32)))])) _
        exact XS.icmpNo X4.here hx rfl (hb hby at_26) rfl (teq hc26).2 k
      refine Fin.by (B := T4.setTop (mkF m 34 #[.val (.int v0), .val (.int (v0.toInt8.toInt32)), .val (.int (f1_0 v0)), .val (.int (f1_0 (v0.toInt8.toInt32)))] [(.int (1 : Int32))])) (fun t k => ?_) ?_
      · show Steps p.tables e below (T4.setTop (mkF m 29 #[.val (.int v0), .val (.int (v0.toInt8.toInt32)), .val (.int (f1_0 v0)), .val (.int (f1_0 (v0.toInt8.toInt32)))] [])) _
        refine XS.iconst X4.here hx rfl (hb hby at_29) ?_
        show Steps p.tables e below (T4.setTop (mkF m 30 #[.val (.int v0), .val (.int (v0.toInt8.toInt32)), .val (.int (f1_0 v0)), .val (.int (f1_0 (v0.toInt8.toInt32)))] [(.int (1 : Int32))])) _
        refine XS.goto X4.here hx rfl (pc0 := 30) (pc' := 34) rfl (hb hby at_30) (by decide) (by decide) ?_
        exact k
      subst hr
      exact own_retN X4 hx hlk (t := .boolean) hret (by simp) (hb hby at_34) (by decide) (by decide) ⟨rfl, N4⟩
    · rw [if_neg hc26] at hr
      refine Fin.by (B := T4.setTop (mkF m 33 #[.val (.int v0), .val (.int (v0.toInt8.toInt32)), .val (.int (f1_0 v0)), .val (.int (f1_0 (v0.toInt8.toInt32)))] [])) (fun t k => ?_) ?_
      · show Steps p.tables e below (T4.setTop (mkF m 26 #[.val (.int v0), .val (.int (v0.toInt8.toInt32)), .val (.int (f1_0 v0)), .val (.int (f1_0 (v0.toInt8.toInt32)))] [(.int (f2_0 v0)), (.int (f1_0 (v0.toInt8.toInt32)))])) _
        exact XS.icmpYes X4.here hx rfl (pc0 := 26) (pc' := 33) rfl (hb hby at_26) rfl (feq hc26).2 (by decide) (by decide) k
      refine Fin.by (B := T4.setTop (mkF m 34 #[.val (.int v0), .val (.int (v0.toInt8.toInt32)), .val (.int (f1_0 v0)), .val (.int (f1_0 (v0.toInt8.toInt32)))] [(.int (0 : Int32))])) (fun t k => ?_) ?_
      · show Steps p.tables e below (T4.setTop (mkF m 33 #[.val (.int v0), .val (.int (v0.toInt8.toInt32)), .val (.int (f1_0 v0)), .val (.int (f1_0 (v0.toInt8.toInt32)))] [])) _
        refine XS.iconst X4.here hx rfl (hb hby at_33) ?_
        exact k
      subst hr
      exact own_retN X4 hx hlk (t := .boolean) hret (by simp) (hb hby at_34) (by decide) (by decide) ⟨rfl, N4⟩
  · rw [if_neg hc18] at hr
    refine Fin.by (B := T3.setTop (mkF m 33 #[.val (.int v0), .val (.int (v0.toInt8.toInt32)), .val (.int (f1_0 v0)), .val (.int (f1_0 (v0.toInt8.toInt32)))] [])) (fun t k => ?_) ?_
    · show Steps p.tables e below (T3.setTop (mkF m 18 #[.val (.int v0), .val (.int (v0.toInt8.toInt32)), .val (.int (f1_0 v0)), .val (.int (f1_0 (v0.toInt8.toInt32)))] [(.int (f2_0 v0)), (.int (f1_0 v0))])) _
      exact XS.icmpYes X3.here hx rfl (pc0 := 18) (pc' := 33) rfl (hb hby at_18) rfl (feq hc18).2 (by decide) (by decide) k
    refine Fin.by (B := T3.setTop (mkF m 34 #[.val (.int v0), .val (.int (v0.toInt8.toInt32)), .val (.int (f1_0 v0)), .val (.int (f1_0 (v0.toInt8.toInt32)))] [(.int (0 : Int32))])) (fun t k => ?_) ?_
    · show Steps p.tables e below (T3.setTop (mkF m 33 #[.val (.int v0), .val (.int (v0.toInt8.toInt32)), .val (.int (f1_0 v0)), .val (.int (f1_0 (v0.toInt8.toInt32)))] [])) _
      refine XS.iconst X3.here hx rfl (hb hby at_33) ?_
      exact k
    subst hr
    exact own_retN X3 hx hlk (t := .boolean) hret (by simp) (hb hby at_34) (by decide) (by decide) ⟨rfl, N3⟩
theorem ef_0 (m : MethodId) (v0 : Int32) : entryFrame m #[(.int v0)] maxLocals = (mkF m 0 #[.val (.int v0), .unset, .unset, .unset] []) := by first | (simp [entryFrame, mkF, argsToLocals, Value.category, maxLocals]; done) | rfl
set_option maxRecDepth 65536 in
set_option maxHeartbeats 40000000 in
theorem rm0 (l : Launch) (Z : State) (a0 : Array Value) (hw : ∀ d ∈ tables_1, d.before a0 Z = true) (ws : List Jvm.Cond) (v0 : Int32) (h0 : Heap) (n0 : Nat) (Z0 : n0 ≤ h0.size) :
    MetFree l x (head1 (Jvm.Cond.code x code maxLocals ret :: ws) room_1) (fun a U => a = #[(.int v0)] ∧ Z.Warmed39 U.vm ∧ U.heap = h0) (fun _ _ _ _ _ => True) (fun _ U o U' => ∃ v L, o = .returned v ∧ (Q0 n0 (f0_0 v0)) v U'.heap L ∧ FrameEnd U o U' L 0 0) := by
  refine MetFree.of_bodySF (plainFor_of_name pn_0) hisR ?_
  intro p e s m args below meth c s₁ Bd hml0 hP hK
  obtain ⟨rfl, hZ, hh⟩ := hP
  have B : Ctx p Z s a0 m meth c "com/example/tallywick/tallywick/input/Utf8SequenceLengthPinLaw" "law" code 4 (some .boolean) := ⟨Bd.exec, hZ, hw, Bd.bytes, hml0, Bd.returns, findClass_of_methodNamed Bd.named, (name_of_methodNamed Bd.named Bd.method).1, Bd.notSynchronized⟩
  have X0 : Stand p l e room_1 s m #[(.int v0)] below meth c s₁ [] 0 0 := Stand.of_body Bd
  have e0 : s₁.heap = h0 := by rw [← hh, Bd.state]; rfl
  have K := Keep.refl h0 []
  show Fin p e below s 0 0 (Q0 n0 (f0_0 v0)) (s₁.setTop (entryFrame m #[(.int v0)] maxLocals))
  refine Fin.by (fun t k => castTop (ef_0 m v0) k) ?_
  exact b0_0 B h0 n0 v0 X0 e0 (Fr.nil n0) Z0  _ rfl

theorem own_u (a m : Int32) (hm : m.toBitVec &&& 255#32 = m.toBitVec) : a &&& m = Int32.ofBitVec ((a.toBitVec.setWidth 8).setWidth 32 &&& m.toBitVec) := by
  apply Int32.toBitVec_inj.mp
  rw [Int32.toBitVec_and, Int32.toBitVec_ofBitVec, ← hm]
  apply BitVec.eq_of_getLsbD_eq
  intro i hi
  simp only [BitVec.getLsbD_and, BitVec.getLsbD_setWidth]
  have : (255#32).getLsbD i = decide (i < 8) := by
    revert i; decide
  rw [this]
  by_cases h : i < 8 <;> simp [h, hi]
theorem own_s (a m : Int32) (hm : m.toBitVec &&& 255#32 = m.toBitVec) : a.toInt8.toInt32 &&& m = a &&& m := by
  apply Int32.toBitVec_inj.mp
  rw [Int32.toBitVec_and, Int32.toBitVec_and, ← hm]
  apply BitVec.eq_of_getLsbD_eq
  intro i hi
  have : (255#32).getLsbD i = decide (i < 8) := by
    revert i; decide
  simp only [BitVec.getLsbD_and, this]
  by_cases h : i < 8
  · simp [h, hi, Int8.toBitVec_toInt32, Int32.toBitVec_toInt8, BitVec.getElem_signExtend]
  · simp [h]
theorem own_law (a : Int32) : f0_0 a = 1 := by
  have e1 := own_u a 224 (by decide)
  have e2 := own_u a 240 (by decide)
  have e3 := own_u a 255 (by decide)
  have s1 := own_s a 224 (by decide)
  have s2 := own_s a 240 (by decide)
  simp only [f0_0, f1_0, f2_0, f2_22, s1, s2, e1, e2, e3]
  generalize a.toBitVec.setWidth 8 = u
  revert u
  decide +kernel

set_option maxRecDepth 65536 in
set_option maxHeartbeats 40000000 in
theorem comes_1 {Post : Tables → Env → Array Value → State → Outcome → State → Prop} (hpost : ∀ tb e args s v u, (limb_1_1.after args s (.returned v) u = true ∧ limb_1_2.after args s (.returned v) u = true ∧ True) → FrameEnd s (.returned v) u (Jvm.fieldLocs frame_1_writes args s ++ Jvm.arrayLocs frame_1_arrays args s ++ Jvm.staticLocs frame_1_statics s) 0 0 → Post tb e args s (.returned v) u) :
    ArmFor flags0 classFile x code maxLocals ret World_1 tables_1 room_1 Calls_1 rest_1 Pre_1 Post := by
  intro l hfl _ _ p e ha hc hk s m args below hf hA hF happ hP
  obtain ⟨hcalls, hrest, hpre⟩ := hP
  obtain ⟨-, -, -, hnamed, -, -, -, hat⟩ := (Spec.applies_iff hf).mp happ
  obtain ⟨hg, hn⟩ := and_e (Cond.before_iff.mp (show (Jvm.Cond.and given_1 narrow_1).before args s = true from hpre))
  obtain ⟨gg1, gg2⟩ := and_e hg
  obtain ⟨w0, rfl⟩ : ∃ w0 : Value, args = #[w0] := by
    have hs : args.size = 1 := by simpa [Cond.value, given_1] using gg1
    obtain ⟨L⟩ := args
    match L, hs with
    | [w0], _ => exact ⟨w0, rfl⟩
  have hw := fun d (hd : d ∈ tables_1) => atoms_spec (ws := Jvm.Cond.code x code maxLocals ret :: tables_1) hat d (List.mem_cons_of_mem _ hd)
  have hfit : Fit s := fun {y c} hc i hi => by
    obtain ⟨ha, rfl⟩ := Array.getElem?_eq_some_iff.mp hc
    have q := List.all_eq_true.mp ((Array.all_eq_true_iff_forall_mem.mp hF) _ (Array.getElem_mem ha)) i (List.mem_range.mpr hi)
    simpa [Array.getElem?_eq_getElem hi] using q
  obtain ⟨i0, ei0⟩ := is_v gg2
  obtain rfl : w0 = (.int i0) := Option.some.inj ei0
  obtain ⟨n, o, h1, h2, h3, _, L, rfl, ⟨rfl, N⟩, hq⟩ := rm0 l s _ hw tables_1 i0 s.heap s.heap.size (Nat.le_refl _)  p e ha hc hk s m _ below hf ((Spec.applies_iff_loose hf).mp happ).1 ⟨rfl, State.Warmed39.refl s, rfl⟩ trivial
  refine ⟨n, _, h1, h2, h3, hpost _ _ _ _ _ _ ⟨Cond.after_iff.mpr rfl, Cond.after_iff.mpr (eq_i res_at (Term.int_eval (1)) (congrArg Value.int (own_law i0))), trivial⟩ ⟨hq.1, hq.2.1, (hq.2.2.sift fun y hy => Or.inr (N y hy)).mono (by decide) (by decide)⟩⟩
theorem main_1_1 : Claimed_1_1 := comes_1 fun _ _ _ _ _ _ h hF => ⟨h.1, hF⟩
theorem main_1_2 : Claimed_1_2 := comes_1 fun _ _ _ _ _ _ h hF => ⟨h.2.1, hF⟩
end Jvm.Pilot.@@N@@
namespace Jvm.Pilot.@@N@@
open Jvm Jvm.ClassFile Sem Op Lib Jvm.Free Jvm.Stand Jvm.Pilot.@@N@@.Jvm.D
/-! MADE BY PROGRAM (witnessworld.py) out of the Statement's table words and the real class files: 9 classes; the members and pool entries that the words name. The judged class is class 1, her method 2. -/
namespace start1
open Jvm.ClassFile
def u (s : String) : CpInfo := .utf8 (stringToUtf16 s)
/-- a pool by its gaps: so many unusable entries, then the entry; so many at the end -/
def gap : Nat → List CpInfo → List CpInfo
  | 0, r => r
  | n + 1, r => .unusable :: gap n r
def poolList (es : List (Nat × CpInfo)) (last : Nat) : List CpInfo := es.foldr (fun e r => gap e.1 (e.2 :: r)) (gap last [])
def pool (es : List (Nat × CpInfo)) (last : Nat) : Array CpInfo := ⟨poolList es last⟩
def fileOf (pool : Array CpInfo) (this : Nat) (attrs : Array Attribute := #[]) (ms : Array MethodInfo := #[]) (fl : Nat := 33) (sup : Nat := 0) (ifs : Array Nat := #[]) (fds : Array FieldInfo := #[]) : ClassFile where
  minorVersion := 0
  majorVersion := 65
  constantPool := pool
  accessFlags := fl
  thisClass := this
  superClass := sup
  interfaces := ifs
  fields := fds
  methods := ms
  attributes := attrs
def plain (name : String) (sup : Option ClassId) : Class where
  name := name
  kind := .ordinary
  loader := none
  accessFlags := 33
  super := sup
  interfaces := #[]
  cf := none
  fields := #[]
  methods := #[]
  instanceTypes := #[]
  staticTypes := #[]
  resolved := #[]
  callSites := []
  init := .initialized
  statics := none
  mirror := none

def pool0 : Array CpInfo := pool [(5, u "<init>"), (0, u "()V"), (1, .class_ 10), (1, u "java/lang/Object")] 113

def k0m0 : Method := { name := "<init>", desc := "()V", sig := { parameters := [], returnType := none }, accessFlags := 1, code := none }
/-- java/lang/Object -/
def k0 : Class := { plain "java/lang/Object" none with
  accessFlags := 33
  interfaces := #[]
  cf := some (fileOf pool0 8 #[] #[{ accessFlags := 1, nameIndex := 5, descriptorIndex := 6, attributes := #[] }] 33 0 #[] #[])
  fields := #[]
  methods := #[k0m0]
  instanceTypes := #[]
  staticTypes := #[]
  resolved := Array.replicate 124 none
  statics := none }

def pool1 : Array CpInfo := pool [(2, .class_ 4), (1, u "java/lang/Object"), (0, u "<init>"), (0, u "()V"), (0, .methodref 8 9), (0, .class_ 10), (0, .nameAndType 11 12), (0, u "com/example/tallywick/tallywick/input/Utf8"), (0, u "sequenceLength"), (0, u "(I)I"), (0, .methodref 14 15), (0, .class_ 16), (0, .nameAndType 17 12), (0, u "com/example/tallywick/tallywick/input/Utf8SequenceLengthPinLaw"), (0, u "expected"), (3, u "law"), (0, u "(I)Z")] 2

def k1m0 : Method := { name := "<init>", desc := "()V", sig := { parameters := [], returnType := none }, accessFlags := 2, code := none }
def k1c1 : Code := { maxStack := 2, maxLocals := 2, code := method_2_code, exceptionTable := #[], attributes := #[] }
def k1m1 : Method := { name := "expected", desc := "(I)I", sig := { parameters := [.int], returnType := some .int }, accessFlags := 10, code := some k1c1 }
def k1c2 : Code := { maxStack := 2, maxLocals := 4, code := code, exceptionTable := #[], attributes := #[] }
def k1m2 : Method := { name := "law", desc := "(I)Z", sig := { parameters := [.int], returnType := some .boolean }, accessFlags := 9, code := some k1c2 }
/-- com/example/tallywick/tallywick/input/Utf8SequenceLengthPinLaw -/
def k1 : Class := { plain "com/example/tallywick/tallywick/input/Utf8SequenceLengthPinLaw" (some 0) with
  accessFlags := 49
  interfaces := #[]
  cf := some (fileOf pool1 14 #[] #[{ accessFlags := 2, nameIndex := 5, descriptorIndex := 6, attributes := #[] }, { accessFlags := 10, nameIndex := 17, descriptorIndex := 12, attributes := #[] }, { accessFlags := 9, nameIndex := 21, descriptorIndex := 22, attributes := #[] }] 49 2 #[] #[])
  fields := #[]
  methods := #[k1m0, k1m1, k1m2]
  instanceTypes := #[]
  staticTypes := #[]
  resolved := Array.replicate 25 none
  statics := none }

def pool2 : Array CpInfo := pool [(2, .class_ 4), (1, u "java/lang/Object"), (0, u "<init>"), (0, u "()V"), (19, .class_ 28), (1, u "com/example/tallywick/tallywick/input/Utf8"), (0, u "sequenceLength"), (0, u "(I)I")] 14

def k2m0 : Method := { name := "<init>", desc := "()V", sig := { parameters := [], returnType := none }, accessFlags := 2, code := none }
def k2c1 : Code := { maxStack := 2, maxLocals := 1, code := prog_37_method_2_code, exceptionTable := #[], attributes := #[] }
def k2m1 : Method := { name := "sequenceLength", desc := "(I)I", sig := { parameters := [.int], returnType := some .int }, accessFlags := 9, code := some k2c1 }
/-- com/example/tallywick/tallywick/input/Utf8 -/
def k2 : Class := { plain "com/example/tallywick/tallywick/input/Utf8" (some 0) with
  accessFlags := 49
  interfaces := #[]
  cf := some (fileOf pool2 26 #[] #[{ accessFlags := 2, nameIndex := 5, descriptorIndex := 6, attributes := #[] }, { accessFlags := 9, nameIndex := 29, descriptorIndex := 30, attributes := #[] }] 49 2 #[] #[])
  fields := #[]
  methods := #[k2m0, k2m1]
  instanceTypes := #[]
  staticTypes := #[]
  resolved := Array.replicate 45 none
  statics := none }

def pool3 : Array CpInfo := pool [(1, u "java/lang/Cloneable"), (0, .class_ 1), (0, u "java/lang/Object"), (0, .class_ 3)] 3

/-- java/lang/Cloneable -/
def k3 : Class := { plain "java/lang/Cloneable" (some 0) with
  accessFlags := 1537
  interfaces := #[]
  cf := some (fileOf pool3 2 #[] #[] 1537 4 #[] #[])
  fields := #[]
  methods := #[]
  instanceTypes := #[]
  staticTypes := #[]
  resolved := Array.replicate 8 none
  statics := none }

def pool4 : Array CpInfo := pool [(1, u "java/io/Serializable"), (0, .class_ 1), (0, u "java/lang/Object"), (0, .class_ 3)] 3

/-- java/io/Serializable -/
def k4 : Class := { plain "java/io/Serializable" (some 0) with
  accessFlags := 1537
  interfaces := #[]
  cf := some (fileOf pool4 2 #[] #[] 1537 4 #[] #[])
  fields := #[]
  methods := #[]
  instanceTypes := #[]
  staticTypes := #[]
  resolved := Array.replicate 8 none
  statics := none }

/-- the primitive byte -/
def k5 : Class := { plain "byte" none with kind := .primitive 'B', accessFlags := 0x411 }
/-- [B -/
def k6 : Class := { plain "[B" (some 0) with kind := .array 5 .byte, interfaces := #[3, 4], accessFlags := 1041 }

/-- the primitive int -/
def k7 : Class := { plain "int" none with kind := .primitive 'I', accessFlags := 0x411 }
/-- [I -/
def k8 : Class := { plain "[I" (some 0) with kind := .array 7 .int, interfaces := #[3, 4], accessFlags := 1041 }

def heap : Heap := #[]
def classes : Array Class := #[k0, k1, k2, k3, k4, k5, k6, k7, k8]
def interned : List (Array UInt16 × Addr) := []
def slotsUsed : Nat := 0
def theMethod : MethodId := ⟨1, 2⟩
def args0 : Array Value := #[.int 5]
def aboutOver (below : List Frame) : State where
  vm := { classes := classes, interned := interned.toArray }
  heap := heap
  slotsUsed := slotsUsed
  threads := #[{ frames := .invoking theMethod args0 :: below }]
def below0 : List Frame := [.native { method := ⟨0, 0⟩, args := #[] }]
def about1 : State := aboutOver below0
def p0 : Program := .bare "" "" ""
def e0 : Env := launch0.env 0 0 0
theorem w_frames : about1.frames = Frame.invoking theMethod args0 :: below0 := rfl
set_option maxRecDepth 65536 in
theorem w_args : argsFit about1.vm theMethod args0 = true := by decide +kernel
set_option maxRecDepth 65536 in
theorem w_heap : heapFits about1 = true := by decide +kernel
set_option maxRecDepth 65536 in
theorem w_runnable : about1.curStatus? = some .runnable := by decide +kernel
set_option maxRecDepth 65536 in
theorem w_alone : about1.alone = true := by decide +kernel
set_option maxRecDepth 65536 in
theorem w_named : about1.methodNamed? x = some theMethod := by decide +kernel
set_option maxRecDepth 65536 in
theorem w_hears : about1.hears theMethod below0 = true := by decide +kernel
set_option maxRecDepth 65536 in
theorem w_ripe : about1.ripe theMethod args0 below0 = true := by decide +kernel
theorem w_running : about1.status = .running := rfl
set_option maxRecDepth 65536 in
theorem w_room : about1.hasRoom e0.platform room_1 = true :=
  launch0.hasRoom_least _ room_1 (by decide +kernel) (by decide +kernel) (by decide +kernel) (by decide +kernel) (by decide +kernel) (by decide +kernel)
theorem allAtoms_all (ts : List Jvm.Cond) (a : Array Jvm.Value) (st : Jvm.State) : (allAtoms ts).before a st = ts.all (fun c => c.before a st) := by
  induction ts with
  | nil => rfl
  | cons c t ih =>
    show (Jvm.Cond.and c (allAtoms t)).before a st = _
    rw [Jvm.Cond.before_and, ih, List.all_cons]
def words1 : List Jvm.Cond := Jvm.Cond.code x code maxLocals ret :: tables_1
/-- a 'code' word, met by the world's own term for the bytes: nothing is compared byte by byte -/
theorem code_word {y : MethodName} {bytes : ByteArray} {mx : Nat} {rt : Option FieldType} {a : Array Value} {s : State} {m : MethodId} {meth : Method} {c : Code} (h1 : s.methodNamed? y = some m) (h2 : s.vm.method? m = some meth) (h3 : meth.code = some c) (h4 : c.code = bytes)
    (h5 : (c.maxLocals == mx && c.exceptionTable.isEmpty && decide (c.maxStack ≤ mostOperands) && decide (meth.sig.returnType = rt) && !meth.locks && decide (parseMethodDescriptor y.desc = some meth.sig)) = true) : (Jvm.Cond.code y bytes mx rt).before a s = true := by
  simp only [Bool.and_eq_true, beq_iff_eq, Bool.not_eq_true', decide_eq_true_eq] at h5
  obtain ⟨⟨⟨⟨⟨g1, g2⟩, g3⟩, g4⟩, g5⟩, g6⟩ := h5
  simp [Cond.before, Cond.holds, Cond.value, h1, h2, h3, h4, g1, g2, g3, g4, g5, g6]
def isCode : Jvm.Cond → Bool
  | .code _ _ _ _ => true
  | _ => false
theorem all_split {L : List Jvm.Cond} {P : Jvm.Cond → Bool} (h1 : L.all (fun c => isCode c || P c) = true) (h2 : ∀ c ∈ L.filter isCode, P c = true) : L.all P = true := by
  refine List.all_eq_true.mpr fun c hc => ?_
  have h := List.all_eq_true.mp h1 c hc
  rcases Bool.eq_false_or_eq_true (isCode c) with hi | hi
  · exact h2 c (List.mem_filter.mpr ⟨hc, hi⟩)
  · simpa [hi] using h
set_option maxRecDepth 65536 in
theorem w_c0 : (Jvm.Cond.code x code maxLocals ret).before args0 about1 = true := code_word (m := ⟨1, 2⟩) (meth := k1m2) (c := k1c2) (by decide +kernel) rfl rfl rfl (by decide +kernel)
set_option maxRecDepth 65536 in
theorem w_c1 : (Jvm.Cond.code ({ cls := "com/example/tallywick/tallywick/input/Utf8", name := "sequenceLength", desc := "(I)I" } : Jvm.MethodName) prog_37_method_2_code (1 : Nat) (Option.some Jvm.ClassFile.FieldType.int)).before args0 about1 = true := code_word (m := ⟨2, 1⟩) (meth := k2m1) (c := k2c1) (by decide +kernel) rfl rfl rfl (by decide +kernel)
set_option maxRecDepth 65536 in
theorem w_c2 : (Jvm.Cond.code ({ cls := "com/example/tallywick/tallywick/input/Utf8SequenceLengthPinLaw", name := "expected", desc := "(I)I" } : Jvm.MethodName) method_2_code (2 : Nat) (Option.some Jvm.ClassFile.FieldType.int)).before args0 about1 = true := code_word (m := ⟨1, 1⟩) (meth := k1m1) (c := k1c1) (by decide +kernel) rfl rfl rfl (by decide +kernel)
def codes1 : List Jvm.Cond := [Jvm.Cond.code x code maxLocals ret, Jvm.Cond.code ({ cls := "com/example/tallywick/tallywick/input/Utf8", name := "sequenceLength", desc := "(I)I" } : Jvm.MethodName) prog_37_method_2_code (1 : Nat) (Option.some Jvm.ClassFile.FieldType.int), Jvm.Cond.code ({ cls := "com/example/tallywick/tallywick/input/Utf8SequenceLengthPinLaw", name := "expected", desc := "(I)I" } : Jvm.MethodName) method_2_code (2 : Nat) (Option.some Jvm.ClassFile.FieldType.int)]
set_option maxRecDepth 65536 in
theorem codes_eq : words1.filter isCode = codes1 := rfl
theorem w_codes : ∀ c ∈ words1.filter isCode, c.before args0 about1 = true := by
  rw [codes_eq]
  intro c hc
  simp only [codes1, List.mem_cons, List.not_mem_nil, or_false] at hc
  rcases hc with rfl | rfl | rfl
  · exact w_c0
  · exact w_c1
  · exact w_c2
set_option maxRecDepth 65536 in
theorem w_t1 : words1.all (fun c => isCode c || c.before args0 about1) = true := by decide +kernel
theorem w_tables : (allAtoms (Jvm.Cond.code x code maxLocals ret :: tables_1)).before args0 about1 = true := by
  rw [allAtoms_all]
  show words1.all (fun c => c.before args0 about1) = true
  refine all_split ?_ w_codes
  rw [w_t1]
set_option maxRecDepth 65536 in
theorem w_case : (Jvm.Cond.and given_1 narrow_1).before args0 about1 = true := by decide +kernel
theorem w_applies : (headSpec (Jvm.Cond.code x code maxLocals ret :: tables_1) room_1).applies x e0.platform about1 = true :=
  (Spec.applies_iff w_frames).mpr ⟨w_running, w_runnable, w_alone, w_named, w_hears, w_ripe, w_room, w_tables⟩
theorem atStart : AtStart classFile x code maxLocals ret World_1 tables_1 room_1 Calls_1 rest_1 Pre_1 launch0 p0 e0 about1 theMethod args0 below0 :=
  ⟨lists_1, trivial, launch0.admits_env _ _ _, launch0.least_env, fairChoices_fair.cas, fairChoices_fair.clock, w_frames, w_args, w_heap, w_applies, trivial, trivial, w_case⟩
end start1
theorem witness_1 : WitnessClaimed_1 := ⟨start1.p0, start1.e0, start1.about1, start1.theMethod, start1.args0, start1.below0, start1.atStart⟩
end Jvm.Pilot.@@N@@
