import JvmDerived
import JvmDerived.Pilot.@@N@@Statement
import JvmDerived.Pilot.@@N@@Code
set_option linter.unusedVariables false
set_option linter.unusedSimpArgs false
namespace Jvm.RoadKit
open Sem ClassFile Op Lib Jvm.Stand Jvm.Free Jvm.LawKit
section New
variable {p : Program} {l : Launch} {e : Env} {R : Room} {s : State} {m : MethodId} {args : Array Value} {below : List Frame} {meth : Method} {c : Code} {T : State} {locs : List Loc} {cells slots : Nat}
theorem retI (X : Stand p l e R s m args below meth c T locs cells slots) (hx : p.tables.exec = Jvm.exec) {pc : Nat} {Ls : Array Slot} {z : Int32} {rest : List Value} (hret : meth.sig.returnType = some .int) (hd : decode c.code pc = .ok (.ireturn, 1)) {fs : List Frame}
    (hl : ∀ (f : JFrame) (acts : List Action), f.method = m → f.locked = none → f.entered = [] → (doReturn e (T.setTop f) acts (some (.int z))).1 = T.setFrames fs) : Steps p.tables e below (T.setTop (mkF m pc Ls (.int z :: rest))) (T.setFrames fs) := by
  have hm' : T.vm.method? m = some meth := X.method'
  have hn : narrow .int (.int z) = .int z := rfl
  show Steps p.tables e below (T.setTop { method := m, pc := pc, locals := Ls, stack := _ :: rest, locked := none }) _
  jvm_step X.here [X.here.top, hx, hd, hm', hret, hn]
  first | (intro acts; rw [hl _ acts rfl rfl rfl]) | rw [hl _ _ rfl rfl rfl]
  exact Steps.refl _
end New
end Jvm.RoadKit
namespace Jvm.Pilot.@@N@@
open Jvm Jvm.ClassFile Sem Op Lib Jvm.Free Jvm.Stand Jvm.LawKit Jvm.RoadKit Bundle Jvm.Pilot.@@N@@.Jvm.D
/-! what every block of a body's walk is given -/
def Ctx (p : Program) (Z s : State) (a0 : Array Value) (m : MethodId) (meth : Method) (c : Code) (own nm : String) (bytes : ByteArray) (maxl : Nat) (rt : Option FieldType) : Prop :=
  p.tables.exec = Jvm.exec ∧ Z.Warmed39 s.vm ∧ (∀ d ∈ tables_1, d.before a0 Z = true) ∧ c.code = bytes ∧ c.maxLocals = maxl ∧ meth.sig.returnType = rt ∧ s.vm.findClass own = some m.cls ∧ meth.name = nm ∧ meth.locks = false
/-- from the state A the body's run ends, returns, and leaves what Q says -/
def Fin (p : Program) (e : Env) (below : List Frame) (s : State) (cells slots : Nat) (Q : Option Value → Heap → List Loc → Prop) (A : State) : Prop :=
  ∃ s₂ o, Steps p.tables e below A s₂ ∧ s₂.status = .running ∧ Ended s₂ below o ∧ ∃ v L, o = .returned v ∧ Q v s₂.heap L ∧ FrameEnd s o s₂ L cells slots
section Ends
variable {p : Program} {l : Launch} {e : Env} {R : Room} {s : State} {m : MethodId} {args : Array Value} {below : List Frame} {meth : Method} {c : Code} {T : State} {locs : List Loc} {cells slots : Nat} {C S : Nat} {Q : Option Value → Heap → List Loc → Prop}
theorem Fin.by {A B : State} (h : ∀ t, Steps p.tables e below B t → Steps p.tables e below A t) (k : Fin p e below s C S Q B) : Fin p e below s C S Q A := by
  obtain ⟨s₂, o, h1, r⟩ := k
  exact ⟨s₂, o, h _ h1, r⟩
theorem own_retI (X : Stand p l e R s m args below meth c T locs cells slots) (hx : p.tables.exec = Jvm.exec) (hlk : meth.locks = false) {pc : Nat} {Ls : Array Slot} {z : Int32} {rest : List Value} (hret : meth.sig.returnType = some .int) (hd : decode c.code pc = .ok (.ireturn, 1)) (hc : cells ≤ C) (hs : slots ≤ S)
    (hq : Q (some (.int z)) T.heap locs) : Fin p e below s C S Q (T.setTop (mkF m pc Ls (.int z :: rest))) := by
  obtain ⟨fs, hr, hrun, hended, hW, hsame⟩ := X.leave (v := some (.int z)) (fun h => by rw [hret] at h; cases h) hlk
  exact ⟨_, _, retI X hx hret hd hr, hrun, hended, _, _, rfl, hq, ⟨_, rfl⟩, hW, hsame.mono hc hs⟩
theorem own_retN (X : Stand p l e R s m args below meth c T locs cells slots) (hx : p.tables.exec = Jvm.exec) (hlk : meth.locks = false) {pc : Nat} {Ls : Array Slot} {z : Int32} {rest : List Value} {t : FieldType} (hret : meth.sig.returnType = some t) (ht : t = .boolean ∨ t = .byte ∨ t = .char ∨ t = .short) (hd : decode c.code pc = .ok (.ireturn, 1)) (hc : cells ≤ C) (hs : slots ≤ S)
    (hq : Q (some (.int (nar t z))) T.heap locs) : Fin p e below s C S Q (T.setTop (mkF m pc Ls (.int z :: rest))) := by
  obtain ⟨fs, hr, hrun, hended, hW, hsame⟩ := X.leave (v := some (.int (nar t z))) (fun h => by rw [hret] at h; cases h) hlk
  exact ⟨_, _, retN X hx hret ht hd hr, hrun, hended, _, _, rfl, hq, ⟨_, rfl⟩, hW, hsame.mono hc hs⟩
theorem own_retJ (X : Stand p l e R s m args below meth c T locs cells slots) (hx : p.tables.exec = Jvm.exec) (hlk : meth.locks = false) {pc : Nat} {Ls : Array Slot} {z : Int64} (hret : meth.sig.returnType = some .long) (hd : decode c.code pc = .ok (.lreturn, 1)) (hc : cells ≤ C) (hs : slots ≤ S)
    (hq : Q (some (.long z)) T.heap locs) : Fin p e below s C S Q (T.setTop (mkF m pc Ls [.long z])) := by
  obtain ⟨fs, hr, hrun, hended, hW, hsame⟩ := X.leave (v := some (.long z)) (fun h => by rw [hret] at h; cases h) hlk
  exact ⟨_, _, X.lreturnOut hx hret hd hr, hrun, hended, _, _, rfl, hq, ⟨_, rfl⟩, hW, hsame.mono hc hs⟩
theorem own_retR (X : Stand p l e R s m args below meth c T locs cells slots) (hx : p.tables.exec = Jvm.exec) (hlk : meth.locks = false) {pc : Nat} {Ls : Array Slot} {z : Addr} {t : FieldType} (hret : meth.sig.returnType = some t) (ht : t.isReference = true) (hd : decode c.code pc = .ok (.areturn, 1)) (hc : cells ≤ C) (hs : slots ≤ S)
    (hq : Q (some (.ref z)) T.heap locs) : Fin p e below s C S Q (T.setTop (mkF m pc Ls [.ref z])) := by
  obtain ⟨fs, hr, hrun, hended, hW, hsame⟩ := X.leave (v := some (.ref z)) (fun h => by rw [hret] at h; cases h) hlk
  exact ⟨_, _, X.areturnOut hx rfl hret ht hd hr, hrun, hended, _, _, rfl, hq, ⟨_, rfl⟩, hW, hsame.mono hc hs⟩
theorem own_ret0 (X : Stand p l e R s m args below meth c T locs cells slots) (hx : p.tables.exec = Jvm.exec) (hlk : meth.locks = false) {pc : Nat} {Ls : Array Slot} (hret : meth.sig.returnType = none) (hd : decode c.code pc = .ok (.return_, 1)) (hc : cells ≤ C) (hs : slots ≤ S)
    (hq : Q none T.heap locs) : Fin p e below s C S Q (T.setTop (mkF m pc Ls [])) := by
  obtain ⟨fs, hr, hrun, hended, hW, hsame⟩ := X.leave (v := none) (fun _ => rfl) hlk
  exact ⟨_, _, X.returnOut hx hret hd hr, hrun, hended, _, _, rfl, hq, ⟨_, rfl⟩, hW, hsame.mono hc hs⟩
end Ends
section Arrays
variable {Z : State} {h h' : Heap} {a : Addr} {k : ClassId} {ty : FieldType} {n j : Int32} {vs : List Value} {d : Value}
/-- what an array of ints holds at the place j -/
def own_at (xs : List Int32) (j : Int32) : Int32 := xs.getD j.toNatClampNeg 0
def own_atJ (xs : List Int64) (j : Int32) : Int64 := xs.getD j.toNatClampNeg 0
theorem own_mapD (xs : List Int32) (i : Nat) : (xs.map Value.int).getD i (.int 0) = .int (xs.getD i 0) := by
  rw [List.getD_eq_getElem?_getD, List.getD_eq_getElem?_getD, List.getElem?_map]; cases xs[i]? <;> rfl
theorem own_mapDJ (xs : List Int64) (i : Nat) : (xs.map Value.long).getD i (.long 0) = .long (xs.getD i 0) := by
  rw [List.getD_eq_getElem?_getD, List.getD_eq_getElem?_getD, List.getElem?_map]; cases xs[i]? <;> rfl
theorem own_open (V : Arv Z h a k ty n vs d) (hj : ¬ (j < 0) ∧ j < n) : ∃ cl, Arr Z h a cl ty ∧ ¬ (j < 0 ∨ cl.slots.size ≤ j.toNatClampNeg) ∧ True := by
  obtain ⟨cl, Ar, -, S, -, -, -⟩ := V
  exact ⟨cl, Ar, inb_of S hj, trivial⟩
theorem own_readI {xs : List Int32} (V : Arv Z h a k ty n (xs.map Value.int) (.int 0)) (hj : ¬ (j < 0) ∧ j < n) (i : Nat) (hi : j.toNatClampNeg = i) : ∃ cl, Arr Z h a cl ty ∧ ¬ (j < 0 ∨ cl.slots.size ≤ j.toNatClampNeg) ∧ cl.slots[j.toNatClampNeg]? = some (.int (xs.getD i 0)) := by
  obtain ⟨cl, Ar, -, S, -, H, -⟩ := V
  have q := inb_of S hj
  refine ⟨cl, Ar, q, ?_⟩
  rw [H _ (Nat.lt_of_not_le fun y => q (Or.inr y)), own_mapD, hi]
theorem own_readJ {xs : List Int64} (V : Arv Z h a k ty n (xs.map Value.long) (.long 0)) (hj : ¬ (j < 0) ∧ j < n) (i : Nat) (hi : j.toNatClampNeg = i) : ∃ cl, Arr Z h a cl ty ∧ ¬ (j < 0 ∨ cl.slots.size ≤ j.toNatClampNeg) ∧ cl.slots[j.toNatClampNeg]? = some (.long (xs.getD i 0)) := by
  obtain ⟨cl, Ar, -, S, -, H, -⟩ := V
  have q := inb_of S hj
  refine ⟨cl, Ar, q, ?_⟩
  rw [H _ (Nat.lt_of_not_le fun y => q (Or.inr y)), own_mapDJ, hi]
theorem own_setI {xs : List Int32} {v : Int32} (V : Arv Z h a k ty n (xs.map Value.int) (.int 0)) (ln : xs.length = n.toNatClampNeg) (hj : ¬ (j < 0) ∧ j < n) (W : Wr h h' a j.toNatClampNeg (.int v)) (hf : fits ty (.int v) = true) (i : Nat) (hi : j.toNatClampNeg = i) :
    Arv Z h' a k ty n ((xs.set i v).map Value.int) (.int 0) ∧ (xs.set i v).length = n.toNatClampNeg := by
  subst hi
  obtain ⟨cl, Ar, q1, S, q3, H, G⟩ := V
  have q := inb_of S hj
  have W2 := Arv.set Ar q1 S q3 H G hf W j.toNatClampNeg rfl (by rw [List.length_map, ln, ← S]; exact Nat.lt_of_not_le fun y => q (Or.inr y))
  rw [List.map_set]
  exact ⟨W2, by rw [List.length_set]; exact ln⟩
theorem own_setJ {xs : List Int64} {v : Int64} (V : Arv Z h a k ty n (xs.map Value.long) (.long 0)) (ln : xs.length = n.toNatClampNeg) (hj : ¬ (j < 0) ∧ j < n) (W : Wr h h' a j.toNatClampNeg (.long v)) (hf : fits ty (.long v) = true) (i : Nat) (hi : j.toNatClampNeg = i) :
    Arv Z h' a k ty n ((xs.set i v).map Value.long) (.long 0) ∧ (xs.set i v).length = n.toNatClampNeg := by
  subst hi
  obtain ⟨cl, Ar, q1, S, q3, H, G⟩ := V
  have q := inb_of S hj
  have W2 := Arv.set Ar q1 S q3 H G hf W j.toNatClampNeg rfl (by rw [List.length_map, ln, ← S]; exact Nat.lt_of_not_le fun y => q (Or.inr y))
  rw [List.map_set]
  exact ⟨W2, by rw [List.length_set]; exact ln⟩
theorem own_newI (A : Arr Z h a (newA k ty n) ty) (hd : defaultValue ty = .int 0) (q : ¬ n < 0) {xs : List Int32} (hxs : xs = List.replicate n.toNatClampNeg 0) : Arv Z h a k ty n (xs.map Value.int) (.int 0) ∧ xs.length = n.toNatClampNeg := by
  subst hxs
  have V := Arv.new A q
  rw [hd] at V
  have V2 := V.pad (pad_rep [] (.int 0) n.toNatClampNeg)
  rw [List.map_replicate]
  exact ⟨V2, by rw [List.length_replicate]⟩
theorem own_newJ (A : Arr Z h a (newA k ty n) ty) (hd : defaultValue ty = .long 0) (q : ¬ n < 0) {xs : List Int64} (hxs : xs = List.replicate n.toNatClampNeg 0) : Arv Z h a k ty n (xs.map Value.long) (.long 0) ∧ xs.length = n.toNatClampNeg := by
  subst hxs
  have V := Arv.new A q
  rw [hd] at V
  have V2 := V.pad (pad_rep [] (.long 0) n.toNatClampNeg)
  rw [List.map_replicate]
  exact ⟨V2, by rw [List.length_replicate]⟩
end Arrays
theorem d1_0 : decode jdk_29_method_66_code 0 = .ok (.lload_n 0, 1) := by decide +kernel
theorem d1_1 : decode jdk_29_method_66_code 1 = .ok (.lload_n 2, 1) := by decide +kernel
theorem d1_2 : decode jdk_29_method_66_code 2 = .ok (.lcmp, 1) := by decide +kernel
theorem d1_3 : decode jdk_29_method_66_code 3 = .ok (.ifCond .lt 7, 3) := by decide +kernel
theorem d1_6 : decode jdk_29_method_66_code 6 = .ok (.lload_n 0, 1) := by decide +kernel
theorem d1_7 : decode jdk_29_method_66_code 7 = .ok (.goto 4, 3) := by decide +kernel
theorem d1_10 : decode jdk_29_method_66_code 10 = .ok (.lload_n 2, 1) := by decide +kernel
theorem d1_11 : decode jdk_29_method_66_code 11 = .ok (.lreturn, 1) := by decide +kernel
def R1 : Room := { frames := 0, cells := 0, slots := 0, locals := 0 }
def Q1 (Z : State)  (h0 : Heap) (n0 : Nat) (r : Int64) (v : Option Value) (h : Heap) (L : List Loc) : Prop := v = some (.long r) ∧ Fr n0 L ∧ h = h0
def f1_0 (v0 : Int64) (v2 : Int64) : Int64 := (if v0 < v2 then v2 else v0)
set_option maxRecDepth 65536 in
set_option maxHeartbeats 40000000 in
theorem b1_0 {p : Program} {l : Launch} {e : Env} {s : State} {m : MethodId} {args : Array Value} {below : List Frame} {meth : Method} {c : Code} {Z : State} {a0 : Array Value} (B : Ctx p Z s a0 m meth c "java/lang/Math" "max" jdk_29_method_66_code 4 (some .long)) {T0 : State} {locs : List Loc} {h : Heap} (h0 : Heap) (n0 : Nat) (v0 : Int64) (v2 : Int64) (X0 : Stand p l e R1 s m args below meth c T0 locs 0 0) (e0 : T0.heap = h) (N0 : Fr n0 locs) (Z0 : n0 ≤ h.size) (hh0 : h = h0) (r : Int64) (hr : f1_0 v0 v2 = r) :
    Fin p e below s R1.cells R1.slots (Q1 Z  h0 n0 r) (T0.setTop (mkF m 0 #[.val (.long v0), .second, .val (.long v2), .second] [])) := by
  obtain ⟨hx, hZ, hw, hby, hml, hret, hown, hnm, hlk⟩ := B
  unfold f1_0 at hr
  refine Fin.by (B := T0.setTop (mkF m 3 #[.val (.long v0), .second, .val (.long v2), .second] [(.int (lcmpW v0 v2))])) (fun t k => ?_) ?_
  · show Steps p.tables e below (T0.setTop (mkF m 0 #[.val (.long v0), .second, .val (.long v2), .second] [])) _
    refine XS.lloadN X0.here hx rfl (hb hby d1_0) rfl  ?_
    show Steps p.tables e below (T0.setTop (mkF m 1 #[.val (.long v0), .second, .val (.long v2), .second] [(.long v0)])) _
    refine XS.lloadN X0.here hx rfl (hb hby d1_1) rfl  ?_
    show Steps p.tables e below (T0.setTop (mkF m 2 #[.val (.long v0), .second, .val (.long v2), .second] [(.long v2), (.long v0)])) _
    refine XS.lcmp X0.here hx rfl (hb hby d1_2) rfl ?_
    exact k
  by_cases hc3 : v0 < v2
  · rw [if_pos hc3] at hr
    refine Fin.by (B := T0.setTop (mkF m 10 #[.val (.long v0), .second, .val (.long v2), .second] [])) (fun t k => ?_) ?_
    · show Steps p.tables e below (T0.setTop (mkF m 3 #[.val (.long v0), .second, .val (.long v2), .second] [(.int (lcmpW v0 v2))])) _
      exact XS.ifYes X0.here hx rfl (pc0 := 3) (pc' := 10) rfl (hb hby d1_3) rfl ((if0 _ _).trans (tlt ((lw_lt _ _).mpr hc3)).1) (by decide) (by decide) k
    refine Fin.by (B := T0.setTop (mkF m 11 #[.val (.long v0), .second, .val (.long v2), .second] [(.long v2)])) (fun t k => ?_) ?_
    · show Steps p.tables e below (T0.setTop (mkF m 10 #[.val (.long v0), .second, .val (.long v2), .second] [])) _
      refine XS.lloadN X0.here hx rfl (hb hby d1_10) rfl  ?_
      exact k
    subst hr
    exact own_retJ X0 hx hlk hret (hb hby d1_11) (by decide) (by decide) ⟨rfl, N0, (e0.trans hh0)⟩
  · rw [if_neg hc3] at hr
    refine Fin.by (B := T0.setTop (mkF m 6 #[.val (.long v0), .second, .val (.long v2), .second] [])) (fun t k => ?_) ?_
    · show Steps p.tables e below (T0.setTop (mkF m 3 #[.val (.long v0), .second, .val (.long v2), .second] [(.int (lcmpW v0 v2))])) _
      exact XS.ifNo X0.here hx rfl (hb hby d1_3) rfl ((if0 _ _).trans (flt (fun q => hc3 ((lw_lt _ _).mp q))).1) k
    refine Fin.by (B := T0.setTop (mkF m 11 #[.val (.long v0), .second, .val (.long v2), .second] [(.long v0)])) (fun t k => ?_) ?_
    · show Steps p.tables e below (T0.setTop (mkF m 6 #[.val (.long v0), .second, .val (.long v2), .second] [])) _
      refine XS.lloadN X0.here hx rfl (hb hby d1_6) rfl  ?_
      show Steps p.tables e below (T0.setTop (mkF m 7 #[.val (.long v0), .second, .val (.long v2), .second] [(.long v0)])) _
      refine XS.goto X0.here hx rfl (pc0 := 7) (pc' := 11) rfl (hb hby d1_7) (by decide) (by decide) ?_
      exact k
    subst hr
    exact own_retJ X0 hx hlk hret (hb hby d1_11) (by decide) (by decide) ⟨rfl, N0, (e0.trans hh0)⟩
theorem ef_1 (m : MethodId) (v0 : Int64) (v2 : Int64) : entryFrame m #[(.long v0), (.long v2)] 4 = (mkF m 0 #[.val (.long v0), .second, .val (.long v2), .second] []) := by first | (simp [entryFrame, mkF, argsToLocals, Value.category]; done) | rfl
set_option maxRecDepth 65536 in
set_option maxHeartbeats 40000000 in
theorem rm1 (l : Launch) (Z : State) (a0 : Array Value) (hw : ∀ d ∈ tables_1, d.before a0 Z = true) (ws : List Jvm.Cond) (v0 : Int64) (v2 : Int64) (h0 : Heap) (n0 : Nat) (Z0 : n0 ≤ h0.size) :
    MetFree l (⟨"java/lang/Math", "max", "(JJ)J"⟩ : MethodName) (head1 (Jvm.Cond.code (⟨"java/lang/Math", "max", "(JJ)J"⟩ : MethodName) jdk_29_method_66_code 4 (some .long) :: ws) R1) (fun a U => a = #[(.long v0), (.long v2)] ∧ Z.Warmed39 U.vm ∧ U.heap = h0) (fun _ _ _ _ _ => True) (fun _ U o U' => ∃ v L, o = .returned v ∧ (Q1 Z  h0 n0 (f1_0 v0 v2)) v U'.heap L ∧ FrameEnd U o U' L R1.cells R1.slots) := by
  refine MetFree.of_bodySF (Jvm.Free.JP.mathPlain rfl (by decide +kernel)) hisR ?_
  intro p e s m args below meth c s₁ Bd hml0 hP hK
  obtain ⟨rfl, hZ, hh⟩ := hP
  have B : Ctx p Z s a0 m meth c "java/lang/Math" "max" jdk_29_method_66_code 4 (some .long) := ⟨Bd.exec, hZ, hw, Bd.bytes, hml0, Bd.returns, findClass_of_methodNamed Bd.named, (name_of_methodNamed Bd.named Bd.method).1, Bd.notSynchronized⟩
  have X0 : Stand p l e R1 s m #[(.long v0), (.long v2)] below meth c s₁ [] 0 0 := Stand.of_body Bd
  have e0 : s₁.heap = h0 := by rw [← hh, Bd.state]; rfl
  have K := Keep.refl h0 []
  show Fin p e below s R1.cells R1.slots (Q1 Z  h0 n0 (f1_0 v0 v2)) (s₁.setTop (entryFrame m #[(.long v0), (.long v2)] 4))
  refine Fin.by (fun t k => castTop (ef_1 m v0 v2) k) ?_
  exact b1_0 B h0 n0 v0 v2 X0 e0 (Fr.nil n0) Z0 rfl  _ rfl
theorem pd_0 : parseMethodDescriptor "(JJ)J" = some ⟨[.long, .long], some .long⟩ := by decide +kernel
theorem d2_0 : decode prog_116_method_1_code 0 = .ok (.aload_n 0, 1) := by decide +kernel
theorem d2_1 : decode prog_116_method_1_code 1 = .ok (.invokespecial 1, 3) := by decide +kernel
theorem d2_4 : decode prog_116_method_1_code 4 = .ok (.aload_n 0, 1) := by decide +kernel
theorem d2_5 : decode prog_116_method_1_code 5 = .ok (.lload_n 1, 1) := by decide +kernel
theorem d2_6 : decode prog_116_method_1_code 6 = .ok (.putfield 7, 3) := by decide +kernel
theorem d2_9 : decode prog_116_method_1_code 9 = .ok (.aload_n 0, 1) := by decide +kernel
theorem d2_10 : decode prog_116_method_1_code 10 = .ok (.lload_n 1, 1) := by decide +kernel
theorem d2_11 : decode prog_116_method_1_code 11 = .ok (.lload_n 1, 1) := by decide +kernel
theorem d2_12 : decode prog_116_method_1_code 12 = .ok (.ldc2_w 13, 3) := by decide +kernel
theorem d2_15 : decode prog_116_method_1_code 15 = .ok (.ldiv, 1) := by decide +kernel
theorem d2_16 : decode prog_116_method_1_code 16 = .ok (.lsub, 1) := by decide +kernel
theorem d2_17 : decode prog_116_method_1_code 17 = .ok (.putfield 15, 3) := by decide +kernel
theorem d2_20 : decode prog_116_method_1_code 20 = .ok (.aload_n 0, 1) := by decide +kernel
theorem d2_21 : decode prog_116_method_1_code 21 = .ok (.lload_n 3, 1) := by decide +kernel
theorem d2_22 : decode prog_116_method_1_code 22 = .ok (.putfield 18, 3) := by decide +kernel
theorem d2_25 : decode prog_116_method_1_code 25 = .ok (.aload_n 0, 1) := by decide +kernel
theorem d2_26 : decode prog_116_method_1_code 26 = .ok (.lload_n 3, 1) := by decide +kernel
theorem d2_27 : decode prog_116_method_1_code 27 = .ok (.putfield 21, 3) := by decide +kernel
theorem d2_30 : decode prog_116_method_1_code 30 = .ok (.return_, 1) := by decide +kernel
theorem pn_2 : plainName "com/example/quietwire/quietwire/transport/TickSchedule" = true := by first | (simp [plainName, overriddenIn]; done) | decide +kernel
def R2 : Room := { frames := 1, cells := 0, slots := 0, locals := 12 }
def Q2 (Z : State) (o0 : Addr) (h0 : Heap) (n0 : Nat) (r : Int64 × Int64 × Int64 × Int64) (v : Option Value) (h : Heap) (L : List Loc) : Prop := v = none ∧ Fr n0 L ∧ Keep h0 h [o0] ∧ Exa Z h o0 "com/example/quietwire/quietwire/transport/TickSchedule" ∧ Fld Z h o0 "com/example/quietwire/quietwire/transport/TickSchedule" "period" "J" (.long r.1) ∧ Fld Z h o0 "com/example/quietwire/quietwire/transport/TickSchedule" "shortest" "J" (.long r.2.1) ∧ Fld Z h o0 "com/example/quietwire/quietwire/transport/TickSchedule" "scheduled" "J" (.long r.2.2.1) ∧ Fld Z h o0 "com/example/quietwire/quietwire/transport/TickSchedule" "soonest" "J" (.long r.2.2.2)
def f2_0 (v1 : Int64) (v3 : Int64) (o0_period : Int64) (o0_shortest : Int64) (o0_scheduled : Int64) (o0_soonest : Int64) : Int64 × Int64 × Int64 × Int64 := (v1, (v1 - (v1 / (10 : Int64))), v3, v3)
set_option maxRecDepth 65536 in
set_option maxHeartbeats 40000000 in
theorem b2_0 {p : Program} {l : Launch} {e : Env} {s : State} {m : MethodId} {args : Array Value} {below : List Frame} {meth : Method} {c : Code} {Z : State} {a0 : Array Value} (B : Ctx p Z s a0 m meth c "com/example/quietwire/quietwire/transport/TickSchedule" "<init>" prog_116_method_1_code 5 none) {T0 : State} {locs : List Loc} {h : Heap} (h0 : Heap) (n0 : Nat) (o0 : Addr) (v1 : Int64) (v3 : Int64) (o0_period : Int64) (o0_shortest : Int64) (o0_scheduled : Int64) (o0_soonest : Int64) (X0 : Stand p l e R2 s m args below meth c T0 locs 0 0) (e0 : T0.heap = h) (N0 : Fr n0 locs) (Z0 : n0 ≤ h.size) (K : Keep h0 h [o0]) (E_o0 : Exa Z h o0 "com/example/quietwire/quietwire/transport/TickSchedule") (F_o0_period : Fld Z h o0 "com/example/quietwire/quietwire/transport/TickSchedule" "period" "J" (.long o0_period)) (F_o0_shortest : Fld Z h o0 "com/example/quietwire/quietwire/transport/TickSchedule" "shortest" "J" (.long o0_shortest)) (F_o0_scheduled : Fld Z h o0 "com/example/quietwire/quietwire/transport/TickSchedule" "scheduled" "J" (.long o0_scheduled)) (F_o0_soonest : Fld Z h o0 "com/example/quietwire/quietwire/transport/TickSchedule" "soonest" "J" (.long o0_soonest)) (g_o0 : n0 ≤ o0) (r : Int64 × Int64 × Int64 × Int64) (hr : f2_0 v1 v3 o0_period o0_shortest o0_scheduled o0_soonest = r) :
    Fin p e below s R2.cells R2.slots (Q2 Z o0 h0 n0 r) (T0.setTop (mkF m 0 #[.val (.ref o0), .val (.long v1), .second, .val (.long v3), .second] [])) := by
  obtain ⟨hx, hZ, hw, hby, hml, hret, hown, hnm, hlk⟩ := B
  unfold f2_0 at hr
  refine Fin.by (B := T0.setTop (mkF m 1 #[.val (.ref o0), .val (.long v1), .second, .val (.long v3), .second] [(.ref o0)])) (fun t k => ?_) ?_
  · show Steps p.tables e below (T0.setTop (mkF m 0 #[.val (.ref o0), .val (.long v1), .second, .val (.long v3), .second] [])) _
    refine XS.aloadN X0.here hx rfl (hb hby d2_0) rfl rfl ?_
    exact k
  obtain ⟨T1, X1, e1, st1⟩ := initO X0 hx hZ hown (hw _ (List.mem_of_getElem? (i := 13) rfl)) (hw _ (List.mem_of_getElem? (i := 14) rfl)) (hw _ (List.mem_of_getElem? (i := 15) rfl)) e0 (g := (mkF m 1 #[.val (.ref o0), .val (.long v1), .second, .val (.long v3), .second] [(.ref o0)])) rfl (by rw [hml]; rfl) rfl (hb hby d2_1) (by decide) (W := 0) (by show 2 * 0 + _ ≤ _; exact Nat.le_of_eq rfl) (by decide)
  refine Fin.by (B := T1.setTop (mkF m 4 #[.val (.ref o0), .val (.long v1), .second, .val (.long v3), .second] [])) (fun t k => st1 t k) ?_
  refine Fin.by (B := T1.setTop (mkF m 6 #[.val (.ref o0), .val (.long v1), .second, .val (.long v3), .second] [(.long v1), (.ref o0)])) (fun t k => ?_) ?_
  · show Steps p.tables e below (T1.setTop (mkF m 4 #[.val (.ref o0), .val (.long v1), .second, .val (.long v3), .second] [])) _
    refine XS.aloadN X1.here hx rfl (hb hby d2_4) rfl rfl ?_
    show Steps p.tables e below (T1.setTop (mkF m 5 #[.val (.ref o0), .val (.long v1), .second, .val (.long v3), .second] [(.ref o0)])) _
    refine XS.lloadN X1.here hx rfl (hb hby d2_5) rfl  ?_
    exact k
  obtain ⟨T2, h2, X2, e2, W2, st2⟩ := putF X1 hx hZ hown (host := "") (Or.inl (hw _ (List.mem_of_getElem? (i := 16) rfl))) Via.refl e1 F_o0_period E_o0 (Or.inr ⟨(hw _ (List.mem_of_getElem? (i := 17) rfl)), rfl, hnm⟩) (hw _ (List.mem_of_getElem? (i := 8) rfl)) (ty := .long) (by decide) rfl rfl (g := (mkF m 6 #[.val (.ref o0), .val (.long v1), .second, .val (.long v3), .second] [(.long v1), (.ref o0)])) rfl rfl (hb hby d2_6)
  have E_o0_2 := E_o0.wr W2
  have F_o0_period_2 := F_o0_period.same W2
  have F_o0_shortest_2 := F_o0_shortest.other W2 (Or.inr (slot_ne (Or.inr (hw _ (List.mem_of_getElem? (i := 20) rfl))) (Or.inr (hw _ (List.mem_of_getElem? (i := 17) rfl))) (by decide) (t := .long) (t' := .long) (by decide) (by decide)))
  have F_o0_scheduled_2 := F_o0_scheduled.other W2 (Or.inr (slot_ne (Or.inl (hw _ (List.mem_of_getElem? (i := 22) rfl))) (Or.inr (hw _ (List.mem_of_getElem? (i := 17) rfl))) (by decide) (t := .long) (t' := .long) (by decide) (by decide)))
  have F_o0_soonest_2 := F_o0_soonest.other W2 (Or.inr (slot_ne (Or.inl (hw _ (List.mem_of_getElem? (i := 24) rfl))) (Or.inr (hw _ (List.mem_of_getElem? (i := 17) rfl))) (by decide) (t := .long) (t' := .long) (by decide) (by decide)))
  have N2 := Fr.snoc X2 N0 g_o0
  have Z2 : n0 ≤ h2.size := Nat.le_trans Z0 (Nat.le_of_eq W2.size.symm)
  have K2 := K.wr W2 (Or.inl (by simp))
  refine Fin.by (B := T2.setTop (mkF m 9 #[.val (.ref o0), .val (.long v1), .second, .val (.long v3), .second] [])) (fun t k => st2 t k) ?_
  refine Fin.by (B := T2.setTop (mkF m 15 #[.val (.ref o0), .val (.long v1), .second, .val (.long v3), .second] [(.long (10 : Int64)), (.long v1), (.long v1), (.ref o0)])) (fun t k => ?_) ?_
  · show Steps p.tables e below (T2.setTop (mkF m 9 #[.val (.ref o0), .val (.long v1), .second, .val (.long v3), .second] [])) _
    refine XS.aloadN X2.here hx rfl (hb hby d2_9) rfl rfl ?_
    show Steps p.tables e below (T2.setTop (mkF m 10 #[.val (.ref o0), .val (.long v1), .second, .val (.long v3), .second] [(.ref o0)])) _
    refine XS.lloadN X2.here hx rfl (hb hby d2_10) rfl  ?_
    show Steps p.tables e below (T2.setTop (mkF m 11 #[.val (.ref o0), .val (.long v1), .second, .val (.long v3), .second] [(.long v1), (.ref o0)])) _
    refine XS.lloadN X2.here hx rfl (hb hby d2_11) rfl  ?_
    show Steps p.tables e below (T2.setTop (mkF m 12 #[.val (.ref o0), .val (.long v1), .second, .val (.long v3), .second] [(.long v1), (.long v1), (.ref o0)])) _
    refine X2.ldc2Long hx hown (mvT hZ (hw _ (List.mem_of_getElem? (i := 18) rfl))) (g := (mkF m 12 #[.val (.ref o0), .val (.long v1), .second, .val (.long v3), .second] [(.long v1), (.long v1), (.ref o0)])) rfl (hb hby d2_12) _ ?_
    exact k
  have hnz15 : ¬ ((10 : Int64) = (0 : Int64)) := by decide
  refine Fin.by (B := T2.setTop (mkF m 17 #[.val (.ref o0), .val (.long v1), .second, .val (.long v3), .second] [(.long (v1 - (v1 / (10 : Int64)))), (.ref o0)])) (fun t k => ?_) ?_
  · show Steps p.tables e below (T2.setTop (mkF m 15 #[.val (.ref o0), .val (.long v1), .second, .val (.long v3), .second] [(.long (10 : Int64)), (.long v1), (.long v1), (.ref o0)])) _
    refine XS.ldiv X2.here hx rfl (hb hby d2_15) rfl hnz15 ?_
    show Steps p.tables e below (T2.setTop (mkF m 16 #[.val (.ref o0), .val (.long v1), .second, .val (.long v3), .second] [(.long (v1 / (10 : Int64))), (.long v1), (.ref o0)])) _
    refine XS.lsub X2.here hx rfl (hb hby d2_16) rfl ?_
    exact k
  obtain ⟨T3, h3, X3, e3, W3, st3⟩ := putF X2 hx hZ hown (host := "") (Or.inl (hw _ (List.mem_of_getElem? (i := 19) rfl))) Via.refl e2 F_o0_shortest_2 E_o0_2 (Or.inr ⟨(hw _ (List.mem_of_getElem? (i := 20) rfl)), rfl, hnm⟩) (hw _ (List.mem_of_getElem? (i := 8) rfl)) (ty := .long) (by decide) rfl rfl (g := (mkF m 17 #[.val (.ref o0), .val (.long v1), .second, .val (.long v3), .second] [(.long (v1 - (v1 / (10 : Int64)))), (.ref o0)])) rfl rfl (hb hby d2_17)
  have E_o0_3 := E_o0_2.wr W3
  have F_o0_period_3 := F_o0_period_2.other W3 (Or.inr (slot_ne (Or.inr (hw _ (List.mem_of_getElem? (i := 17) rfl))) (Or.inr (hw _ (List.mem_of_getElem? (i := 20) rfl))) (by decide) (t := .long) (t' := .long) (by decide) (by decide)))
  have F_o0_shortest_3 := F_o0_shortest_2.same W3
  have F_o0_scheduled_3 := F_o0_scheduled_2.other W3 (Or.inr (slot_ne (Or.inl (hw _ (List.mem_of_getElem? (i := 22) rfl))) (Or.inr (hw _ (List.mem_of_getElem? (i := 20) rfl))) (by decide) (t := .long) (t' := .long) (by decide) (by decide)))
  have F_o0_soonest_3 := F_o0_soonest_2.other W3 (Or.inr (slot_ne (Or.inl (hw _ (List.mem_of_getElem? (i := 24) rfl))) (Or.inr (hw _ (List.mem_of_getElem? (i := 20) rfl))) (by decide) (t := .long) (t' := .long) (by decide) (by decide)))
  have N3 := Fr.snoc X3 N2 g_o0
  have Z3 : n0 ≤ h3.size := Nat.le_trans Z2 (Nat.le_of_eq W3.size.symm)
  have K3 := K2.wr W3 (Or.inl (by simp))
  refine Fin.by (B := T3.setTop (mkF m 20 #[.val (.ref o0), .val (.long v1), .second, .val (.long v3), .second] [])) (fun t k => st3 t k) ?_
  refine Fin.by (B := T3.setTop (mkF m 22 #[.val (.ref o0), .val (.long v1), .second, .val (.long v3), .second] [(.long v3), (.ref o0)])) (fun t k => ?_) ?_
  · show Steps p.tables e below (T3.setTop (mkF m 20 #[.val (.ref o0), .val (.long v1), .second, .val (.long v3), .second] [])) _
    refine XS.aloadN X3.here hx rfl (hb hby d2_20) rfl rfl ?_
    show Steps p.tables e below (T3.setTop (mkF m 21 #[.val (.ref o0), .val (.long v1), .second, .val (.long v3), .second] [(.ref o0)])) _
    refine XS.lloadN X3.here hx rfl (hb hby d2_21) rfl  ?_
    exact k
  obtain ⟨T4, h4, X4, e4, W4, st4⟩ := putF X3 hx hZ hown (host := "") (Or.inl (hw _ (List.mem_of_getElem? (i := 21) rfl))) Via.refl e3 F_o0_scheduled_3 E_o0_3 (Or.inl (hw _ (List.mem_of_getElem? (i := 22) rfl))) (hw _ (List.mem_of_getElem? (i := 8) rfl)) (ty := .long) (by decide) rfl rfl (g := (mkF m 22 #[.val (.ref o0), .val (.long v1), .second, .val (.long v3), .second] [(.long v3), (.ref o0)])) rfl rfl (hb hby d2_22)
  have E_o0_4 := E_o0_3.wr W4
  have F_o0_period_4 := F_o0_period_3.other W4 (Or.inr (slot_ne (Or.inr (hw _ (List.mem_of_getElem? (i := 17) rfl))) (Or.inl (hw _ (List.mem_of_getElem? (i := 22) rfl))) (by decide) (t := .long) (t' := .long) (by decide) (by decide)))
  have F_o0_shortest_4 := F_o0_shortest_3.other W4 (Or.inr (slot_ne (Or.inr (hw _ (List.mem_of_getElem? (i := 20) rfl))) (Or.inl (hw _ (List.mem_of_getElem? (i := 22) rfl))) (by decide) (t := .long) (t' := .long) (by decide) (by decide)))
  have F_o0_scheduled_4 := F_o0_scheduled_3.same W4
  have F_o0_soonest_4 := F_o0_soonest_3.other W4 (Or.inr (slot_ne (Or.inl (hw _ (List.mem_of_getElem? (i := 24) rfl))) (Or.inl (hw _ (List.mem_of_getElem? (i := 22) rfl))) (by decide) (t := .long) (t' := .long) (by decide) (by decide)))
  have N4 := Fr.snoc X4 N3 g_o0
  have Z4 : n0 ≤ h4.size := Nat.le_trans Z3 (Nat.le_of_eq W4.size.symm)
  have K4 := K3.wr W4 (Or.inl (by simp))
  refine Fin.by (B := T4.setTop (mkF m 25 #[.val (.ref o0), .val (.long v1), .second, .val (.long v3), .second] [])) (fun t k => st4 t k) ?_
  refine Fin.by (B := T4.setTop (mkF m 27 #[.val (.ref o0), .val (.long v1), .second, .val (.long v3), .second] [(.long v3), (.ref o0)])) (fun t k => ?_) ?_
  · show Steps p.tables e below (T4.setTop (mkF m 25 #[.val (.ref o0), .val (.long v1), .second, .val (.long v3), .second] [])) _
    refine XS.aloadN X4.here hx rfl (hb hby d2_25) rfl rfl ?_
    show Steps p.tables e below (T4.setTop (mkF m 26 #[.val (.ref o0), .val (.long v1), .second, .val (.long v3), .second] [(.ref o0)])) _
    refine XS.lloadN X4.here hx rfl (hb hby d2_26) rfl  ?_
    exact k
  obtain ⟨T5, h5, X5, e5, W5, st5⟩ := putF X4 hx hZ hown (host := "") (Or.inl (hw _ (List.mem_of_getElem? (i := 23) rfl))) Via.refl e4 F_o0_soonest_4 E_o0_4 (Or.inl (hw _ (List.mem_of_getElem? (i := 24) rfl))) (hw _ (List.mem_of_getElem? (i := 8) rfl)) (ty := .long) (by decide) rfl rfl (g := (mkF m 27 #[.val (.ref o0), .val (.long v1), .second, .val (.long v3), .second] [(.long v3), (.ref o0)])) rfl rfl (hb hby d2_27)
  have E_o0_5 := E_o0_4.wr W5
  have F_o0_period_5 := F_o0_period_4.other W5 (Or.inr (slot_ne (Or.inr (hw _ (List.mem_of_getElem? (i := 17) rfl))) (Or.inl (hw _ (List.mem_of_getElem? (i := 24) rfl))) (by decide) (t := .long) (t' := .long) (by decide) (by decide)))
  have F_o0_shortest_5 := F_o0_shortest_4.other W5 (Or.inr (slot_ne (Or.inr (hw _ (List.mem_of_getElem? (i := 20) rfl))) (Or.inl (hw _ (List.mem_of_getElem? (i := 24) rfl))) (by decide) (t := .long) (t' := .long) (by decide) (by decide)))
  have F_o0_scheduled_5 := F_o0_scheduled_4.other W5 (Or.inr (slot_ne (Or.inl (hw _ (List.mem_of_getElem? (i := 22) rfl))) (Or.inl (hw _ (List.mem_of_getElem? (i := 24) rfl))) (by decide) (t := .long) (t' := .long) (by decide) (by decide)))
  have F_o0_soonest_5 := F_o0_soonest_4.same W5
  have N5 := Fr.snoc X5 N4 g_o0
  have Z5 : n0 ≤ h5.size := Nat.le_trans Z4 (Nat.le_of_eq W5.size.symm)
  have K5 := K4.wr W5 (Or.inl (by simp))
  refine Fin.by (B := T5.setTop (mkF m 30 #[.val (.ref o0), .val (.long v1), .second, .val (.long v3), .second] [])) (fun t k => st5 t k) ?_
  subst hr
  exact own_ret0 X5 hx hlk hret (hb hby d2_30) (by decide) (by decide) ⟨rfl, N5, (by rw [e5]; exact K5), (by rw [e5]; exact E_o0_5), (by rw [e5]; exact F_o0_period_5), (by rw [e5]; exact F_o0_shortest_5), (by rw [e5]; exact F_o0_scheduled_5), (by rw [e5]; exact F_o0_soonest_5)⟩
theorem ef_2 (m : MethodId) (o0 : Addr) (v1 : Int64) (v3 : Int64) : entryFrame m #[(.ref o0), (.long v1), (.long v3)] 5 = (mkF m 0 #[.val (.ref o0), .val (.long v1), .second, .val (.long v3), .second] []) := by first | (simp [entryFrame, mkF, argsToLocals, Value.category]; done) | rfl
set_option maxRecDepth 65536 in
set_option maxHeartbeats 40000000 in
theorem rm2 (l : Launch) (Z : State) (a0 : Array Value) (hw : ∀ d ∈ tables_1, d.before a0 Z = true) (ws : List Jvm.Cond) (o0 : Addr) (v1 : Int64) (v3 : Int64) (o0_period : Int64) (o0_shortest : Int64) (o0_scheduled : Int64) (o0_soonest : Int64) (h0 : Heap) (n0 : Nat) (Z0 : n0 ≤ h0.size) (E_o0 : Exa Z h0 o0 "com/example/quietwire/quietwire/transport/TickSchedule") (F_o0_period : Fld Z h0 o0 "com/example/quietwire/quietwire/transport/TickSchedule" "period" "J" (.long o0_period)) (F_o0_shortest : Fld Z h0 o0 "com/example/quietwire/quietwire/transport/TickSchedule" "shortest" "J" (.long o0_shortest)) (F_o0_scheduled : Fld Z h0 o0 "com/example/quietwire/quietwire/transport/TickSchedule" "scheduled" "J" (.long o0_scheduled)) (F_o0_soonest : Fld Z h0 o0 "com/example/quietwire/quietwire/transport/TickSchedule" "soonest" "J" (.long o0_soonest)) (g_o0 : n0 ≤ o0) :
    MetFree l (⟨"com/example/quietwire/quietwire/transport/TickSchedule", "<init>", "(JJ)V"⟩ : MethodName) (head1 (Jvm.Cond.code (⟨"com/example/quietwire/quietwire/transport/TickSchedule", "<init>", "(JJ)V"⟩ : MethodName) prog_116_method_1_code 5 none :: ws) R2) (fun a U => a = #[(.ref o0), (.long v1), (.long v3)] ∧ Z.Warmed39 U.vm ∧ U.heap = h0) (fun _ _ _ _ _ => True) (fun _ U o U' => ∃ v L, o = .returned v ∧ (Q2 Z o0 h0 n0 (f2_0 v1 v3 o0_period o0_shortest o0_scheduled o0_soonest)) v U'.heap L ∧ FrameEnd U o U' L R2.cells R2.slots) := by
  refine MetFree.of_bodySF (plainFor_of_name pn_2) hisR ?_
  intro p e s m args below meth c s₁ Bd hml0 hP hK
  obtain ⟨rfl, hZ, hh⟩ := hP
  have B : Ctx p Z s a0 m meth c "com/example/quietwire/quietwire/transport/TickSchedule" "<init>" prog_116_method_1_code 5 none := ⟨Bd.exec, hZ, hw, Bd.bytes, hml0, Bd.returns, findClass_of_methodNamed Bd.named, (name_of_methodNamed Bd.named Bd.method).1, Bd.notSynchronized⟩
  have X0 : Stand p l e R2 s m #[(.ref o0), (.long v1), (.long v3)] below meth c s₁ [] 0 0 := Stand.of_body Bd
  have e0 : s₁.heap = h0 := by rw [← hh, Bd.state]; rfl
  have K := Keep.refl h0 [o0]
  show Fin p e below s R2.cells R2.slots (Q2 Z o0 h0 n0 (f2_0 v1 v3 o0_period o0_shortest o0_scheduled o0_soonest)) (s₁.setTop (entryFrame m #[(.ref o0), (.long v1), (.long v3)] 5))
  refine Fin.by (fun t k => castTop (ef_2 m o0 v1 v3) k) ?_
  exact b2_0 B h0 n0 o0 v1 v3 o0_period o0_shortest o0_scheduled o0_soonest X0 e0 (Fr.nil n0) Z0 K E_o0 F_o0_period F_o0_shortest F_o0_scheduled F_o0_soonest g_o0 _ rfl
theorem pd_1 : parseMethodDescriptor "(JJ)V" = some ⟨[.long, .long], none⟩ := by decide +kernel
theorem d4_0 : decode prog_116_method_4_code 0 = .ok (.lload_n 1, 1) := by decide +kernel
theorem d4_1 : decode prog_116_method_4_code 1 = .ok (.aload_n 0, 1) := by decide +kernel
theorem d4_2 : decode prog_116_method_4_code 2 = .ok (.getfield 18, 3) := by decide +kernel
theorem d4_5 : decode prog_116_method_4_code 5 = .ok (.lsub, 1) := by decide +kernel
theorem d4_6 : decode prog_116_method_4_code 6 = .ok (.aload_n 0, 1) := by decide +kernel
theorem d4_7 : decode prog_116_method_4_code 7 = .ok (.getfield 7, 3) := by decide +kernel
theorem d4_10 : decode prog_116_method_4_code 10 = .ok (.lcmp, 1) := by decide +kernel
theorem d4_11 : decode prog_116_method_4_code 11 = .ok (.ifCond .lt 7, 3) := by decide +kernel
theorem d4_14 : decode prog_116_method_4_code 14 = .ok (.iconst 1, 1) := by decide +kernel
theorem d4_15 : decode prog_116_method_4_code 15 = .ok (.goto 4, 3) := by decide +kernel
theorem d4_18 : decode prog_116_method_4_code 18 = .ok (.iconst 0, 1) := by decide +kernel
theorem d4_19 : decode prog_116_method_4_code 19 = .ok (.istore_n 3, 1) := by decide +kernel
theorem d4_20 : decode prog_116_method_4_code 20 = .ok (.aload_n 0, 1) := by decide +kernel
theorem d4_21 : decode prog_116_method_4_code 21 = .ok (.iload_n 3, 1) := by decide +kernel
theorem d4_22 : decode prog_116_method_4_code 22 = .ok (.ifCond .eq 12, 3) := by decide +kernel
theorem d4_25 : decode prog_116_method_4_code 25 = .ok (.lload_n 1, 1) := by decide +kernel
theorem d4_26 : decode prog_116_method_4_code 26 = .ok (.aload_n 0, 1) := by decide +kernel
theorem d4_27 : decode prog_116_method_4_code 27 = .ok (.getfield 7, 3) := by decide +kernel
theorem d4_30 : decode prog_116_method_4_code 30 = .ok (.ladd, 1) := by decide +kernel
theorem d4_31 : decode prog_116_method_4_code 31 = .ok (.goto 12, 3) := by decide +kernel
theorem d4_34 : decode prog_116_method_4_code 34 = .ok (.aload_n 0, 1) := by decide +kernel
theorem d4_35 : decode prog_116_method_4_code 35 = .ok (.getfield 18, 3) := by decide +kernel
theorem d4_38 : decode prog_116_method_4_code 38 = .ok (.aload_n 0, 1) := by decide +kernel
theorem d4_39 : decode prog_116_method_4_code 39 = .ok (.getfield 7, 3) := by decide +kernel
theorem d4_42 : decode prog_116_method_4_code 42 = .ok (.ladd, 1) := by decide +kernel
theorem d4_43 : decode prog_116_method_4_code 43 = .ok (.putfield 18, 3) := by decide +kernel
theorem d4_46 : decode prog_116_method_4_code 46 = .ok (.aload_n 0, 1) := by decide +kernel
theorem d4_47 : decode prog_116_method_4_code 47 = .ok (.lload_n 1, 1) := by decide +kernel
theorem d4_48 : decode prog_116_method_4_code 48 = .ok (.aload_n 0, 1) := by decide +kernel
theorem d4_49 : decode prog_116_method_4_code 49 = .ok (.getfield 15, 3) := by decide +kernel
theorem d4_52 : decode prog_116_method_4_code 52 = .ok (.ladd, 1) := by decide +kernel
theorem d4_53 : decode prog_116_method_4_code 53 = .ok (.putfield 21, 3) := by decide +kernel
theorem d4_56 : decode prog_116_method_4_code 56 = .ok (.return_, 1) := by decide +kernel
theorem pn_4 : plainName "com/example/quietwire/quietwire/transport/TickSchedule" = true := by first | (simp [plainName, overriddenIn]; done) | decide +kernel
def R4 : Room := { frames := 0, cells := 0, slots := 0, locals := 0 }
def Q4 (Z : State) (o0 : Addr) (h0 : Heap) (n0 : Nat) (r : Int64 × Int64 × Int64 × Int64) (v : Option Value) (h : Heap) (L : List Loc) : Prop := v = none ∧ Fr n0 L ∧ Keep h0 h [o0] ∧ Exa Z h o0 "com/example/quietwire/quietwire/transport/TickSchedule" ∧ Fld Z h o0 "com/example/quietwire/quietwire/transport/TickSchedule" "period" "J" (.long r.1) ∧ Fld Z h o0 "com/example/quietwire/quietwire/transport/TickSchedule" "shortest" "J" (.long r.2.1) ∧ Fld Z h o0 "com/example/quietwire/quietwire/transport/TickSchedule" "scheduled" "J" (.long r.2.2.1) ∧ Fld Z h o0 "com/example/quietwire/quietwire/transport/TickSchedule" "soonest" "J" (.long r.2.2.2)
def f4_43 (v1 : Int64) (v3 : Int32) (t0 : Int64) (o0_period : Int64) (o0_shortest : Int64) (o0_scheduled : Int64) (o0_soonest : Int64) : Int64 × Int64 × Int64 × Int64 := (o0_period, o0_shortest, t0, (v1 + o0_shortest))
set_option maxRecDepth 65536 in
set_option maxHeartbeats 40000000 in
theorem b4_43 {p : Program} {l : Launch} {e : Env} {s : State} {m : MethodId} {args : Array Value} {below : List Frame} {meth : Method} {c : Code} {Z : State} {a0 : Array Value} (B : Ctx p Z s a0 m meth c "com/example/quietwire/quietwire/transport/TickSchedule" "ticked" prog_116_method_4_code 4 none) {T0 : State} {locs : List Loc} {h : Heap} (h0 : Heap) (n0 : Nat) (o0 : Addr) (v1 : Int64) (v3 : Int32) (t0 : Int64) (o0_period : Int64) (o0_shortest : Int64) (o0_scheduled : Int64) (o0_soonest : Int64) (X0 : Stand p l e R4 s m args below meth c T0 locs 0 0) (e0 : T0.heap = h) (N0 : Fr n0 locs) (Z0 : n0 ≤ h.size) (K : Keep h0 h [o0]) (E_o0 : Exa Z h o0 "com/example/quietwire/quietwire/transport/TickSchedule") (F_o0_period : Fld Z h o0 "com/example/quietwire/quietwire/transport/TickSchedule" "period" "J" (.long o0_period)) (F_o0_shortest : Fld Z h o0 "com/example/quietwire/quietwire/transport/TickSchedule" "shortest" "J" (.long o0_shortest)) (F_o0_scheduled : Fld Z h o0 "com/example/quietwire/quietwire/transport/TickSchedule" "scheduled" "J" (.long o0_scheduled)) (F_o0_soonest : Fld Z h o0 "com/example/quietwire/quietwire/transport/TickSchedule" "soonest" "J" (.long o0_soonest)) (g_o0 : n0 ≤ o0) (r : Int64 × Int64 × Int64 × Int64) (hr : f4_43 v1 v3 t0 o0_period o0_shortest o0_scheduled o0_soonest = r) :
    Fin p e below s R4.cells R4.slots (Q4 Z o0 h0 n0 r) (T0.setTop (mkF m 43 #[.val (.ref o0), .val (.long v1), .second, .val (.int v3)] [(.long t0), (.ref o0)])) := by
  obtain ⟨hx, hZ, hw, hby, hml, hret, hown, hnm, hlk⟩ := B
  unfold f4_43 at hr
  obtain ⟨T5, h5, X5, e5, W5, st5⟩ := putF X0 hx hZ hown (host := "") (Or.inl (hw _ (List.mem_of_getElem? (i := 21) rfl))) Via.refl e0 F_o0_scheduled E_o0 (Or.inl (hw _ (List.mem_of_getElem? (i := 22) rfl))) (hw _ (List.mem_of_getElem? (i := 8) rfl)) (ty := .long) (by decide) rfl rfl (g := (mkF m 43 #[.val (.ref o0), .val (.long v1), .second, .val (.int v3)] [(.long t0), (.ref o0)])) rfl rfl (hb hby d4_43)
  have E_o0_5 := E_o0.wr W5
  have F_o0_period_5 := F_o0_period.other W5 (Or.inr (slot_ne (Or.inr (hw _ (List.mem_of_getElem? (i := 17) rfl))) (Or.inl (hw _ (List.mem_of_getElem? (i := 22) rfl))) (by decide) (t := .long) (t' := .long) (by decide) (by decide)))
  have F_o0_shortest_5 := F_o0_shortest.other W5 (Or.inr (slot_ne (Or.inr (hw _ (List.mem_of_getElem? (i := 20) rfl))) (Or.inl (hw _ (List.mem_of_getElem? (i := 22) rfl))) (by decide) (t := .long) (t' := .long) (by decide) (by decide)))
  have F_o0_scheduled_5 := F_o0_scheduled.same W5
  have F_o0_soonest_5 := F_o0_soonest.other W5 (Or.inr (slot_ne (Or.inl (hw _ (List.mem_of_getElem? (i := 24) rfl))) (Or.inl (hw _ (List.mem_of_getElem? (i := 22) rfl))) (by decide) (t := .long) (t' := .long) (by decide) (by decide)))
  have N5 := Fr.snoc X5 N0 g_o0
  have Z5 : n0 ≤ h5.size := Nat.le_trans Z0 (Nat.le_of_eq W5.size.symm)
  have K5 := K.wr W5 (Or.inl (by simp))
  refine Fin.by (B := T5.setTop (mkF m 46 #[.val (.ref o0), .val (.long v1), .second, .val (.int v3)] [])) (fun t k => st5 t k) ?_
  refine Fin.by (B := T5.setTop (mkF m 49 #[.val (.ref o0), .val (.long v1), .second, .val (.int v3)] [(.ref o0), (.long v1), (.ref o0)])) (fun t k => ?_) ?_
  · show Steps p.tables e below (T5.setTop (mkF m 46 #[.val (.ref o0), .val (.long v1), .second, .val (.int v3)] [])) _
    refine XS.aloadN X5.here hx rfl (hb hby d4_46) rfl rfl ?_
    show Steps p.tables e below (T5.setTop (mkF m 47 #[.val (.ref o0), .val (.long v1), .second, .val (.int v3)] [(.ref o0)])) _
    refine XS.lloadN X5.here hx rfl (hb hby d4_47) rfl  ?_
    show Steps p.tables e below (T5.setTop (mkF m 48 #[.val (.ref o0), .val (.long v1), .second, .val (.int v3)] [(.long v1), (.ref o0)])) _
    refine XS.aloadN X5.here hx rfl (hb hby d4_48) rfl rfl ?_
    exact k
  obtain ⟨T6, X6, e6, st6⟩ := getF X5 hx hZ hown (host := "") (Or.inl (hw _ (List.mem_of_getElem? (i := 19) rfl))) Via.refl e5 F_o0_shortest_5 (g := (mkF m 49 #[.val (.ref o0), .val (.long v1), .second, .val (.int v3)] [(.ref o0), (.long v1), (.ref o0)])) rfl rfl (hb hby d4_49)
  refine Fin.by (B := T6.setTop (mkF m 52 #[.val (.ref o0), .val (.long v1), .second, .val (.int v3)] [(.long o0_shortest), (.long v1), (.ref o0)])) (fun t k => st6 t k) ?_
  refine Fin.by (B := T6.setTop (mkF m 53 #[.val (.ref o0), .val (.long v1), .second, .val (.int v3)] [(.long (v1 + o0_shortest)), (.ref o0)])) (fun t k => ?_) ?_
  · show Steps p.tables e below (T6.setTop (mkF m 52 #[.val (.ref o0), .val (.long v1), .second, .val (.int v3)] [(.long o0_shortest), (.long v1), (.ref o0)])) _
    refine XS.ladd X6.here hx rfl (hb hby d4_52) rfl ?_
    exact k
  obtain ⟨T7, h7, X7, e7, W7, st7⟩ := putF X6 hx hZ hown (host := "") (Or.inl (hw _ (List.mem_of_getElem? (i := 23) rfl))) Via.refl e6 F_o0_soonest_5 E_o0_5 (Or.inl (hw _ (List.mem_of_getElem? (i := 24) rfl))) (hw _ (List.mem_of_getElem? (i := 8) rfl)) (ty := .long) (by decide) rfl rfl (g := (mkF m 53 #[.val (.ref o0), .val (.long v1), .second, .val (.int v3)] [(.long (v1 + o0_shortest)), (.ref o0)])) rfl rfl (hb hby d4_53)
  have E_o0_7 := E_o0_5.wr W7
  have F_o0_period_7 := F_o0_period_5.other W7 (Or.inr (slot_ne (Or.inr (hw _ (List.mem_of_getElem? (i := 17) rfl))) (Or.inl (hw _ (List.mem_of_getElem? (i := 24) rfl))) (by decide) (t := .long) (t' := .long) (by decide) (by decide)))
  have F_o0_shortest_7 := F_o0_shortest_5.other W7 (Or.inr (slot_ne (Or.inr (hw _ (List.mem_of_getElem? (i := 20) rfl))) (Or.inl (hw _ (List.mem_of_getElem? (i := 24) rfl))) (by decide) (t := .long) (t' := .long) (by decide) (by decide)))
  have F_o0_scheduled_7 := F_o0_scheduled_5.other W7 (Or.inr (slot_ne (Or.inl (hw _ (List.mem_of_getElem? (i := 22) rfl))) (Or.inl (hw _ (List.mem_of_getElem? (i := 24) rfl))) (by decide) (t := .long) (t' := .long) (by decide) (by decide)))
  have F_o0_soonest_7 := F_o0_soonest_5.same W7
  have N7 := Fr.snoc X7 N5 g_o0
  have Z7 : n0 ≤ h7.size := Nat.le_trans Z5 (Nat.le_of_eq W7.size.symm)
  have K7 := K5.wr W7 (Or.inl (by simp))
  refine Fin.by (B := T7.setTop (mkF m 56 #[.val (.ref o0), .val (.long v1), .second, .val (.int v3)] [])) (fun t k => st7 t k) ?_
  subst hr
  exact own_ret0 X7 hx hlk hret (hb hby d4_56) (by decide) (by decide) ⟨rfl, N7, (by rw [e7]; exact K7), (by rw [e7]; exact E_o0_7), (by rw [e7]; exact F_o0_period_7), (by rw [e7]; exact F_o0_shortest_7), (by rw [e7]; exact F_o0_scheduled_7), (by rw [e7]; exact F_o0_soonest_7)⟩
def f4_19 (v1 : Int64) (t0 : Int32) (o0_period : Int64) (o0_shortest : Int64) (o0_scheduled : Int64) (o0_soonest : Int64) : Int64 × Int64 × Int64 × Int64 := (if t0 = (0 : Int32) then (f4_43 v1 t0 (o0_scheduled + o0_period) o0_period o0_shortest o0_scheduled o0_soonest) else (f4_43 v1 t0 (v1 + o0_period) o0_period o0_shortest o0_scheduled o0_soonest))
set_option maxRecDepth 65536 in
set_option maxHeartbeats 40000000 in
theorem b4_19 {p : Program} {l : Launch} {e : Env} {s : State} {m : MethodId} {args : Array Value} {below : List Frame} {meth : Method} {c : Code} {Z : State} {a0 : Array Value} (B : Ctx p Z s a0 m meth c "com/example/quietwire/quietwire/transport/TickSchedule" "ticked" prog_116_method_4_code 4 none) {T0 : State} {locs : List Loc} {h : Heap} (h0 : Heap) (n0 : Nat) (o0 : Addr) (v1 : Int64) (t0 : Int32) (o0_period : Int64) (o0_shortest : Int64) (o0_scheduled : Int64) (o0_soonest : Int64) (X0 : Stand p l e R4 s m args below meth c T0 locs 0 0) (e0 : T0.heap = h) (N0 : Fr n0 locs) (Z0 : n0 ≤ h.size) (K : Keep h0 h [o0]) (E_o0 : Exa Z h o0 "com/example/quietwire/quietwire/transport/TickSchedule") (F_o0_period : Fld Z h o0 "com/example/quietwire/quietwire/transport/TickSchedule" "period" "J" (.long o0_period)) (F_o0_shortest : Fld Z h o0 "com/example/quietwire/quietwire/transport/TickSchedule" "shortest" "J" (.long o0_shortest)) (F_o0_scheduled : Fld Z h o0 "com/example/quietwire/quietwire/transport/TickSchedule" "scheduled" "J" (.long o0_scheduled)) (F_o0_soonest : Fld Z h o0 "com/example/quietwire/quietwire/transport/TickSchedule" "soonest" "J" (.long o0_soonest)) (g_o0 : n0 ≤ o0) (r : Int64 × Int64 × Int64 × Int64) (hr : f4_19 v1 t0 o0_period o0_shortest o0_scheduled o0_soonest = r) :
    Fin p e below s R4.cells R4.slots (Q4 Z o0 h0 n0 r) (T0.setTop (mkF m 19 #[.val (.ref o0), .val (.long v1), .second, .unset] [(.int t0)])) := by
  obtain ⟨hx, hZ, hw, hby, hml, hret, hown, hnm, hlk⟩ := B
  unfold f4_19 at hr
  refine Fin.by (B := T0.setTop (mkF m 22 #[.val (.ref o0), .val (.long v1), .second, .val (.int t0)] [(.int t0), (.ref o0)])) (fun t k => ?_) ?_
  · show Steps p.tables e below (T0.setTop (mkF m 19 #[.val (.ref o0), .val (.long v1), .second, .unset] [(.int t0)])) _
    refine XS.istoreN X0.here hx rfl (hb hby d4_19) rfl (l' := #[.val (.ref o0), .val (.long v1), .second, .val (.int t0)]) rfl ?_
    show Steps p.tables e below (T0.setTop (mkF m 20 #[.val (.ref o0), .val (.long v1), .second, .val (.int t0)] [])) _
    refine XS.aloadN X0.here hx rfl (hb hby d4_20) rfl rfl ?_
    show Steps p.tables e below (T0.setTop (mkF m 21 #[.val (.ref o0), .val (.long v1), .second, .val (.int t0)] [(.ref o0)])) _
    refine XS.iloadN X0.here hx rfl (hb hby d4_21) rfl  ?_
    exact k
  by_cases hc22 : t0 = (0 : Int32)
  · rw [if_pos hc22] at hr
    refine Fin.by (B := T0.setTop (mkF m 34 #[.val (.ref o0), .val (.long v1), .second, .val (.int t0)] [(.ref o0)])) (fun t k => ?_) ?_
    · show Steps p.tables e below (T0.setTop (mkF m 22 #[.val (.ref o0), .val (.long v1), .second, .val (.int t0)] [(.int t0), (.ref o0)])) _
      exact XS.ifYes X0.here hx rfl (pc0 := 22) (pc' := 34) rfl (hb hby d4_22) rfl ((if0 _ _).trans (teq hc22).1) (by decide) (by decide) k
    refine Fin.by (B := T0.setTop (mkF m 35 #[.val (.ref o0), .val (.long v1), .second, .val (.int t0)] [(.ref o0), (.ref o0)])) (fun t k => ?_) ?_
    · show Steps p.tables e below (T0.setTop (mkF m 34 #[.val (.ref o0), .val (.long v1), .second, .val (.int t0)] [(.ref o0)])) _
      refine XS.aloadN X0.here hx rfl (hb hby d4_34) rfl rfl ?_
      exact k
    obtain ⟨T3, X3, e3, st3⟩ := getF X0 hx hZ hown (host := "") (Or.inl (hw _ (List.mem_of_getElem? (i := 21) rfl))) Via.refl e0 F_o0_scheduled (g := (mkF m 35 #[.val (.ref o0), .val (.long v1), .second, .val (.int t0)] [(.ref o0), (.ref o0)])) rfl rfl (hb hby d4_35)
    refine Fin.by (B := T3.setTop (mkF m 38 #[.val (.ref o0), .val (.long v1), .second, .val (.int t0)] [(.long o0_scheduled), (.ref o0)])) (fun t k => st3 t k) ?_
    refine Fin.by (B := T3.setTop (mkF m 39 #[.val (.ref o0), .val (.long v1), .second, .val (.int t0)] [(.ref o0), (.long o0_scheduled), (.ref o0)])) (fun t k => ?_) ?_
    · show Steps p.tables e below (T3.setTop (mkF m 38 #[.val (.ref o0), .val (.long v1), .second, .val (.int t0)] [(.long o0_scheduled), (.ref o0)])) _
      refine XS.aloadN X3.here hx rfl (hb hby d4_38) rfl rfl ?_
      exact k
    obtain ⟨T4, X4, e4, st4⟩ := getF X3 hx hZ hown (host := "") (Or.inl (hw _ (List.mem_of_getElem? (i := 16) rfl))) Via.refl e3 F_o0_period (g := (mkF m 39 #[.val (.ref o0), .val (.long v1), .second, .val (.int t0)] [(.ref o0), (.long o0_scheduled), (.ref o0)])) rfl rfl (hb hby d4_39)
    refine Fin.by (B := T4.setTop (mkF m 42 #[.val (.ref o0), .val (.long v1), .second, .val (.int t0)] [(.long o0_period), (.long o0_scheduled), (.ref o0)])) (fun t k => st4 t k) ?_
    refine Fin.by (B := T4.setTop (mkF m 43 #[.val (.ref o0), .val (.long v1), .second, .val (.int t0)] [(.long (o0_scheduled + o0_period)), (.ref o0)])) (fun t k => ?_) ?_
    · show Steps p.tables e below (T4.setTop (mkF m 42 #[.val (.ref o0), .val (.long v1), .second, .val (.int t0)] [(.long o0_period), (.long o0_scheduled), (.ref o0)])) _
      refine XS.ladd X4.here hx rfl (hb hby d4_42) rfl ?_
      exact k
    exact b4_43 ⟨hx, hZ, hw, hby, hml, hret, hown, hnm, hlk⟩ h0 n0 o0 v1 t0 (o0_scheduled + o0_period) o0_period o0_shortest o0_scheduled o0_soonest X4 e4 N0 Z0 K E_o0 F_o0_period F_o0_shortest F_o0_scheduled F_o0_soonest g_o0 _ hr
  · rw [if_neg hc22] at hr
    refine Fin.by (B := T0.setTop (mkF m 25 #[.val (.ref o0), .val (.long v1), .second, .val (.int t0)] [(.ref o0)])) (fun t k => ?_) ?_
    · show Steps p.tables e below (T0.setTop (mkF m 22 #[.val (.ref o0), .val (.long v1), .second, .val (.int t0)] [(.int t0), (.ref o0)])) _
      exact XS.ifNo X0.here hx rfl (hb hby d4_22) rfl ((if0 _ _).trans (feq hc22).1) k
    refine Fin.by (B := T0.setTop (mkF m 27 #[.val (.ref o0), .val (.long v1), .second, .val (.int t0)] [(.ref o0), (.long v1), (.ref o0)])) (fun t k => ?_) ?_
    · show Steps p.tables e below (T0.setTop (mkF m 25 #[.val (.ref o0), .val (.long v1), .second, .val (.int t0)] [(.ref o0)])) _
      refine XS.lloadN X0.here hx rfl (hb hby d4_25) rfl  ?_
      show Steps p.tables e below (T0.setTop (mkF m 26 #[.val (.ref o0), .val (.long v1), .second, .val (.int t0)] [(.long v1), (.ref o0)])) _
      refine XS.aloadN X0.here hx rfl (hb hby d4_26) rfl rfl ?_
      exact k
    obtain ⟨T8, X8, e8, st8⟩ := getF X0 hx hZ hown (host := "") (Or.inl (hw _ (List.mem_of_getElem? (i := 16) rfl))) Via.refl e0 F_o0_period (g := (mkF m 27 #[.val (.ref o0), .val (.long v1), .second, .val (.int t0)] [(.ref o0), (.long v1), (.ref o0)])) rfl rfl (hb hby d4_27)
    refine Fin.by (B := T8.setTop (mkF m 30 #[.val (.ref o0), .val (.long v1), .second, .val (.int t0)] [(.long o0_period), (.long v1), (.ref o0)])) (fun t k => st8 t k) ?_
    refine Fin.by (B := T8.setTop (mkF m 43 #[.val (.ref o0), .val (.long v1), .second, .val (.int t0)] [(.long (v1 + o0_period)), (.ref o0)])) (fun t k => ?_) ?_
    · show Steps p.tables e below (T8.setTop (mkF m 30 #[.val (.ref o0), .val (.long v1), .second, .val (.int t0)] [(.long o0_period), (.long v1), (.ref o0)])) _
      refine XS.ladd X8.here hx rfl (hb hby d4_30) rfl ?_
      show Steps p.tables e below (T8.setTop (mkF m 31 #[.val (.ref o0), .val (.long v1), .second, .val (.int t0)] [(.long (v1 + o0_period)), (.ref o0)])) _
      refine XS.goto X8.here hx rfl (pc0 := 31) (pc' := 43) rfl (hb hby d4_31) (by decide) (by decide) ?_
      exact k
    exact b4_43 ⟨hx, hZ, hw, hby, hml, hret, hown, hnm, hlk⟩ h0 n0 o0 v1 t0 (v1 + o0_period) o0_period o0_shortest o0_scheduled o0_soonest X8 e8 N0 Z0 K E_o0 F_o0_period F_o0_shortest F_o0_scheduled F_o0_soonest g_o0 _ hr
def f4_0 (v1 : Int64) (o0_period : Int64) (o0_shortest : Int64) (o0_scheduled : Int64) (o0_soonest : Int64) : Int64 × Int64 × Int64 × Int64 := (if (v1 - o0_scheduled) < o0_period then (f4_19 v1 (0 : Int32) o0_period o0_shortest o0_scheduled o0_soonest) else (f4_19 v1 (1 : Int32) o0_period o0_shortest o0_scheduled o0_soonest))
set_option maxRecDepth 65536 in
set_option maxHeartbeats 40000000 in
theorem b4_0 {p : Program} {l : Launch} {e : Env} {s : State} {m : MethodId} {args : Array Value} {below : List Frame} {meth : Method} {c : Code} {Z : State} {a0 : Array Value} (B : Ctx p Z s a0 m meth c "com/example/quietwire/quietwire/transport/TickSchedule" "ticked" prog_116_method_4_code 4 none) {T0 : State} {locs : List Loc} {h : Heap} (h0 : Heap) (n0 : Nat) (o0 : Addr) (v1 : Int64) (o0_period : Int64) (o0_shortest : Int64) (o0_scheduled : Int64) (o0_soonest : Int64) (X0 : Stand p l e R4 s m args below meth c T0 locs 0 0) (e0 : T0.heap = h) (N0 : Fr n0 locs) (Z0 : n0 ≤ h.size) (K : Keep h0 h [o0]) (E_o0 : Exa Z h o0 "com/example/quietwire/quietwire/transport/TickSchedule") (F_o0_period : Fld Z h o0 "com/example/quietwire/quietwire/transport/TickSchedule" "period" "J" (.long o0_period)) (F_o0_shortest : Fld Z h o0 "com/example/quietwire/quietwire/transport/TickSchedule" "shortest" "J" (.long o0_shortest)) (F_o0_scheduled : Fld Z h o0 "com/example/quietwire/quietwire/transport/TickSchedule" "scheduled" "J" (.long o0_scheduled)) (F_o0_soonest : Fld Z h o0 "com/example/quietwire/quietwire/transport/TickSchedule" "soonest" "J" (.long o0_soonest)) (g_o0 : n0 ≤ o0) (r : Int64 × Int64 × Int64 × Int64) (hr : f4_0 v1 o0_period o0_shortest o0_scheduled o0_soonest = r) :
    Fin p e below s R4.cells R4.slots (Q4 Z o0 h0 n0 r) (T0.setTop (mkF m 0 #[.val (.ref o0), .val (.long v1), .second, .unset] [])) := by
  obtain ⟨hx, hZ, hw, hby, hml, hret, hown, hnm, hlk⟩ := B
  unfold f4_0 at hr
  refine Fin.by (B := T0.setTop (mkF m 2 #[.val (.ref o0), .val (.long v1), .second, .unset] [(.ref o0), (.long v1)])) (fun t k => ?_) ?_
  · show Steps p.tables e below (T0.setTop (mkF m 0 #[.val (.ref o0), .val (.long v1), .second, .unset] [])) _
    refine XS.lloadN X0.here hx rfl (hb hby d4_0) rfl  ?_
    show Steps p.tables e below (T0.setTop (mkF m 1 #[.val (.ref o0), .val (.long v1), .second, .unset] [(.long v1)])) _
    refine XS.aloadN X0.here hx rfl (hb hby d4_1) rfl rfl ?_
    exact k
  obtain ⟨T1, X1, e1, st1⟩ := getF X0 hx hZ hown (host := "") (Or.inl (hw _ (List.mem_of_getElem? (i := 21) rfl))) Via.refl e0 F_o0_scheduled (g := (mkF m 2 #[.val (.ref o0), .val (.long v1), .second, .unset] [(.ref o0), (.long v1)])) rfl rfl (hb hby d4_2)
  refine Fin.by (B := T1.setTop (mkF m 5 #[.val (.ref o0), .val (.long v1), .second, .unset] [(.long o0_scheduled), (.long v1)])) (fun t k => st1 t k) ?_
  refine Fin.by (B := T1.setTop (mkF m 7 #[.val (.ref o0), .val (.long v1), .second, .unset] [(.ref o0), (.long (v1 - o0_scheduled))])) (fun t k => ?_) ?_
  · show Steps p.tables e below (T1.setTop (mkF m 5 #[.val (.ref o0), .val (.long v1), .second, .unset] [(.long o0_scheduled), (.long v1)])) _
    refine XS.lsub X1.here hx rfl (hb hby d4_5) rfl ?_
    show Steps p.tables e below (T1.setTop (mkF m 6 #[.val (.ref o0), .val (.long v1), .second, .unset] [(.long (v1 - o0_scheduled))])) _
    refine XS.aloadN X1.here hx rfl (hb hby d4_6) rfl rfl ?_
    exact k
  obtain ⟨T2, X2, e2, st2⟩ := getF X1 hx hZ hown (host := "") (Or.inl (hw _ (List.mem_of_getElem? (i := 16) rfl))) Via.refl e1 F_o0_period (g := (mkF m 7 #[.val (.ref o0), .val (.long v1), .second, .unset] [(.ref o0), (.long (v1 - o0_scheduled))])) rfl rfl (hb hby d4_7)
  refine Fin.by (B := T2.setTop (mkF m 10 #[.val (.ref o0), .val (.long v1), .second, .unset] [(.long o0_period), (.long (v1 - o0_scheduled))])) (fun t k => st2 t k) ?_
  refine Fin.by (B := T2.setTop (mkF m 11 #[.val (.ref o0), .val (.long v1), .second, .unset] [(.int (lcmpW (v1 - o0_scheduled) o0_period))])) (fun t k => ?_) ?_
  · show Steps p.tables e below (T2.setTop (mkF m 10 #[.val (.ref o0), .val (.long v1), .second, .unset] [(.long o0_period), (.long (v1 - o0_scheduled))])) _
    refine XS.lcmp X2.here hx rfl (hb hby d4_10) rfl ?_
    exact k
  by_cases hc11 : (v1 - o0_scheduled) < o0_period
  · rw [if_pos hc11] at hr
    refine Fin.by (B := T2.setTop (mkF m 18 #[.val (.ref o0), .val (.long v1), .second, .unset] [])) (fun t k => ?_) ?_
    · show Steps p.tables e below (T2.setTop (mkF m 11 #[.val (.ref o0), .val (.long v1), .second, .unset] [(.int (lcmpW (v1 - o0_scheduled) o0_period))])) _
      exact XS.ifYes X2.here hx rfl (pc0 := 11) (pc' := 18) rfl (hb hby d4_11) rfl ((if0 _ _).trans (tlt ((lw_lt _ _).mpr hc11)).1) (by decide) (by decide) k
    refine Fin.by (B := T2.setTop (mkF m 19 #[.val (.ref o0), .val (.long v1), .second, .unset] [(.int (0 : Int32))])) (fun t k => ?_) ?_
    · show Steps p.tables e below (T2.setTop (mkF m 18 #[.val (.ref o0), .val (.long v1), .second, .unset] [])) _
      refine XS.iconst X2.here hx rfl (hb hby d4_18) ?_
      exact k
    exact b4_19 ⟨hx, hZ, hw, hby, hml, hret, hown, hnm, hlk⟩ h0 n0 o0 v1 (0 : Int32) o0_period o0_shortest o0_scheduled o0_soonest X2 e2 N0 Z0 K E_o0 F_o0_period F_o0_shortest F_o0_scheduled F_o0_soonest g_o0 _ hr
  · rw [if_neg hc11] at hr
    refine Fin.by (B := T2.setTop (mkF m 14 #[.val (.ref o0), .val (.long v1), .second, .unset] [])) (fun t k => ?_) ?_
    · show Steps p.tables e below (T2.setTop (mkF m 11 #[.val (.ref o0), .val (.long v1), .second, .unset] [(.int (lcmpW (v1 - o0_scheduled) o0_period))])) _
      exact XS.ifNo X2.here hx rfl (hb hby d4_11) rfl ((if0 _ _).trans (flt (fun q => hc11 ((lw_lt _ _).mp q))).1) k
    refine Fin.by (B := T2.setTop (mkF m 19 #[.val (.ref o0), .val (.long v1), .second, .unset] [(.int (1 : Int32))])) (fun t k => ?_) ?_
    · show Steps p.tables e below (T2.setTop (mkF m 14 #[.val (.ref o0), .val (.long v1), .second, .unset] [])) _
      refine XS.iconst X2.here hx rfl (hb hby d4_14) ?_
      show Steps p.tables e below (T2.setTop (mkF m 15 #[.val (.ref o0), .val (.long v1), .second, .unset] [(.int (1 : Int32))])) _
      refine XS.goto X2.here hx rfl (pc0 := 15) (pc' := 19) rfl (hb hby d4_15) (by decide) (by decide) ?_
      exact k
    exact b4_19 ⟨hx, hZ, hw, hby, hml, hret, hown, hnm, hlk⟩ h0 n0 o0 v1 (1 : Int32) o0_period o0_shortest o0_scheduled o0_soonest X2 e2 N0 Z0 K E_o0 F_o0_period F_o0_shortest F_o0_scheduled F_o0_soonest g_o0 _ hr
theorem ef_4 (m : MethodId) (o0 : Addr) (v1 : Int64) : entryFrame m #[(.ref o0), (.long v1)] 4 = (mkF m 0 #[.val (.ref o0), .val (.long v1), .second, .unset] []) := by first | (simp [entryFrame, mkF, argsToLocals, Value.category]; done) | rfl
set_option maxRecDepth 65536 in
set_option maxHeartbeats 40000000 in
theorem rm4 (l : Launch) (Z : State) (a0 : Array Value) (hw : ∀ d ∈ tables_1, d.before a0 Z = true) (ws : List Jvm.Cond) (o0 : Addr) (v1 : Int64) (o0_period : Int64) (o0_shortest : Int64) (o0_scheduled : Int64) (o0_soonest : Int64) (h0 : Heap) (n0 : Nat) (Z0 : n0 ≤ h0.size) (E_o0 : Exa Z h0 o0 "com/example/quietwire/quietwire/transport/TickSchedule") (F_o0_period : Fld Z h0 o0 "com/example/quietwire/quietwire/transport/TickSchedule" "period" "J" (.long o0_period)) (F_o0_shortest : Fld Z h0 o0 "com/example/quietwire/quietwire/transport/TickSchedule" "shortest" "J" (.long o0_shortest)) (F_o0_scheduled : Fld Z h0 o0 "com/example/quietwire/quietwire/transport/TickSchedule" "scheduled" "J" (.long o0_scheduled)) (F_o0_soonest : Fld Z h0 o0 "com/example/quietwire/quietwire/transport/TickSchedule" "soonest" "J" (.long o0_soonest)) (g_o0 : n0 ≤ o0) :
    MetFree l (⟨"com/example/quietwire/quietwire/transport/TickSchedule", "ticked", "(J)V"⟩ : MethodName) (head1 (Jvm.Cond.code (⟨"com/example/quietwire/quietwire/transport/TickSchedule", "ticked", "(J)V"⟩ : MethodName) prog_116_method_4_code 4 none :: ws) R4) (fun a U => a = #[(.ref o0), (.long v1)] ∧ Z.Warmed39 U.vm ∧ U.heap = h0) (fun _ _ _ _ _ => True) (fun _ U o U' => ∃ v L, o = .returned v ∧ (Q4 Z o0 h0 n0 (f4_0 v1 o0_period o0_shortest o0_scheduled o0_soonest)) v U'.heap L ∧ FrameEnd U o U' L R4.cells R4.slots) := by
  refine MetFree.of_bodySF (plainFor_of_name pn_4) hisR ?_
  intro p e s m args below meth c s₁ Bd hml0 hP hK
  obtain ⟨rfl, hZ, hh⟩ := hP
  have B : Ctx p Z s a0 m meth c "com/example/quietwire/quietwire/transport/TickSchedule" "ticked" prog_116_method_4_code 4 none := ⟨Bd.exec, hZ, hw, Bd.bytes, hml0, Bd.returns, findClass_of_methodNamed Bd.named, (name_of_methodNamed Bd.named Bd.method).1, Bd.notSynchronized⟩
  have X0 : Stand p l e R4 s m #[(.ref o0), (.long v1)] below meth c s₁ [] 0 0 := Stand.of_body Bd
  have e0 : s₁.heap = h0 := by rw [← hh, Bd.state]; rfl
  have K := Keep.refl h0 [o0]
  show Fin p e below s R4.cells R4.slots (Q4 Z o0 h0 n0 (f4_0 v1 o0_period o0_shortest o0_scheduled o0_soonest)) (s₁.setTop (entryFrame m #[(.ref o0), (.long v1)] 4))
  refine Fin.by (fun t k => castTop (ef_4 m o0 v1) k) ?_
  exact b4_0 B h0 n0 o0 v1 o0_period o0_shortest o0_scheduled o0_soonest X0 e0 (Fr.nil n0) Z0 K E_o0 F_o0_period F_o0_shortest F_o0_scheduled F_o0_soonest g_o0 _ rfl
theorem pd_2 : parseMethodDescriptor "(J)V" = some ⟨[.long], none⟩ := by decide +kernel
theorem d5_0 : decode prog_116_method_2_code 0 = .ok (.aload_n 0, 1) := by decide +kernel
theorem d5_1 : decode prog_116_method_2_code 1 = .ok (.getfield 18, 3) := by decide +kernel
theorem d5_4 : decode prog_116_method_2_code 4 = .ok (.aload_n 0, 1) := by decide +kernel
theorem d5_5 : decode prog_116_method_2_code 5 = .ok (.getfield 21, 3) := by decide +kernel
theorem d5_8 : decode prog_116_method_2_code 8 = .ok (.lsub, 1) := by decide +kernel
theorem d5_9 : decode prog_116_method_2_code 9 = .ok (.lconst 0, 1) := by decide +kernel
theorem d5_10 : decode prog_116_method_2_code 10 = .ok (.lcmp, 1) := by decide +kernel
theorem d5_11 : decode prog_116_method_2_code 11 = .ok (.ifCond .lt 10, 3) := by decide +kernel
theorem d5_14 : decode prog_116_method_2_code 14 = .ok (.aload_n 0, 1) := by decide +kernel
theorem d5_15 : decode prog_116_method_2_code 15 = .ok (.getfield 18, 3) := by decide +kernel
theorem d5_18 : decode prog_116_method_2_code 18 = .ok (.goto 7, 3) := by decide +kernel
theorem d5_21 : decode prog_116_method_2_code 21 = .ok (.aload_n 0, 1) := by decide +kernel
theorem d5_22 : decode prog_116_method_2_code 22 = .ok (.getfield 21, 3) := by decide +kernel
theorem d5_25 : decode prog_116_method_2_code 25 = .ok (.lreturn, 1) := by decide +kernel
theorem pn_5 : plainName "com/example/quietwire/quietwire/transport/TickSchedule" = true := by first | (simp [plainName, overriddenIn]; done) | decide +kernel
def R5 : Room := { frames := 0, cells := 0, slots := 0, locals := 0 }
def Q5 (Z : State)  (h0 : Heap) (n0 : Nat) (r : Int64) (v : Option Value) (h : Heap) (L : List Loc) : Prop := v = some (.long r) ∧ Fr n0 L ∧ h = h0
def f5_0 (o0_period : Int64) (o0_shortest : Int64) (o0_scheduled : Int64) (o0_soonest : Int64) : Int64 := (if (o0_scheduled - o0_soonest) < (0 : Int64) then o0_soonest else o0_scheduled)
set_option maxRecDepth 65536 in
set_option maxHeartbeats 40000000 in
theorem b5_0 {p : Program} {l : Launch} {e : Env} {s : State} {m : MethodId} {args : Array Value} {below : List Frame} {meth : Method} {c : Code} {Z : State} {a0 : Array Value} (B : Ctx p Z s a0 m meth c "com/example/quietwire/quietwire/transport/TickSchedule" "due" prog_116_method_2_code 1 (some .long)) {T0 : State} {locs : List Loc} {h : Heap} (h0 : Heap) (n0 : Nat) (o0 : Addr) (o0_period : Int64) (o0_shortest : Int64) (o0_scheduled : Int64) (o0_soonest : Int64) (X0 : Stand p l e R5 s m args below meth c T0 locs 0 0) (e0 : T0.heap = h) (N0 : Fr n0 locs) (Z0 : n0 ≤ h.size) (hh0 : h = h0) (E_o0 : Exa Z h o0 "com/example/quietwire/quietwire/transport/TickSchedule") (F_o0_period : Fld Z h o0 "com/example/quietwire/quietwire/transport/TickSchedule" "period" "J" (.long o0_period)) (F_o0_shortest : Fld Z h o0 "com/example/quietwire/quietwire/transport/TickSchedule" "shortest" "J" (.long o0_shortest)) (F_o0_scheduled : Fld Z h o0 "com/example/quietwire/quietwire/transport/TickSchedule" "scheduled" "J" (.long o0_scheduled)) (F_o0_soonest : Fld Z h o0 "com/example/quietwire/quietwire/transport/TickSchedule" "soonest" "J" (.long o0_soonest)) (r : Int64) (hr : f5_0 o0_period o0_shortest o0_scheduled o0_soonest = r) :
    Fin p e below s R5.cells R5.slots (Q5 Z  h0 n0 r) (T0.setTop (mkF m 0 #[.val (.ref o0)] [])) := by
  obtain ⟨hx, hZ, hw, hby, hml, hret, hown, hnm, hlk⟩ := B
  unfold f5_0 at hr
  refine Fin.by (B := T0.setTop (mkF m 1 #[.val (.ref o0)] [(.ref o0)])) (fun t k => ?_) ?_
  · show Steps p.tables e below (T0.setTop (mkF m 0 #[.val (.ref o0)] [])) _
    refine XS.aloadN X0.here hx rfl (hb hby d5_0) rfl rfl ?_
    exact k
  obtain ⟨T1, X1, e1, st1⟩ := getF X0 hx hZ hown (host := "") (Or.inl (hw _ (List.mem_of_getElem? (i := 21) rfl))) Via.refl e0 F_o0_scheduled (g := (mkF m 1 #[.val (.ref o0)] [(.ref o0)])) rfl rfl (hb hby d5_1)
  refine Fin.by (B := T1.setTop (mkF m 4 #[.val (.ref o0)] [(.long o0_scheduled)])) (fun t k => st1 t k) ?_
  refine Fin.by (B := T1.setTop (mkF m 5 #[.val (.ref o0)] [(.ref o0), (.long o0_scheduled)])) (fun t k => ?_) ?_
  · show Steps p.tables e below (T1.setTop (mkF m 4 #[.val (.ref o0)] [(.long o0_scheduled)])) _
    refine XS.aloadN X1.here hx rfl (hb hby d5_4) rfl rfl ?_
    exact k
  obtain ⟨T2, X2, e2, st2⟩ := getF X1 hx hZ hown (host := "") (Or.inl (hw _ (List.mem_of_getElem? (i := 23) rfl))) Via.refl e1 F_o0_soonest (g := (mkF m 5 #[.val (.ref o0)] [(.ref o0), (.long o0_scheduled)])) rfl rfl (hb hby d5_5)
  refine Fin.by (B := T2.setTop (mkF m 8 #[.val (.ref o0)] [(.long o0_soonest), (.long o0_scheduled)])) (fun t k => st2 t k) ?_
  refine Fin.by (B := T2.setTop (mkF m 11 #[.val (.ref o0)] [(.int (lcmpW (o0_scheduled - o0_soonest) (0 : Int64)))])) (fun t k => ?_) ?_
  · show Steps p.tables e below (T2.setTop (mkF m 8 #[.val (.ref o0)] [(.long o0_soonest), (.long o0_scheduled)])) _
    refine XS.lsub X2.here hx rfl (hb hby d5_8) rfl ?_
    show Steps p.tables e below (T2.setTop (mkF m 9 #[.val (.ref o0)] [(.long (o0_scheduled - o0_soonest))])) _
    refine XS.lconst X2.here hx rfl (hb hby d5_9) ?_
    show Steps p.tables e below (T2.setTop (mkF m 10 #[.val (.ref o0)] [(.long (0 : Int64)), (.long (o0_scheduled - o0_soonest))])) _
    refine XS.lcmp X2.here hx rfl (hb hby d5_10) rfl ?_
    exact k
  by_cases hc11 : (o0_scheduled - o0_soonest) < (0 : Int64)
  · rw [if_pos hc11] at hr
    refine Fin.by (B := T2.setTop (mkF m 21 #[.val (.ref o0)] [])) (fun t k => ?_) ?_
    · show Steps p.tables e below (T2.setTop (mkF m 11 #[.val (.ref o0)] [(.int (lcmpW (o0_scheduled - o0_soonest) (0 : Int64)))])) _
      exact XS.ifYes X2.here hx rfl (pc0 := 11) (pc' := 21) rfl (hb hby d5_11) rfl ((if0 _ _).trans (tlt ((lw_lt _ _).mpr hc11)).1) (by decide) (by decide) k
    refine Fin.by (B := T2.setTop (mkF m 22 #[.val (.ref o0)] [(.ref o0)])) (fun t k => ?_) ?_
    · show Steps p.tables e below (T2.setTop (mkF m 21 #[.val (.ref o0)] [])) _
      refine XS.aloadN X2.here hx rfl (hb hby d5_21) rfl rfl ?_
      exact k
    obtain ⟨T3, X3, e3, st3⟩ := getF X2 hx hZ hown (host := "") (Or.inl (hw _ (List.mem_of_getElem? (i := 23) rfl))) Via.refl e2 F_o0_soonest (g := (mkF m 22 #[.val (.ref o0)] [(.ref o0)])) rfl rfl (hb hby d5_22)
    refine Fin.by (B := T3.setTop (mkF m 25 #[.val (.ref o0)] [(.long o0_soonest)])) (fun t k => st3 t k) ?_
    subst hr
    exact own_retJ X3 hx hlk hret (hb hby d5_25) (by decide) (by decide) ⟨rfl, N0, (e3.trans hh0)⟩
  · rw [if_neg hc11] at hr
    refine Fin.by (B := T2.setTop (mkF m 14 #[.val (.ref o0)] [])) (fun t k => ?_) ?_
    · show Steps p.tables e below (T2.setTop (mkF m 11 #[.val (.ref o0)] [(.int (lcmpW (o0_scheduled - o0_soonest) (0 : Int64)))])) _
      exact XS.ifNo X2.here hx rfl (hb hby d5_11) rfl ((if0 _ _).trans (flt (fun q => hc11 ((lw_lt _ _).mp q))).1) k
    refine Fin.by (B := T2.setTop (mkF m 15 #[.val (.ref o0)] [(.ref o0)])) (fun t k => ?_) ?_
    · show Steps p.tables e below (T2.setTop (mkF m 14 #[.val (.ref o0)] [])) _
      refine XS.aloadN X2.here hx rfl (hb hby d5_14) rfl rfl ?_
      exact k
    obtain ⟨T4, X4, e4, st4⟩ := getF X2 hx hZ hown (host := "") (Or.inl (hw _ (List.mem_of_getElem? (i := 21) rfl))) Via.refl e2 F_o0_scheduled (g := (mkF m 15 #[.val (.ref o0)] [(.ref o0)])) rfl rfl (hb hby d5_15)
    refine Fin.by (B := T4.setTop (mkF m 18 #[.val (.ref o0)] [(.long o0_scheduled)])) (fun t k => st4 t k) ?_
    refine Fin.by (B := T4.setTop (mkF m 25 #[.val (.ref o0)] [(.long o0_scheduled)])) (fun t k => ?_) ?_
    · show Steps p.tables e below (T4.setTop (mkF m 18 #[.val (.ref o0)] [(.long o0_scheduled)])) _
      refine XS.goto X4.here hx rfl (pc0 := 18) (pc' := 25) rfl (hb hby d5_18) (by decide) (by decide) ?_
      exact k
    subst hr
    exact own_retJ X4 hx hlk hret (hb hby d5_25) (by decide) (by decide) ⟨rfl, N0, (e4.trans hh0)⟩
theorem ef_5 (m : MethodId) (o0 : Addr) : entryFrame m #[(.ref o0)] 1 = (mkF m 0 #[.val (.ref o0)] []) := by first | (simp [entryFrame, mkF, argsToLocals, Value.category]; done) | rfl
set_option maxRecDepth 65536 in
set_option maxHeartbeats 40000000 in
theorem rm5 (l : Launch) (Z : State) (a0 : Array Value) (hw : ∀ d ∈ tables_1, d.before a0 Z = true) (ws : List Jvm.Cond) (o0 : Addr) (o0_period : Int64) (o0_shortest : Int64) (o0_scheduled : Int64) (o0_soonest : Int64) (h0 : Heap) (n0 : Nat) (Z0 : n0 ≤ h0.size) (E_o0 : Exa Z h0 o0 "com/example/quietwire/quietwire/transport/TickSchedule") (F_o0_period : Fld Z h0 o0 "com/example/quietwire/quietwire/transport/TickSchedule" "period" "J" (.long o0_period)) (F_o0_shortest : Fld Z h0 o0 "com/example/quietwire/quietwire/transport/TickSchedule" "shortest" "J" (.long o0_shortest)) (F_o0_scheduled : Fld Z h0 o0 "com/example/quietwire/quietwire/transport/TickSchedule" "scheduled" "J" (.long o0_scheduled)) (F_o0_soonest : Fld Z h0 o0 "com/example/quietwire/quietwire/transport/TickSchedule" "soonest" "J" (.long o0_soonest)) :
    MetFree l (⟨"com/example/quietwire/quietwire/transport/TickSchedule", "due", "()J"⟩ : MethodName) (head1 (Jvm.Cond.code (⟨"com/example/quietwire/quietwire/transport/TickSchedule", "due", "()J"⟩ : MethodName) prog_116_method_2_code 1 (some .long) :: ws) R5) (fun a U => a = #[(.ref o0)] ∧ Z.Warmed39 U.vm ∧ U.heap = h0) (fun _ _ _ _ _ => True) (fun _ U o U' => ∃ v L, o = .returned v ∧ (Q5 Z  h0 n0 (f5_0 o0_period o0_shortest o0_scheduled o0_soonest)) v U'.heap L ∧ FrameEnd U o U' L R5.cells R5.slots) := by
  refine MetFree.of_bodySF (plainFor_of_name pn_5) hisR ?_
  intro p e s m args below meth c s₁ Bd hml0 hP hK
  obtain ⟨rfl, hZ, hh⟩ := hP
  have B : Ctx p Z s a0 m meth c "com/example/quietwire/quietwire/transport/TickSchedule" "due" prog_116_method_2_code 1 (some .long) := ⟨Bd.exec, hZ, hw, Bd.bytes, hml0, Bd.returns, findClass_of_methodNamed Bd.named, (name_of_methodNamed Bd.named Bd.method).1, Bd.notSynchronized⟩
  have X0 : Stand p l e R5 s m #[(.ref o0)] below meth c s₁ [] 0 0 := Stand.of_body Bd
  have e0 : s₁.heap = h0 := by rw [← hh, Bd.state]; rfl
  have K := Keep.refl h0 []
  show Fin p e below s R5.cells R5.slots (Q5 Z  h0 n0 (f5_0 o0_period o0_shortest o0_scheduled o0_soonest)) (s₁.setTop (entryFrame m #[(.ref o0)] 1))
  refine Fin.by (fun t k => castTop (ef_5 m o0) k) ?_
  exact b5_0 B h0 n0 o0 o0_period o0_shortest o0_scheduled o0_soonest X0 e0 (Fr.nil n0) Z0 rfl E_o0 F_o0_period F_o0_shortest F_o0_scheduled F_o0_soonest _ rfl
theorem pd_3 : parseMethodDescriptor "()J" = some ⟨[], some .long⟩ := by decide +kernel
theorem d6_0 : decode prog_116_method_3_code 0 = .ok (.lload_n 1, 1) := by decide +kernel
theorem d6_1 : decode prog_116_method_3_code 1 = .ok (.aload_n 0, 1) := by decide +kernel
theorem d6_2 : decode prog_116_method_3_code 2 = .ok (.invokevirtual 24, 3) := by decide +kernel
theorem d6_5 : decode prog_116_method_3_code 5 = .ok (.lsub, 1) := by decide +kernel
theorem d6_6 : decode prog_116_method_3_code 6 = .ok (.lconst 0, 1) := by decide +kernel
theorem d6_7 : decode prog_116_method_3_code 7 = .ok (.lcmp, 1) := by decide +kernel
theorem d6_8 : decode prog_116_method_3_code 8 = .ok (.ifCond .lt 7, 3) := by decide +kernel
theorem d6_11 : decode prog_116_method_3_code 11 = .ok (.iconst 1, 1) := by decide +kernel
theorem d6_12 : decode prog_116_method_3_code 12 = .ok (.goto 4, 3) := by decide +kernel
theorem d6_15 : decode prog_116_method_3_code 15 = .ok (.iconst 0, 1) := by decide +kernel
theorem d6_16 : decode prog_116_method_3_code 16 = .ok (.ireturn, 1) := by decide +kernel
theorem pn_6 : plainName "com/example/quietwire/quietwire/transport/TickSchedule" = true := by first | (simp [plainName, overriddenIn]; done) | decide +kernel
def R6 : Room := { frames := 1, cells := 0, slots := 0, locals := 14 }
def Q6 (Z : State)  (h0 : Heap) (n0 : Nat) (r : Int32) (v : Option Value) (h : Heap) (L : List Loc) : Prop := v = some (.int r) ∧ Fr n0 L ∧ h = h0
def f6_0 (v1 : Int64) (o0_period : Int64) (o0_shortest : Int64) (o0_scheduled : Int64) (o0_soonest : Int64) : Int32 := (if (v1 - (f5_0 o0_period o0_shortest o0_scheduled o0_soonest)) < (0 : Int64) then (0 : Int32) else (1 : Int32))
set_option maxRecDepth 65536 in
set_option maxHeartbeats 40000000 in
theorem b6_0 {p : Program} {l : Launch} {e : Env} {s : State} {m : MethodId} {args : Array Value} {below : List Frame} {meth : Method} {c : Code} {Z : State} {a0 : Array Value} (B : Ctx p Z s a0 m meth c "com/example/quietwire/quietwire/transport/TickSchedule" "isDue" prog_116_method_3_code 3 (some .boolean)) {T0 : State} {locs : List Loc} {h : Heap} (h0 : Heap) (n0 : Nat) (o0 : Addr) (v1 : Int64) (o0_period : Int64) (o0_shortest : Int64) (o0_scheduled : Int64) (o0_soonest : Int64) (X0 : Stand p l e R6 s m args below meth c T0 locs 0 0) (e0 : T0.heap = h) (N0 : Fr n0 locs) (Z0 : n0 ≤ h.size) (hh0 : h = h0) (E_o0 : Exa Z h o0 "com/example/quietwire/quietwire/transport/TickSchedule") (F_o0_period : Fld Z h o0 "com/example/quietwire/quietwire/transport/TickSchedule" "period" "J" (.long o0_period)) (F_o0_shortest : Fld Z h o0 "com/example/quietwire/quietwire/transport/TickSchedule" "shortest" "J" (.long o0_shortest)) (F_o0_scheduled : Fld Z h o0 "com/example/quietwire/quietwire/transport/TickSchedule" "scheduled" "J" (.long o0_scheduled)) (F_o0_soonest : Fld Z h o0 "com/example/quietwire/quietwire/transport/TickSchedule" "soonest" "J" (.long o0_soonest)) (r : Int32) (hr : f6_0 v1 o0_period o0_shortest o0_scheduled o0_soonest = r) :
    Fin p e below s R6.cells R6.slots (Q6 Z  h0 n0 r) (T0.setTop (mkF m 0 #[.val (.ref o0), .val (.long v1), .second] [])) := by
  obtain ⟨hx, hZ, hw, hby, hml, hret, hown, hnm, hlk⟩ := B
  unfold f6_0 at hr
  refine Fin.by (B := T0.setTop (mkF m 2 #[.val (.ref o0), .val (.long v1), .second] [(.ref o0), (.long v1)])) (fun t k => ?_) ?_
  · show Steps p.tables e below (T0.setTop (mkF m 0 #[.val (.ref o0), .val (.long v1), .second] [])) _
    refine XS.lloadN X0.here hx rfl (hb hby d6_0) rfl  ?_
    show Steps p.tables e below (T0.setTop (mkF m 1 #[.val (.ref o0), .val (.long v1), .second] [(.long v1)])) _
    refine XS.aloadN X0.here hx rfl (hb hby d6_1) rfl rfl ?_
    exact k
  -- pc 2: com/example/quietwire/quietwire/transport/TickSchedule.due
  obtain ⟨cq1, kq1, q1a, q1b, q1c⟩ := isOf hZ e0 E_o0
  obtain ⟨_, _, ⟨T1, L1, k1, n1⟩, -, X1, ⟨Lc1, hQ1, l1, y1, z1⟩, st1⟩ := X0.virtualBack hx (y := (⟨"com/example/quietwire/quietwire/transport/TickSchedule", "due", "()J"⟩ : MethodName)) (z := (⟨"com/example/quietwire/quietwire/transport/TickSchedule", "due", "()J"⟩ : MethodName)) hown (mvT hZ (hw _ (List.mem_of_getElem? (i := 40) rfl))) (mvT hZ (hw _ (List.mem_of_getElem? (i := 31) rfl))) (notFace_of_selects (args := #[]) (mvT hZ (hw _ (List.mem_of_getElem? (i := 33) rfl)))) (mvT hZ (hw _ (List.mem_of_getElem? (i := 33) rfl))) (mvT hZ (hw _ (List.mem_of_getElem? (i := 32) rfl))) (by decide) (backOf (W := 2) (rm5 l Z a0 hw [] o0 o0_period o0_shortest o0_scheduled o0_soonest h n0 Z0 E_o0 F_o0_period F_o0_shortest F_o0_scheduled F_o0_soonest) hZ (hw _ (List.mem_of_getElem? (i := 34) rfl)) (hw _ (List.mem_of_getElem? (i := 9) rfl)) (by decide) (by decide)) q1a q1c (g := (mkF m 2 #[.val (.ref o0), .val (.long v1), .second] [(.ref o0), (.long v1)])) rfl (by rw [hml]; rfl) (Steps.refl _) (argsL := []) (rest := [(.long v1)]) (lenOf pd_3 rfl) rfl (by show 2 * 0 + _ ≤ _; exact Nat.le_of_eq rfl) (hb hby d6_2) (fun _ _ => ⟨rfl, e0, (by decide : 0 + R5.cells ≤ _), (by decide : 0 + R5.slots ≤ _)⟩)
  dsimp only [Pt.U, Pt.locs, Pt.cells, Pt.slots] at X1 l1 y1 z1 st1 hQ1
  subst l1 y1 z1
  obtain ⟨rfl, Nq1, e1⟩ := hQ1
  have N1 := Fr.app N0 Nq1
  refine Fin.by (B := T1.setTop (mkF m 5 #[.val (.ref o0), .val (.long v1), .second] [(.long (f5_0 o0_period o0_shortest o0_scheduled o0_soonest)), (.long v1)])) (fun t k => st1.trans k) ?_
  refine Fin.by (B := T1.setTop (mkF m 8 #[.val (.ref o0), .val (.long v1), .second] [(.int (lcmpW (v1 - (f5_0 o0_period o0_shortest o0_scheduled o0_soonest)) (0 : Int64)))])) (fun t k => ?_) ?_
  · show Steps p.tables e below (T1.setTop (mkF m 5 #[.val (.ref o0), .val (.long v1), .second] [(.long (f5_0 o0_period o0_shortest o0_scheduled o0_soonest)), (.long v1)])) _
    refine XS.lsub X1.here hx rfl (hb hby d6_5) rfl ?_
    show Steps p.tables e below (T1.setTop (mkF m 6 #[.val (.ref o0), .val (.long v1), .second] [(.long (v1 - (f5_0 o0_period o0_shortest o0_scheduled o0_soonest)))])) _
    refine XS.lconst X1.here hx rfl (hb hby d6_6) ?_
    show Steps p.tables e below (T1.setTop (mkF m 7 #[.val (.ref o0), .val (.long v1), .second] [(.long (0 : Int64)), (.long (v1 - (f5_0 o0_period o0_shortest o0_scheduled o0_soonest)))])) _
    refine XS.lcmp X1.here hx rfl (hb hby d6_7) rfl ?_
    exact k
  by_cases hc8 : (v1 - (f5_0 o0_period o0_shortest o0_scheduled o0_soonest)) < (0 : Int64)
  · rw [if_pos hc8] at hr
    refine Fin.by (B := T1.setTop (mkF m 15 #[.val (.ref o0), .val (.long v1), .second] [])) (fun t k => ?_) ?_
    · show Steps p.tables e below (T1.setTop (mkF m 8 #[.val (.ref o0), .val (.long v1), .second] [(.int (lcmpW (v1 - (f5_0 o0_period o0_shortest o0_scheduled o0_soonest)) (0 : Int64)))])) _
      exact XS.ifYes X1.here hx rfl (pc0 := 8) (pc' := 15) rfl (hb hby d6_8) rfl ((if0 _ _).trans (tlt ((lw_lt _ _).mpr hc8)).1) (by decide) (by decide) k
    refine Fin.by (B := T1.setTop (mkF m 16 #[.val (.ref o0), .val (.long v1), .second] [(.int (0 : Int32))])) (fun t k => ?_) ?_
    · show Steps p.tables e below (T1.setTop (mkF m 15 #[.val (.ref o0), .val (.long v1), .second] [])) _
      refine XS.iconst X1.here hx rfl (hb hby d6_15) ?_
      exact k
    subst hr
    exact own_retN X1 hx hlk (t := .boolean) hret (by simp) (hb hby d6_16) (by decide) (by decide) ⟨rfl, N1, (e1.trans hh0)⟩
  · rw [if_neg hc8] at hr
    refine Fin.by (B := T1.setTop (mkF m 11 #[.val (.ref o0), .val (.long v1), .second] [])) (fun t k => ?_) ?_
    · show Steps p.tables e below (T1.setTop (mkF m 8 #[.val (.ref o0), .val (.long v1), .second] [(.int (lcmpW (v1 - (f5_0 o0_period o0_shortest o0_scheduled o0_soonest)) (0 : Int64)))])) _
      exact XS.ifNo X1.here hx rfl (hb hby d6_8) rfl ((if0 _ _).trans (flt (fun q => hc8 ((lw_lt _ _).mp q))).1) k
    refine Fin.by (B := T1.setTop (mkF m 16 #[.val (.ref o0), .val (.long v1), .second] [(.int (1 : Int32))])) (fun t k => ?_) ?_
    · show Steps p.tables e below (T1.setTop (mkF m 11 #[.val (.ref o0), .val (.long v1), .second] [])) _
      refine XS.iconst X1.here hx rfl (hb hby d6_11) ?_
      show Steps p.tables e below (T1.setTop (mkF m 12 #[.val (.ref o0), .val (.long v1), .second] [(.int (1 : Int32))])) _
      refine XS.goto X1.here hx rfl (pc0 := 12) (pc' := 16) rfl (hb hby d6_12) (by decide) (by decide) ?_
      exact k
    subst hr
    exact own_retN X1 hx hlk (t := .boolean) hret (by simp) (hb hby d6_16) (by decide) (by decide) ⟨rfl, N1, (e1.trans hh0)⟩
theorem ef_6 (m : MethodId) (o0 : Addr) (v1 : Int64) : entryFrame m #[(.ref o0), (.long v1)] 3 = (mkF m 0 #[.val (.ref o0), .val (.long v1), .second] []) := by first | (simp [entryFrame, mkF, argsToLocals, Value.category]; done) | rfl
set_option maxRecDepth 65536 in
set_option maxHeartbeats 40000000 in
theorem rm6 (l : Launch) (Z : State) (a0 : Array Value) (hw : ∀ d ∈ tables_1, d.before a0 Z = true) (ws : List Jvm.Cond) (o0 : Addr) (v1 : Int64) (o0_period : Int64) (o0_shortest : Int64) (o0_scheduled : Int64) (o0_soonest : Int64) (h0 : Heap) (n0 : Nat) (Z0 : n0 ≤ h0.size) (E_o0 : Exa Z h0 o0 "com/example/quietwire/quietwire/transport/TickSchedule") (F_o0_period : Fld Z h0 o0 "com/example/quietwire/quietwire/transport/TickSchedule" "period" "J" (.long o0_period)) (F_o0_shortest : Fld Z h0 o0 "com/example/quietwire/quietwire/transport/TickSchedule" "shortest" "J" (.long o0_shortest)) (F_o0_scheduled : Fld Z h0 o0 "com/example/quietwire/quietwire/transport/TickSchedule" "scheduled" "J" (.long o0_scheduled)) (F_o0_soonest : Fld Z h0 o0 "com/example/quietwire/quietwire/transport/TickSchedule" "soonest" "J" (.long o0_soonest)) :
    MetFree l (⟨"com/example/quietwire/quietwire/transport/TickSchedule", "isDue", "(J)Z"⟩ : MethodName) (head1 (Jvm.Cond.code (⟨"com/example/quietwire/quietwire/transport/TickSchedule", "isDue", "(J)Z"⟩ : MethodName) prog_116_method_3_code 3 (some .boolean) :: ws) R6) (fun a U => a = #[(.ref o0), (.long v1)] ∧ Z.Warmed39 U.vm ∧ U.heap = h0) (fun _ _ _ _ _ => True) (fun _ U o U' => ∃ v L, o = .returned v ∧ (Q6 Z  h0 n0 (f6_0 v1 o0_period o0_shortest o0_scheduled o0_soonest)) v U'.heap L ∧ FrameEnd U o U' L R6.cells R6.slots) := by
  refine MetFree.of_bodySF (plainFor_of_name pn_6) hisR ?_
  intro p e s m args below meth c s₁ Bd hml0 hP hK
  obtain ⟨rfl, hZ, hh⟩ := hP
  have B : Ctx p Z s a0 m meth c "com/example/quietwire/quietwire/transport/TickSchedule" "isDue" prog_116_method_3_code 3 (some .boolean) := ⟨Bd.exec, hZ, hw, Bd.bytes, hml0, Bd.returns, findClass_of_methodNamed Bd.named, (name_of_methodNamed Bd.named Bd.method).1, Bd.notSynchronized⟩
  have X0 : Stand p l e R6 s m #[(.ref o0), (.long v1)] below meth c s₁ [] 0 0 := Stand.of_body Bd
  have e0 : s₁.heap = h0 := by rw [← hh, Bd.state]; rfl
  have K := Keep.refl h0 []
  show Fin p e below s R6.cells R6.slots (Q6 Z  h0 n0 (f6_0 v1 o0_period o0_shortest o0_scheduled o0_soonest)) (s₁.setTop (entryFrame m #[(.ref o0), (.long v1)] 3))
  refine Fin.by (fun t k => castTop (ef_6 m o0 v1) k) ?_
  exact b6_0 B h0 n0 o0 v1 o0_period o0_shortest o0_scheduled o0_soonest X0 e0 (Fr.nil n0) Z0 rfl E_o0 F_o0_period F_o0_shortest F_o0_scheduled F_o0_soonest _ rfl
theorem pd_4 : parseMethodDescriptor "(J)Z" = some ⟨[.long], some .boolean⟩ := by decide +kernel
theorem pn_0 : plainName "com/example/quietwire/quietwire/transport/TickScheduleTickedPinLaw" = true := by first | (simp [plainName, overriddenIn]; done) | decide +kernel
def Q0 (n0 : Nat) (r : Int32) (v : Option Value) (h : Heap) (L : List Loc) : Prop := v = some (.int r) ∧ Fr n0 L
def f0_210 (v0 : Int64) (v2 : Int64) (v4 : Int64) (v6 : Int64) (v8 : Int64) (v10 : Int64) (v12 : Int64) (v14 : Int64) (v16 : Int64) (v18 : Int64) (v20 : Int64) (v22 : Int64) (v24 : Int64) (v26 : Int64) (v29 : Int32) (v30 : Int32) (t0 : Int32) (b121_period : Int64) (b121_shortest : Int64) (b121_scheduled : Int64) (b121_soonest : Int64) : Int32 := (if v29 = (0 : Int32) then (0 : Int32) else (if v30 = (0 : Int32) then (0 : Int32) else (if t0 = (0 : Int32) then (0 : Int32) else (if (f6_0 (v2 + v26) b121_period b121_shortest b121_scheduled b121_soonest) = (0 : Int32) then (0 : Int32) else (1 : Int32)))))
set_option maxRecDepth 65536 in
set_option maxHeartbeats 40000000 in
theorem b0_210 {p : Program} {l : Launch} {e : Env} {s : State} {m : MethodId} {args : Array Value} {below : List Frame} {meth : Method} {c : Code} {Z : State} {a0 : Array Value} (B : Ctx p Z s a0 m meth c "com/example/quietwire/quietwire/transport/TickScheduleTickedPinLaw" "law" code 33 (some .boolean)) {T0 : State} {locs : List Loc} {h : Heap} (h0 : Heap) (n0 : Nat) (v0 : Int64) (v2 : Int64) (v4 : Int64) (v6 : Int64) (v8 : Int64) (v10 : Int64) (v12 : Int64) (v14 : Int64) (v16 : Int64) (v18 : Int64) (v20 : Int64) (v22 : Int64) (v24 : Int64) (v26 : Int64) (b121 : Addr) (v29 : Int32) (v30 : Int32) (t0 : Int32) (b121_period : Int64) (b121_shortest : Int64) (b121_scheduled : Int64) (b121_soonest : Int64) (X0 : Stand p l e room_1 s m args below meth c T0 locs 1 4) (e0 : T0.heap = h) (N0 : Fr n0 locs) (Z0 : n0 ≤ h.size) (E_b121 : Exa Z h b121 "com/example/quietwire/quietwire/transport/TickSchedule") (F_b121_period : Fld Z h b121 "com/example/quietwire/quietwire/transport/TickSchedule" "period" "J" (.long b121_period)) (F_b121_shortest : Fld Z h b121 "com/example/quietwire/quietwire/transport/TickSchedule" "shortest" "J" (.long b121_shortest)) (F_b121_scheduled : Fld Z h b121 "com/example/quietwire/quietwire/transport/TickSchedule" "scheduled" "J" (.long b121_scheduled)) (F_b121_soonest : Fld Z h b121 "com/example/quietwire/quietwire/transport/TickSchedule" "soonest" "J" (.long b121_soonest)) (g_b121 : n0 ≤ b121) (r : Int32) (hr : f0_210 v0 v2 v4 v6 v8 v10 v12 v14 v16 v18 v20 v22 v24 v26 v29 v30 t0 b121_period b121_shortest b121_scheduled b121_soonest = r) :
    Fin p e below s 1 4 (Q0 n0 r) (T0.setTop (mkF m 210 #[.val (.long v0), .second, .val (.long v2), .second, .val (.long v4), .second, .val (.long v6), .second, .val (.long v8), .second, .val (.long v10), .second, .val (.long v12), .second, .val (.long v14), .second, .val (.long v16), .second, .val (.long v18), .second, .val (.long v20), .second, .val (.long v22), .second, .val (.long v24), .second, .val (.long v26), .second, .val (.ref b121), .val (.int v29), .val (.int v30), .unset, .unset] [(.int t0)])) := by
  obtain ⟨hx, hZ, hw, hby, hml, hret, hown, hnm, hlk⟩ := B
  unfold f0_210 at hr
  refine Fin.by (B := T0.setTop (mkF m 218 #[.val (.long v0), .second, .val (.long v2), .second, .val (.long v4), .second, .val (.long v6), .second, .val (.long v8), .second, .val (.long v10), .second, .val (.long v12), .second, .val (.long v14), .second, .val (.long v16), .second, .val (.long v18), .second, .val (.long v20), .second, .val (.long v22), .second, .val (.long v24), .second, .val (.long v26), .second, .val (.ref b121), .val (.int v29), .val (.int v30), .val (.int t0), .unset] [(.long (v2 + v26)), (.ref b121)])) (fun t k => ?_) ?_
  · show Steps p.tables e below (T0.setTop (mkF m 210 #[.val (.long v0), .second, .val (.long v2), .second, .val (.long v4), .second, .val (.long v6), .second, .val (.long v8), .second, .val (.long v10), .second, .val (.long v12), .second, .val (.long v14), .second, .val (.long v16), .second, .val (.long v18), .second, .val (.long v20), .second, .val (.long v22), .second, .val (.long v24), .second, .val (.long v26), .second, .val (.ref b121), .val (.int v29), .val (.int v30), .unset, .unset] [(.int t0)])) _
    refine XS.istore X0.here hx rfl (hb hby at_210) rfl (l' := #[.val (.long v0), .second, .val (.long v2), .second, .val (.long v4), .second, .val (.long v6), .second, .val (.long v8), .second, .val (.long v10), .second, .val (.long v12), .second, .val (.long v14), .second, .val (.long v16), .second, .val (.long v18), .second, .val (.long v20), .second, .val (.long v22), .second, .val (.long v24), .second, .val (.long v26), .second, .val (.ref b121), .val (.int v29), .val (.int v30), .val (.int t0), .unset]) rfl ?_
    show Steps p.tables e below (T0.setTop (mkF m 212 #[.val (.long v0), .second, .val (.long v2), .second, .val (.long v4), .second, .val (.long v6), .second, .val (.long v8), .second, .val (.long v10), .second, .val (.long v12), .second, .val (.long v14), .second, .val (.long v16), .second, .val (.long v18), .second, .val (.long v20), .second, .val (.long v22), .second, .val (.long v24), .second, .val (.long v26), .second, .val (.ref b121), .val (.int v29), .val (.int v30), .val (.int t0), .unset] [])) _
    refine XS.aload X0.here hx rfl (hb hby at_212) rfl rfl ?_
    show Steps p.tables e below (T0.setTop (mkF m 214 #[.val (.long v0), .second, .val (.long v2), .second, .val (.long v4), .second, .val (.long v6), .second, .val (.long v8), .second, .val (.long v10), .second, .val (.long v12), .second, .val (.long v14), .second, .val (.long v16), .second, .val (.long v18), .second, .val (.long v20), .second, .val (.long v22), .second, .val (.long v24), .second, .val (.long v26), .second, .val (.ref b121), .val (.int v29), .val (.int v30), .val (.int t0), .unset] [(.ref b121)])) _
    refine XS.lloadN X0.here hx rfl (hb hby at_214) rfl  ?_
    show Steps p.tables e below (T0.setTop (mkF m 215 #[.val (.long v0), .second, .val (.long v2), .second, .val (.long v4), .second, .val (.long v6), .second, .val (.long v8), .second, .val (.long v10), .second, .val (.long v12), .second, .val (.long v14), .second, .val (.long v16), .second, .val (.long v18), .second, .val (.long v20), .second, .val (.long v22), .second, .val (.long v24), .second, .val (.long v26), .second, .val (.ref b121), .val (.int v29), .val (.int v30), .val (.int t0), .unset] [(.long v2), (.ref b121)])) _
    refine XS.lload X0.here hx rfl (hb hby at_215) rfl  ?_
    show Steps p.tables e below (T0.setTop (mkF m 217 #[.val (.long v0), .second, .val (.long v2), .second, .val (.long v4), .second, .val (.long v6), .second, .val (.long v8), .second, .val (.long v10), .second, .val (.long v12), .second, .val (.long v14), .second, .val (.long v16), .second, .val (.long v18), .second, .val (.long v20), .second, .val (.long v22), .second, .val (.long v24), .second, .val (.long v26), .second, .val (.ref b121), .val (.int v29), .val (.int v30), .val (.int t0), .unset] [(.long v26), (.long v2), (.ref b121)])) _
    refine XS.ladd X0.here hx rfl (hb hby at_217) rfl ?_
    exact k
  -- pc 218: com/example/quietwire/quietwire/transport/TickSchedule.isDue
  obtain ⟨cq10, kq10, q10a, q10b, q10c⟩ := isOf hZ e0 E_b121
  obtain ⟨_, _, ⟨T10, L10, k10, n10⟩, -, X10, ⟨Lc10, hQ10, l10, y10, z10⟩, st10⟩ := X0.virtualBack hx (y := (⟨"com/example/quietwire/quietwire/transport/TickSchedule", "isDue", "(J)Z"⟩ : MethodName)) (z := (⟨"com/example/quietwire/quietwire/transport/TickSchedule", "isDue", "(J)Z"⟩ : MethodName)) hown (mvT hZ (hw _ (List.mem_of_getElem? (i := 35) rfl))) (mvT hZ (hw _ (List.mem_of_getElem? (i := 36) rfl))) (notFace_of_selects (args := #[]) (mvT hZ (hw _ (List.mem_of_getElem? (i := 38) rfl)))) (mvT hZ (hw _ (List.mem_of_getElem? (i := 38) rfl))) (mvT hZ (hw _ (List.mem_of_getElem? (i := 37) rfl))) (by decide) (backOf (W := 0) (rm6 l Z a0 hw [] b121 (v2 + v26) b121_period b121_shortest b121_scheduled b121_soonest h n0 Z0 E_b121 F_b121_period F_b121_shortest F_b121_scheduled F_b121_soonest) hZ (hw _ (List.mem_of_getElem? (i := 39) rfl)) (hw _ (List.mem_of_getElem? (i := 9) rfl)) (by decide) (by decide)) q10a q10c (g := (mkF m 218 #[.val (.long v0), .second, .val (.long v2), .second, .val (.long v4), .second, .val (.long v6), .second, .val (.long v8), .second, .val (.long v10), .second, .val (.long v12), .second, .val (.long v14), .second, .val (.long v16), .second, .val (.long v18), .second, .val (.long v20), .second, .val (.long v22), .second, .val (.long v24), .second, .val (.long v26), .second, .val (.ref b121), .val (.int v29), .val (.int v30), .val (.int t0), .unset] [(.long (v2 + v26)), (.ref b121)])) rfl (by rw [hml]; rfl) (Steps.refl _) (argsL := [(.long (v2 + v26))]) (rest := []) (lenOf pd_4 rfl) rfl (by show 2 * 0 + _ ≤ _; exact Nat.le_of_eq rfl) (hb hby at_218) (fun _ _ => ⟨rfl, e0, (by decide : 1 + R6.cells ≤ _), (by decide : 4 + R6.slots ≤ _)⟩)
  dsimp only [Pt.U, Pt.locs, Pt.cells, Pt.slots] at X10 l10 y10 z10 st10 hQ10
  subst l10 y10 z10
  obtain ⟨rfl, Nq10, e10⟩ := hQ10
  have N10 := Fr.app N0 Nq10
  refine Fin.by (B := T10.setTop (mkF m 221 #[.val (.long v0), .second, .val (.long v2), .second, .val (.long v4), .second, .val (.long v6), .second, .val (.long v8), .second, .val (.long v10), .second, .val (.long v12), .second, .val (.long v14), .second, .val (.long v16), .second, .val (.long v18), .second, .val (.long v20), .second, .val (.long v22), .second, .val (.long v24), .second, .val (.long v26), .second, .val (.ref b121), .val (.int v29), .val (.int v30), .val (.int t0), .unset] [(.int (f6_0 (v2 + v26) b121_period b121_shortest b121_scheduled b121_soonest))])) (fun t k => st10.trans k) ?_
  refine Fin.by (B := T10.setTop (mkF m 225 #[.val (.long v0), .second, .val (.long v2), .second, .val (.long v4), .second, .val (.long v6), .second, .val (.long v8), .second, .val (.long v10), .second, .val (.long v12), .second, .val (.long v14), .second, .val (.long v16), .second, .val (.long v18), .second, .val (.long v20), .second, .val (.long v22), .second, .val (.long v24), .second, .val (.long v26), .second, .val (.ref b121), .val (.int v29), .val (.int v30), .val (.int t0), .val (.int (f6_0 (v2 + v26) b121_period b121_shortest b121_scheduled b121_soonest))] [(.int v29)])) (fun t k => ?_) ?_
  · show Steps p.tables e below (T10.setTop (mkF m 221 #[.val (.long v0), .second, .val (.long v2), .second, .val (.long v4), .second, .val (.long v6), .second, .val (.long v8), .second, .val (.long v10), .second, .val (.long v12), .second, .val (.long v14), .second, .val (.long v16), .second, .val (.long v18), .second, .val (.long v20), .second, .val (.long v22), .second, .val (.long v24), .second, .val (.long v26), .second, .val (.ref b121), .val (.int v29), .val (.int v30), .val (.int t0), .unset] [(.int (f6_0 (v2 + v26) b121_period b121_shortest b121_scheduled b121_soonest))])) _
    refine XS.istore X10.here hx rfl (hb hby at_221) rfl (l' := #[.val (.long v0), .second, .val (.long v2), .second, .val (.long v4), .second, .val (.long v6), .second, .val (.long v8), .second, .val (.long v10), .second, .val (.long v12), .second, .val (.long v14), .second, .val (.long v16), .second, .val (.long v18), .second, .val (.long v20), .second, .val (.long v22), .second, .val (.long v24), .second, .val (.long v26), .second, .val (.ref b121), .val (.int v29), .val (.int v30), .val (.int t0), .val (.int (f6_0 (v2 + v26) b121_period b121_shortest b121_scheduled b121_soonest))]) rfl ?_
    show Steps p.tables e below (T10.setTop (mkF m 223 #[.val (.long v0), .second, .val (.long v2), .second, .val (.long v4), .second, .val (.long v6), .second, .val (.long v8), .second, .val (.long v10), .second, .val (.long v12), .second, .val (.long v14), .second, .val (.long v16), .second, .val (.long v18), .second, .val (.long v20), .second, .val (.long v22), .second, .val (.long v24), .second, .val (.long v26), .second, .val (.ref b121), .val (.int v29), .val (.int v30), .val (.int t0), .val (.int (f6_0 (v2 + v26) b121_period b121_shortest b121_scheduled b121_soonest))] [])) _
    refine XS.iload X10.here hx rfl (hb hby at_223) rfl  ?_
    exact k
  by_cases hc225 : v29 = (0 : Int32)
  · rw [if_pos hc225] at hr
    refine Fin.by (B := T10.setTop (mkF m 247 #[.val (.long v0), .second, .val (.long v2), .second, .val (.long v4), .second, .val (.long v6), .second, .val (.long v8), .second, .val (.long v10), .second, .val (.long v12), .second, .val (.long v14), .second, .val (.long v16), .second, .val (.long v18), .second, .val (.long v20), .second, .val (.long v22), .second, .val (.long v24), .second, .val (.long v26), .second, .val (.ref b121), .val (.int v29), .val (.int v30), .val (.int t0), .val (.int (f6_0 (v2 + v26) b121_period b121_shortest b121_scheduled b121_soonest))] [])) (fun t k => ?_) ?_
    · show Steps p.tables e below (T10.setTop (mkF m 225 #[.val (.long v0), .second, .val (.long v2), .second, .val (.long v4), .second, .val (.long v6), .second, .val (.long v8), .second, .val (.long v10), .second, .val (.long v12), .second, .val (.long v14), .second, .val (.long v16), .second, .val (.long v18), .second, .val (.long v20), .second, .val (.long v22), .second, .val (.long v24), .second, .val (.long v26), .second, .val (.ref b121), .val (.int v29), .val (.int v30), .val (.int t0), .val (.int (f6_0 (v2 + v26) b121_period b121_shortest b121_scheduled b121_soonest))] [(.int v29)])) _
      exact XS.ifYes X10.here hx rfl (pc0 := 225) (pc' := 247) rfl (hb hby at_225) rfl ((if0 _ _).trans (teq hc225).1) (by decide) (by decide) k
    refine Fin.by (B := T10.setTop (mkF m 248 #[.val (.long v0), .second, .val (.long v2), .second, .val (.long v4), .second, .val (.long v6), .second, .val (.long v8), .second, .val (.long v10), .second, .val (.long v12), .second, .val (.long v14), .second, .val (.long v16), .second, .val (.long v18), .second, .val (.long v20), .second, .val (.long v22), .second, .val (.long v24), .second, .val (.long v26), .second, .val (.ref b121), .val (.int v29), .val (.int v30), .val (.int t0), .val (.int (f6_0 (v2 + v26) b121_period b121_shortest b121_scheduled b121_soonest))] [(.int (0 : Int32))])) (fun t k => ?_) ?_
    · show Steps p.tables e below (T10.setTop (mkF m 247 #[.val (.long v0), .second, .val (.long v2), .second, .val (.long v4), .second, .val (.long v6), .second, .val (.long v8), .second, .val (.long v10), .second, .val (.long v12), .second, .val (.long v14), .second, .val (.long v16), .second, .val (.long v18), .second, .val (.long v20), .second, .val (.long v22), .second, .val (.long v24), .second, .val (.long v26), .second, .val (.ref b121), .val (.int v29), .val (.int v30), .val (.int t0), .val (.int (f6_0 (v2 + v26) b121_period b121_shortest b121_scheduled b121_soonest))] [])) _
      refine XS.iconst X10.here hx rfl (hb hby at_247) ?_
      exact k
    subst hr
    exact own_retN X10 hx hlk (t := .boolean) hret (by simp) (hb hby at_248) (by decide) (by decide) ⟨rfl, N10⟩
  · rw [if_neg hc225] at hr
    refine Fin.by (B := T10.setTop (mkF m 228 #[.val (.long v0), .second, .val (.long v2), .second, .val (.long v4), .second, .val (.long v6), .second, .val (.long v8), .second, .val (.long v10), .second, .val (.long v12), .second, .val (.long v14), .second, .val (.long v16), .second, .val (.long v18), .second, .val (.long v20), .second, .val (.long v22), .second, .val (.long v24), .second, .val (.long v26), .second, .val (.ref b121), .val (.int v29), .val (.int v30), .val (.int t0), .val (.int (f6_0 (v2 + v26) b121_period b121_shortest b121_scheduled b121_soonest))] [])) (fun t k => ?_) ?_
    · show Steps p.tables e below (T10.setTop (mkF m 225 #[.val (.long v0), .second, .val (.long v2), .second, .val (.long v4), .second, .val (.long v6), .second, .val (.long v8), .second, .val (.long v10), .second, .val (.long v12), .second, .val (.long v14), .second, .val (.long v16), .second, .val (.long v18), .second, .val (.long v20), .second, .val (.long v22), .second, .val (.long v24), .second, .val (.long v26), .second, .val (.ref b121), .val (.int v29), .val (.int v30), .val (.int t0), .val (.int (f6_0 (v2 + v26) b121_period b121_shortest b121_scheduled b121_soonest))] [(.int v29)])) _
      exact XS.ifNo X10.here hx rfl (hb hby at_225) rfl ((if0 _ _).trans (feq hc225).1) k
    refine Fin.by (B := T10.setTop (mkF m 230 #[.val (.long v0), .second, .val (.long v2), .second, .val (.long v4), .second, .val (.long v6), .second, .val (.long v8), .second, .val (.long v10), .second, .val (.long v12), .second, .val (.long v14), .second, .val (.long v16), .second, .val (.long v18), .second, .val (.long v20), .second, .val (.long v22), .second, .val (.long v24), .second, .val (.long v26), .second, .val (.ref b121), .val (.int v29), .val (.int v30), .val (.int t0), .val (.int (f6_0 (v2 + v26) b121_period b121_shortest b121_scheduled b121_soonest))] [(.int v30)])) (fun t k => ?_) ?_
    · show Steps p.tables e below (T10.setTop (mkF m 228 #[.val (.long v0), .second, .val (.long v2), .second, .val (.long v4), .second, .val (.long v6), .second, .val (.long v8), .second, .val (.long v10), .second, .val (.long v12), .second, .val (.long v14), .second, .val (.long v16), .second, .val (.long v18), .second, .val (.long v20), .second, .val (.long v22), .second, .val (.long v24), .second, .val (.long v26), .second, .val (.ref b121), .val (.int v29), .val (.int v30), .val (.int t0), .val (.int (f6_0 (v2 + v26) b121_period b121_shortest b121_scheduled b121_soonest))] [])) _
      refine XS.iload X10.here hx rfl (hb hby at_228) rfl  ?_
      exact k
    by_cases hc230 : v30 = (0 : Int32)
    · rw [if_pos hc230] at hr
      refine Fin.by (B := T10.setTop (mkF m 247 #[.val (.long v0), .second, .val (.long v2), .second, .val (.long v4), .second, .val (.long v6), .second, .val (.long v8), .second, .val (.long v10), .second, .val (.long v12), .second, .val (.long v14), .second, .val (.long v16), .second, .val (.long v18), .second, .val (.long v20), .second, .val (.long v22), .second, .val (.long v24), .second, .val (.long v26), .second, .val (.ref b121), .val (.int v29), .val (.int v30), .val (.int t0), .val (.int (f6_0 (v2 + v26) b121_period b121_shortest b121_scheduled b121_soonest))] [])) (fun t k => ?_) ?_
      · show Steps p.tables e below (T10.setTop (mkF m 230 #[.val (.long v0), .second, .val (.long v2), .second, .val (.long v4), .second, .val (.long v6), .second, .val (.long v8), .second, .val (.long v10), .second, .val (.long v12), .second, .val (.long v14), .second, .val (.long v16), .second, .val (.long v18), .second, .val (.long v20), .second, .val (.long v22), .second, .val (.long v24), .second, .val (.long v26), .second, .val (.ref b121), .val (.int v29), .val (.int v30), .val (.int t0), .val (.int (f6_0 (v2 + v26) b121_period b121_shortest b121_scheduled b121_soonest))] [(.int v30)])) _
        exact XS.ifYes X10.here hx rfl (pc0 := 230) (pc' := 247) rfl (hb hby at_230) rfl ((if0 _ _).trans (teq hc230).1) (by decide) (by decide) k
      refine Fin.by (B := T10.setTop (mkF m 248 #[.val (.long v0), .second, .val (.long v2), .second, .val (.long v4), .second, .val (.long v6), .second, .val (.long v8), .second, .val (.long v10), .second, .val (.long v12), .second, .val (.long v14), .second, .val (.long v16), .second, .val (.long v18), .second, .val (.long v20), .second, .val (.long v22), .second, .val (.long v24), .second, .val (.long v26), .second, .val (.ref b121), .val (.int v29), .val (.int v30), .val (.int t0), .val (.int (f6_0 (v2 + v26) b121_period b121_shortest b121_scheduled b121_soonest))] [(.int (0 : Int32))])) (fun t k => ?_) ?_
      · show Steps p.tables e below (T10.setTop (mkF m 247 #[.val (.long v0), .second, .val (.long v2), .second, .val (.long v4), .second, .val (.long v6), .second, .val (.long v8), .second, .val (.long v10), .second, .val (.long v12), .second, .val (.long v14), .second, .val (.long v16), .second, .val (.long v18), .second, .val (.long v20), .second, .val (.long v22), .second, .val (.long v24), .second, .val (.long v26), .second, .val (.ref b121), .val (.int v29), .val (.int v30), .val (.int t0), .val (.int (f6_0 (v2 + v26) b121_period b121_shortest b121_scheduled b121_soonest))] [])) _
        refine XS.iconst X10.here hx rfl (hb hby at_247) ?_
        exact k
      subst hr
      exact own_retN X10 hx hlk (t := .boolean) hret (by simp) (hb hby at_248) (by decide) (by decide) ⟨rfl, N10⟩
    · rw [if_neg hc230] at hr
      refine Fin.by (B := T10.setTop (mkF m 233 #[.val (.long v0), .second, .val (.long v2), .second, .val (.long v4), .second, .val (.long v6), .second, .val (.long v8), .second, .val (.long v10), .second, .val (.long v12), .second, .val (.long v14), .second, .val (.long v16), .second, .val (.long v18), .second, .val (.long v20), .second, .val (.long v22), .second, .val (.long v24), .second, .val (.long v26), .second, .val (.ref b121), .val (.int v29), .val (.int v30), .val (.int t0), .val (.int (f6_0 (v2 + v26) b121_period b121_shortest b121_scheduled b121_soonest))] [])) (fun t k => ?_) ?_
      · show Steps p.tables e below (T10.setTop (mkF m 230 #[.val (.long v0), .second, .val (.long v2), .second, .val (.long v4), .second, .val (.long v6), .second, .val (.long v8), .second, .val (.long v10), .second, .val (.long v12), .second, .val (.long v14), .second, .val (.long v16), .second, .val (.long v18), .second, .val (.long v20), .second, .val (.long v22), .second, .val (.long v24), .second, .val (.long v26), .second, .val (.ref b121), .val (.int v29), .val (.int v30), .val (.int t0), .val (.int (f6_0 (v2 + v26) b121_period b121_shortest b121_scheduled b121_soonest))] [(.int v30)])) _
        exact XS.ifNo X10.here hx rfl (hb hby at_230) rfl ((if0 _ _).trans (feq hc230).1) k
      refine Fin.by (B := T10.setTop (mkF m 235 #[.val (.long v0), .second, .val (.long v2), .second, .val (.long v4), .second, .val (.long v6), .second, .val (.long v8), .second, .val (.long v10), .second, .val (.long v12), .second, .val (.long v14), .second, .val (.long v16), .second, .val (.long v18), .second, .val (.long v20), .second, .val (.long v22), .second, .val (.long v24), .second, .val (.long v26), .second, .val (.ref b121), .val (.int v29), .val (.int v30), .val (.int t0), .val (.int (f6_0 (v2 + v26) b121_period b121_shortest b121_scheduled b121_soonest))] [(.int t0)])) (fun t k => ?_) ?_
      · show Steps p.tables e below (T10.setTop (mkF m 233 #[.val (.long v0), .second, .val (.long v2), .second, .val (.long v4), .second, .val (.long v6), .second, .val (.long v8), .second, .val (.long v10), .second, .val (.long v12), .second, .val (.long v14), .second, .val (.long v16), .second, .val (.long v18), .second, .val (.long v20), .second, .val (.long v22), .second, .val (.long v24), .second, .val (.long v26), .second, .val (.ref b121), .val (.int v29), .val (.int v30), .val (.int t0), .val (.int (f6_0 (v2 + v26) b121_period b121_shortest b121_scheduled b121_soonest))] [])) _
        refine XS.iload X10.here hx rfl (hb hby at_233) rfl  ?_
        exact k
      by_cases hc235 : t0 = (0 : Int32)
      · rw [if_pos hc235] at hr
        refine Fin.by (B := T10.setTop (mkF m 247 #[.val (.long v0), .second, .val (.long v2), .second, .val (.long v4), .second, .val (.long v6), .second, .val (.long v8), .second, .val (.long v10), .second, .val (.long v12), .second, .val (.long v14), .second, .val (.long v16), .second, .val (.long v18), .second, .val (.long v20), .second, .val (.long v22), .second, .val (.long v24), .second, .val (.long v26), .second, .val (.ref b121), .val (.int v29), .val (.int v30), .val (.int t0), .val (.int (f6_0 (v2 + v26) b121_period b121_shortest b121_scheduled b121_soonest))] [])) (fun t k => ?_) ?_
        · show Steps p.tables e below (T10.setTop (mkF m 235 #[.val (.long v0), .second, .val (.long v2), .second, .val (.long v4), .second, .val (.long v6), .second, .val (.long v8), .second, .val (.long v10), .second, .val (.long v12), .second, .val (.long v14), .second, .val (.long v16), .second, .val (.long v18), .second, .val (.long v20), .second, .val (.long v22), .second, .val (.long v24), .second, .val (.long v26), .second, .val (.ref b121), .val (.int v29), .val (.int v30), .val (.int t0), .val (.int (f6_0 (v2 + v26) b121_period b121_shortest b121_scheduled b121_soonest))] [(.int t0)])) _
          exact XS.ifYes X10.here hx rfl (pc0 := 235) (pc' := 247) rfl (hb hby at_235) rfl ((if0 _ _).trans (teq hc235).1) (by decide) (by decide) k
        refine Fin.by (B := T10.setTop (mkF m 248 #[.val (.long v0), .second, .val (.long v2), .second, .val (.long v4), .second, .val (.long v6), .second, .val (.long v8), .second, .val (.long v10), .second, .val (.long v12), .second, .val (.long v14), .second, .val (.long v16), .second, .val (.long v18), .second, .val (.long v20), .second, .val (.long v22), .second, .val (.long v24), .second, .val (.long v26), .second, .val (.ref b121), .val (.int v29), .val (.int v30), .val (.int t0), .val (.int (f6_0 (v2 + v26) b121_period b121_shortest b121_scheduled b121_soonest))] [(.int (0 : Int32))])) (fun t k => ?_) ?_
        · show Steps p.tables e below (T10.setTop (mkF m 247 #[.val (.long v0), .second, .val (.long v2), .second, .val (.long v4), .second, .val (.long v6), .second, .val (.long v8), .second, .val (.long v10), .second, .val (.long v12), .second, .val (.long v14), .second, .val (.long v16), .second, .val (.long v18), .second, .val (.long v20), .second, .val (.long v22), .second, .val (.long v24), .second, .val (.long v26), .second, .val (.ref b121), .val (.int v29), .val (.int v30), .val (.int t0), .val (.int (f6_0 (v2 + v26) b121_period b121_shortest b121_scheduled b121_soonest))] [])) _
          refine XS.iconst X10.here hx rfl (hb hby at_247) ?_
          exact k
        subst hr
        exact own_retN X10 hx hlk (t := .boolean) hret (by simp) (hb hby at_248) (by decide) (by decide) ⟨rfl, N10⟩
      · rw [if_neg hc235] at hr
        refine Fin.by (B := T10.setTop (mkF m 238 #[.val (.long v0), .second, .val (.long v2), .second, .val (.long v4), .second, .val (.long v6), .second, .val (.long v8), .second, .val (.long v10), .second, .val (.long v12), .second, .val (.long v14), .second, .val (.long v16), .second, .val (.long v18), .second, .val (.long v20), .second, .val (.long v22), .second, .val (.long v24), .second, .val (.long v26), .second, .val (.ref b121), .val (.int v29), .val (.int v30), .val (.int t0), .val (.int (f6_0 (v2 + v26) b121_period b121_shortest b121_scheduled b121_soonest))] [])) (fun t k => ?_) ?_
        · show Steps p.tables e below (T10.setTop (mkF m 235 #[.val (.long v0), .second, .val (.long v2), .second, .val (.long v4), .second, .val (.long v6), .second, .val (.long v8), .second, .val (.long v10), .second, .val (.long v12), .second, .val (.long v14), .second, .val (.long v16), .second, .val (.long v18), .second, .val (.long v20), .second, .val (.long v22), .second, .val (.long v24), .second, .val (.long v26), .second, .val (.ref b121), .val (.int v29), .val (.int v30), .val (.int t0), .val (.int (f6_0 (v2 + v26) b121_period b121_shortest b121_scheduled b121_soonest))] [(.int t0)])) _
          exact XS.ifNo X10.here hx rfl (hb hby at_235) rfl ((if0 _ _).trans (feq hc235).1) k
        refine Fin.by (B := T10.setTop (mkF m 240 #[.val (.long v0), .second, .val (.long v2), .second, .val (.long v4), .second, .val (.long v6), .second, .val (.long v8), .second, .val (.long v10), .second, .val (.long v12), .second, .val (.long v14), .second, .val (.long v16), .second, .val (.long v18), .second, .val (.long v20), .second, .val (.long v22), .second, .val (.long v24), .second, .val (.long v26), .second, .val (.ref b121), .val (.int v29), .val (.int v30), .val (.int t0), .val (.int (f6_0 (v2 + v26) b121_period b121_shortest b121_scheduled b121_soonest))] [(.int (f6_0 (v2 + v26) b121_period b121_shortest b121_scheduled b121_soonest))])) (fun t k => ?_) ?_
        · show Steps p.tables e below (T10.setTop (mkF m 238 #[.val (.long v0), .second, .val (.long v2), .second, .val (.long v4), .second, .val (.long v6), .second, .val (.long v8), .second, .val (.long v10), .second, .val (.long v12), .second, .val (.long v14), .second, .val (.long v16), .second, .val (.long v18), .second, .val (.long v20), .second, .val (.long v22), .second, .val (.long v24), .second, .val (.long v26), .second, .val (.ref b121), .val (.int v29), .val (.int v30), .val (.int t0), .val (.int (f6_0 (v2 + v26) b121_period b121_shortest b121_scheduled b121_soonest))] [])) _
          refine XS.iload X10.here hx rfl (hb hby at_238) rfl  ?_
          exact k
        by_cases hc240 : (f6_0 (v2 + v26) b121_period b121_shortest b121_scheduled b121_soonest) = (0 : Int32)
        · rw [if_pos hc240] at hr
          refine Fin.by (B := T10.setTop (mkF m 247 #[.val (.long v0), .second, .val (.long v2), .second, .val (.long v4), .second, .val (.long v6), .second, .val (.long v8), .second, .val (.long v10), .second, .val (.long v12), .second, .val (.long v14), .second, .val (.long v16), .second, .val (.long v18), .second, .val (.long v20), .second, .val (.long v22), .second, .val (.long v24), .second, .val (.long v26), .second, .val (.ref b121), .val (.int v29), .val (.int v30), .val (.int t0), .val (.int (f6_0 (v2 + v26) b121_period b121_shortest b121_scheduled b121_soonest))] [])) (fun t k => ?_) ?_
          · show Steps p.tables e below (T10.setTop (mkF m 240 #[.val (.long v0), .second, .val (.long v2), .second, .val (.long v4), .second, .val (.long v6), .second, .val (.long v8), .second, .val (.long v10), .second, .val (.long v12), .second, .val (.long v14), .second, .val (.long v16), .second, .val (.long v18), .second, .val (.long v20), .second, .val (.long v22), .second, .val (.long v24), .second, .val (.long v26), .second, .val (.ref b121), .val (.int v29), .val (.int v30), .val (.int t0), .val (.int (f6_0 (v2 + v26) b121_period b121_shortest b121_scheduled b121_soonest))] [(.int (f6_0 (v2 + v26) b121_period b121_shortest b121_scheduled b121_soonest))])) _
            exact XS.ifYes X10.here hx rfl (pc0 := 240) (pc' := 247) rfl (hb hby at_240) rfl ((if0 _ _).trans (teq hc240).1) (by decide) (by decide) k
          refine Fin.by (B := T10.setTop (mkF m 248 #[.val (.long v0), .second, .val (.long v2), .second, .val (.long v4), .second, .val (.long v6), .second, .val (.long v8), .second, .val (.long v10), .second, .val (.long v12), .second, .val (.long v14), .second, .val (.long v16), .second, .val (.long v18), .second, .val (.long v20), .second, .val (.long v22), .second, .val (.long v24), .second, .val (.long v26), .second, .val (.ref b121), .val (.int v29), .val (.int v30), .val (.int t0), .val (.int (f6_0 (v2 + v26) b121_period b121_shortest b121_scheduled b121_soonest))] [(.int (0 : Int32))])) (fun t k => ?_) ?_
          · show Steps p.tables e below (T10.setTop (mkF m 247 #[.val (.long v0), .second, .val (.long v2), .second, .val (.long v4), .second, .val (.long v6), .second, .val (.long v8), .second, .val (.long v10), .second, .val (.long v12), .second, .val (.long v14), .second, .val (.long v16), .second, .val (.long v18), .second, .val (.long v20), .second, .val (.long v22), .second, .val (.long v24), .second, .val (.long v26), .second, .val (.ref b121), .val (.int v29), .val (.int v30), .val (.int t0), .val (.int (f6_0 (v2 + v26) b121_period b121_shortest b121_scheduled b121_soonest))] [])) _
            refine XS.iconst X10.here hx rfl (hb hby at_247) ?_
            exact k
          subst hr
          exact own_retN X10 hx hlk (t := .boolean) hret (by simp) (hb hby at_248) (by decide) (by decide) ⟨rfl, N10⟩
        · rw [if_neg hc240] at hr
          refine Fin.by (B := T10.setTop (mkF m 243 #[.val (.long v0), .second, .val (.long v2), .second, .val (.long v4), .second, .val (.long v6), .second, .val (.long v8), .second, .val (.long v10), .second, .val (.long v12), .second, .val (.long v14), .second, .val (.long v16), .second, .val (.long v18), .second, .val (.long v20), .second, .val (.long v22), .second, .val (.long v24), .second, .val (.long v26), .second, .val (.ref b121), .val (.int v29), .val (.int v30), .val (.int t0), .val (.int (f6_0 (v2 + v26) b121_period b121_shortest b121_scheduled b121_soonest))] [])) (fun t k => ?_) ?_
          · show Steps p.tables e below (T10.setTop (mkF m 240 #[.val (.long v0), .second, .val (.long v2), .second, .val (.long v4), .second, .val (.long v6), .second, .val (.long v8), .second, .val (.long v10), .second, .val (.long v12), .second, .val (.long v14), .second, .val (.long v16), .second, .val (.long v18), .second, .val (.long v20), .second, .val (.long v22), .second, .val (.long v24), .second, .val (.long v26), .second, .val (.ref b121), .val (.int v29), .val (.int v30), .val (.int t0), .val (.int (f6_0 (v2 + v26) b121_period b121_shortest b121_scheduled b121_soonest))] [(.int (f6_0 (v2 + v26) b121_period b121_shortest b121_scheduled b121_soonest))])) _
            exact XS.ifNo X10.here hx rfl (hb hby at_240) rfl ((if0 _ _).trans (feq hc240).1) k
          refine Fin.by (B := T10.setTop (mkF m 248 #[.val (.long v0), .second, .val (.long v2), .second, .val (.long v4), .second, .val (.long v6), .second, .val (.long v8), .second, .val (.long v10), .second, .val (.long v12), .second, .val (.long v14), .second, .val (.long v16), .second, .val (.long v18), .second, .val (.long v20), .second, .val (.long v22), .second, .val (.long v24), .second, .val (.long v26), .second, .val (.ref b121), .val (.int v29), .val (.int v30), .val (.int t0), .val (.int (f6_0 (v2 + v26) b121_period b121_shortest b121_scheduled b121_soonest))] [(.int (1 : Int32))])) (fun t k => ?_) ?_
          · show Steps p.tables e below (T10.setTop (mkF m 243 #[.val (.long v0), .second, .val (.long v2), .second, .val (.long v4), .second, .val (.long v6), .second, .val (.long v8), .second, .val (.long v10), .second, .val (.long v12), .second, .val (.long v14), .second, .val (.long v16), .second, .val (.long v18), .second, .val (.long v20), .second, .val (.long v22), .second, .val (.long v24), .second, .val (.long v26), .second, .val (.ref b121), .val (.int v29), .val (.int v30), .val (.int t0), .val (.int (f6_0 (v2 + v26) b121_period b121_shortest b121_scheduled b121_soonest))] [])) _
            refine XS.iconst X10.here hx rfl (hb hby at_243) ?_
            show Steps p.tables e below (T10.setTop (mkF m 244 #[.val (.long v0), .second, .val (.long v2), .second, .val (.long v4), .second, .val (.long v6), .second, .val (.long v8), .second, .val (.long v10), .second, .val (.long v12), .second, .val (.long v14), .second, .val (.long v16), .second, .val (.long v18), .second, .val (.long v20), .second, .val (.long v22), .second, .val (.long v24), .second, .val (.long v26), .second, .val (.ref b121), .val (.int v29), .val (.int v30), .val (.int t0), .val (.int (f6_0 (v2 + v26) b121_period b121_shortest b121_scheduled b121_soonest))] [(.int (1 : Int32))])) _
            refine XS.goto X10.here hx rfl (pc0 := 244) (pc' := 248) rfl (hb hby at_244) (by decide) (by decide) ?_
            exact k
          subst hr
          exact own_retN X10 hx hlk (t := .boolean) hret (by simp) (hb hby at_248) (by decide) (by decide) ⟨rfl, N10⟩
def f0_189 (v0 : Int64) (v2 : Int64) (v4 : Int64) (v6 : Int64) (v8 : Int64) (v10 : Int64) (v12 : Int64) (v14 : Int64) (v16 : Int64) (v18 : Int64) (v20 : Int64) (v22 : Int64) (v24 : Int64) (v26 : Int64) (v29 : Int32) (t0 : Int32) (b121_period : Int64) (b121_shortest : Int64) (b121_scheduled : Int64) (b121_soonest : Int64) : Int32 := (if (f6_0 ((v2 + v26) - (1 : Int64)) b121_period b121_shortest b121_scheduled b121_soonest) = (0 : Int32) then (f0_210 v0 v2 v4 v6 v8 v10 v12 v14 v16 v18 v20 v22 v24 v26 v29 t0 (1 : Int32) b121_period b121_shortest b121_scheduled b121_soonest) else (f0_210 v0 v2 v4 v6 v8 v10 v12 v14 v16 v18 v20 v22 v24 v26 v29 t0 (0 : Int32) b121_period b121_shortest b121_scheduled b121_soonest))
set_option maxRecDepth 65536 in
set_option maxHeartbeats 40000000 in
theorem b0_189 {p : Program} {l : Launch} {e : Env} {s : State} {m : MethodId} {args : Array Value} {below : List Frame} {meth : Method} {c : Code} {Z : State} {a0 : Array Value} (B : Ctx p Z s a0 m meth c "com/example/quietwire/quietwire/transport/TickScheduleTickedPinLaw" "law" code 33 (some .boolean)) {T0 : State} {locs : List Loc} {h : Heap} (h0 : Heap) (n0 : Nat) (v0 : Int64) (v2 : Int64) (v4 : Int64) (v6 : Int64) (v8 : Int64) (v10 : Int64) (v12 : Int64) (v14 : Int64) (v16 : Int64) (v18 : Int64) (v20 : Int64) (v22 : Int64) (v24 : Int64) (v26 : Int64) (b121 : Addr) (v29 : Int32) (t0 : Int32) (b121_period : Int64) (b121_shortest : Int64) (b121_scheduled : Int64) (b121_soonest : Int64) (X0 : Stand p l e room_1 s m args below meth c T0 locs 1 4) (e0 : T0.heap = h) (N0 : Fr n0 locs) (Z0 : n0 ≤ h.size) (E_b121 : Exa Z h b121 "com/example/quietwire/quietwire/transport/TickSchedule") (F_b121_period : Fld Z h b121 "com/example/quietwire/quietwire/transport/TickSchedule" "period" "J" (.long b121_period)) (F_b121_shortest : Fld Z h b121 "com/example/quietwire/quietwire/transport/TickSchedule" "shortest" "J" (.long b121_shortest)) (F_b121_scheduled : Fld Z h b121 "com/example/quietwire/quietwire/transport/TickSchedule" "scheduled" "J" (.long b121_scheduled)) (F_b121_soonest : Fld Z h b121 "com/example/quietwire/quietwire/transport/TickSchedule" "soonest" "J" (.long b121_soonest)) (g_b121 : n0 ≤ b121) (r : Int32) (hr : f0_189 v0 v2 v4 v6 v8 v10 v12 v14 v16 v18 v20 v22 v24 v26 v29 t0 b121_period b121_shortest b121_scheduled b121_soonest = r) :
    Fin p e below s 1 4 (Q0 n0 r) (T0.setTop (mkF m 189 #[.val (.long v0), .second, .val (.long v2), .second, .val (.long v4), .second, .val (.long v6), .second, .val (.long v8), .second, .val (.long v10), .second, .val (.long v12), .second, .val (.long v14), .second, .val (.long v16), .second, .val (.long v18), .second, .val (.long v20), .second, .val (.long v22), .second, .val (.long v24), .second, .val (.long v26), .second, .val (.ref b121), .val (.int v29), .unset, .unset, .unset] [(.int t0)])) := by
  obtain ⟨hx, hZ, hw, hby, hml, hret, hown, hnm, hlk⟩ := B
  unfold f0_189 at hr
  refine Fin.by (B := T0.setTop (mkF m 199 #[.val (.long v0), .second, .val (.long v2), .second, .val (.long v4), .second, .val (.long v6), .second, .val (.long v8), .second, .val (.long v10), .second, .val (.long v12), .second, .val (.long v14), .second, .val (.long v16), .second, .val (.long v18), .second, .val (.long v20), .second, .val (.long v22), .second, .val (.long v24), .second, .val (.long v26), .second, .val (.ref b121), .val (.int v29), .val (.int t0), .unset, .unset] [(.long ((v2 + v26) - (1 : Int64))), (.ref b121)])) (fun t k => ?_) ?_
  · show Steps p.tables e below (T0.setTop (mkF m 189 #[.val (.long v0), .second, .val (.long v2), .second, .val (.long v4), .second, .val (.long v6), .second, .val (.long v8), .second, .val (.long v10), .second, .val (.long v12), .second, .val (.long v14), .second, .val (.long v16), .second, .val (.long v18), .second, .val (.long v20), .second, .val (.long v22), .second, .val (.long v24), .second, .val (.long v26), .second, .val (.ref b121), .val (.int v29), .unset, .unset, .unset] [(.int t0)])) _
    refine XS.istore X0.here hx rfl (hb hby at_189) rfl (l' := #[.val (.long v0), .second, .val (.long v2), .second, .val (.long v4), .second, .val (.long v6), .second, .val (.long v8), .second, .val (.long v10), .second, .val (.long v12), .second, .val (.long v14), .second, .val (.long v16), .second, .val (.long v18), .second, .val (.long v20), .second, .val (.long v22), .second, .val (.long v24), .second, .val (.long v26), .second, .val (.ref b121), .val (.int v29), .val (.int t0), .unset, .unset]) rfl ?_
    show Steps p.tables e below (T0.setTop (mkF m 191 #[.val (.long v0), .second, .val (.long v2), .second, .val (.long v4), .second, .val (.long v6), .second, .val (.long v8), .second, .val (.long v10), .second, .val (.long v12), .second, .val (.long v14), .second, .val (.long v16), .second, .val (.long v18), .second, .val (.long v20), .second, .val (.long v22), .second, .val (.long v24), .second, .val (.long v26), .second, .val (.ref b121), .val (.int v29), .val (.int t0), .unset, .unset] [])) _
    refine XS.aload X0.here hx rfl (hb hby at_191) rfl rfl ?_
    show Steps p.tables e below (T0.setTop (mkF m 193 #[.val (.long v0), .second, .val (.long v2), .second, .val (.long v4), .second, .val (.long v6), .second, .val (.long v8), .second, .val (.long v10), .second, .val (.long v12), .second, .val (.long v14), .second, .val (.long v16), .second, .val (.long v18), .second, .val (.long v20), .second, .val (.long v22), .second, .val (.long v24), .second, .val (.long v26), .second, .val (.ref b121), .val (.int v29), .val (.int t0), .unset, .unset] [(.ref b121)])) _
    refine XS.lloadN X0.here hx rfl (hb hby at_193) rfl  ?_
    show Steps p.tables e below (T0.setTop (mkF m 194 #[.val (.long v0), .second, .val (.long v2), .second, .val (.long v4), .second, .val (.long v6), .second, .val (.long v8), .second, .val (.long v10), .second, .val (.long v12), .second, .val (.long v14), .second, .val (.long v16), .second, .val (.long v18), .second, .val (.long v20), .second, .val (.long v22), .second, .val (.long v24), .second, .val (.long v26), .second, .val (.ref b121), .val (.int v29), .val (.int t0), .unset, .unset] [(.long v2), (.ref b121)])) _
    refine XS.lload X0.here hx rfl (hb hby at_194) rfl  ?_
    show Steps p.tables e below (T0.setTop (mkF m 196 #[.val (.long v0), .second, .val (.long v2), .second, .val (.long v4), .second, .val (.long v6), .second, .val (.long v8), .second, .val (.long v10), .second, .val (.long v12), .second, .val (.long v14), .second, .val (.long v16), .second, .val (.long v18), .second, .val (.long v20), .second, .val (.long v22), .second, .val (.long v24), .second, .val (.long v26), .second, .val (.ref b121), .val (.int v29), .val (.int t0), .unset, .unset] [(.long v26), (.long v2), (.ref b121)])) _
    refine XS.ladd X0.here hx rfl (hb hby at_196) rfl ?_
    show Steps p.tables e below (T0.setTop (mkF m 197 #[.val (.long v0), .second, .val (.long v2), .second, .val (.long v4), .second, .val (.long v6), .second, .val (.long v8), .second, .val (.long v10), .second, .val (.long v12), .second, .val (.long v14), .second, .val (.long v16), .second, .val (.long v18), .second, .val (.long v20), .second, .val (.long v22), .second, .val (.long v24), .second, .val (.long v26), .second, .val (.ref b121), .val (.int v29), .val (.int t0), .unset, .unset] [(.long (v2 + v26)), (.ref b121)])) _
    refine XS.lconst X0.here hx rfl (hb hby at_197) ?_
    show Steps p.tables e below (T0.setTop (mkF m 198 #[.val (.long v0), .second, .val (.long v2), .second, .val (.long v4), .second, .val (.long v6), .second, .val (.long v8), .second, .val (.long v10), .second, .val (.long v12), .second, .val (.long v14), .second, .val (.long v16), .second, .val (.long v18), .second, .val (.long v20), .second, .val (.long v22), .second, .val (.long v24), .second, .val (.long v26), .second, .val (.ref b121), .val (.int v29), .val (.int t0), .unset, .unset] [(.long (1 : Int64)), (.long (v2 + v26)), (.ref b121)])) _
    refine XS.lsub X0.here hx rfl (hb hby at_198) rfl ?_
    exact k
  -- pc 199: com/example/quietwire/quietwire/transport/TickSchedule.isDue
  obtain ⟨cq9, kq9, q9a, q9b, q9c⟩ := isOf hZ e0 E_b121
  obtain ⟨_, _, ⟨T9, L9, k9, n9⟩, -, X9, ⟨Lc9, hQ9, l9, y9, z9⟩, st9⟩ := X0.virtualBack hx (y := (⟨"com/example/quietwire/quietwire/transport/TickSchedule", "isDue", "(J)Z"⟩ : MethodName)) (z := (⟨"com/example/quietwire/quietwire/transport/TickSchedule", "isDue", "(J)Z"⟩ : MethodName)) hown (mvT hZ (hw _ (List.mem_of_getElem? (i := 35) rfl))) (mvT hZ (hw _ (List.mem_of_getElem? (i := 36) rfl))) (notFace_of_selects (args := #[]) (mvT hZ (hw _ (List.mem_of_getElem? (i := 38) rfl)))) (mvT hZ (hw _ (List.mem_of_getElem? (i := 38) rfl))) (mvT hZ (hw _ (List.mem_of_getElem? (i := 37) rfl))) (by decide) (backOf (W := 0) (rm6 l Z a0 hw [] b121 ((v2 + v26) - (1 : Int64)) b121_period b121_shortest b121_scheduled b121_soonest h n0 Z0 E_b121 F_b121_period F_b121_shortest F_b121_scheduled F_b121_soonest) hZ (hw _ (List.mem_of_getElem? (i := 39) rfl)) (hw _ (List.mem_of_getElem? (i := 9) rfl)) (by decide) (by decide)) q9a q9c (g := (mkF m 199 #[.val (.long v0), .second, .val (.long v2), .second, .val (.long v4), .second, .val (.long v6), .second, .val (.long v8), .second, .val (.long v10), .second, .val (.long v12), .second, .val (.long v14), .second, .val (.long v16), .second, .val (.long v18), .second, .val (.long v20), .second, .val (.long v22), .second, .val (.long v24), .second, .val (.long v26), .second, .val (.ref b121), .val (.int v29), .val (.int t0), .unset, .unset] [(.long ((v2 + v26) - (1 : Int64))), (.ref b121)])) rfl (by rw [hml]; rfl) (Steps.refl _) (argsL := [(.long ((v2 + v26) - (1 : Int64)))]) (rest := []) (lenOf pd_4 rfl) rfl (by show 2 * 0 + _ ≤ _; exact Nat.le_of_eq rfl) (hb hby at_199) (fun _ _ => ⟨rfl, e0, (by decide : 1 + R6.cells ≤ _), (by decide : 4 + R6.slots ≤ _)⟩)
  dsimp only [Pt.U, Pt.locs, Pt.cells, Pt.slots] at X9 l9 y9 z9 st9 hQ9
  subst l9 y9 z9
  obtain ⟨rfl, Nq9, e9⟩ := hQ9
  have N9 := Fr.app N0 Nq9
  refine Fin.by (B := T9.setTop (mkF m 202 #[.val (.long v0), .second, .val (.long v2), .second, .val (.long v4), .second, .val (.long v6), .second, .val (.long v8), .second, .val (.long v10), .second, .val (.long v12), .second, .val (.long v14), .second, .val (.long v16), .second, .val (.long v18), .second, .val (.long v20), .second, .val (.long v22), .second, .val (.long v24), .second, .val (.long v26), .second, .val (.ref b121), .val (.int v29), .val (.int t0), .unset, .unset] [(.int (f6_0 ((v2 + v26) - (1 : Int64)) b121_period b121_shortest b121_scheduled b121_soonest))])) (fun t k => st9.trans k) ?_
  by_cases hc202 : (f6_0 ((v2 + v26) - (1 : Int64)) b121_period b121_shortest b121_scheduled b121_soonest) = (0 : Int32)
  · rw [if_pos hc202] at hr
    refine Fin.by (B := T9.setTop (mkF m 205 #[.val (.long v0), .second, .val (.long v2), .second, .val (.long v4), .second, .val (.long v6), .second, .val (.long v8), .second, .val (.long v10), .second, .val (.long v12), .second, .val (.long v14), .second, .val (.long v16), .second, .val (.long v18), .second, .val (.long v20), .second, .val (.long v22), .second, .val (.long v24), .second, .val (.long v26), .second, .val (.ref b121), .val (.int v29), .val (.int t0), .unset, .unset] [])) (fun t k => ?_) ?_
    · show Steps p.tables e below (T9.setTop (mkF m 202 #[.val (.long v0), .second, .val (.long v2), .second, .val (.long v4), .second, .val (.long v6), .second, .val (.long v8), .second, .val (.long v10), .second, .val (.long v12), .second, .val (.long v14), .second, .val (.long v16), .second, .val (.long v18), .second, .val (.long v20), .second, .val (.long v22), .second, .val (.long v24), .second, .val (.long v26), .second, .val (.ref b121), .val (.int v29), .val (.int t0), .unset, .unset] [(.int (f6_0 ((v2 + v26) - (1 : Int64)) b121_period b121_shortest b121_scheduled b121_soonest))])) _
      exact XS.ifNo X9.here hx rfl (hb hby at_202) rfl ((if0 _ _).trans (teq hc202).2) k
    refine Fin.by (B := T9.setTop (mkF m 210 #[.val (.long v0), .second, .val (.long v2), .second, .val (.long v4), .second, .val (.long v6), .second, .val (.long v8), .second, .val (.long v10), .second, .val (.long v12), .second, .val (.long v14), .second, .val (.long v16), .second, .val (.long v18), .second, .val (.long v20), .second, .val (.long v22), .second, .val (.long v24), .second, .val (.long v26), .second, .val (.ref b121), .val (.int v29), .val (.int t0), .unset, .unset] [(.int (1 : Int32))])) (fun t k => ?_) ?_
    · show Steps p.tables e below (T9.setTop (mkF m 205 #[.val (.long v0), .second, .val (.long v2), .second, .val (.long v4), .second, .val (.long v6), .second, .val (.long v8), .second, .val (.long v10), .second, .val (.long v12), .second, .val (.long v14), .second, .val (.long v16), .second, .val (.long v18), .second, .val (.long v20), .second, .val (.long v22), .second, .val (.long v24), .second, .val (.long v26), .second, .val (.ref b121), .val (.int v29), .val (.int t0), .unset, .unset] [])) _
      refine XS.iconst X9.here hx rfl (hb hby at_205) ?_
      show Steps p.tables e below (T9.setTop (mkF m 206 #[.val (.long v0), .second, .val (.long v2), .second, .val (.long v4), .second, .val (.long v6), .second, .val (.long v8), .second, .val (.long v10), .second, .val (.long v12), .second, .val (.long v14), .second, .val (.long v16), .second, .val (.long v18), .second, .val (.long v20), .second, .val (.long v22), .second, .val (.long v24), .second, .val (.long v26), .second, .val (.ref b121), .val (.int v29), .val (.int t0), .unset, .unset] [(.int (1 : Int32))])) _
      refine XS.goto X9.here hx rfl (pc0 := 206) (pc' := 210) rfl (hb hby at_206) (by decide) (by decide) ?_
      exact k
    exact b0_210 ⟨hx, hZ, hw, hby, hml, hret, hown, hnm, hlk⟩ h0 n0 v0 v2 v4 v6 v8 v10 v12 v14 v16 v18 v20 v22 v24 v26 b121 v29 t0 (1 : Int32) b121_period b121_shortest b121_scheduled b121_soonest X9 e9 N9 Z0 E_b121 F_b121_period F_b121_shortest F_b121_scheduled F_b121_soonest g_b121 _ hr
  · rw [if_neg hc202] at hr
    refine Fin.by (B := T9.setTop (mkF m 209 #[.val (.long v0), .second, .val (.long v2), .second, .val (.long v4), .second, .val (.long v6), .second, .val (.long v8), .second, .val (.long v10), .second, .val (.long v12), .second, .val (.long v14), .second, .val (.long v16), .second, .val (.long v18), .second, .val (.long v20), .second, .val (.long v22), .second, .val (.long v24), .second, .val (.long v26), .second, .val (.ref b121), .val (.int v29), .val (.int t0), .unset, .unset] [])) (fun t k => ?_) ?_
    · show Steps p.tables e below (T9.setTop (mkF m 202 #[.val (.long v0), .second, .val (.long v2), .second, .val (.long v4), .second, .val (.long v6), .second, .val (.long v8), .second, .val (.long v10), .second, .val (.long v12), .second, .val (.long v14), .second, .val (.long v16), .second, .val (.long v18), .second, .val (.long v20), .second, .val (.long v22), .second, .val (.long v24), .second, .val (.long v26), .second, .val (.ref b121), .val (.int v29), .val (.int t0), .unset, .unset] [(.int (f6_0 ((v2 + v26) - (1 : Int64)) b121_period b121_shortest b121_scheduled b121_soonest))])) _
      exact XS.ifYes X9.here hx rfl (pc0 := 202) (pc' := 209) rfl (hb hby at_202) rfl ((if0 _ _).trans (feq hc202).2) (by decide) (by decide) k
    refine Fin.by (B := T9.setTop (mkF m 210 #[.val (.long v0), .second, .val (.long v2), .second, .val (.long v4), .second, .val (.long v6), .second, .val (.long v8), .second, .val (.long v10), .second, .val (.long v12), .second, .val (.long v14), .second, .val (.long v16), .second, .val (.long v18), .second, .val (.long v20), .second, .val (.long v22), .second, .val (.long v24), .second, .val (.long v26), .second, .val (.ref b121), .val (.int v29), .val (.int t0), .unset, .unset] [(.int (0 : Int32))])) (fun t k => ?_) ?_
    · show Steps p.tables e below (T9.setTop (mkF m 209 #[.val (.long v0), .second, .val (.long v2), .second, .val (.long v4), .second, .val (.long v6), .second, .val (.long v8), .second, .val (.long v10), .second, .val (.long v12), .second, .val (.long v14), .second, .val (.long v16), .second, .val (.long v18), .second, .val (.long v20), .second, .val (.long v22), .second, .val (.long v24), .second, .val (.long v26), .second, .val (.ref b121), .val (.int v29), .val (.int t0), .unset, .unset] [])) _
      refine XS.iconst X9.here hx rfl (hb hby at_209) ?_
      exact k
    exact b0_210 ⟨hx, hZ, hw, hby, hml, hret, hown, hnm, hlk⟩ h0 n0 v0 v2 v4 v6 v8 v10 v12 v14 v16 v18 v20 v22 v24 v26 b121 v29 t0 (0 : Int32) b121_period b121_shortest b121_scheduled b121_soonest X9 e9 N9 Z0 E_b121 F_b121_period F_b121_shortest F_b121_scheduled F_b121_soonest g_b121 _ hr
def f0_171 (v0 : Int64) (v2 : Int64) (v4 : Int64) (v6 : Int64) (v8 : Int64) (v10 : Int64) (v12 : Int64) (v14 : Int64) (v16 : Int64) (v18 : Int64) (v20 : Int64) (v22 : Int64) (v24 : Int64) (v26 : Int64) (v29 : Int32) (b121_period : Int64) (b121_shortest : Int64) (b121_scheduled : Int64) (b121_soonest : Int64) : Int32 := (if (f5_0 b121_period b121_shortest b121_scheduled b121_soonest) = (v2 + v26) then (f0_189 v0 v2 v4 v6 v8 v10 v12 v14 v16 v18 v20 v22 v24 v26 v29 (1 : Int32) b121_period b121_shortest b121_scheduled b121_soonest) else (f0_189 v0 v2 v4 v6 v8 v10 v12 v14 v16 v18 v20 v22 v24 v26 v29 (0 : Int32) b121_period b121_shortest b121_scheduled b121_soonest))
set_option maxRecDepth 65536 in
set_option maxHeartbeats 40000000 in
theorem b0_171 {p : Program} {l : Launch} {e : Env} {s : State} {m : MethodId} {args : Array Value} {below : List Frame} {meth : Method} {c : Code} {Z : State} {a0 : Array Value} (B : Ctx p Z s a0 m meth c "com/example/quietwire/quietwire/transport/TickScheduleTickedPinLaw" "law" code 33 (some .boolean)) {T0 : State} {locs : List Loc} {h : Heap} (h0 : Heap) (n0 : Nat) (v0 : Int64) (v2 : Int64) (v4 : Int64) (v6 : Int64) (v8 : Int64) (v10 : Int64) (v12 : Int64) (v14 : Int64) (v16 : Int64) (v18 : Int64) (v20 : Int64) (v22 : Int64) (v24 : Int64) (v26 : Int64) (b121 : Addr) (v29 : Int32) (b121_period : Int64) (b121_shortest : Int64) (b121_scheduled : Int64) (b121_soonest : Int64) (X0 : Stand p l e room_1 s m args below meth c T0 locs 1 4) (e0 : T0.heap = h) (N0 : Fr n0 locs) (Z0 : n0 ≤ h.size) (E_b121 : Exa Z h b121 "com/example/quietwire/quietwire/transport/TickSchedule") (F_b121_period : Fld Z h b121 "com/example/quietwire/quietwire/transport/TickSchedule" "period" "J" (.long b121_period)) (F_b121_shortest : Fld Z h b121 "com/example/quietwire/quietwire/transport/TickSchedule" "shortest" "J" (.long b121_shortest)) (F_b121_scheduled : Fld Z h b121 "com/example/quietwire/quietwire/transport/TickSchedule" "scheduled" "J" (.long b121_scheduled)) (F_b121_soonest : Fld Z h b121 "com/example/quietwire/quietwire/transport/TickSchedule" "soonest" "J" (.long b121_soonest)) (g_b121 : n0 ≤ b121) (r : Int32) (hr : f0_171 v0 v2 v4 v6 v8 v10 v12 v14 v16 v18 v20 v22 v24 v26 v29 b121_period b121_shortest b121_scheduled b121_soonest = r) :
    Fin p e below s 1 4 (Q0 n0 r) (T0.setTop (mkF m 171 #[.val (.long v0), .second, .val (.long v2), .second, .val (.long v4), .second, .val (.long v6), .second, .val (.long v8), .second, .val (.long v10), .second, .val (.long v12), .second, .val (.long v14), .second, .val (.long v16), .second, .val (.long v18), .second, .val (.long v20), .second, .val (.long v22), .second, .val (.long v24), .second, .val (.long v26), .second, .val (.ref b121), .val (.int v29), .unset, .unset, .unset] [])) := by
  obtain ⟨hx, hZ, hw, hby, hml, hret, hown, hnm, hlk⟩ := B
  unfold f0_171 at hr
  refine Fin.by (B := T0.setTop (mkF m 173 #[.val (.long v0), .second, .val (.long v2), .second, .val (.long v4), .second, .val (.long v6), .second, .val (.long v8), .second, .val (.long v10), .second, .val (.long v12), .second, .val (.long v14), .second, .val (.long v16), .second, .val (.long v18), .second, .val (.long v20), .second, .val (.long v22), .second, .val (.long v24), .second, .val (.long v26), .second, .val (.ref b121), .val (.int v29), .unset, .unset, .unset] [(.ref b121)])) (fun t k => ?_) ?_
  · show Steps p.tables e below (T0.setTop (mkF m 171 #[.val (.long v0), .second, .val (.long v2), .second, .val (.long v4), .second, .val (.long v6), .second, .val (.long v8), .second, .val (.long v10), .second, .val (.long v12), .second, .val (.long v14), .second, .val (.long v16), .second, .val (.long v18), .second, .val (.long v20), .second, .val (.long v22), .second, .val (.long v24), .second, .val (.long v26), .second, .val (.ref b121), .val (.int v29), .unset, .unset, .unset] [])) _
    refine XS.aload X0.here hx rfl (hb hby at_171) rfl rfl ?_
    exact k
  -- pc 173: com/example/quietwire/quietwire/transport/TickSchedule.due
  obtain ⟨cq8, kq8, q8a, q8b, q8c⟩ := isOf hZ e0 E_b121
  obtain ⟨_, _, ⟨T8, L8, k8, n8⟩, -, X8, ⟨Lc8, hQ8, l8, y8, z8⟩, st8⟩ := X0.virtualBack hx (y := (⟨"com/example/quietwire/quietwire/transport/TickSchedule", "due", "()J"⟩ : MethodName)) (z := (⟨"com/example/quietwire/quietwire/transport/TickSchedule", "due", "()J"⟩ : MethodName)) hown (mvT hZ (hw _ (List.mem_of_getElem? (i := 30) rfl))) (mvT hZ (hw _ (List.mem_of_getElem? (i := 31) rfl))) (notFace_of_selects (args := #[]) (mvT hZ (hw _ (List.mem_of_getElem? (i := 33) rfl)))) (mvT hZ (hw _ (List.mem_of_getElem? (i := 33) rfl))) (mvT hZ (hw _ (List.mem_of_getElem? (i := 32) rfl))) (by decide) (backOf (W := 0) (rm5 l Z a0 hw [] b121 b121_period b121_shortest b121_scheduled b121_soonest h n0 Z0 E_b121 F_b121_period F_b121_shortest F_b121_scheduled F_b121_soonest) hZ (hw _ (List.mem_of_getElem? (i := 34) rfl)) (hw _ (List.mem_of_getElem? (i := 9) rfl)) (by decide) (by decide)) q8a q8c (g := (mkF m 173 #[.val (.long v0), .second, .val (.long v2), .second, .val (.long v4), .second, .val (.long v6), .second, .val (.long v8), .second, .val (.long v10), .second, .val (.long v12), .second, .val (.long v14), .second, .val (.long v16), .second, .val (.long v18), .second, .val (.long v20), .second, .val (.long v22), .second, .val (.long v24), .second, .val (.long v26), .second, .val (.ref b121), .val (.int v29), .unset, .unset, .unset] [(.ref b121)])) rfl (by rw [hml]; rfl) (Steps.refl _) (argsL := []) (rest := []) (lenOf pd_3 rfl) rfl (by show 2 * 0 + _ ≤ _; exact Nat.le_of_eq rfl) (hb hby at_173) (fun _ _ => ⟨rfl, e0, (by decide : 1 + R5.cells ≤ _), (by decide : 4 + R5.slots ≤ _)⟩)
  dsimp only [Pt.U, Pt.locs, Pt.cells, Pt.slots] at X8 l8 y8 z8 st8 hQ8
  subst l8 y8 z8
  obtain ⟨rfl, Nq8, e8⟩ := hQ8
  have N8 := Fr.app N0 Nq8
  refine Fin.by (B := T8.setTop (mkF m 176 #[.val (.long v0), .second, .val (.long v2), .second, .val (.long v4), .second, .val (.long v6), .second, .val (.long v8), .second, .val (.long v10), .second, .val (.long v12), .second, .val (.long v14), .second, .val (.long v16), .second, .val (.long v18), .second, .val (.long v20), .second, .val (.long v22), .second, .val (.long v24), .second, .val (.long v26), .second, .val (.ref b121), .val (.int v29), .unset, .unset, .unset] [(.long (f5_0 b121_period b121_shortest b121_scheduled b121_soonest))])) (fun t k => st8.trans k) ?_
  refine Fin.by (B := T8.setTop (mkF m 181 #[.val (.long v0), .second, .val (.long v2), .second, .val (.long v4), .second, .val (.long v6), .second, .val (.long v8), .second, .val (.long v10), .second, .val (.long v12), .second, .val (.long v14), .second, .val (.long v16), .second, .val (.long v18), .second, .val (.long v20), .second, .val (.long v22), .second, .val (.long v24), .second, .val (.long v26), .second, .val (.ref b121), .val (.int v29), .unset, .unset, .unset] [(.int (lcmpW (f5_0 b121_period b121_shortest b121_scheduled b121_soonest) (v2 + v26)))])) (fun t k => ?_) ?_
  · show Steps p.tables e below (T8.setTop (mkF m 176 #[.val (.long v0), .second, .val (.long v2), .second, .val (.long v4), .second, .val (.long v6), .second, .val (.long v8), .second, .val (.long v10), .second, .val (.long v12), .second, .val (.long v14), .second, .val (.long v16), .second, .val (.long v18), .second, .val (.long v20), .second, .val (.long v22), .second, .val (.long v24), .second, .val (.long v26), .second, .val (.ref b121), .val (.int v29), .unset, .unset, .unset] [(.long (f5_0 b121_period b121_shortest b121_scheduled b121_soonest))])) _
    refine XS.lloadN X8.here hx rfl (hb hby at_176) rfl  ?_
    show Steps p.tables e below (T8.setTop (mkF m 177 #[.val (.long v0), .second, .val (.long v2), .second, .val (.long v4), .second, .val (.long v6), .second, .val (.long v8), .second, .val (.long v10), .second, .val (.long v12), .second, .val (.long v14), .second, .val (.long v16), .second, .val (.long v18), .second, .val (.long v20), .second, .val (.long v22), .second, .val (.long v24), .second, .val (.long v26), .second, .val (.ref b121), .val (.int v29), .unset, .unset, .unset] [(.long v2), (.long (f5_0 b121_period b121_shortest b121_scheduled b121_soonest))])) _
    refine XS.lload X8.here hx rfl (hb hby at_177) rfl  ?_
    show Steps p.tables e below (T8.setTop (mkF m 179 #[.val (.long v0), .second, .val (.long v2), .second, .val (.long v4), .second, .val (.long v6), .second, .val (.long v8), .second, .val (.long v10), .second, .val (.long v12), .second, .val (.long v14), .second, .val (.long v16), .second, .val (.long v18), .second, .val (.long v20), .second, .val (.long v22), .second, .val (.long v24), .second, .val (.long v26), .second, .val (.ref b121), .val (.int v29), .unset, .unset, .unset] [(.long v26), (.long v2), (.long (f5_0 b121_period b121_shortest b121_scheduled b121_soonest))])) _
    refine XS.ladd X8.here hx rfl (hb hby at_179) rfl ?_
    show Steps p.tables e below (T8.setTop (mkF m 180 #[.val (.long v0), .second, .val (.long v2), .second, .val (.long v4), .second, .val (.long v6), .second, .val (.long v8), .second, .val (.long v10), .second, .val (.long v12), .second, .val (.long v14), .second, .val (.long v16), .second, .val (.long v18), .second, .val (.long v20), .second, .val (.long v22), .second, .val (.long v24), .second, .val (.long v26), .second, .val (.ref b121), .val (.int v29), .unset, .unset, .unset] [(.long (v2 + v26)), (.long (f5_0 b121_period b121_shortest b121_scheduled b121_soonest))])) _
    refine XS.lcmp X8.here hx rfl (hb hby at_180) rfl ?_
    exact k
  by_cases hc181 : (f5_0 b121_period b121_shortest b121_scheduled b121_soonest) = (v2 + v26)
  · rw [if_pos hc181] at hr
    refine Fin.by (B := T8.setTop (mkF m 184 #[.val (.long v0), .second, .val (.long v2), .second, .val (.long v4), .second, .val (.long v6), .second, .val (.long v8), .second, .val (.long v10), .second, .val (.long v12), .second, .val (.long v14), .second, .val (.long v16), .second, .val (.long v18), .second, .val (.long v20), .second, .val (.long v22), .second, .val (.long v24), .second, .val (.long v26), .second, .val (.ref b121), .val (.int v29), .unset, .unset, .unset] [])) (fun t k => ?_) ?_
    · show Steps p.tables e below (T8.setTop (mkF m 181 #[.val (.long v0), .second, .val (.long v2), .second, .val (.long v4), .second, .val (.long v6), .second, .val (.long v8), .second, .val (.long v10), .second, .val (.long v12), .second, .val (.long v14), .second, .val (.long v16), .second, .val (.long v18), .second, .val (.long v20), .second, .val (.long v22), .second, .val (.long v24), .second, .val (.long v26), .second, .val (.ref b121), .val (.int v29), .unset, .unset, .unset] [(.int (lcmpW (f5_0 b121_period b121_shortest b121_scheduled b121_soonest) (v2 + v26)))])) _
      exact XS.ifNo X8.here hx rfl (hb hby at_181) rfl ((if0 _ _).trans (teq ((lw_eq _ _).mpr hc181)).2) k
    refine Fin.by (B := T8.setTop (mkF m 189 #[.val (.long v0), .second, .val (.long v2), .second, .val (.long v4), .second, .val (.long v6), .second, .val (.long v8), .second, .val (.long v10), .second, .val (.long v12), .second, .val (.long v14), .second, .val (.long v16), .second, .val (.long v18), .second, .val (.long v20), .second, .val (.long v22), .second, .val (.long v24), .second, .val (.long v26), .second, .val (.ref b121), .val (.int v29), .unset, .unset, .unset] [(.int (1 : Int32))])) (fun t k => ?_) ?_
    · show Steps p.tables e below (T8.setTop (mkF m 184 #[.val (.long v0), .second, .val (.long v2), .second, .val (.long v4), .second, .val (.long v6), .second, .val (.long v8), .second, .val (.long v10), .second, .val (.long v12), .second, .val (.long v14), .second, .val (.long v16), .second, .val (.long v18), .second, .val (.long v20), .second, .val (.long v22), .second, .val (.long v24), .second, .val (.long v26), .second, .val (.ref b121), .val (.int v29), .unset, .unset, .unset] [])) _
      refine XS.iconst X8.here hx rfl (hb hby at_184) ?_
      show Steps p.tables e below (T8.setTop (mkF m 185 #[.val (.long v0), .second, .val (.long v2), .second, .val (.long v4), .second, .val (.long v6), .second, .val (.long v8), .second, .val (.long v10), .second, .val (.long v12), .second, .val (.long v14), .second, .val (.long v16), .second, .val (.long v18), .second, .val (.long v20), .second, .val (.long v22), .second, .val (.long v24), .second, .val (.long v26), .second, .val (.ref b121), .val (.int v29), .unset, .unset, .unset] [(.int (1 : Int32))])) _
      refine XS.goto X8.here hx rfl (pc0 := 185) (pc' := 189) rfl (hb hby at_185) (by decide) (by decide) ?_
      exact k
    exact b0_189 ⟨hx, hZ, hw, hby, hml, hret, hown, hnm, hlk⟩ h0 n0 v0 v2 v4 v6 v8 v10 v12 v14 v16 v18 v20 v22 v24 v26 b121 v29 (1 : Int32) b121_period b121_shortest b121_scheduled b121_soonest X8 e8 N8 Z0 E_b121 F_b121_period F_b121_shortest F_b121_scheduled F_b121_soonest g_b121 _ hr
  · rw [if_neg hc181] at hr
    refine Fin.by (B := T8.setTop (mkF m 188 #[.val (.long v0), .second, .val (.long v2), .second, .val (.long v4), .second, .val (.long v6), .second, .val (.long v8), .second, .val (.long v10), .second, .val (.long v12), .second, .val (.long v14), .second, .val (.long v16), .second, .val (.long v18), .second, .val (.long v20), .second, .val (.long v22), .second, .val (.long v24), .second, .val (.long v26), .second, .val (.ref b121), .val (.int v29), .unset, .unset, .unset] [])) (fun t k => ?_) ?_
    · show Steps p.tables e below (T8.setTop (mkF m 181 #[.val (.long v0), .second, .val (.long v2), .second, .val (.long v4), .second, .val (.long v6), .second, .val (.long v8), .second, .val (.long v10), .second, .val (.long v12), .second, .val (.long v14), .second, .val (.long v16), .second, .val (.long v18), .second, .val (.long v20), .second, .val (.long v22), .second, .val (.long v24), .second, .val (.long v26), .second, .val (.ref b121), .val (.int v29), .unset, .unset, .unset] [(.int (lcmpW (f5_0 b121_period b121_shortest b121_scheduled b121_soonest) (v2 + v26)))])) _
      exact XS.ifYes X8.here hx rfl (pc0 := 181) (pc' := 188) rfl (hb hby at_181) rfl ((if0 _ _).trans (feq (fun q => hc181 ((lw_eq _ _).mp q))).2) (by decide) (by decide) k
    refine Fin.by (B := T8.setTop (mkF m 189 #[.val (.long v0), .second, .val (.long v2), .second, .val (.long v4), .second, .val (.long v6), .second, .val (.long v8), .second, .val (.long v10), .second, .val (.long v12), .second, .val (.long v14), .second, .val (.long v16), .second, .val (.long v18), .second, .val (.long v20), .second, .val (.long v22), .second, .val (.long v24), .second, .val (.long v26), .second, .val (.ref b121), .val (.int v29), .unset, .unset, .unset] [(.int (0 : Int32))])) (fun t k => ?_) ?_
    · show Steps p.tables e below (T8.setTop (mkF m 188 #[.val (.long v0), .second, .val (.long v2), .second, .val (.long v4), .second, .val (.long v6), .second, .val (.long v8), .second, .val (.long v10), .second, .val (.long v12), .second, .val (.long v14), .second, .val (.long v16), .second, .val (.long v18), .second, .val (.long v20), .second, .val (.long v22), .second, .val (.long v24), .second, .val (.long v26), .second, .val (.ref b121), .val (.int v29), .unset, .unset, .unset] [])) _
      refine XS.iconst X8.here hx rfl (hb hby at_188) ?_
      exact k
    exact b0_189 ⟨hx, hZ, hw, hby, hml, hret, hown, hnm, hlk⟩ h0 n0 v0 v2 v4 v6 v8 v10 v12 v14 v16 v18 v20 v22 v24 v26 b121 v29 (0 : Int32) b121_period b121_shortest b121_scheduled b121_soonest X8 e8 N8 Z0 E_b121 F_b121_period F_b121_shortest F_b121_scheduled F_b121_soonest g_b121 _ hr
def f0_160 (v0 : Int64) (v2 : Int64) (v4 : Int64) (v6 : Int64) (v8 : Int64) (v10 : Int64) (v12 : Int64) (v14 : Int64) (v16 : Int64) (v18 : Int64) (v20 : Int64) (v22 : Int64) (v24 : Int64) (v26 : Int64) (t0 : Int32) (b121_period : Int64) (b121_shortest : Int64) (b121_scheduled : Int64) (b121_soonest : Int64) : Int32 := (f0_171 v0 v2 v4 v6 v8 v10 v12 v14 v16 v18 v20 v22 v24 v26 t0 ((f4_0 (v2 + v22) b121_period b121_shortest b121_scheduled b121_soonest).1) ((f4_0 (v2 + v22) b121_period b121_shortest b121_scheduled b121_soonest).2.1) ((f4_0 (v2 + v22) b121_period b121_shortest b121_scheduled b121_soonest).2.2.1) ((f4_0 (v2 + v22) b121_period b121_shortest b121_scheduled b121_soonest).2.2.2))
set_option maxRecDepth 65536 in
set_option maxHeartbeats 40000000 in
theorem b0_160 {p : Program} {l : Launch} {e : Env} {s : State} {m : MethodId} {args : Array Value} {below : List Frame} {meth : Method} {c : Code} {Z : State} {a0 : Array Value} (B : Ctx p Z s a0 m meth c "com/example/quietwire/quietwire/transport/TickScheduleTickedPinLaw" "law" code 33 (some .boolean)) {T0 : State} {locs : List Loc} {h : Heap} (h0 : Heap) (n0 : Nat) (v0 : Int64) (v2 : Int64) (v4 : Int64) (v6 : Int64) (v8 : Int64) (v10 : Int64) (v12 : Int64) (v14 : Int64) (v16 : Int64) (v18 : Int64) (v20 : Int64) (v22 : Int64) (v24 : Int64) (v26 : Int64) (b121 : Addr) (t0 : Int32) (b121_period : Int64) (b121_shortest : Int64) (b121_scheduled : Int64) (b121_soonest : Int64) (X0 : Stand p l e room_1 s m args below meth c T0 locs 1 4) (e0 : T0.heap = h) (N0 : Fr n0 locs) (Z0 : n0 ≤ h.size) (E_b121 : Exa Z h b121 "com/example/quietwire/quietwire/transport/TickSchedule") (F_b121_period : Fld Z h b121 "com/example/quietwire/quietwire/transport/TickSchedule" "period" "J" (.long b121_period)) (F_b121_shortest : Fld Z h b121 "com/example/quietwire/quietwire/transport/TickSchedule" "shortest" "J" (.long b121_shortest)) (F_b121_scheduled : Fld Z h b121 "com/example/quietwire/quietwire/transport/TickSchedule" "scheduled" "J" (.long b121_scheduled)) (F_b121_soonest : Fld Z h b121 "com/example/quietwire/quietwire/transport/TickSchedule" "soonest" "J" (.long b121_soonest)) (g_b121 : n0 ≤ b121) (r : Int32) (hr : f0_160 v0 v2 v4 v6 v8 v10 v12 v14 v16 v18 v20 v22 v24 v26 t0 b121_period b121_shortest b121_scheduled b121_soonest = r) :
    Fin p e below s 1 4 (Q0 n0 r) (T0.setTop (mkF m 160 #[.val (.long v0), .second, .val (.long v2), .second, .val (.long v4), .second, .val (.long v6), .second, .val (.long v8), .second, .val (.long v10), .second, .val (.long v12), .second, .val (.long v14), .second, .val (.long v16), .second, .val (.long v18), .second, .val (.long v20), .second, .val (.long v22), .second, .val (.long v24), .second, .val (.long v26), .second, .val (.ref b121), .unset, .unset, .unset, .unset] [(.int t0)])) := by
  obtain ⟨hx, hZ, hw, hby, hml, hret, hown, hnm, hlk⟩ := B
  unfold f0_160 at hr
  refine Fin.by (B := T0.setTop (mkF m 168 #[.val (.long v0), .second, .val (.long v2), .second, .val (.long v4), .second, .val (.long v6), .second, .val (.long v8), .second, .val (.long v10), .second, .val (.long v12), .second, .val (.long v14), .second, .val (.long v16), .second, .val (.long v18), .second, .val (.long v20), .second, .val (.long v22), .second, .val (.long v24), .second, .val (.long v26), .second, .val (.ref b121), .val (.int t0), .unset, .unset, .unset] [(.long (v2 + v22)), (.ref b121)])) (fun t k => ?_) ?_
  · show Steps p.tables e below (T0.setTop (mkF m 160 #[.val (.long v0), .second, .val (.long v2), .second, .val (.long v4), .second, .val (.long v6), .second, .val (.long v8), .second, .val (.long v10), .second, .val (.long v12), .second, .val (.long v14), .second, .val (.long v16), .second, .val (.long v18), .second, .val (.long v20), .second, .val (.long v22), .second, .val (.long v24), .second, .val (.long v26), .second, .val (.ref b121), .unset, .unset, .unset, .unset] [(.int t0)])) _
    refine XS.istore X0.here hx rfl (hb hby at_160) rfl (l' := #[.val (.long v0), .second, .val (.long v2), .second, .val (.long v4), .second, .val (.long v6), .second, .val (.long v8), .second, .val (.long v10), .second, .val (.long v12), .second, .val (.long v14), .second, .val (.long v16), .second, .val (.long v18), .second, .val (.long v20), .second, .val (.long v22), .second, .val (.long v24), .second, .val (.long v26), .second, .val (.ref b121), .val (.int t0), .unset, .unset, .unset]) rfl ?_
    show Steps p.tables e below (T0.setTop (mkF m 162 #[.val (.long v0), .second, .val (.long v2), .second, .val (.long v4), .second, .val (.long v6), .second, .val (.long v8), .second, .val (.long v10), .second, .val (.long v12), .second, .val (.long v14), .second, .val (.long v16), .second, .val (.long v18), .second, .val (.long v20), .second, .val (.long v22), .second, .val (.long v24), .second, .val (.long v26), .second, .val (.ref b121), .val (.int t0), .unset, .unset, .unset] [])) _
    refine XS.aload X0.here hx rfl (hb hby at_162) rfl rfl ?_
    show Steps p.tables e below (T0.setTop (mkF m 164 #[.val (.long v0), .second, .val (.long v2), .second, .val (.long v4), .second, .val (.long v6), .second, .val (.long v8), .second, .val (.long v10), .second, .val (.long v12), .second, .val (.long v14), .second, .val (.long v16), .second, .val (.long v18), .second, .val (.long v20), .second, .val (.long v22), .second, .val (.long v24), .second, .val (.long v26), .second, .val (.ref b121), .val (.int t0), .unset, .unset, .unset] [(.ref b121)])) _
    refine XS.lloadN X0.here hx rfl (hb hby at_164) rfl  ?_
    show Steps p.tables e below (T0.setTop (mkF m 165 #[.val (.long v0), .second, .val (.long v2), .second, .val (.long v4), .second, .val (.long v6), .second, .val (.long v8), .second, .val (.long v10), .second, .val (.long v12), .second, .val (.long v14), .second, .val (.long v16), .second, .val (.long v18), .second, .val (.long v20), .second, .val (.long v22), .second, .val (.long v24), .second, .val (.long v26), .second, .val (.ref b121), .val (.int t0), .unset, .unset, .unset] [(.long v2), (.ref b121)])) _
    refine XS.lload X0.here hx rfl (hb hby at_165) rfl  ?_
    show Steps p.tables e below (T0.setTop (mkF m 167 #[.val (.long v0), .second, .val (.long v2), .second, .val (.long v4), .second, .val (.long v6), .second, .val (.long v8), .second, .val (.long v10), .second, .val (.long v12), .second, .val (.long v14), .second, .val (.long v16), .second, .val (.long v18), .second, .val (.long v20), .second, .val (.long v22), .second, .val (.long v24), .second, .val (.long v26), .second, .val (.ref b121), .val (.int t0), .unset, .unset, .unset] [(.long v22), (.long v2), (.ref b121)])) _
    refine XS.ladd X0.here hx rfl (hb hby at_167) rfl ?_
    exact k
  -- pc 168: com/example/quietwire/quietwire/transport/TickSchedule.ticked
  obtain ⟨cq7, kq7, q7a, q7b, q7c⟩ := isOf hZ e0 E_b121
  obtain ⟨_, _, ⟨T7, L7, k7, n7⟩, -, X7, ⟨Lc7, hQ7, l7, y7, z7⟩, st7⟩ := X0.virtualBack hx (y := (⟨"com/example/quietwire/quietwire/transport/TickSchedule", "ticked", "(J)V"⟩ : MethodName)) (z := (⟨"com/example/quietwire/quietwire/transport/TickSchedule", "ticked", "(J)V"⟩ : MethodName)) hown (mvT hZ (hw _ (List.mem_of_getElem? (i := 25) rfl))) (mvT hZ (hw _ (List.mem_of_getElem? (i := 26) rfl))) (notFace_of_selects (args := #[]) (mvT hZ (hw _ (List.mem_of_getElem? (i := 28) rfl)))) (mvT hZ (hw _ (List.mem_of_getElem? (i := 28) rfl))) (mvT hZ (hw _ (List.mem_of_getElem? (i := 27) rfl))) (by decide) (backOf (W := 0) (rm4 l Z a0 hw [] b121 (v2 + v22) b121_period b121_shortest b121_scheduled b121_soonest h n0 Z0 E_b121 F_b121_period F_b121_shortest F_b121_scheduled F_b121_soonest g_b121) hZ (hw _ (List.mem_of_getElem? (i := 29) rfl)) (hw _ (List.mem_of_getElem? (i := 9) rfl)) (by decide) (by decide)) q7a q7c (g := (mkF m 168 #[.val (.long v0), .second, .val (.long v2), .second, .val (.long v4), .second, .val (.long v6), .second, .val (.long v8), .second, .val (.long v10), .second, .val (.long v12), .second, .val (.long v14), .second, .val (.long v16), .second, .val (.long v18), .second, .val (.long v20), .second, .val (.long v22), .second, .val (.long v24), .second, .val (.long v26), .second, .val (.ref b121), .val (.int t0), .unset, .unset, .unset] [(.long (v2 + v22)), (.ref b121)])) rfl (by rw [hml]; rfl) (Steps.refl _) (argsL := [(.long (v2 + v22))]) (rest := []) (lenOf pd_2 rfl) rfl (by show 2 * 0 + _ ≤ _; exact Nat.le_of_eq rfl) (hb hby at_168) (fun _ _ => ⟨rfl, e0, (by decide : 1 + R4.cells ≤ _), (by decide : 4 + R4.slots ≤ _)⟩)
  dsimp only [Pt.U, Pt.locs, Pt.cells, Pt.slots] at X7 l7 y7 z7 st7 hQ7
  subst l7 y7 z7
  obtain ⟨rfl, Nq7, Kq7, E_b121_7, F_b121_period_7, F_b121_shortest_7, F_b121_scheduled_7, F_b121_soonest_7⟩ := hQ7
  obtain ⟨h7, e7⟩ : ∃ z, T7.heap = z := ⟨_, rfl⟩
  rw [e7] at Kq7 E_b121_7 F_b121_period_7 F_b121_shortest_7 F_b121_scheduled_7 F_b121_soonest_7
  have N7 := Fr.app N0 Nq7
  have Z7 : n0 ≤ h7.size := Nat.le_trans Z0 Kq7.1
  refine Fin.by (B := T7.setTop (mkF m 171 #[.val (.long v0), .second, .val (.long v2), .second, .val (.long v4), .second, .val (.long v6), .second, .val (.long v8), .second, .val (.long v10), .second, .val (.long v12), .second, .val (.long v14), .second, .val (.long v16), .second, .val (.long v18), .second, .val (.long v20), .second, .val (.long v22), .second, .val (.long v24), .second, .val (.long v26), .second, .val (.ref b121), .val (.int t0), .unset, .unset, .unset] [])) (fun t k => st7.trans k) ?_
  exact b0_171 ⟨hx, hZ, hw, hby, hml, hret, hown, hnm, hlk⟩ h0 n0 v0 v2 v4 v6 v8 v10 v12 v14 v16 v18 v20 v22 v24 v26 b121 t0 ((f4_0 (v2 + v22) b121_period b121_shortest b121_scheduled b121_soonest).1) ((f4_0 (v2 + v22) b121_period b121_shortest b121_scheduled b121_soonest).2.1) ((f4_0 (v2 + v22) b121_period b121_shortest b121_scheduled b121_soonest).2.2.1) ((f4_0 (v2 + v22) b121_period b121_shortest b121_scheduled b121_soonest).2.2.2) X7 e7 N7 Z7 E_b121_7 F_b121_period_7 F_b121_shortest_7 F_b121_scheduled_7 F_b121_soonest_7 g_b121 _ hr
def f0_142 (v0 : Int64) (v2 : Int64) (v4 : Int64) (v6 : Int64) (v8 : Int64) (v10 : Int64) (v12 : Int64) (v14 : Int64) (v16 : Int64) (v18 : Int64) (v20 : Int64) (v22 : Int64) (v24 : Int64) (v26 : Int64) (b121_period : Int64) (b121_shortest : Int64) (b121_scheduled : Int64) (b121_soonest : Int64) : Int32 := (if (f5_0 b121_period b121_shortest b121_scheduled b121_soonest) = (v2 + v20) then (f0_160 v0 v2 v4 v6 v8 v10 v12 v14 v16 v18 v20 v22 v24 v26 (1 : Int32) b121_period b121_shortest b121_scheduled b121_soonest) else (f0_160 v0 v2 v4 v6 v8 v10 v12 v14 v16 v18 v20 v22 v24 v26 (0 : Int32) b121_period b121_shortest b121_scheduled b121_soonest))
set_option maxRecDepth 65536 in
set_option maxHeartbeats 40000000 in
theorem b0_142 {p : Program} {l : Launch} {e : Env} {s : State} {m : MethodId} {args : Array Value} {below : List Frame} {meth : Method} {c : Code} {Z : State} {a0 : Array Value} (B : Ctx p Z s a0 m meth c "com/example/quietwire/quietwire/transport/TickScheduleTickedPinLaw" "law" code 33 (some .boolean)) {T0 : State} {locs : List Loc} {h : Heap} (h0 : Heap) (n0 : Nat) (v0 : Int64) (v2 : Int64) (v4 : Int64) (v6 : Int64) (v8 : Int64) (v10 : Int64) (v12 : Int64) (v14 : Int64) (v16 : Int64) (v18 : Int64) (v20 : Int64) (v22 : Int64) (v24 : Int64) (v26 : Int64) (b121 : Addr) (b121_period : Int64) (b121_shortest : Int64) (b121_scheduled : Int64) (b121_soonest : Int64) (X0 : Stand p l e room_1 s m args below meth c T0 locs 1 4) (e0 : T0.heap = h) (N0 : Fr n0 locs) (Z0 : n0 ≤ h.size) (E_b121 : Exa Z h b121 "com/example/quietwire/quietwire/transport/TickSchedule") (F_b121_period : Fld Z h b121 "com/example/quietwire/quietwire/transport/TickSchedule" "period" "J" (.long b121_period)) (F_b121_shortest : Fld Z h b121 "com/example/quietwire/quietwire/transport/TickSchedule" "shortest" "J" (.long b121_shortest)) (F_b121_scheduled : Fld Z h b121 "com/example/quietwire/quietwire/transport/TickSchedule" "scheduled" "J" (.long b121_scheduled)) (F_b121_soonest : Fld Z h b121 "com/example/quietwire/quietwire/transport/TickSchedule" "soonest" "J" (.long b121_soonest)) (g_b121 : n0 ≤ b121) (r : Int32) (hr : f0_142 v0 v2 v4 v6 v8 v10 v12 v14 v16 v18 v20 v22 v24 v26 b121_period b121_shortest b121_scheduled b121_soonest = r) :
    Fin p e below s 1 4 (Q0 n0 r) (T0.setTop (mkF m 142 #[.val (.long v0), .second, .val (.long v2), .second, .val (.long v4), .second, .val (.long v6), .second, .val (.long v8), .second, .val (.long v10), .second, .val (.long v12), .second, .val (.long v14), .second, .val (.long v16), .second, .val (.long v18), .second, .val (.long v20), .second, .val (.long v22), .second, .val (.long v24), .second, .val (.long v26), .second, .val (.ref b121), .unset, .unset, .unset, .unset] [])) := by
  obtain ⟨hx, hZ, hw, hby, hml, hret, hown, hnm, hlk⟩ := B
  unfold f0_142 at hr
  refine Fin.by (B := T0.setTop (mkF m 144 #[.val (.long v0), .second, .val (.long v2), .second, .val (.long v4), .second, .val (.long v6), .second, .val (.long v8), .second, .val (.long v10), .second, .val (.long v12), .second, .val (.long v14), .second, .val (.long v16), .second, .val (.long v18), .second, .val (.long v20), .second, .val (.long v22), .second, .val (.long v24), .second, .val (.long v26), .second, .val (.ref b121), .unset, .unset, .unset, .unset] [(.ref b121)])) (fun t k => ?_) ?_
  · show Steps p.tables e below (T0.setTop (mkF m 142 #[.val (.long v0), .second, .val (.long v2), .second, .val (.long v4), .second, .val (.long v6), .second, .val (.long v8), .second, .val (.long v10), .second, .val (.long v12), .second, .val (.long v14), .second, .val (.long v16), .second, .val (.long v18), .second, .val (.long v20), .second, .val (.long v22), .second, .val (.long v24), .second, .val (.long v26), .second, .val (.ref b121), .unset, .unset, .unset, .unset] [])) _
    refine XS.aload X0.here hx rfl (hb hby at_142) rfl rfl ?_
    exact k
  -- pc 144: com/example/quietwire/quietwire/transport/TickSchedule.due
  obtain ⟨cq6, kq6, q6a, q6b, q6c⟩ := isOf hZ e0 E_b121
  obtain ⟨_, _, ⟨T6, L6, k6, n6⟩, -, X6, ⟨Lc6, hQ6, l6, y6, z6⟩, st6⟩ := X0.virtualBack hx (y := (⟨"com/example/quietwire/quietwire/transport/TickSchedule", "due", "()J"⟩ : MethodName)) (z := (⟨"com/example/quietwire/quietwire/transport/TickSchedule", "due", "()J"⟩ : MethodName)) hown (mvT hZ (hw _ (List.mem_of_getElem? (i := 30) rfl))) (mvT hZ (hw _ (List.mem_of_getElem? (i := 31) rfl))) (notFace_of_selects (args := #[]) (mvT hZ (hw _ (List.mem_of_getElem? (i := 33) rfl)))) (mvT hZ (hw _ (List.mem_of_getElem? (i := 33) rfl))) (mvT hZ (hw _ (List.mem_of_getElem? (i := 32) rfl))) (by decide) (backOf (W := 0) (rm5 l Z a0 hw [] b121 b121_period b121_shortest b121_scheduled b121_soonest h n0 Z0 E_b121 F_b121_period F_b121_shortest F_b121_scheduled F_b121_soonest) hZ (hw _ (List.mem_of_getElem? (i := 34) rfl)) (hw _ (List.mem_of_getElem? (i := 9) rfl)) (by decide) (by decide)) q6a q6c (g := (mkF m 144 #[.val (.long v0), .second, .val (.long v2), .second, .val (.long v4), .second, .val (.long v6), .second, .val (.long v8), .second, .val (.long v10), .second, .val (.long v12), .second, .val (.long v14), .second, .val (.long v16), .second, .val (.long v18), .second, .val (.long v20), .second, .val (.long v22), .second, .val (.long v24), .second, .val (.long v26), .second, .val (.ref b121), .unset, .unset, .unset, .unset] [(.ref b121)])) rfl (by rw [hml]; rfl) (Steps.refl _) (argsL := []) (rest := []) (lenOf pd_3 rfl) rfl (by show 2 * 0 + _ ≤ _; exact Nat.le_of_eq rfl) (hb hby at_144) (fun _ _ => ⟨rfl, e0, (by decide : 1 + R5.cells ≤ _), (by decide : 4 + R5.slots ≤ _)⟩)
  dsimp only [Pt.U, Pt.locs, Pt.cells, Pt.slots] at X6 l6 y6 z6 st6 hQ6
  subst l6 y6 z6
  obtain ⟨rfl, Nq6, e6⟩ := hQ6
  have N6 := Fr.app N0 Nq6
  refine Fin.by (B := T6.setTop (mkF m 147 #[.val (.long v0), .second, .val (.long v2), .second, .val (.long v4), .second, .val (.long v6), .second, .val (.long v8), .second, .val (.long v10), .second, .val (.long v12), .second, .val (.long v14), .second, .val (.long v16), .second, .val (.long v18), .second, .val (.long v20), .second, .val (.long v22), .second, .val (.long v24), .second, .val (.long v26), .second, .val (.ref b121), .unset, .unset, .unset, .unset] [(.long (f5_0 b121_period b121_shortest b121_scheduled b121_soonest))])) (fun t k => st6.trans k) ?_
  refine Fin.by (B := T6.setTop (mkF m 152 #[.val (.long v0), .second, .val (.long v2), .second, .val (.long v4), .second, .val (.long v6), .second, .val (.long v8), .second, .val (.long v10), .second, .val (.long v12), .second, .val (.long v14), .second, .val (.long v16), .second, .val (.long v18), .second, .val (.long v20), .second, .val (.long v22), .second, .val (.long v24), .second, .val (.long v26), .second, .val (.ref b121), .unset, .unset, .unset, .unset] [(.int (lcmpW (f5_0 b121_period b121_shortest b121_scheduled b121_soonest) (v2 + v20)))])) (fun t k => ?_) ?_
  · show Steps p.tables e below (T6.setTop (mkF m 147 #[.val (.long v0), .second, .val (.long v2), .second, .val (.long v4), .second, .val (.long v6), .second, .val (.long v8), .second, .val (.long v10), .second, .val (.long v12), .second, .val (.long v14), .second, .val (.long v16), .second, .val (.long v18), .second, .val (.long v20), .second, .val (.long v22), .second, .val (.long v24), .second, .val (.long v26), .second, .val (.ref b121), .unset, .unset, .unset, .unset] [(.long (f5_0 b121_period b121_shortest b121_scheduled b121_soonest))])) _
    refine XS.lloadN X6.here hx rfl (hb hby at_147) rfl  ?_
    show Steps p.tables e below (T6.setTop (mkF m 148 #[.val (.long v0), .second, .val (.long v2), .second, .val (.long v4), .second, .val (.long v6), .second, .val (.long v8), .second, .val (.long v10), .second, .val (.long v12), .second, .val (.long v14), .second, .val (.long v16), .second, .val (.long v18), .second, .val (.long v20), .second, .val (.long v22), .second, .val (.long v24), .second, .val (.long v26), .second, .val (.ref b121), .unset, .unset, .unset, .unset] [(.long v2), (.long (f5_0 b121_period b121_shortest b121_scheduled b121_soonest))])) _
    refine XS.lload X6.here hx rfl (hb hby at_148) rfl  ?_
    show Steps p.tables e below (T6.setTop (mkF m 150 #[.val (.long v0), .second, .val (.long v2), .second, .val (.long v4), .second, .val (.long v6), .second, .val (.long v8), .second, .val (.long v10), .second, .val (.long v12), .second, .val (.long v14), .second, .val (.long v16), .second, .val (.long v18), .second, .val (.long v20), .second, .val (.long v22), .second, .val (.long v24), .second, .val (.long v26), .second, .val (.ref b121), .unset, .unset, .unset, .unset] [(.long v20), (.long v2), (.long (f5_0 b121_period b121_shortest b121_scheduled b121_soonest))])) _
    refine XS.ladd X6.here hx rfl (hb hby at_150) rfl ?_
    show Steps p.tables e below (T6.setTop (mkF m 151 #[.val (.long v0), .second, .val (.long v2), .second, .val (.long v4), .second, .val (.long v6), .second, .val (.long v8), .second, .val (.long v10), .second, .val (.long v12), .second, .val (.long v14), .second, .val (.long v16), .second, .val (.long v18), .second, .val (.long v20), .second, .val (.long v22), .second, .val (.long v24), .second, .val (.long v26), .second, .val (.ref b121), .unset, .unset, .unset, .unset] [(.long (v2 + v20)), (.long (f5_0 b121_period b121_shortest b121_scheduled b121_soonest))])) _
    refine XS.lcmp X6.here hx rfl (hb hby at_151) rfl ?_
    exact k
  by_cases hc152 : (f5_0 b121_period b121_shortest b121_scheduled b121_soonest) = (v2 + v20)
  · rw [if_pos hc152] at hr
    refine Fin.by (B := T6.setTop (mkF m 155 #[.val (.long v0), .second, .val (.long v2), .second, .val (.long v4), .second, .val (.long v6), .second, .val (.long v8), .second, .val (.long v10), .second, .val (.long v12), .second, .val (.long v14), .second, .val (.long v16), .second, .val (.long v18), .second, .val (.long v20), .second, .val (.long v22), .second, .val (.long v24), .second, .val (.long v26), .second, .val (.ref b121), .unset, .unset, .unset, .unset] [])) (fun t k => ?_) ?_
    · show Steps p.tables e below (T6.setTop (mkF m 152 #[.val (.long v0), .second, .val (.long v2), .second, .val (.long v4), .second, .val (.long v6), .second, .val (.long v8), .second, .val (.long v10), .second, .val (.long v12), .second, .val (.long v14), .second, .val (.long v16), .second, .val (.long v18), .second, .val (.long v20), .second, .val (.long v22), .second, .val (.long v24), .second, .val (.long v26), .second, .val (.ref b121), .unset, .unset, .unset, .unset] [(.int (lcmpW (f5_0 b121_period b121_shortest b121_scheduled b121_soonest) (v2 + v20)))])) _
      exact XS.ifNo X6.here hx rfl (hb hby at_152) rfl ((if0 _ _).trans (teq ((lw_eq _ _).mpr hc152)).2) k
    refine Fin.by (B := T6.setTop (mkF m 160 #[.val (.long v0), .second, .val (.long v2), .second, .val (.long v4), .second, .val (.long v6), .second, .val (.long v8), .second, .val (.long v10), .second, .val (.long v12), .second, .val (.long v14), .second, .val (.long v16), .second, .val (.long v18), .second, .val (.long v20), .second, .val (.long v22), .second, .val (.long v24), .second, .val (.long v26), .second, .val (.ref b121), .unset, .unset, .unset, .unset] [(.int (1 : Int32))])) (fun t k => ?_) ?_
    · show Steps p.tables e below (T6.setTop (mkF m 155 #[.val (.long v0), .second, .val (.long v2), .second, .val (.long v4), .second, .val (.long v6), .second, .val (.long v8), .second, .val (.long v10), .second, .val (.long v12), .second, .val (.long v14), .second, .val (.long v16), .second, .val (.long v18), .second, .val (.long v20), .second, .val (.long v22), .second, .val (.long v24), .second, .val (.long v26), .second, .val (.ref b121), .unset, .unset, .unset, .unset] [])) _
      refine XS.iconst X6.here hx rfl (hb hby at_155) ?_
      show Steps p.tables e below (T6.setTop (mkF m 156 #[.val (.long v0), .second, .val (.long v2), .second, .val (.long v4), .second, .val (.long v6), .second, .val (.long v8), .second, .val (.long v10), .second, .val (.long v12), .second, .val (.long v14), .second, .val (.long v16), .second, .val (.long v18), .second, .val (.long v20), .second, .val (.long v22), .second, .val (.long v24), .second, .val (.long v26), .second, .val (.ref b121), .unset, .unset, .unset, .unset] [(.int (1 : Int32))])) _
      refine XS.goto X6.here hx rfl (pc0 := 156) (pc' := 160) rfl (hb hby at_156) (by decide) (by decide) ?_
      exact k
    exact b0_160 ⟨hx, hZ, hw, hby, hml, hret, hown, hnm, hlk⟩ h0 n0 v0 v2 v4 v6 v8 v10 v12 v14 v16 v18 v20 v22 v24 v26 b121 (1 : Int32) b121_period b121_shortest b121_scheduled b121_soonest X6 e6 N6 Z0 E_b121 F_b121_period F_b121_shortest F_b121_scheduled F_b121_soonest g_b121 _ hr
  · rw [if_neg hc152] at hr
    refine Fin.by (B := T6.setTop (mkF m 159 #[.val (.long v0), .second, .val (.long v2), .second, .val (.long v4), .second, .val (.long v6), .second, .val (.long v8), .second, .val (.long v10), .second, .val (.long v12), .second, .val (.long v14), .second, .val (.long v16), .second, .val (.long v18), .second, .val (.long v20), .second, .val (.long v22), .second, .val (.long v24), .second, .val (.long v26), .second, .val (.ref b121), .unset, .unset, .unset, .unset] [])) (fun t k => ?_) ?_
    · show Steps p.tables e below (T6.setTop (mkF m 152 #[.val (.long v0), .second, .val (.long v2), .second, .val (.long v4), .second, .val (.long v6), .second, .val (.long v8), .second, .val (.long v10), .second, .val (.long v12), .second, .val (.long v14), .second, .val (.long v16), .second, .val (.long v18), .second, .val (.long v20), .second, .val (.long v22), .second, .val (.long v24), .second, .val (.long v26), .second, .val (.ref b121), .unset, .unset, .unset, .unset] [(.int (lcmpW (f5_0 b121_period b121_shortest b121_scheduled b121_soonest) (v2 + v20)))])) _
      exact XS.ifYes X6.here hx rfl (pc0 := 152) (pc' := 159) rfl (hb hby at_152) rfl ((if0 _ _).trans (feq (fun q => hc152 ((lw_eq _ _).mp q))).2) (by decide) (by decide) k
    refine Fin.by (B := T6.setTop (mkF m 160 #[.val (.long v0), .second, .val (.long v2), .second, .val (.long v4), .second, .val (.long v6), .second, .val (.long v8), .second, .val (.long v10), .second, .val (.long v12), .second, .val (.long v14), .second, .val (.long v16), .second, .val (.long v18), .second, .val (.long v20), .second, .val (.long v22), .second, .val (.long v24), .second, .val (.long v26), .second, .val (.ref b121), .unset, .unset, .unset, .unset] [(.int (0 : Int32))])) (fun t k => ?_) ?_
    · show Steps p.tables e below (T6.setTop (mkF m 159 #[.val (.long v0), .second, .val (.long v2), .second, .val (.long v4), .second, .val (.long v6), .second, .val (.long v8), .second, .val (.long v10), .second, .val (.long v12), .second, .val (.long v14), .second, .val (.long v16), .second, .val (.long v18), .second, .val (.long v20), .second, .val (.long v22), .second, .val (.long v24), .second, .val (.long v26), .second, .val (.ref b121), .unset, .unset, .unset, .unset] [])) _
      refine XS.iconst X6.here hx rfl (hb hby at_159) ?_
      exact k
    exact b0_160 ⟨hx, hZ, hw, hby, hml, hret, hown, hnm, hlk⟩ h0 n0 v0 v2 v4 v6 v8 v10 v12 v14 v16 v18 v20 v22 v24 v26 b121 (0 : Int32) b121_period b121_shortest b121_scheduled b121_soonest X6 e6 N6 Z0 E_b121 F_b121_period F_b121_shortest F_b121_scheduled F_b121_soonest g_b121 _ hr
def f0_131 (v0 : Int64) (v2 : Int64) (v4 : Int64) (v6 : Int64) (v8 : Int64) (v10 : Int64) (v12 : Int64) (v14 : Int64) (v16 : Int64) (v18 : Int64) (v20 : Int64) (v22 : Int64) (v24 : Int64) (v26 : Int64) (b121_period : Int64) (b121_shortest : Int64) (b121_scheduled : Int64) (b121_soonest : Int64) : Int32 := (f0_142 v0 v2 v4 v6 v8 v10 v12 v14 v16 v18 v20 v22 v24 v26 ((f4_0 (v2 + v16) b121_period b121_shortest b121_scheduled b121_soonest).1) ((f4_0 (v2 + v16) b121_period b121_shortest b121_scheduled b121_soonest).2.1) ((f4_0 (v2 + v16) b121_period b121_shortest b121_scheduled b121_soonest).2.2.1) ((f4_0 (v2 + v16) b121_period b121_shortest b121_scheduled b121_soonest).2.2.2))
set_option maxRecDepth 65536 in
set_option maxHeartbeats 40000000 in
theorem b0_131 {p : Program} {l : Launch} {e : Env} {s : State} {m : MethodId} {args : Array Value} {below : List Frame} {meth : Method} {c : Code} {Z : State} {a0 : Array Value} (B : Ctx p Z s a0 m meth c "com/example/quietwire/quietwire/transport/TickScheduleTickedPinLaw" "law" code 33 (some .boolean)) {T0 : State} {locs : List Loc} {h : Heap} (h0 : Heap) (n0 : Nat) (v0 : Int64) (v2 : Int64) (v4 : Int64) (v6 : Int64) (v8 : Int64) (v10 : Int64) (v12 : Int64) (v14 : Int64) (v16 : Int64) (v18 : Int64) (v20 : Int64) (v22 : Int64) (v24 : Int64) (v26 : Int64) (b121 : Addr) (b121_period : Int64) (b121_shortest : Int64) (b121_scheduled : Int64) (b121_soonest : Int64) (X0 : Stand p l e room_1 s m args below meth c T0 locs 1 4) (e0 : T0.heap = h) (N0 : Fr n0 locs) (Z0 : n0 ≤ h.size) (E_b121 : Exa Z h b121 "com/example/quietwire/quietwire/transport/TickSchedule") (F_b121_period : Fld Z h b121 "com/example/quietwire/quietwire/transport/TickSchedule" "period" "J" (.long b121_period)) (F_b121_shortest : Fld Z h b121 "com/example/quietwire/quietwire/transport/TickSchedule" "shortest" "J" (.long b121_shortest)) (F_b121_scheduled : Fld Z h b121 "com/example/quietwire/quietwire/transport/TickSchedule" "scheduled" "J" (.long b121_scheduled)) (F_b121_soonest : Fld Z h b121 "com/example/quietwire/quietwire/transport/TickSchedule" "soonest" "J" (.long b121_soonest)) (g_b121 : n0 ≤ b121) (r : Int32) (hr : f0_131 v0 v2 v4 v6 v8 v10 v12 v14 v16 v18 v20 v22 v24 v26 b121_period b121_shortest b121_scheduled b121_soonest = r) :
    Fin p e below s 1 4 (Q0 n0 r) (T0.setTop (mkF m 131 #[.val (.long v0), .second, .val (.long v2), .second, .val (.long v4), .second, .val (.long v6), .second, .val (.long v8), .second, .val (.long v10), .second, .val (.long v12), .second, .val (.long v14), .second, .val (.long v16), .second, .val (.long v18), .second, .val (.long v20), .second, .val (.long v22), .second, .val (.long v24), .second, .val (.long v26), .second, .unset, .unset, .unset, .unset, .unset] [(.ref b121)])) := by
  obtain ⟨hx, hZ, hw, hby, hml, hret, hown, hnm, hlk⟩ := B
  unfold f0_131 at hr
  refine Fin.by (B := T0.setTop (mkF m 139 #[.val (.long v0), .second, .val (.long v2), .second, .val (.long v4), .second, .val (.long v6), .second, .val (.long v8), .second, .val (.long v10), .second, .val (.long v12), .second, .val (.long v14), .second, .val (.long v16), .second, .val (.long v18), .second, .val (.long v20), .second, .val (.long v22), .second, .val (.long v24), .second, .val (.long v26), .second, .val (.ref b121), .unset, .unset, .unset, .unset] [(.long (v2 + v16)), (.ref b121)])) (fun t k => ?_) ?_
  · show Steps p.tables e below (T0.setTop (mkF m 131 #[.val (.long v0), .second, .val (.long v2), .second, .val (.long v4), .second, .val (.long v6), .second, .val (.long v8), .second, .val (.long v10), .second, .val (.long v12), .second, .val (.long v14), .second, .val (.long v16), .second, .val (.long v18), .second, .val (.long v20), .second, .val (.long v22), .second, .val (.long v24), .second, .val (.long v26), .second, .unset, .unset, .unset, .unset, .unset] [(.ref b121)])) _
    refine XS.astore X0.here hx rfl (hb hby at_131) rfl rfl (l' := #[.val (.long v0), .second, .val (.long v2), .second, .val (.long v4), .second, .val (.long v6), .second, .val (.long v8), .second, .val (.long v10), .second, .val (.long v12), .second, .val (.long v14), .second, .val (.long v16), .second, .val (.long v18), .second, .val (.long v20), .second, .val (.long v22), .second, .val (.long v24), .second, .val (.long v26), .second, .val (.ref b121), .unset, .unset, .unset, .unset]) rfl ?_
    show Steps p.tables e below (T0.setTop (mkF m 133 #[.val (.long v0), .second, .val (.long v2), .second, .val (.long v4), .second, .val (.long v6), .second, .val (.long v8), .second, .val (.long v10), .second, .val (.long v12), .second, .val (.long v14), .second, .val (.long v16), .second, .val (.long v18), .second, .val (.long v20), .second, .val (.long v22), .second, .val (.long v24), .second, .val (.long v26), .second, .val (.ref b121), .unset, .unset, .unset, .unset] [])) _
    refine XS.aload X0.here hx rfl (hb hby at_133) rfl rfl ?_
    show Steps p.tables e below (T0.setTop (mkF m 135 #[.val (.long v0), .second, .val (.long v2), .second, .val (.long v4), .second, .val (.long v6), .second, .val (.long v8), .second, .val (.long v10), .second, .val (.long v12), .second, .val (.long v14), .second, .val (.long v16), .second, .val (.long v18), .second, .val (.long v20), .second, .val (.long v22), .second, .val (.long v24), .second, .val (.long v26), .second, .val (.ref b121), .unset, .unset, .unset, .unset] [(.ref b121)])) _
    refine XS.lloadN X0.here hx rfl (hb hby at_135) rfl  ?_
    show Steps p.tables e below (T0.setTop (mkF m 136 #[.val (.long v0), .second, .val (.long v2), .second, .val (.long v4), .second, .val (.long v6), .second, .val (.long v8), .second, .val (.long v10), .second, .val (.long v12), .second, .val (.long v14), .second, .val (.long v16), .second, .val (.long v18), .second, .val (.long v20), .second, .val (.long v22), .second, .val (.long v24), .second, .val (.long v26), .second, .val (.ref b121), .unset, .unset, .unset, .unset] [(.long v2), (.ref b121)])) _
    refine XS.lload X0.here hx rfl (hb hby at_136) rfl  ?_
    show Steps p.tables e below (T0.setTop (mkF m 138 #[.val (.long v0), .second, .val (.long v2), .second, .val (.long v4), .second, .val (.long v6), .second, .val (.long v8), .second, .val (.long v10), .second, .val (.long v12), .second, .val (.long v14), .second, .val (.long v16), .second, .val (.long v18), .second, .val (.long v20), .second, .val (.long v22), .second, .val (.long v24), .second, .val (.long v26), .second, .val (.ref b121), .unset, .unset, .unset, .unset] [(.long v16), (.long v2), (.ref b121)])) _
    refine XS.ladd X0.here hx rfl (hb hby at_138) rfl ?_
    exact k
  -- pc 139: com/example/quietwire/quietwire/transport/TickSchedule.ticked
  obtain ⟨cq5, kq5, q5a, q5b, q5c⟩ := isOf hZ e0 E_b121
  obtain ⟨_, _, ⟨T5, L5, k5, n5⟩, -, X5, ⟨Lc5, hQ5, l5, y5, z5⟩, st5⟩ := X0.virtualBack hx (y := (⟨"com/example/quietwire/quietwire/transport/TickSchedule", "ticked", "(J)V"⟩ : MethodName)) (z := (⟨"com/example/quietwire/quietwire/transport/TickSchedule", "ticked", "(J)V"⟩ : MethodName)) hown (mvT hZ (hw _ (List.mem_of_getElem? (i := 25) rfl))) (mvT hZ (hw _ (List.mem_of_getElem? (i := 26) rfl))) (notFace_of_selects (args := #[]) (mvT hZ (hw _ (List.mem_of_getElem? (i := 28) rfl)))) (mvT hZ (hw _ (List.mem_of_getElem? (i := 28) rfl))) (mvT hZ (hw _ (List.mem_of_getElem? (i := 27) rfl))) (by decide) (backOf (W := 0) (rm4 l Z a0 hw [] b121 (v2 + v16) b121_period b121_shortest b121_scheduled b121_soonest h n0 Z0 E_b121 F_b121_period F_b121_shortest F_b121_scheduled F_b121_soonest g_b121) hZ (hw _ (List.mem_of_getElem? (i := 29) rfl)) (hw _ (List.mem_of_getElem? (i := 9) rfl)) (by decide) (by decide)) q5a q5c (g := (mkF m 139 #[.val (.long v0), .second, .val (.long v2), .second, .val (.long v4), .second, .val (.long v6), .second, .val (.long v8), .second, .val (.long v10), .second, .val (.long v12), .second, .val (.long v14), .second, .val (.long v16), .second, .val (.long v18), .second, .val (.long v20), .second, .val (.long v22), .second, .val (.long v24), .second, .val (.long v26), .second, .val (.ref b121), .unset, .unset, .unset, .unset] [(.long (v2 + v16)), (.ref b121)])) rfl (by rw [hml]; rfl) (Steps.refl _) (argsL := [(.long (v2 + v16))]) (rest := []) (lenOf pd_2 rfl) rfl (by show 2 * 0 + _ ≤ _; exact Nat.le_of_eq rfl) (hb hby at_139) (fun _ _ => ⟨rfl, e0, (by decide : 1 + R4.cells ≤ _), (by decide : 4 + R4.slots ≤ _)⟩)
  dsimp only [Pt.U, Pt.locs, Pt.cells, Pt.slots] at X5 l5 y5 z5 st5 hQ5
  subst l5 y5 z5
  obtain ⟨rfl, Nq5, Kq5, E_b121_5, F_b121_period_5, F_b121_shortest_5, F_b121_scheduled_5, F_b121_soonest_5⟩ := hQ5
  obtain ⟨h5, e5⟩ : ∃ z, T5.heap = z := ⟨_, rfl⟩
  rw [e5] at Kq5 E_b121_5 F_b121_period_5 F_b121_shortest_5 F_b121_scheduled_5 F_b121_soonest_5
  have N5 := Fr.app N0 Nq5
  have Z5 : n0 ≤ h5.size := Nat.le_trans Z0 Kq5.1
  refine Fin.by (B := T5.setTop (mkF m 142 #[.val (.long v0), .second, .val (.long v2), .second, .val (.long v4), .second, .val (.long v6), .second, .val (.long v8), .second, .val (.long v10), .second, .val (.long v12), .second, .val (.long v14), .second, .val (.long v16), .second, .val (.long v18), .second, .val (.long v20), .second, .val (.long v22), .second, .val (.long v24), .second, .val (.long v26), .second, .val (.ref b121), .unset, .unset, .unset, .unset] [])) (fun t k => st5.trans k) ?_
  exact b0_142 ⟨hx, hZ, hw, hby, hml, hret, hown, hnm, hlk⟩ h0 n0 v0 v2 v4 v6 v8 v10 v12 v14 v16 v18 v20 v22 v24 v26 b121 ((f4_0 (v2 + v16) b121_period b121_shortest b121_scheduled b121_soonest).1) ((f4_0 (v2 + v16) b121_period b121_shortest b121_scheduled b121_soonest).2.1) ((f4_0 (v2 + v16) b121_period b121_shortest b121_scheduled b121_soonest).2.2.1) ((f4_0 (v2 + v16) b121_period b121_shortest b121_scheduled b121_soonest).2.2.2) X5 e5 N5 Z5 E_b121_5 F_b121_period_5 F_b121_shortest_5 F_b121_scheduled_5 F_b121_soonest_5 g_b121 _ hr
def f0_121 (v0 : Int64) (v2 : Int64) (v4 : Int64) (v6 : Int64) (v8 : Int64) (v10 : Int64) (v12 : Int64) (v14 : Int64) (v16 : Int64) (v18 : Int64) (v20 : Int64) (v22 : Int64) (v24 : Int64) (v26 : Int64) : Int32 := (f0_131 v0 v2 v4 v6 v8 v10 v12 v14 v16 v18 v20 v22 v24 v26 ((f2_0 v8 v2 (0 : Int64) (0 : Int64) (0 : Int64) (0 : Int64)).1) ((f2_0 v8 v2 (0 : Int64) (0 : Int64) (0 : Int64) (0 : Int64)).2.1) ((f2_0 v8 v2 (0 : Int64) (0 : Int64) (0 : Int64) (0 : Int64)).2.2.1) ((f2_0 v8 v2 (0 : Int64) (0 : Int64) (0 : Int64) (0 : Int64)).2.2.2))
set_option maxRecDepth 65536 in
set_option maxHeartbeats 40000000 in
theorem b0_121 {p : Program} {l : Launch} {e : Env} {s : State} {m : MethodId} {args : Array Value} {below : List Frame} {meth : Method} {c : Code} {Z : State} {a0 : Array Value} (B : Ctx p Z s a0 m meth c "com/example/quietwire/quietwire/transport/TickScheduleTickedPinLaw" "law" code 33 (some .boolean)) {T0 : State} {locs : List Loc} {h : Heap} (h0 : Heap) (n0 : Nat) (v0 : Int64) (v2 : Int64) (v4 : Int64) (v6 : Int64) (v8 : Int64) (v10 : Int64) (v12 : Int64) (v14 : Int64) (v16 : Int64) (v18 : Int64) (v20 : Int64) (v22 : Int64) (v24 : Int64) (v26 : Int64) (X0 : Stand p l e room_1 s m args below meth c T0 locs 0 0) (e0 : T0.heap = h) (N0 : Fr n0 locs) (Z0 : n0 ≤ h.size) (r : Int32) (hr : f0_121 v0 v2 v4 v6 v8 v10 v12 v14 v16 v18 v20 v22 v24 v26 = r) :
    Fin p e below s 1 4 (Q0 n0 r) (T0.setTop (mkF m 121 #[.val (.long v0), .second, .val (.long v2), .second, .val (.long v4), .second, .val (.long v6), .second, .val (.long v8), .second, .val (.long v10), .second, .val (.long v12), .second, .val (.long v14), .second, .val (.long v16), .second, .val (.long v18), .second, .val (.long v20), .second, .val (.long v22), .second, .val (.long v24), .second, .val (.long v26), .second, .unset, .unset, .unset, .unset, .unset] [])) := by
  obtain ⟨hx, hZ, hw, hby, hml, hret, hown, hnm, hlk⟩ := B
  unfold f0_121 at hr
  obtain ⟨T3, h3, X3, e3, X3e, A3, D3, -, st3⟩ := newO X0 hx hZ hown (hw _ (List.mem_of_getElem? (i := 7) rfl)) (hw _ (List.mem_of_getElem? (i := 8) rfl)) (hw _ (List.mem_of_getElem? (i := 9) rfl)) e0 (g := (mkF m 121 #[.val (.long v0), .second, .val (.long v2), .second, .val (.long v4), .second, .val (.long v6), .second, .val (.long v8), .second, .val (.long v10), .second, .val (.long v12), .second, .val (.long v14), .second, .val (.long v16), .second, .val (.long v18), .second, .val (.long v20), .second, .val (.long v22), .second, .val (.long v24), .second, .val (.long v26), .second, .unset, .unset, .unset, .unset, .unset] [])) rfl (hb hby at_121) (by decide) (by decide)
  obtain ⟨b121, g3⟩ : ∃ z, z = h.size := ⟨_, rfl⟩
  rw [← g3] at A3 D3 st3
  have g_b121 : n0 ≤ b121 := Nat.le_trans Z0 (Nat.le_of_eq g3.symm)
  have Z3 : n0 ≤ h3.size := Nat.le_trans Z0 X3e.1
  have E_b121_3 := A3
  have F_b121_period_3 : Fld Z h3 b121 "com/example/quietwire/quietwire/transport/TickSchedule" "period" "J" (.long (0 : Int64)) := D3 (Or.inr (hw _ (List.mem_of_getElem? (i := 17) rfl))) (ty := .long) (by decide)
  have F_b121_shortest_3 : Fld Z h3 b121 "com/example/quietwire/quietwire/transport/TickSchedule" "shortest" "J" (.long (0 : Int64)) := D3 (Or.inr (hw _ (List.mem_of_getElem? (i := 20) rfl))) (ty := .long) (by decide)
  have F_b121_scheduled_3 : Fld Z h3 b121 "com/example/quietwire/quietwire/transport/TickSchedule" "scheduled" "J" (.long (0 : Int64)) := D3 (Or.inl (hw _ (List.mem_of_getElem? (i := 22) rfl))) (ty := .long) (by decide)
  have F_b121_soonest_3 : Fld Z h3 b121 "com/example/quietwire/quietwire/transport/TickSchedule" "soonest" "J" (.long (0 : Int64)) := D3 (Or.inl (hw _ (List.mem_of_getElem? (i := 24) rfl))) (ty := .long) (by decide)
  refine Fin.by (B := T3.setTop (mkF m 124 #[.val (.long v0), .second, .val (.long v2), .second, .val (.long v4), .second, .val (.long v6), .second, .val (.long v8), .second, .val (.long v10), .second, .val (.long v12), .second, .val (.long v14), .second, .val (.long v16), .second, .val (.long v18), .second, .val (.long v20), .second, .val (.long v22), .second, .val (.long v24), .second, .val (.long v26), .second, .unset, .unset, .unset, .unset, .unset] [(.ref b121)])) (fun t k => st3 t k) ?_
  refine Fin.by (B := T3.setTop (mkF m 128 #[.val (.long v0), .second, .val (.long v2), .second, .val (.long v4), .second, .val (.long v6), .second, .val (.long v8), .second, .val (.long v10), .second, .val (.long v12), .second, .val (.long v14), .second, .val (.long v16), .second, .val (.long v18), .second, .val (.long v20), .second, .val (.long v22), .second, .val (.long v24), .second, .val (.long v26), .second, .unset, .unset, .unset, .unset, .unset] [(.long v2), (.long v8), (.ref b121), (.ref b121)])) (fun t k => ?_) ?_
  · show Steps p.tables e below (T3.setTop (mkF m 124 #[.val (.long v0), .second, .val (.long v2), .second, .val (.long v4), .second, .val (.long v6), .second, .val (.long v8), .second, .val (.long v10), .second, .val (.long v12), .second, .val (.long v14), .second, .val (.long v16), .second, .val (.long v18), .second, .val (.long v20), .second, .val (.long v22), .second, .val (.long v24), .second, .val (.long v26), .second, .unset, .unset, .unset, .unset, .unset] [(.ref b121)])) _
    refine XS.dup X3.here hx rfl (hb hby at_124) rfl rfl ?_
    show Steps p.tables e below (T3.setTop (mkF m 125 #[.val (.long v0), .second, .val (.long v2), .second, .val (.long v4), .second, .val (.long v6), .second, .val (.long v8), .second, .val (.long v10), .second, .val (.long v12), .second, .val (.long v14), .second, .val (.long v16), .second, .val (.long v18), .second, .val (.long v20), .second, .val (.long v22), .second, .val (.long v24), .second, .val (.long v26), .second, .unset, .unset, .unset, .unset, .unset] [(.ref b121), (.ref b121)])) _
    refine XS.lload X3.here hx rfl (hb hby at_125) rfl  ?_
    show Steps p.tables e below (T3.setTop (mkF m 127 #[.val (.long v0), .second, .val (.long v2), .second, .val (.long v4), .second, .val (.long v6), .second, .val (.long v8), .second, .val (.long v10), .second, .val (.long v12), .second, .val (.long v14), .second, .val (.long v16), .second, .val (.long v18), .second, .val (.long v20), .second, .val (.long v22), .second, .val (.long v24), .second, .val (.long v26), .second, .unset, .unset, .unset, .unset, .unset] [(.long v8), (.ref b121), (.ref b121)])) _
    refine XS.lloadN X3.here hx rfl (hb hby at_127) rfl  ?_
    exact k
  -- pc 128: com/example/quietwire/quietwire/transport/TickSchedule.<init>
  obtain ⟨_, _, ⟨T4, L4, k4, n4⟩, -, X4, ⟨Lc4, hQ4, l4, y4, z4⟩, st4⟩ := X3.specialBack hx (y := (⟨"com/example/quietwire/quietwire/transport/TickSchedule", "<init>", "(JJ)V"⟩ : MethodName)) rfl hown (mvT hZ (hw _ (List.mem_of_getElem? (i := 10) rfl))) (mvT hZ (hw _ (List.mem_of_getElem? (i := 11) rfl))) (mvT hZ (hw _ (List.mem_of_getElem? (i := 12) rfl))) (by decide) (backOf (W := 1) (rm2 l Z a0 hw [] b121 v8 v2 (0 : Int64) (0 : Int64) (0 : Int64) (0 : Int64) h3 n0 Z3 E_b121_3 F_b121_period_3 F_b121_shortest_3 F_b121_scheduled_3 F_b121_soonest_3 g_b121) hZ (hw _ (List.mem_of_getElem? (i := 12) rfl)) (hw _ (List.mem_of_getElem? (i := 9) rfl)) (by decide) (by decide)) (g := (mkF m 128 #[.val (.long v0), .second, .val (.long v2), .second, .val (.long v4), .second, .val (.long v6), .second, .val (.long v8), .second, .val (.long v10), .second, .val (.long v12), .second, .val (.long v14), .second, .val (.long v16), .second, .val (.long v18), .second, .val (.long v20), .second, .val (.long v22), .second, .val (.long v24), .second, .val (.long v26), .second, .unset, .unset, .unset, .unset, .unset] [(.long v2), (.long v8), (.ref b121), (.ref b121)])) rfl (by rw [hml]; rfl) (Steps.refl _) (a := b121) (argsL := [(.long v8), (.long v2)]) (rest := [(.ref b121)]) (lenOf pd_1 rfl) rfl (by show 2 * 0 + _ ≤ _; exact Nat.le_of_eq rfl) (hb hby at_128) (fun _ _ => ⟨rfl, e3, (by decide : 1 + R2.cells ≤ _), (by decide : 4 + R2.slots ≤ _)⟩)
  dsimp only [Pt.U, Pt.locs, Pt.cells, Pt.slots] at X4 l4 y4 z4 st4 hQ4
  subst l4 y4 z4
  obtain ⟨rfl, Nq4, Kq4, E_b121_4, F_b121_period_4, F_b121_shortest_4, F_b121_scheduled_4, F_b121_soonest_4⟩ := hQ4
  obtain ⟨h4, e4⟩ : ∃ z, T4.heap = z := ⟨_, rfl⟩
  rw [e4] at Kq4 E_b121_4 F_b121_period_4 F_b121_shortest_4 F_b121_scheduled_4 F_b121_soonest_4
  have N4 := Fr.app N0 Nq4
  have Z4 : n0 ≤ h4.size := Nat.le_trans Z3 Kq4.1
  refine Fin.by (B := T4.setTop (mkF m 131 #[.val (.long v0), .second, .val (.long v2), .second, .val (.long v4), .second, .val (.long v6), .second, .val (.long v8), .second, .val (.long v10), .second, .val (.long v12), .second, .val (.long v14), .second, .val (.long v16), .second, .val (.long v18), .second, .val (.long v20), .second, .val (.long v22), .second, .val (.long v24), .second, .val (.long v26), .second, .unset, .unset, .unset, .unset, .unset] [(.ref b121)])) (fun t k => st4.trans k) ?_
  exact b0_131 ⟨hx, hZ, hw, hby, hml, hret, hown, hnm, hlk⟩ h0 n0 v0 v2 v4 v6 v8 v10 v12 v14 v16 v18 v20 v22 v24 v26 b121 ((f2_0 v8 v2 (0 : Int64) (0 : Int64) (0 : Int64) (0 : Int64)).1) ((f2_0 v8 v2 (0 : Int64) (0 : Int64) (0 : Int64) (0 : Int64)).2.1) ((f2_0 v8 v2 (0 : Int64) (0 : Int64) (0 : Int64) (0 : Int64)).2.2.1) ((f2_0 v8 v2 (0 : Int64) (0 : Int64) (0 : Int64) (0 : Int64)).2.2.2) X4 e4 N4 Z4 E_b121_4 F_b121_period_4 F_b121_shortest_4 F_b121_scheduled_4 F_b121_soonest_4 g_b121 _ hr
def f0_107 (v0 : Int64) (v2 : Int64) (v4 : Int64) (v6 : Int64) (v8 : Int64) (v10 : Int64) (v12 : Int64) (v14 : Int64) (v16 : Int64) (v18 : Int64) (v20 : Int64) (v22 : Int64) (t0 : Int64) : Int32 := (f0_121 v0 v2 v4 v6 v8 v10 v12 v14 v16 v18 v20 v22 t0 (f1_0 t0 (v22 + v14)))
set_option maxRecDepth 65536 in
set_option maxHeartbeats 40000000 in
theorem b0_107 {p : Program} {l : Launch} {e : Env} {s : State} {m : MethodId} {args : Array Value} {below : List Frame} {meth : Method} {c : Code} {Z : State} {a0 : Array Value} (B : Ctx p Z s a0 m meth c "com/example/quietwire/quietwire/transport/TickScheduleTickedPinLaw" "law" code 33 (some .boolean)) {T0 : State} {locs : List Loc} {h : Heap} (h0 : Heap) (n0 : Nat) (v0 : Int64) (v2 : Int64) (v4 : Int64) (v6 : Int64) (v8 : Int64) (v10 : Int64) (v12 : Int64) (v14 : Int64) (v16 : Int64) (v18 : Int64) (v20 : Int64) (v22 : Int64) (t0 : Int64) (X0 : Stand p l e room_1 s m args below meth c T0 locs 0 0) (e0 : T0.heap = h) (N0 : Fr n0 locs) (Z0 : n0 ≤ h.size) (r : Int32) (hr : f0_107 v0 v2 v4 v6 v8 v10 v12 v14 v16 v18 v20 v22 t0 = r) :
    Fin p e below s 1 4 (Q0 n0 r) (T0.setTop (mkF m 107 #[.val (.long v0), .second, .val (.long v2), .second, .val (.long v4), .second, .val (.long v6), .second, .val (.long v8), .second, .val (.long v10), .second, .val (.long v12), .second, .val (.long v14), .second, .val (.long v16), .second, .val (.long v18), .second, .val (.long v20), .second, .val (.long v22), .second, .unset, .unset, .unset, .unset, .unset, .unset, .unset, .unset, .unset] [(.long t0)])) := by
  obtain ⟨hx, hZ, hw, hby, hml, hret, hown, hnm, hlk⟩ := B
  unfold f0_107 at hr
  refine Fin.by (B := T0.setTop (mkF m 116 #[.val (.long v0), .second, .val (.long v2), .second, .val (.long v4), .second, .val (.long v6), .second, .val (.long v8), .second, .val (.long v10), .second, .val (.long v12), .second, .val (.long v14), .second, .val (.long v16), .second, .val (.long v18), .second, .val (.long v20), .second, .val (.long v22), .second, .val (.long t0), .second, .unset, .unset, .unset, .unset, .unset, .unset, .unset] [(.long (v22 + v14)), (.long t0)])) (fun t k => ?_) ?_
  · show Steps p.tables e below (T0.setTop (mkF m 107 #[.val (.long v0), .second, .val (.long v2), .second, .val (.long v4), .second, .val (.long v6), .second, .val (.long v8), .second, .val (.long v10), .second, .val (.long v12), .second, .val (.long v14), .second, .val (.long v16), .second, .val (.long v18), .second, .val (.long v20), .second, .val (.long v22), .second, .unset, .unset, .unset, .unset, .unset, .unset, .unset, .unset, .unset] [(.long t0)])) _
    refine XS.lstore X0.here hx rfl (hb hby at_107) rfl (l' := #[.val (.long v0), .second, .val (.long v2), .second, .val (.long v4), .second, .val (.long v6), .second, .val (.long v8), .second, .val (.long v10), .second, .val (.long v12), .second, .val (.long v14), .second, .val (.long v16), .second, .val (.long v18), .second, .val (.long v20), .second, .val (.long v22), .second, .val (.long t0), .second, .unset, .unset, .unset, .unset, .unset, .unset, .unset]) rfl ?_
    show Steps p.tables e below (T0.setTop (mkF m 109 #[.val (.long v0), .second, .val (.long v2), .second, .val (.long v4), .second, .val (.long v6), .second, .val (.long v8), .second, .val (.long v10), .second, .val (.long v12), .second, .val (.long v14), .second, .val (.long v16), .second, .val (.long v18), .second, .val (.long v20), .second, .val (.long v22), .second, .val (.long t0), .second, .unset, .unset, .unset, .unset, .unset, .unset, .unset] [])) _
    refine XS.lload X0.here hx rfl (hb hby at_109) rfl  ?_
    show Steps p.tables e below (T0.setTop (mkF m 111 #[.val (.long v0), .second, .val (.long v2), .second, .val (.long v4), .second, .val (.long v6), .second, .val (.long v8), .second, .val (.long v10), .second, .val (.long v12), .second, .val (.long v14), .second, .val (.long v16), .second, .val (.long v18), .second, .val (.long v20), .second, .val (.long v22), .second, .val (.long t0), .second, .unset, .unset, .unset, .unset, .unset, .unset, .unset] [(.long t0)])) _
    refine XS.lload X0.here hx rfl (hb hby at_111) rfl  ?_
    show Steps p.tables e below (T0.setTop (mkF m 113 #[.val (.long v0), .second, .val (.long v2), .second, .val (.long v4), .second, .val (.long v6), .second, .val (.long v8), .second, .val (.long v10), .second, .val (.long v12), .second, .val (.long v14), .second, .val (.long v16), .second, .val (.long v18), .second, .val (.long v20), .second, .val (.long v22), .second, .val (.long t0), .second, .unset, .unset, .unset, .unset, .unset, .unset, .unset] [(.long v22), (.long t0)])) _
    refine XS.lload X0.here hx rfl (hb hby at_113) rfl  ?_
    show Steps p.tables e below (T0.setTop (mkF m 115 #[.val (.long v0), .second, .val (.long v2), .second, .val (.long v4), .second, .val (.long v6), .second, .val (.long v8), .second, .val (.long v10), .second, .val (.long v12), .second, .val (.long v14), .second, .val (.long v16), .second, .val (.long v18), .second, .val (.long v20), .second, .val (.long v22), .second, .val (.long t0), .second, .unset, .unset, .unset, .unset, .unset, .unset, .unset] [(.long v14), (.long v22), (.long t0)])) _
    refine XS.ladd X0.here hx rfl (hb hby at_115) rfl ?_
    exact k
  -- pc 116: java/lang/Math.max
  obtain ⟨_, _, ⟨T2, L2, k2, n2⟩, -, X2, ⟨Lc2, hQ2, l2, y2, z2⟩, st2⟩ := Jvm.LawKit.callS X0 hx (y := (⟨"java/lang/Math", "max", "(JJ)J"⟩ : MethodName)) hown (mvT hZ (hw _ (List.mem_of_getElem? (i := 3) rfl))) (mvT hZ (hw _ (List.mem_of_getElem? (i := 4) rfl))) (mvT hZ (hw _ (List.mem_of_getElem? (i := 5) rfl))) (mvT hZ (hw _ (List.mem_of_getElem? (i := 6) rfl))) (by decide) (backOf (W := 0) (rm1 l Z a0 hw [] t0 (v22 + v14) h n0 Z0 ) hZ (hw _ (List.mem_of_getElem? (i := 6) rfl)) (hw _ (List.mem_of_getElem? (i := 5) rfl)) (by decide) (by decide)) (g := (mkF m 116 #[.val (.long v0), .second, .val (.long v2), .second, .val (.long v4), .second, .val (.long v6), .second, .val (.long v8), .second, .val (.long v10), .second, .val (.long v12), .second, .val (.long v14), .second, .val (.long v16), .second, .val (.long v18), .second, .val (.long v20), .second, .val (.long v22), .second, .val (.long t0), .second, .unset, .unset, .unset, .unset, .unset, .unset, .unset] [(.long (v22 + v14)), (.long t0)])) rfl (by rw [hml]; rfl) (argsL := [(.long t0), (.long (v22 + v14))]) (rest := []) (lenOf pd_0 rfl) rfl (by show 2 * 0 + _ ≤ _; exact Nat.le_of_eq rfl) (hb hby at_116) (fun _ _ => ⟨rfl, e0, (by decide : 0 + R1.cells ≤ _), (by decide : 0 + R1.slots ≤ _)⟩)
  dsimp only [Pt.U, Pt.locs, Pt.cells, Pt.slots] at X2 l2 y2 z2 st2 hQ2
  subst l2 y2 z2
  obtain ⟨rfl, Nq2, e2⟩ := hQ2
  have N2 := Fr.app N0 Nq2
  refine Fin.by (B := T2.setTop (mkF m 119 #[.val (.long v0), .second, .val (.long v2), .second, .val (.long v4), .second, .val (.long v6), .second, .val (.long v8), .second, .val (.long v10), .second, .val (.long v12), .second, .val (.long v14), .second, .val (.long v16), .second, .val (.long v18), .second, .val (.long v20), .second, .val (.long v22), .second, .val (.long t0), .second, .unset, .unset, .unset, .unset, .unset, .unset, .unset] [(.long (f1_0 t0 (v22 + v14)))])) (fun t k => st2 t k) ?_
  refine Fin.by (B := T2.setTop (mkF m 121 #[.val (.long v0), .second, .val (.long v2), .second, .val (.long v4), .second, .val (.long v6), .second, .val (.long v8), .second, .val (.long v10), .second, .val (.long v12), .second, .val (.long v14), .second, .val (.long v16), .second, .val (.long v18), .second, .val (.long v20), .second, .val (.long v22), .second, .val (.long t0), .second, .val (.long (f1_0 t0 (v22 + v14))), .second, .unset, .unset, .unset, .unset, .unset] [])) (fun t k => ?_) ?_
  · show Steps p.tables e below (T2.setTop (mkF m 119 #[.val (.long v0), .second, .val (.long v2), .second, .val (.long v4), .second, .val (.long v6), .second, .val (.long v8), .second, .val (.long v10), .second, .val (.long v12), .second, .val (.long v14), .second, .val (.long v16), .second, .val (.long v18), .second, .val (.long v20), .second, .val (.long v22), .second, .val (.long t0), .second, .unset, .unset, .unset, .unset, .unset, .unset, .unset] [(.long (f1_0 t0 (v22 + v14)))])) _
    refine XS.lstore X2.here hx rfl (hb hby at_119) rfl (l' := #[.val (.long v0), .second, .val (.long v2), .second, .val (.long v4), .second, .val (.long v6), .second, .val (.long v8), .second, .val (.long v10), .second, .val (.long v12), .second, .val (.long v14), .second, .val (.long v16), .second, .val (.long v18), .second, .val (.long v20), .second, .val (.long v22), .second, .val (.long t0), .second, .val (.long (f1_0 t0 (v22 + v14))), .second, .unset, .unset, .unset, .unset, .unset]) rfl ?_
    exact k
  exact b0_121 ⟨hx, hZ, hw, hby, hml, hret, hown, hnm, hlk⟩ h0 n0 v0 v2 v4 v6 v8 v10 v12 v14 v16 v18 v20 v22 t0 (f1_0 t0 (v22 + v14)) X2 e2 N2 Z0  _ hr
def f0_76 (v0 : Int64) (v2 : Int64) (v4 : Int64) (v6 : Int64) (v8 : Int64) (v10 : Int64) (v12 : Int64) (v14 : Int64) (v16 : Int64) (v18 : Int64) (v20 : Int64) : Int32 := (if ((v20 + v12) - v18) < v8 then (f0_107 v0 v2 v4 v6 v8 v10 v12 v14 v16 v18 v20 (v20 + v12) (v18 + v8)) else (f0_107 v0 v2 v4 v6 v8 v10 v12 v14 v16 v18 v20 (v20 + v12) ((v20 + v12) + v8)))
set_option maxRecDepth 65536 in
set_option maxHeartbeats 40000000 in
theorem b0_76 {p : Program} {l : Launch} {e : Env} {s : State} {m : MethodId} {args : Array Value} {below : List Frame} {meth : Method} {c : Code} {Z : State} {a0 : Array Value} (B : Ctx p Z s a0 m meth c "com/example/quietwire/quietwire/transport/TickScheduleTickedPinLaw" "law" code 33 (some .boolean)) {T0 : State} {locs : List Loc} {h : Heap} (h0 : Heap) (n0 : Nat) (v0 : Int64) (v2 : Int64) (v4 : Int64) (v6 : Int64) (v8 : Int64) (v10 : Int64) (v12 : Int64) (v14 : Int64) (v16 : Int64) (v18 : Int64) (v20 : Int64) (X0 : Stand p l e room_1 s m args below meth c T0 locs 0 0) (e0 : T0.heap = h) (N0 : Fr n0 locs) (Z0 : n0 ≤ h.size) (r : Int32) (hr : f0_76 v0 v2 v4 v6 v8 v10 v12 v14 v16 v18 v20 = r) :
    Fin p e below s 1 4 (Q0 n0 r) (T0.setTop (mkF m 76 #[.val (.long v0), .second, .val (.long v2), .second, .val (.long v4), .second, .val (.long v6), .second, .val (.long v8), .second, .val (.long v10), .second, .val (.long v12), .second, .val (.long v14), .second, .val (.long v16), .second, .val (.long v18), .second, .val (.long v20), .second, .unset, .unset, .unset, .unset, .unset, .unset, .unset, .unset, .unset, .unset, .unset] [])) := by
  obtain ⟨hx, hZ, hw, hby, hml, hret, hown, hnm, hlk⟩ := B
  unfold f0_76 at hr
  refine Fin.by (B := T0.setTop (mkF m 91 #[.val (.long v0), .second, .val (.long v2), .second, .val (.long v4), .second, .val (.long v6), .second, .val (.long v8), .second, .val (.long v10), .second, .val (.long v12), .second, .val (.long v14), .second, .val (.long v16), .second, .val (.long v18), .second, .val (.long v20), .second, .val (.long (v20 + v12)), .second, .unset, .unset, .unset, .unset, .unset, .unset, .unset, .unset, .unset] [(.int (lcmpW ((v20 + v12) - v18) v8))])) (fun t k => ?_) ?_
  · show Steps p.tables e below (T0.setTop (mkF m 76 #[.val (.long v0), .second, .val (.long v2), .second, .val (.long v4), .second, .val (.long v6), .second, .val (.long v8), .second, .val (.long v10), .second, .val (.long v12), .second, .val (.long v14), .second, .val (.long v16), .second, .val (.long v18), .second, .val (.long v20), .second, .unset, .unset, .unset, .unset, .unset, .unset, .unset, .unset, .unset, .unset, .unset] [])) _
    refine XS.lload X0.here hx rfl (hb hby at_76) rfl  ?_
    show Steps p.tables e below (T0.setTop (mkF m 78 #[.val (.long v0), .second, .val (.long v2), .second, .val (.long v4), .second, .val (.long v6), .second, .val (.long v8), .second, .val (.long v10), .second, .val (.long v12), .second, .val (.long v14), .second, .val (.long v16), .second, .val (.long v18), .second, .val (.long v20), .second, .unset, .unset, .unset, .unset, .unset, .unset, .unset, .unset, .unset, .unset, .unset] [(.long v20)])) _
    refine XS.lload X0.here hx rfl (hb hby at_78) rfl  ?_
    show Steps p.tables e below (T0.setTop (mkF m 80 #[.val (.long v0), .second, .val (.long v2), .second, .val (.long v4), .second, .val (.long v6), .second, .val (.long v8), .second, .val (.long v10), .second, .val (.long v12), .second, .val (.long v14), .second, .val (.long v16), .second, .val (.long v18), .second, .val (.long v20), .second, .unset, .unset, .unset, .unset, .unset, .unset, .unset, .unset, .unset, .unset, .unset] [(.long v12), (.long v20)])) _
    refine XS.ladd X0.here hx rfl (hb hby at_80) rfl ?_
    show Steps p.tables e below (T0.setTop (mkF m 81 #[.val (.long v0), .second, .val (.long v2), .second, .val (.long v4), .second, .val (.long v6), .second, .val (.long v8), .second, .val (.long v10), .second, .val (.long v12), .second, .val (.long v14), .second, .val (.long v16), .second, .val (.long v18), .second, .val (.long v20), .second, .unset, .unset, .unset, .unset, .unset, .unset, .unset, .unset, .unset, .unset, .unset] [(.long (v20 + v12))])) _
    refine XS.lstore X0.here hx rfl (hb hby at_81) rfl (l' := #[.val (.long v0), .second, .val (.long v2), .second, .val (.long v4), .second, .val (.long v6), .second, .val (.long v8), .second, .val (.long v10), .second, .val (.long v12), .second, .val (.long v14), .second, .val (.long v16), .second, .val (.long v18), .second, .val (.long v20), .second, .val (.long (v20 + v12)), .second, .unset, .unset, .unset, .unset, .unset, .unset, .unset, .unset, .unset]) rfl ?_
    show Steps p.tables e below (T0.setTop (mkF m 83 #[.val (.long v0), .second, .val (.long v2), .second, .val (.long v4), .second, .val (.long v6), .second, .val (.long v8), .second, .val (.long v10), .second, .val (.long v12), .second, .val (.long v14), .second, .val (.long v16), .second, .val (.long v18), .second, .val (.long v20), .second, .val (.long (v20 + v12)), .second, .unset, .unset, .unset, .unset, .unset, .unset, .unset, .unset, .unset] [])) _
    refine XS.lload X0.here hx rfl (hb hby at_83) rfl  ?_
    show Steps p.tables e below (T0.setTop (mkF m 85 #[.val (.long v0), .second, .val (.long v2), .second, .val (.long v4), .second, .val (.long v6), .second, .val (.long v8), .second, .val (.long v10), .second, .val (.long v12), .second, .val (.long v14), .second, .val (.long v16), .second, .val (.long v18), .second, .val (.long v20), .second, .val (.long (v20 + v12)), .second, .unset, .unset, .unset, .unset, .unset, .unset, .unset, .unset, .unset] [(.long (v20 + v12))])) _
    refine XS.lload X0.here hx rfl (hb hby at_85) rfl  ?_
    show Steps p.tables e below (T0.setTop (mkF m 87 #[.val (.long v0), .second, .val (.long v2), .second, .val (.long v4), .second, .val (.long v6), .second, .val (.long v8), .second, .val (.long v10), .second, .val (.long v12), .second, .val (.long v14), .second, .val (.long v16), .second, .val (.long v18), .second, .val (.long v20), .second, .val (.long (v20 + v12)), .second, .unset, .unset, .unset, .unset, .unset, .unset, .unset, .unset, .unset] [(.long v18), (.long (v20 + v12))])) _
    refine XS.lsub X0.here hx rfl (hb hby at_87) rfl ?_
    show Steps p.tables e below (T0.setTop (mkF m 88 #[.val (.long v0), .second, .val (.long v2), .second, .val (.long v4), .second, .val (.long v6), .second, .val (.long v8), .second, .val (.long v10), .second, .val (.long v12), .second, .val (.long v14), .second, .val (.long v16), .second, .val (.long v18), .second, .val (.long v20), .second, .val (.long (v20 + v12)), .second, .unset, .unset, .unset, .unset, .unset, .unset, .unset, .unset, .unset] [(.long ((v20 + v12) - v18))])) _
    refine XS.lload X0.here hx rfl (hb hby at_88) rfl  ?_
    show Steps p.tables e below (T0.setTop (mkF m 90 #[.val (.long v0), .second, .val (.long v2), .second, .val (.long v4), .second, .val (.long v6), .second, .val (.long v8), .second, .val (.long v10), .second, .val (.long v12), .second, .val (.long v14), .second, .val (.long v16), .second, .val (.long v18), .second, .val (.long v20), .second, .val (.long (v20 + v12)), .second, .unset, .unset, .unset, .unset, .unset, .unset, .unset, .unset, .unset] [(.long v8), (.long ((v20 + v12) - v18))])) _
    refine XS.lcmp X0.here hx rfl (hb hby at_90) rfl ?_
    exact k
  by_cases hc91 : ((v20 + v12) - v18) < v8
  · rw [if_pos hc91] at hr
    refine Fin.by (B := T0.setTop (mkF m 102 #[.val (.long v0), .second, .val (.long v2), .second, .val (.long v4), .second, .val (.long v6), .second, .val (.long v8), .second, .val (.long v10), .second, .val (.long v12), .second, .val (.long v14), .second, .val (.long v16), .second, .val (.long v18), .second, .val (.long v20), .second, .val (.long (v20 + v12)), .second, .unset, .unset, .unset, .unset, .unset, .unset, .unset, .unset, .unset] [])) (fun t k => ?_) ?_
    · show Steps p.tables e below (T0.setTop (mkF m 91 #[.val (.long v0), .second, .val (.long v2), .second, .val (.long v4), .second, .val (.long v6), .second, .val (.long v8), .second, .val (.long v10), .second, .val (.long v12), .second, .val (.long v14), .second, .val (.long v16), .second, .val (.long v18), .second, .val (.long v20), .second, .val (.long (v20 + v12)), .second, .unset, .unset, .unset, .unset, .unset, .unset, .unset, .unset, .unset] [(.int (lcmpW ((v20 + v12) - v18) v8))])) _
      exact XS.ifYes X0.here hx rfl (pc0 := 91) (pc' := 102) rfl (hb hby at_91) rfl ((if0 _ _).trans (tlt ((lw_lt _ _).mpr hc91)).1) (by decide) (by decide) k
    refine Fin.by (B := T0.setTop (mkF m 107 #[.val (.long v0), .second, .val (.long v2), .second, .val (.long v4), .second, .val (.long v6), .second, .val (.long v8), .second, .val (.long v10), .second, .val (.long v12), .second, .val (.long v14), .second, .val (.long v16), .second, .val (.long v18), .second, .val (.long v20), .second, .val (.long (v20 + v12)), .second, .unset, .unset, .unset, .unset, .unset, .unset, .unset, .unset, .unset] [(.long (v18 + v8))])) (fun t k => ?_) ?_
    · show Steps p.tables e below (T0.setTop (mkF m 102 #[.val (.long v0), .second, .val (.long v2), .second, .val (.long v4), .second, .val (.long v6), .second, .val (.long v8), .second, .val (.long v10), .second, .val (.long v12), .second, .val (.long v14), .second, .val (.long v16), .second, .val (.long v18), .second, .val (.long v20), .second, .val (.long (v20 + v12)), .second, .unset, .unset, .unset, .unset, .unset, .unset, .unset, .unset, .unset] [])) _
      refine XS.lload X0.here hx rfl (hb hby at_102) rfl  ?_
      show Steps p.tables e below (T0.setTop (mkF m 104 #[.val (.long v0), .second, .val (.long v2), .second, .val (.long v4), .second, .val (.long v6), .second, .val (.long v8), .second, .val (.long v10), .second, .val (.long v12), .second, .val (.long v14), .second, .val (.long v16), .second, .val (.long v18), .second, .val (.long v20), .second, .val (.long (v20 + v12)), .second, .unset, .unset, .unset, .unset, .unset, .unset, .unset, .unset, .unset] [(.long v18)])) _
      refine XS.lload X0.here hx rfl (hb hby at_104) rfl  ?_
      show Steps p.tables e below (T0.setTop (mkF m 106 #[.val (.long v0), .second, .val (.long v2), .second, .val (.long v4), .second, .val (.long v6), .second, .val (.long v8), .second, .val (.long v10), .second, .val (.long v12), .second, .val (.long v14), .second, .val (.long v16), .second, .val (.long v18), .second, .val (.long v20), .second, .val (.long (v20 + v12)), .second, .unset, .unset, .unset, .unset, .unset, .unset, .unset, .unset, .unset] [(.long v8), (.long v18)])) _
      refine XS.ladd X0.here hx rfl (hb hby at_106) rfl ?_
      exact k
    exact b0_107 ⟨hx, hZ, hw, hby, hml, hret, hown, hnm, hlk⟩ h0 n0 v0 v2 v4 v6 v8 v10 v12 v14 v16 v18 v20 (v20 + v12) (v18 + v8) X0 e0 N0 Z0  _ hr
  · rw [if_neg hc91] at hr
    refine Fin.by (B := T0.setTop (mkF m 94 #[.val (.long v0), .second, .val (.long v2), .second, .val (.long v4), .second, .val (.long v6), .second, .val (.long v8), .second, .val (.long v10), .second, .val (.long v12), .second, .val (.long v14), .second, .val (.long v16), .second, .val (.long v18), .second, .val (.long v20), .second, .val (.long (v20 + v12)), .second, .unset, .unset, .unset, .unset, .unset, .unset, .unset, .unset, .unset] [])) (fun t k => ?_) ?_
    · show Steps p.tables e below (T0.setTop (mkF m 91 #[.val (.long v0), .second, .val (.long v2), .second, .val (.long v4), .second, .val (.long v6), .second, .val (.long v8), .second, .val (.long v10), .second, .val (.long v12), .second, .val (.long v14), .second, .val (.long v16), .second, .val (.long v18), .second, .val (.long v20), .second, .val (.long (v20 + v12)), .second, .unset, .unset, .unset, .unset, .unset, .unset, .unset, .unset, .unset] [(.int (lcmpW ((v20 + v12) - v18) v8))])) _
      exact XS.ifNo X0.here hx rfl (hb hby at_91) rfl ((if0 _ _).trans (flt (fun q => hc91 ((lw_lt _ _).mp q))).1) k
    refine Fin.by (B := T0.setTop (mkF m 107 #[.val (.long v0), .second, .val (.long v2), .second, .val (.long v4), .second, .val (.long v6), .second, .val (.long v8), .second, .val (.long v10), .second, .val (.long v12), .second, .val (.long v14), .second, .val (.long v16), .second, .val (.long v18), .second, .val (.long v20), .second, .val (.long (v20 + v12)), .second, .unset, .unset, .unset, .unset, .unset, .unset, .unset, .unset, .unset] [(.long ((v20 + v12) + v8))])) (fun t k => ?_) ?_
    · show Steps p.tables e below (T0.setTop (mkF m 94 #[.val (.long v0), .second, .val (.long v2), .second, .val (.long v4), .second, .val (.long v6), .second, .val (.long v8), .second, .val (.long v10), .second, .val (.long v12), .second, .val (.long v14), .second, .val (.long v16), .second, .val (.long v18), .second, .val (.long v20), .second, .val (.long (v20 + v12)), .second, .unset, .unset, .unset, .unset, .unset, .unset, .unset, .unset, .unset] [])) _
      refine XS.lload X0.here hx rfl (hb hby at_94) rfl  ?_
      show Steps p.tables e below (T0.setTop (mkF m 96 #[.val (.long v0), .second, .val (.long v2), .second, .val (.long v4), .second, .val (.long v6), .second, .val (.long v8), .second, .val (.long v10), .second, .val (.long v12), .second, .val (.long v14), .second, .val (.long v16), .second, .val (.long v18), .second, .val (.long v20), .second, .val (.long (v20 + v12)), .second, .unset, .unset, .unset, .unset, .unset, .unset, .unset, .unset, .unset] [(.long (v20 + v12))])) _
      refine XS.lload X0.here hx rfl (hb hby at_96) rfl  ?_
      show Steps p.tables e below (T0.setTop (mkF m 98 #[.val (.long v0), .second, .val (.long v2), .second, .val (.long v4), .second, .val (.long v6), .second, .val (.long v8), .second, .val (.long v10), .second, .val (.long v12), .second, .val (.long v14), .second, .val (.long v16), .second, .val (.long v18), .second, .val (.long v20), .second, .val (.long (v20 + v12)), .second, .unset, .unset, .unset, .unset, .unset, .unset, .unset, .unset, .unset] [(.long v8), (.long (v20 + v12))])) _
      refine XS.ladd X0.here hx rfl (hb hby at_98) rfl ?_
      show Steps p.tables e below (T0.setTop (mkF m 99 #[.val (.long v0), .second, .val (.long v2), .second, .val (.long v4), .second, .val (.long v6), .second, .val (.long v8), .second, .val (.long v10), .second, .val (.long v12), .second, .val (.long v14), .second, .val (.long v16), .second, .val (.long v18), .second, .val (.long v20), .second, .val (.long (v20 + v12)), .second, .unset, .unset, .unset, .unset, .unset, .unset, .unset, .unset, .unset] [(.long ((v20 + v12) + v8))])) _
      refine XS.goto X0.here hx rfl (pc0 := 99) (pc' := 107) rfl (hb hby at_99) (by decide) (by decide) ?_
      exact k
    exact b0_107 ⟨hx, hZ, hw, hby, hml, hret, hown, hnm, hlk⟩ h0 n0 v0 v2 v4 v6 v8 v10 v12 v14 v16 v18 v20 (v20 + v12) ((v20 + v12) + v8) X0 e0 N0 Z0  _ hr
def f0_62 (v0 : Int64) (v2 : Int64) (v4 : Int64) (v6 : Int64) (v8 : Int64) (v10 : Int64) (v12 : Int64) (v14 : Int64) (v16 : Int64) (t0 : Int64) : Int32 := (f0_76 v0 v2 v4 v6 v8 v10 v12 v14 v16 t0 (f1_0 t0 (v16 + v14)))
set_option maxRecDepth 65536 in
set_option maxHeartbeats 40000000 in
theorem b0_62 {p : Program} {l : Launch} {e : Env} {s : State} {m : MethodId} {args : Array Value} {below : List Frame} {meth : Method} {c : Code} {Z : State} {a0 : Array Value} (B : Ctx p Z s a0 m meth c "com/example/quietwire/quietwire/transport/TickScheduleTickedPinLaw" "law" code 33 (some .boolean)) {T0 : State} {locs : List Loc} {h : Heap} (h0 : Heap) (n0 : Nat) (v0 : Int64) (v2 : Int64) (v4 : Int64) (v6 : Int64) (v8 : Int64) (v10 : Int64) (v12 : Int64) (v14 : Int64) (v16 : Int64) (t0 : Int64) (X0 : Stand p l e room_1 s m args below meth c T0 locs 0 0) (e0 : T0.heap = h) (N0 : Fr n0 locs) (Z0 : n0 ≤ h.size) (r : Int32) (hr : f0_62 v0 v2 v4 v6 v8 v10 v12 v14 v16 t0 = r) :
    Fin p e below s 1 4 (Q0 n0 r) (T0.setTop (mkF m 62 #[.val (.long v0), .second, .val (.long v2), .second, .val (.long v4), .second, .val (.long v6), .second, .val (.long v8), .second, .val (.long v10), .second, .val (.long v12), .second, .val (.long v14), .second, .val (.long v16), .second, .unset, .unset, .unset, .unset, .unset, .unset, .unset, .unset, .unset, .unset, .unset, .unset, .unset, .unset, .unset] [(.long t0)])) := by
  obtain ⟨hx, hZ, hw, hby, hml, hret, hown, hnm, hlk⟩ := B
  unfold f0_62 at hr
  refine Fin.by (B := T0.setTop (mkF m 71 #[.val (.long v0), .second, .val (.long v2), .second, .val (.long v4), .second, .val (.long v6), .second, .val (.long v8), .second, .val (.long v10), .second, .val (.long v12), .second, .val (.long v14), .second, .val (.long v16), .second, .val (.long t0), .second, .unset, .unset, .unset, .unset, .unset, .unset, .unset, .unset, .unset, .unset, .unset, .unset, .unset] [(.long (v16 + v14)), (.long t0)])) (fun t k => ?_) ?_
  · show Steps p.tables e below (T0.setTop (mkF m 62 #[.val (.long v0), .second, .val (.long v2), .second, .val (.long v4), .second, .val (.long v6), .second, .val (.long v8), .second, .val (.long v10), .second, .val (.long v12), .second, .val (.long v14), .second, .val (.long v16), .second, .unset, .unset, .unset, .unset, .unset, .unset, .unset, .unset, .unset, .unset, .unset, .unset, .unset, .unset, .unset] [(.long t0)])) _
    refine XS.lstore X0.here hx rfl (hb hby at_62) rfl (l' := #[.val (.long v0), .second, .val (.long v2), .second, .val (.long v4), .second, .val (.long v6), .second, .val (.long v8), .second, .val (.long v10), .second, .val (.long v12), .second, .val (.long v14), .second, .val (.long v16), .second, .val (.long t0), .second, .unset, .unset, .unset, .unset, .unset, .unset, .unset, .unset, .unset, .unset, .unset, .unset, .unset]) rfl ?_
    show Steps p.tables e below (T0.setTop (mkF m 64 #[.val (.long v0), .second, .val (.long v2), .second, .val (.long v4), .second, .val (.long v6), .second, .val (.long v8), .second, .val (.long v10), .second, .val (.long v12), .second, .val (.long v14), .second, .val (.long v16), .second, .val (.long t0), .second, .unset, .unset, .unset, .unset, .unset, .unset, .unset, .unset, .unset, .unset, .unset, .unset, .unset] [])) _
    refine XS.lload X0.here hx rfl (hb hby at_64) rfl  ?_
    show Steps p.tables e below (T0.setTop (mkF m 66 #[.val (.long v0), .second, .val (.long v2), .second, .val (.long v4), .second, .val (.long v6), .second, .val (.long v8), .second, .val (.long v10), .second, .val (.long v12), .second, .val (.long v14), .second, .val (.long v16), .second, .val (.long t0), .second, .unset, .unset, .unset, .unset, .unset, .unset, .unset, .unset, .unset, .unset, .unset, .unset, .unset] [(.long t0)])) _
    refine XS.lload X0.here hx rfl (hb hby at_66) rfl  ?_
    show Steps p.tables e below (T0.setTop (mkF m 68 #[.val (.long v0), .second, .val (.long v2), .second, .val (.long v4), .second, .val (.long v6), .second, .val (.long v8), .second, .val (.long v10), .second, .val (.long v12), .second, .val (.long v14), .second, .val (.long v16), .second, .val (.long t0), .second, .unset, .unset, .unset, .unset, .unset, .unset, .unset, .unset, .unset, .unset, .unset, .unset, .unset] [(.long v16), (.long t0)])) _
    refine XS.lload X0.here hx rfl (hb hby at_68) rfl  ?_
    show Steps p.tables e below (T0.setTop (mkF m 70 #[.val (.long v0), .second, .val (.long v2), .second, .val (.long v4), .second, .val (.long v6), .second, .val (.long v8), .second, .val (.long v10), .second, .val (.long v12), .second, .val (.long v14), .second, .val (.long v16), .second, .val (.long t0), .second, .unset, .unset, .unset, .unset, .unset, .unset, .unset, .unset, .unset, .unset, .unset, .unset, .unset] [(.long v14), (.long v16), (.long t0)])) _
    refine XS.ladd X0.here hx rfl (hb hby at_70) rfl ?_
    exact k
  -- pc 71: java/lang/Math.max
  obtain ⟨_, _, ⟨T1, L1, k1, n1⟩, -, X1, ⟨Lc1, hQ1, l1, y1, z1⟩, st1⟩ := Jvm.LawKit.callS X0 hx (y := (⟨"java/lang/Math", "max", "(JJ)J"⟩ : MethodName)) hown (mvT hZ (hw _ (List.mem_of_getElem? (i := 3) rfl))) (mvT hZ (hw _ (List.mem_of_getElem? (i := 4) rfl))) (mvT hZ (hw _ (List.mem_of_getElem? (i := 5) rfl))) (mvT hZ (hw _ (List.mem_of_getElem? (i := 6) rfl))) (by decide) (backOf (W := 0) (rm1 l Z a0 hw [] t0 (v16 + v14) h n0 Z0 ) hZ (hw _ (List.mem_of_getElem? (i := 6) rfl)) (hw _ (List.mem_of_getElem? (i := 5) rfl)) (by decide) (by decide)) (g := (mkF m 71 #[.val (.long v0), .second, .val (.long v2), .second, .val (.long v4), .second, .val (.long v6), .second, .val (.long v8), .second, .val (.long v10), .second, .val (.long v12), .second, .val (.long v14), .second, .val (.long v16), .second, .val (.long t0), .second, .unset, .unset, .unset, .unset, .unset, .unset, .unset, .unset, .unset, .unset, .unset, .unset, .unset] [(.long (v16 + v14)), (.long t0)])) rfl (by rw [hml]; rfl) (argsL := [(.long t0), (.long (v16 + v14))]) (rest := []) (lenOf pd_0 rfl) rfl (by show 2 * 0 + _ ≤ _; exact Nat.le_of_eq rfl) (hb hby at_71) (fun _ _ => ⟨rfl, e0, (by decide : 0 + R1.cells ≤ _), (by decide : 0 + R1.slots ≤ _)⟩)
  dsimp only [Pt.U, Pt.locs, Pt.cells, Pt.slots] at X1 l1 y1 z1 st1 hQ1
  subst l1 y1 z1
  obtain ⟨rfl, Nq1, e1⟩ := hQ1
  have N1 := Fr.app N0 Nq1
  refine Fin.by (B := T1.setTop (mkF m 74 #[.val (.long v0), .second, .val (.long v2), .second, .val (.long v4), .second, .val (.long v6), .second, .val (.long v8), .second, .val (.long v10), .second, .val (.long v12), .second, .val (.long v14), .second, .val (.long v16), .second, .val (.long t0), .second, .unset, .unset, .unset, .unset, .unset, .unset, .unset, .unset, .unset, .unset, .unset, .unset, .unset] [(.long (f1_0 t0 (v16 + v14)))])) (fun t k => st1 t k) ?_
  refine Fin.by (B := T1.setTop (mkF m 76 #[.val (.long v0), .second, .val (.long v2), .second, .val (.long v4), .second, .val (.long v6), .second, .val (.long v8), .second, .val (.long v10), .second, .val (.long v12), .second, .val (.long v14), .second, .val (.long v16), .second, .val (.long t0), .second, .val (.long (f1_0 t0 (v16 + v14))), .second, .unset, .unset, .unset, .unset, .unset, .unset, .unset, .unset, .unset, .unset, .unset] [])) (fun t k => ?_) ?_
  · show Steps p.tables e below (T1.setTop (mkF m 74 #[.val (.long v0), .second, .val (.long v2), .second, .val (.long v4), .second, .val (.long v6), .second, .val (.long v8), .second, .val (.long v10), .second, .val (.long v12), .second, .val (.long v14), .second, .val (.long v16), .second, .val (.long t0), .second, .unset, .unset, .unset, .unset, .unset, .unset, .unset, .unset, .unset, .unset, .unset, .unset, .unset] [(.long (f1_0 t0 (v16 + v14)))])) _
    refine XS.lstore X1.here hx rfl (hb hby at_74) rfl (l' := #[.val (.long v0), .second, .val (.long v2), .second, .val (.long v4), .second, .val (.long v6), .second, .val (.long v8), .second, .val (.long v10), .second, .val (.long v12), .second, .val (.long v14), .second, .val (.long v16), .second, .val (.long t0), .second, .val (.long (f1_0 t0 (v16 + v14))), .second, .unset, .unset, .unset, .unset, .unset, .unset, .unset, .unset, .unset, .unset, .unset]) rfl ?_
    exact k
  exact b0_76 ⟨hx, hZ, hw, hby, hml, hret, hown, hnm, hlk⟩ h0 n0 v0 v2 v4 v6 v8 v10 v12 v14 v16 t0 (f1_0 t0 (v16 + v14)) X1 e1 N1 Z0  _ hr
def f0_36 (v0 : Int64) (v2 : Int64) (v4 : Int64) (v6 : Int64) (v8 : Int64) (v10 : Int64) (v12 : Int64) (v14 : Int64) : Int32 := (if (v10 - (0 : Int64)) < v8 then (f0_62 v0 v2 v4 v6 v8 v10 v12 v14 v10 ((0 : Int64) + v8)) else (f0_62 v0 v2 v4 v6 v8 v10 v12 v14 v10 (v10 + v8)))
set_option maxRecDepth 65536 in
set_option maxHeartbeats 40000000 in
theorem b0_36 {p : Program} {l : Launch} {e : Env} {s : State} {m : MethodId} {args : Array Value} {below : List Frame} {meth : Method} {c : Code} {Z : State} {a0 : Array Value} (B : Ctx p Z s a0 m meth c "com/example/quietwire/quietwire/transport/TickScheduleTickedPinLaw" "law" code 33 (some .boolean)) {T0 : State} {locs : List Loc} {h : Heap} (h0 : Heap) (n0 : Nat) (v0 : Int64) (v2 : Int64) (v4 : Int64) (v6 : Int64) (v8 : Int64) (v10 : Int64) (v12 : Int64) (v14 : Int64) (X0 : Stand p l e room_1 s m args below meth c T0 locs 0 0) (e0 : T0.heap = h) (N0 : Fr n0 locs) (Z0 : n0 ≤ h.size) (r : Int32) (hr : f0_36 v0 v2 v4 v6 v8 v10 v12 v14 = r) :
    Fin p e below s 1 4 (Q0 n0 r) (T0.setTop (mkF m 36 #[.val (.long v0), .second, .val (.long v2), .second, .val (.long v4), .second, .val (.long v6), .second, .val (.long v8), .second, .val (.long v10), .second, .val (.long v12), .second, .val (.long v14), .second, .unset, .unset, .unset, .unset, .unset, .unset, .unset, .unset, .unset, .unset, .unset, .unset, .unset, .unset, .unset, .unset, .unset] [])) := by
  obtain ⟨hx, hZ, hw, hby, hml, hret, hown, hnm, hlk⟩ := B
  unfold f0_36 at hr
  refine Fin.by (B := T0.setTop (mkF m 47 #[.val (.long v0), .second, .val (.long v2), .second, .val (.long v4), .second, .val (.long v6), .second, .val (.long v8), .second, .val (.long v10), .second, .val (.long v12), .second, .val (.long v14), .second, .val (.long v10), .second, .unset, .unset, .unset, .unset, .unset, .unset, .unset, .unset, .unset, .unset, .unset, .unset, .unset, .unset, .unset] [(.int (lcmpW (v10 - (0 : Int64)) v8))])) (fun t k => ?_) ?_
  · show Steps p.tables e below (T0.setTop (mkF m 36 #[.val (.long v0), .second, .val (.long v2), .second, .val (.long v4), .second, .val (.long v6), .second, .val (.long v8), .second, .val (.long v10), .second, .val (.long v12), .second, .val (.long v14), .second, .unset, .unset, .unset, .unset, .unset, .unset, .unset, .unset, .unset, .unset, .unset, .unset, .unset, .unset, .unset, .unset, .unset] [])) _
    refine XS.lload X0.here hx rfl (hb hby at_36) rfl  ?_
    show Steps p.tables e below (T0.setTop (mkF m 38 #[.val (.long v0), .second, .val (.long v2), .second, .val (.long v4), .second, .val (.long v6), .second, .val (.long v8), .second, .val (.long v10), .second, .val (.long v12), .second, .val (.long v14), .second, .unset, .unset, .unset, .unset, .unset, .unset, .unset, .unset, .unset, .unset, .unset, .unset, .unset, .unset, .unset, .unset, .unset] [(.long v10)])) _
    refine XS.lstore X0.here hx rfl (hb hby at_38) rfl (l' := #[.val (.long v0), .second, .val (.long v2), .second, .val (.long v4), .second, .val (.long v6), .second, .val (.long v8), .second, .val (.long v10), .second, .val (.long v12), .second, .val (.long v14), .second, .val (.long v10), .second, .unset, .unset, .unset, .unset, .unset, .unset, .unset, .unset, .unset, .unset, .unset, .unset, .unset, .unset, .unset]) rfl ?_
    show Steps p.tables e below (T0.setTop (mkF m 40 #[.val (.long v0), .second, .val (.long v2), .second, .val (.long v4), .second, .val (.long v6), .second, .val (.long v8), .second, .val (.long v10), .second, .val (.long v12), .second, .val (.long v14), .second, .val (.long v10), .second, .unset, .unset, .unset, .unset, .unset, .unset, .unset, .unset, .unset, .unset, .unset, .unset, .unset, .unset, .unset] [])) _
    refine XS.lload X0.here hx rfl (hb hby at_40) rfl  ?_
    show Steps p.tables e below (T0.setTop (mkF m 42 #[.val (.long v0), .second, .val (.long v2), .second, .val (.long v4), .second, .val (.long v6), .second, .val (.long v8), .second, .val (.long v10), .second, .val (.long v12), .second, .val (.long v14), .second, .val (.long v10), .second, .unset, .unset, .unset, .unset, .unset, .unset, .unset, .unset, .unset, .unset, .unset, .unset, .unset, .unset, .unset] [(.long v10)])) _
    refine XS.lconst X0.here hx rfl (hb hby at_42) ?_
    show Steps p.tables e below (T0.setTop (mkF m 43 #[.val (.long v0), .second, .val (.long v2), .second, .val (.long v4), .second, .val (.long v6), .second, .val (.long v8), .second, .val (.long v10), .second, .val (.long v12), .second, .val (.long v14), .second, .val (.long v10), .second, .unset, .unset, .unset, .unset, .unset, .unset, .unset, .unset, .unset, .unset, .unset, .unset, .unset, .unset, .unset] [(.long (0 : Int64)), (.long v10)])) _
    refine XS.lsub X0.here hx rfl (hb hby at_43) rfl ?_
    show Steps p.tables e below (T0.setTop (mkF m 44 #[.val (.long v0), .second, .val (.long v2), .second, .val (.long v4), .second, .val (.long v6), .second, .val (.long v8), .second, .val (.long v10), .second, .val (.long v12), .second, .val (.long v14), .second, .val (.long v10), .second, .unset, .unset, .unset, .unset, .unset, .unset, .unset, .unset, .unset, .unset, .unset, .unset, .unset, .unset, .unset] [(.long (v10 - (0 : Int64)))])) _
    refine XS.lload X0.here hx rfl (hb hby at_44) rfl  ?_
    show Steps p.tables e below (T0.setTop (mkF m 46 #[.val (.long v0), .second, .val (.long v2), .second, .val (.long v4), .second, .val (.long v6), .second, .val (.long v8), .second, .val (.long v10), .second, .val (.long v12), .second, .val (.long v14), .second, .val (.long v10), .second, .unset, .unset, .unset, .unset, .unset, .unset, .unset, .unset, .unset, .unset, .unset, .unset, .unset, .unset, .unset] [(.long v8), (.long (v10 - (0 : Int64)))])) _
    refine XS.lcmp X0.here hx rfl (hb hby at_46) rfl ?_
    exact k
  by_cases hc47 : (v10 - (0 : Int64)) < v8
  · rw [if_pos hc47] at hr
    refine Fin.by (B := T0.setTop (mkF m 58 #[.val (.long v0), .second, .val (.long v2), .second, .val (.long v4), .second, .val (.long v6), .second, .val (.long v8), .second, .val (.long v10), .second, .val (.long v12), .second, .val (.long v14), .second, .val (.long v10), .second, .unset, .unset, .unset, .unset, .unset, .unset, .unset, .unset, .unset, .unset, .unset, .unset, .unset, .unset, .unset] [])) (fun t k => ?_) ?_
    · show Steps p.tables e below (T0.setTop (mkF m 47 #[.val (.long v0), .second, .val (.long v2), .second, .val (.long v4), .second, .val (.long v6), .second, .val (.long v8), .second, .val (.long v10), .second, .val (.long v12), .second, .val (.long v14), .second, .val (.long v10), .second, .unset, .unset, .unset, .unset, .unset, .unset, .unset, .unset, .unset, .unset, .unset, .unset, .unset, .unset, .unset] [(.int (lcmpW (v10 - (0 : Int64)) v8))])) _
      exact XS.ifYes X0.here hx rfl (pc0 := 47) (pc' := 58) rfl (hb hby at_47) rfl ((if0 _ _).trans (tlt ((lw_lt _ _).mpr hc47)).1) (by decide) (by decide) k
    refine Fin.by (B := T0.setTop (mkF m 62 #[.val (.long v0), .second, .val (.long v2), .second, .val (.long v4), .second, .val (.long v6), .second, .val (.long v8), .second, .val (.long v10), .second, .val (.long v12), .second, .val (.long v14), .second, .val (.long v10), .second, .unset, .unset, .unset, .unset, .unset, .unset, .unset, .unset, .unset, .unset, .unset, .unset, .unset, .unset, .unset] [(.long ((0 : Int64) + v8))])) (fun t k => ?_) ?_
    · show Steps p.tables e below (T0.setTop (mkF m 58 #[.val (.long v0), .second, .val (.long v2), .second, .val (.long v4), .second, .val (.long v6), .second, .val (.long v8), .second, .val (.long v10), .second, .val (.long v12), .second, .val (.long v14), .second, .val (.long v10), .second, .unset, .unset, .unset, .unset, .unset, .unset, .unset, .unset, .unset, .unset, .unset, .unset, .unset, .unset, .unset] [])) _
      refine XS.lconst X0.here hx rfl (hb hby at_58) ?_
      show Steps p.tables e below (T0.setTop (mkF m 59 #[.val (.long v0), .second, .val (.long v2), .second, .val (.long v4), .second, .val (.long v6), .second, .val (.long v8), .second, .val (.long v10), .second, .val (.long v12), .second, .val (.long v14), .second, .val (.long v10), .second, .unset, .unset, .unset, .unset, .unset, .unset, .unset, .unset, .unset, .unset, .unset, .unset, .unset, .unset, .unset] [(.long (0 : Int64))])) _
      refine XS.lload X0.here hx rfl (hb hby at_59) rfl  ?_
      show Steps p.tables e below (T0.setTop (mkF m 61 #[.val (.long v0), .second, .val (.long v2), .second, .val (.long v4), .second, .val (.long v6), .second, .val (.long v8), .second, .val (.long v10), .second, .val (.long v12), .second, .val (.long v14), .second, .val (.long v10), .second, .unset, .unset, .unset, .unset, .unset, .unset, .unset, .unset, .unset, .unset, .unset, .unset, .unset, .unset, .unset] [(.long v8), (.long (0 : Int64))])) _
      refine XS.ladd X0.here hx rfl (hb hby at_61) rfl ?_
      exact k
    exact b0_62 ⟨hx, hZ, hw, hby, hml, hret, hown, hnm, hlk⟩ h0 n0 v0 v2 v4 v6 v8 v10 v12 v14 v10 ((0 : Int64) + v8) X0 e0 N0 Z0  _ hr
  · rw [if_neg hc47] at hr
    refine Fin.by (B := T0.setTop (mkF m 50 #[.val (.long v0), .second, .val (.long v2), .second, .val (.long v4), .second, .val (.long v6), .second, .val (.long v8), .second, .val (.long v10), .second, .val (.long v12), .second, .val (.long v14), .second, .val (.long v10), .second, .unset, .unset, .unset, .unset, .unset, .unset, .unset, .unset, .unset, .unset, .unset, .unset, .unset, .unset, .unset] [])) (fun t k => ?_) ?_
    · show Steps p.tables e below (T0.setTop (mkF m 47 #[.val (.long v0), .second, .val (.long v2), .second, .val (.long v4), .second, .val (.long v6), .second, .val (.long v8), .second, .val (.long v10), .second, .val (.long v12), .second, .val (.long v14), .second, .val (.long v10), .second, .unset, .unset, .unset, .unset, .unset, .unset, .unset, .unset, .unset, .unset, .unset, .unset, .unset, .unset, .unset] [(.int (lcmpW (v10 - (0 : Int64)) v8))])) _
      exact XS.ifNo X0.here hx rfl (hb hby at_47) rfl ((if0 _ _).trans (flt (fun q => hc47 ((lw_lt _ _).mp q))).1) k
    refine Fin.by (B := T0.setTop (mkF m 62 #[.val (.long v0), .second, .val (.long v2), .second, .val (.long v4), .second, .val (.long v6), .second, .val (.long v8), .second, .val (.long v10), .second, .val (.long v12), .second, .val (.long v14), .second, .val (.long v10), .second, .unset, .unset, .unset, .unset, .unset, .unset, .unset, .unset, .unset, .unset, .unset, .unset, .unset, .unset, .unset] [(.long (v10 + v8))])) (fun t k => ?_) ?_
    · show Steps p.tables e below (T0.setTop (mkF m 50 #[.val (.long v0), .second, .val (.long v2), .second, .val (.long v4), .second, .val (.long v6), .second, .val (.long v8), .second, .val (.long v10), .second, .val (.long v12), .second, .val (.long v14), .second, .val (.long v10), .second, .unset, .unset, .unset, .unset, .unset, .unset, .unset, .unset, .unset, .unset, .unset, .unset, .unset, .unset, .unset] [])) _
      refine XS.lload X0.here hx rfl (hb hby at_50) rfl  ?_
      show Steps p.tables e below (T0.setTop (mkF m 52 #[.val (.long v0), .second, .val (.long v2), .second, .val (.long v4), .second, .val (.long v6), .second, .val (.long v8), .second, .val (.long v10), .second, .val (.long v12), .second, .val (.long v14), .second, .val (.long v10), .second, .unset, .unset, .unset, .unset, .unset, .unset, .unset, .unset, .unset, .unset, .unset, .unset, .unset, .unset, .unset] [(.long v10)])) _
      refine XS.lload X0.here hx rfl (hb hby at_52) rfl  ?_
      show Steps p.tables e below (T0.setTop (mkF m 54 #[.val (.long v0), .second, .val (.long v2), .second, .val (.long v4), .second, .val (.long v6), .second, .val (.long v8), .second, .val (.long v10), .second, .val (.long v12), .second, .val (.long v14), .second, .val (.long v10), .second, .unset, .unset, .unset, .unset, .unset, .unset, .unset, .unset, .unset, .unset, .unset, .unset, .unset, .unset, .unset] [(.long v8), (.long v10)])) _
      refine XS.ladd X0.here hx rfl (hb hby at_54) rfl ?_
      show Steps p.tables e below (T0.setTop (mkF m 55 #[.val (.long v0), .second, .val (.long v2), .second, .val (.long v4), .second, .val (.long v6), .second, .val (.long v8), .second, .val (.long v10), .second, .val (.long v12), .second, .val (.long v14), .second, .val (.long v10), .second, .unset, .unset, .unset, .unset, .unset, .unset, .unset, .unset, .unset, .unset, .unset, .unset, .unset, .unset, .unset] [(.long (v10 + v8))])) _
      refine XS.goto X0.here hx rfl (pc0 := 55) (pc' := 62) rfl (hb hby at_55) (by decide) (by decide) ?_
      exact k
    exact b0_62 ⟨hx, hZ, hw, hby, hml, hret, hown, hnm, hlk⟩ h0 n0 v0 v2 v4 v6 v8 v10 v12 v14 v10 (v10 + v8) X0 e0 N0 Z0  _ hr
def f0_0 (v0 : Int64) (v2 : Int64) (v4 : Int64) (v6 : Int64) : Int32 := (f0_36 v0 v2 v4 v6 ((1 : Int64) + (v0 &&& (1099511627775 : Int64))) (v4 &&& (2199023255551 : Int64)) (v6 &&& (2199023255551 : Int64)) (((1 : Int64) + (v0 &&& (1099511627775 : Int64))) - (((1 : Int64) + (v0 &&& (1099511627775 : Int64))) / (10 : Int64))))
set_option maxRecDepth 65536 in
set_option maxHeartbeats 40000000 in
theorem b0_0 {p : Program} {l : Launch} {e : Env} {s : State} {m : MethodId} {args : Array Value} {below : List Frame} {meth : Method} {c : Code} {Z : State} {a0 : Array Value} (B : Ctx p Z s a0 m meth c "com/example/quietwire/quietwire/transport/TickScheduleTickedPinLaw" "law" code 33 (some .boolean)) {T0 : State} {locs : List Loc} {h : Heap} (h0 : Heap) (n0 : Nat) (v0 : Int64) (v2 : Int64) (v4 : Int64) (v6 : Int64) (X0 : Stand p l e room_1 s m args below meth c T0 locs 0 0) (e0 : T0.heap = h) (N0 : Fr n0 locs) (Z0 : n0 ≤ h.size) (r : Int32) (hr : f0_0 v0 v2 v4 v6 = r) :
    Fin p e below s 1 4 (Q0 n0 r) (T0.setTop (mkF m 0 #[.val (.long v0), .second, .val (.long v2), .second, .val (.long v4), .second, .val (.long v6), .second, .unset, .unset, .unset, .unset, .unset, .unset, .unset, .unset, .unset, .unset, .unset, .unset, .unset, .unset, .unset, .unset, .unset, .unset, .unset, .unset, .unset, .unset, .unset, .unset, .unset] [])) := by
  obtain ⟨hx, hZ, hw, hby, hml, hret, hown, hnm, hlk⟩ := B
  unfold f0_0 at hr
  refine Fin.by (B := T0.setTop (mkF m 32 #[.val (.long v0), .second, .val (.long v2), .second, .val (.long v4), .second, .val (.long v6), .second, .val (.long ((1 : Int64) + (v0 &&& (1099511627775 : Int64)))), .second, .val (.long (v4 &&& (2199023255551 : Int64))), .second, .val (.long (v6 &&& (2199023255551 : Int64))), .second, .unset, .unset, .unset, .unset, .unset, .unset, .unset, .unset, .unset, .unset, .unset, .unset, .unset, .unset, .unset, .unset, .unset, .unset, .unset] [(.long (10 : Int64)), (.long ((1 : Int64) + (v0 &&& (1099511627775 : Int64)))), (.long ((1 : Int64) + (v0 &&& (1099511627775 : Int64))))])) (fun t k => ?_) ?_
  · show Steps p.tables e below (T0.setTop (mkF m 0 #[.val (.long v0), .second, .val (.long v2), .second, .val (.long v4), .second, .val (.long v6), .second, .unset, .unset, .unset, .unset, .unset, .unset, .unset, .unset, .unset, .unset, .unset, .unset, .unset, .unset, .unset, .unset, .unset, .unset, .unset, .unset, .unset, .unset, .unset, .unset, .unset] [])) _
    refine XS.lconst X0.here hx rfl (hb hby at_0) ?_
    show Steps p.tables e below (T0.setTop (mkF m 1 #[.val (.long v0), .second, .val (.long v2), .second, .val (.long v4), .second, .val (.long v6), .second, .unset, .unset, .unset, .unset, .unset, .unset, .unset, .unset, .unset, .unset, .unset, .unset, .unset, .unset, .unset, .unset, .unset, .unset, .unset, .unset, .unset, .unset, .unset, .unset, .unset] [(.long (1 : Int64))])) _
    refine XS.lloadN X0.here hx rfl (hb hby at_1) rfl  ?_
    show Steps p.tables e below (T0.setTop (mkF m 2 #[.val (.long v0), .second, .val (.long v2), .second, .val (.long v4), .second, .val (.long v6), .second, .unset, .unset, .unset, .unset, .unset, .unset, .unset, .unset, .unset, .unset, .unset, .unset, .unset, .unset, .unset, .unset, .unset, .unset, .unset, .unset, .unset, .unset, .unset, .unset, .unset] [(.long v0), (.long (1 : Int64))])) _
    refine X0.ldc2Long hx hown (mvT hZ (hw _ (List.mem_of_getElem? (i := 0) rfl))) (g := (mkF m 2 #[.val (.long v0), .second, .val (.long v2), .second, .val (.long v4), .second, .val (.long v6), .second, .unset, .unset, .unset, .unset, .unset, .unset, .unset, .unset, .unset, .unset, .unset, .unset, .unset, .unset, .unset, .unset, .unset, .unset, .unset, .unset, .unset, .unset, .unset, .unset, .unset] [(.long v0), (.long (1 : Int64))])) rfl (hb hby at_2) _ ?_
    show Steps p.tables e below (T0.setTop (mkF m 5 #[.val (.long v0), .second, .val (.long v2), .second, .val (.long v4), .second, .val (.long v6), .second, .unset, .unset, .unset, .unset, .unset, .unset, .unset, .unset, .unset, .unset, .unset, .unset, .unset, .unset, .unset, .unset, .unset, .unset, .unset, .unset, .unset, .unset, .unset, .unset, .unset] [(.long (1099511627775 : Int64)), (.long v0), (.long (1 : Int64))])) _
    refine XS.land X0.here hx rfl (hb hby at_5) rfl ?_
    show Steps p.tables e below (T0.setTop (mkF m 6 #[.val (.long v0), .second, .val (.long v2), .second, .val (.long v4), .second, .val (.long v6), .second, .unset, .unset, .unset, .unset, .unset, .unset, .unset, .unset, .unset, .unset, .unset, .unset, .unset, .unset, .unset, .unset, .unset, .unset, .unset, .unset, .unset, .unset, .unset, .unset, .unset] [(.long (v0 &&& (1099511627775 : Int64))), (.long (1 : Int64))])) _
    refine XS.ladd X0.here hx rfl (hb hby at_6) rfl ?_
    show Steps p.tables e below (T0.setTop (mkF m 7 #[.val (.long v0), .second, .val (.long v2), .second, .val (.long v4), .second, .val (.long v6), .second, .unset, .unset, .unset, .unset, .unset, .unset, .unset, .unset, .unset, .unset, .unset, .unset, .unset, .unset, .unset, .unset, .unset, .unset, .unset, .unset, .unset, .unset, .unset, .unset, .unset] [(.long ((1 : Int64) + (v0 &&& (1099511627775 : Int64))))])) _
    refine XS.lstore X0.here hx rfl (hb hby at_7) rfl (l' := #[.val (.long v0), .second, .val (.long v2), .second, .val (.long v4), .second, .val (.long v6), .second, .val (.long ((1 : Int64) + (v0 &&& (1099511627775 : Int64)))), .second, .unset, .unset, .unset, .unset, .unset, .unset, .unset, .unset, .unset, .unset, .unset, .unset, .unset, .unset, .unset, .unset, .unset, .unset, .unset, .unset, .unset, .unset, .unset]) rfl ?_
    show Steps p.tables e below (T0.setTop (mkF m 9 #[.val (.long v0), .second, .val (.long v2), .second, .val (.long v4), .second, .val (.long v6), .second, .val (.long ((1 : Int64) + (v0 &&& (1099511627775 : Int64)))), .second, .unset, .unset, .unset, .unset, .unset, .unset, .unset, .unset, .unset, .unset, .unset, .unset, .unset, .unset, .unset, .unset, .unset, .unset, .unset, .unset, .unset, .unset, .unset] [])) _
    refine XS.lload X0.here hx rfl (hb hby at_9) rfl  ?_
    show Steps p.tables e below (T0.setTop (mkF m 11 #[.val (.long v0), .second, .val (.long v2), .second, .val (.long v4), .second, .val (.long v6), .second, .val (.long ((1 : Int64) + (v0 &&& (1099511627775 : Int64)))), .second, .unset, .unset, .unset, .unset, .unset, .unset, .unset, .unset, .unset, .unset, .unset, .unset, .unset, .unset, .unset, .unset, .unset, .unset, .unset, .unset, .unset, .unset, .unset] [(.long v4)])) _
    refine X0.ldc2Long hx hown (mvT hZ (hw _ (List.mem_of_getElem? (i := 1) rfl))) (g := (mkF m 11 #[.val (.long v0), .second, .val (.long v2), .second, .val (.long v4), .second, .val (.long v6), .second, .val (.long ((1 : Int64) + (v0 &&& (1099511627775 : Int64)))), .second, .unset, .unset, .unset, .unset, .unset, .unset, .unset, .unset, .unset, .unset, .unset, .unset, .unset, .unset, .unset, .unset, .unset, .unset, .unset, .unset, .unset, .unset, .unset] [(.long v4)])) rfl (hb hby at_11) _ ?_
    show Steps p.tables e below (T0.setTop (mkF m 14 #[.val (.long v0), .second, .val (.long v2), .second, .val (.long v4), .second, .val (.long v6), .second, .val (.long ((1 : Int64) + (v0 &&& (1099511627775 : Int64)))), .second, .unset, .unset, .unset, .unset, .unset, .unset, .unset, .unset, .unset, .unset, .unset, .unset, .unset, .unset, .unset, .unset, .unset, .unset, .unset, .unset, .unset, .unset, .unset] [(.long (2199023255551 : Int64)), (.long v4)])) _
    refine XS.land X0.here hx rfl (hb hby at_14) rfl ?_
    show Steps p.tables e below (T0.setTop (mkF m 15 #[.val (.long v0), .second, .val (.long v2), .second, .val (.long v4), .second, .val (.long v6), .second, .val (.long ((1 : Int64) + (v0 &&& (1099511627775 : Int64)))), .second, .unset, .unset, .unset, .unset, .unset, .unset, .unset, .unset, .unset, .unset, .unset, .unset, .unset, .unset, .unset, .unset, .unset, .unset, .unset, .unset, .unset, .unset, .unset] [(.long (v4 &&& (2199023255551 : Int64)))])) _
    refine XS.lstore X0.here hx rfl (hb hby at_15) rfl (l' := #[.val (.long v0), .second, .val (.long v2), .second, .val (.long v4), .second, .val (.long v6), .second, .val (.long ((1 : Int64) + (v0 &&& (1099511627775 : Int64)))), .second, .val (.long (v4 &&& (2199023255551 : Int64))), .second, .unset, .unset, .unset, .unset, .unset, .unset, .unset, .unset, .unset, .unset, .unset, .unset, .unset, .unset, .unset, .unset, .unset, .unset, .unset, .unset, .unset]) rfl ?_
    show Steps p.tables e below (T0.setTop (mkF m 17 #[.val (.long v0), .second, .val (.long v2), .second, .val (.long v4), .second, .val (.long v6), .second, .val (.long ((1 : Int64) + (v0 &&& (1099511627775 : Int64)))), .second, .val (.long (v4 &&& (2199023255551 : Int64))), .second, .unset, .unset, .unset, .unset, .unset, .unset, .unset, .unset, .unset, .unset, .unset, .unset, .unset, .unset, .unset, .unset, .unset, .unset, .unset, .unset, .unset] [])) _
    refine XS.lload X0.here hx rfl (hb hby at_17) rfl  ?_
    show Steps p.tables e below (T0.setTop (mkF m 19 #[.val (.long v0), .second, .val (.long v2), .second, .val (.long v4), .second, .val (.long v6), .second, .val (.long ((1 : Int64) + (v0 &&& (1099511627775 : Int64)))), .second, .val (.long (v4 &&& (2199023255551 : Int64))), .second, .unset, .unset, .unset, .unset, .unset, .unset, .unset, .unset, .unset, .unset, .unset, .unset, .unset, .unset, .unset, .unset, .unset, .unset, .unset, .unset, .unset] [(.long v6)])) _
    refine X0.ldc2Long hx hown (mvT hZ (hw _ (List.mem_of_getElem? (i := 1) rfl))) (g := (mkF m 19 #[.val (.long v0), .second, .val (.long v2), .second, .val (.long v4), .second, .val (.long v6), .second, .val (.long ((1 : Int64) + (v0 &&& (1099511627775 : Int64)))), .second, .val (.long (v4 &&& (2199023255551 : Int64))), .second, .unset, .unset, .unset, .unset, .unset, .unset, .unset, .unset, .unset, .unset, .unset, .unset, .unset, .unset, .unset, .unset, .unset, .unset, .unset, .unset, .unset] [(.long v6)])) rfl (hb hby at_19) _ ?_
    show Steps p.tables e below (T0.setTop (mkF m 22 #[.val (.long v0), .second, .val (.long v2), .second, .val (.long v4), .second, .val (.long v6), .second, .val (.long ((1 : Int64) + (v0 &&& (1099511627775 : Int64)))), .second, .val (.long (v4 &&& (2199023255551 : Int64))), .second, .unset, .unset, .unset, .unset, .unset, .unset, .unset, .unset, .unset, .unset, .unset, .unset, .unset, .unset, .unset, .unset, .unset, .unset, .unset, .unset, .unset] [(.long (2199023255551 : Int64)), (.long v6)])) _
    refine XS.land X0.here hx rfl (hb hby at_22) rfl ?_
    show Steps p.tables e below (T0.setTop (mkF m 23 #[.val (.long v0), .second, .val (.long v2), .second, .val (.long v4), .second, .val (.long v6), .second, .val (.long ((1 : Int64) + (v0 &&& (1099511627775 : Int64)))), .second, .val (.long (v4 &&& (2199023255551 : Int64))), .second, .unset, .unset, .unset, .unset, .unset, .unset, .unset, .unset, .unset, .unset, .unset, .unset, .unset, .unset, .unset, .unset, .unset, .unset, .unset, .unset, .unset] [(.long (v6 &&& (2199023255551 : Int64)))])) _
    refine XS.lstore X0.here hx rfl (hb hby at_23) rfl (l' := #[.val (.long v0), .second, .val (.long v2), .second, .val (.long v4), .second, .val (.long v6), .second, .val (.long ((1 : Int64) + (v0 &&& (1099511627775 : Int64)))), .second, .val (.long (v4 &&& (2199023255551 : Int64))), .second, .val (.long (v6 &&& (2199023255551 : Int64))), .second, .unset, .unset, .unset, .unset, .unset, .unset, .unset, .unset, .unset, .unset, .unset, .unset, .unset, .unset, .unset, .unset, .unset, .unset, .unset]) rfl ?_
    show Steps p.tables e below (T0.setTop (mkF m 25 #[.val (.long v0), .second, .val (.long v2), .second, .val (.long v4), .second, .val (.long v6), .second, .val (.long ((1 : Int64) + (v0 &&& (1099511627775 : Int64)))), .second, .val (.long (v4 &&& (2199023255551 : Int64))), .second, .val (.long (v6 &&& (2199023255551 : Int64))), .second, .unset, .unset, .unset, .unset, .unset, .unset, .unset, .unset, .unset, .unset, .unset, .unset, .unset, .unset, .unset, .unset, .unset, .unset, .unset] [])) _
    refine XS.lload X0.here hx rfl (hb hby at_25) rfl  ?_
    show Steps p.tables e below (T0.setTop (mkF m 27 #[.val (.long v0), .second, .val (.long v2), .second, .val (.long v4), .second, .val (.long v6), .second, .val (.long ((1 : Int64) + (v0 &&& (1099511627775 : Int64)))), .second, .val (.long (v4 &&& (2199023255551 : Int64))), .second, .val (.long (v6 &&& (2199023255551 : Int64))), .second, .unset, .unset, .unset, .unset, .unset, .unset, .unset, .unset, .unset, .unset, .unset, .unset, .unset, .unset, .unset, .unset, .unset, .unset, .unset] [(.long ((1 : Int64) + (v0 &&& (1099511627775 : Int64))))])) _
    refine XS.lload X0.here hx rfl (hb hby at_27) rfl  ?_
    show Steps p.tables e below (T0.setTop (mkF m 29 #[.val (.long v0), .second, .val (.long v2), .second, .val (.long v4), .second, .val (.long v6), .second, .val (.long ((1 : Int64) + (v0 &&& (1099511627775 : Int64)))), .second, .val (.long (v4 &&& (2199023255551 : Int64))), .second, .val (.long (v6 &&& (2199023255551 : Int64))), .second, .unset, .unset, .unset, .unset, .unset, .unset, .unset, .unset, .unset, .unset, .unset, .unset, .unset, .unset, .unset, .unset, .unset, .unset, .unset] [(.long ((1 : Int64) + (v0 &&& (1099511627775 : Int64)))), (.long ((1 : Int64) + (v0 &&& (1099511627775 : Int64))))])) _
    refine X0.ldc2Long hx hown (mvT hZ (hw _ (List.mem_of_getElem? (i := 2) rfl))) (g := (mkF m 29 #[.val (.long v0), .second, .val (.long v2), .second, .val (.long v4), .second, .val (.long v6), .second, .val (.long ((1 : Int64) + (v0 &&& (1099511627775 : Int64)))), .second, .val (.long (v4 &&& (2199023255551 : Int64))), .second, .val (.long (v6 &&& (2199023255551 : Int64))), .second, .unset, .unset, .unset, .unset, .unset, .unset, .unset, .unset, .unset, .unset, .unset, .unset, .unset, .unset, .unset, .unset, .unset, .unset, .unset] [(.long ((1 : Int64) + (v0 &&& (1099511627775 : Int64)))), (.long ((1 : Int64) + (v0 &&& (1099511627775 : Int64))))])) rfl (hb hby at_29) _ ?_
    exact k
  have hnz32 : ¬ ((10 : Int64) = (0 : Int64)) := by decide
  refine Fin.by (B := T0.setTop (mkF m 36 #[.val (.long v0), .second, .val (.long v2), .second, .val (.long v4), .second, .val (.long v6), .second, .val (.long ((1 : Int64) + (v0 &&& (1099511627775 : Int64)))), .second, .val (.long (v4 &&& (2199023255551 : Int64))), .second, .val (.long (v6 &&& (2199023255551 : Int64))), .second, .val (.long (((1 : Int64) + (v0 &&& (1099511627775 : Int64))) - (((1 : Int64) + (v0 &&& (1099511627775 : Int64))) / (10 : Int64)))), .second, .unset, .unset, .unset, .unset, .unset, .unset, .unset, .unset, .unset, .unset, .unset, .unset, .unset, .unset, .unset, .unset, .unset] [])) (fun t k => ?_) ?_
  · show Steps p.tables e below (T0.setTop (mkF m 32 #[.val (.long v0), .second, .val (.long v2), .second, .val (.long v4), .second, .val (.long v6), .second, .val (.long ((1 : Int64) + (v0 &&& (1099511627775 : Int64)))), .second, .val (.long (v4 &&& (2199023255551 : Int64))), .second, .val (.long (v6 &&& (2199023255551 : Int64))), .second, .unset, .unset, .unset, .unset, .unset, .unset, .unset, .unset, .unset, .unset, .unset, .unset, .unset, .unset, .unset, .unset, .unset, .unset, .unset] [(.long (10 : Int64)), (.long ((1 : Int64) + (v0 &&& (1099511627775 : Int64)))), (.long ((1 : Int64) + (v0 &&& (1099511627775 : Int64))))])) _
    refine XS.ldiv X0.here hx rfl (hb hby at_32) rfl hnz32 ?_
    show Steps p.tables e below (T0.setTop (mkF m 33 #[.val (.long v0), .second, .val (.long v2), .second, .val (.long v4), .second, .val (.long v6), .second, .val (.long ((1 : Int64) + (v0 &&& (1099511627775 : Int64)))), .second, .val (.long (v4 &&& (2199023255551 : Int64))), .second, .val (.long (v6 &&& (2199023255551 : Int64))), .second, .unset, .unset, .unset, .unset, .unset, .unset, .unset, .unset, .unset, .unset, .unset, .unset, .unset, .unset, .unset, .unset, .unset, .unset, .unset] [(.long (((1 : Int64) + (v0 &&& (1099511627775 : Int64))) / (10 : Int64))), (.long ((1 : Int64) + (v0 &&& (1099511627775 : Int64))))])) _
    refine XS.lsub X0.here hx rfl (hb hby at_33) rfl ?_
    show Steps p.tables e below (T0.setTop (mkF m 34 #[.val (.long v0), .second, .val (.long v2), .second, .val (.long v4), .second, .val (.long v6), .second, .val (.long ((1 : Int64) + (v0 &&& (1099511627775 : Int64)))), .second, .val (.long (v4 &&& (2199023255551 : Int64))), .second, .val (.long (v6 &&& (2199023255551 : Int64))), .second, .unset, .unset, .unset, .unset, .unset, .unset, .unset, .unset, .unset, .unset, .unset, .unset, .unset, .unset, .unset, .unset, .unset, .unset, .unset] [(.long (((1 : Int64) + (v0 &&& (1099511627775 : Int64))) - (((1 : Int64) + (v0 &&& (1099511627775 : Int64))) / (10 : Int64))))])) _
    refine XS.lstore X0.here hx rfl (hb hby at_34) rfl (l' := #[.val (.long v0), .second, .val (.long v2), .second, .val (.long v4), .second, .val (.long v6), .second, .val (.long ((1 : Int64) + (v0 &&& (1099511627775 : Int64)))), .second, .val (.long (v4 &&& (2199023255551 : Int64))), .second, .val (.long (v6 &&& (2199023255551 : Int64))), .second, .val (.long (((1 : Int64) + (v0 &&& (1099511627775 : Int64))) - (((1 : Int64) + (v0 &&& (1099511627775 : Int64))) / (10 : Int64)))), .second, .unset, .unset, .unset, .unset, .unset, .unset, .unset, .unset, .unset, .unset, .unset, .unset, .unset, .unset, .unset, .unset, .unset]) rfl ?_
    exact k
  exact b0_36 ⟨hx, hZ, hw, hby, hml, hret, hown, hnm, hlk⟩ h0 n0 v0 v2 v4 v6 ((1 : Int64) + (v0 &&& (1099511627775 : Int64))) (v4 &&& (2199023255551 : Int64)) (v6 &&& (2199023255551 : Int64)) (((1 : Int64) + (v0 &&& (1099511627775 : Int64))) - (((1 : Int64) + (v0 &&& (1099511627775 : Int64))) / (10 : Int64))) X0 e0 N0 Z0  _ hr
theorem ef_0 (m : MethodId) (v0 : Int64) (v2 : Int64) (v4 : Int64) (v6 : Int64) : entryFrame m #[(.long v0), (.long v2), (.long v4), (.long v6)] maxLocals = (mkF m 0 #[.val (.long v0), .second, .val (.long v2), .second, .val (.long v4), .second, .val (.long v6), .second, .unset, .unset, .unset, .unset, .unset, .unset, .unset, .unset, .unset, .unset, .unset, .unset, .unset, .unset, .unset, .unset, .unset, .unset, .unset, .unset, .unset, .unset, .unset, .unset, .unset] []) := by first | (simp [entryFrame, mkF, argsToLocals, Value.category, maxLocals]; done) | rfl
set_option maxRecDepth 65536 in
set_option maxHeartbeats 40000000 in
theorem rm0 (l : Launch) (Z : State) (a0 : Array Value) (hw : ∀ d ∈ tables_1, d.before a0 Z = true) (ws : List Jvm.Cond) (v0 : Int64) (v2 : Int64) (v4 : Int64) (v6 : Int64) (h0 : Heap) (n0 : Nat) (Z0 : n0 ≤ h0.size) :
    MetFree l x (head1 (Jvm.Cond.code x code maxLocals ret :: ws) room_1) (fun a U => a = #[(.long v0), (.long v2), (.long v4), (.long v6)] ∧ Z.Warmed39 U.vm ∧ U.heap = h0) (fun _ _ _ _ _ => True) (fun _ U o U' => ∃ v L, o = .returned v ∧ (Q0 n0 (f0_0 v0 v2 v4 v6)) v U'.heap L ∧ FrameEnd U o U' L 1 4) := by
  refine MetFree.of_bodySF (plainFor_of_name pn_0) hisR ?_
  intro p e s m args below meth c s₁ Bd hml0 hP hK
  obtain ⟨rfl, hZ, hh⟩ := hP
  have B : Ctx p Z s a0 m meth c "com/example/quietwire/quietwire/transport/TickScheduleTickedPinLaw" "law" code 33 (some .boolean) := ⟨Bd.exec, hZ, hw, Bd.bytes, hml0, Bd.returns, findClass_of_methodNamed Bd.named, (name_of_methodNamed Bd.named Bd.method).1, Bd.notSynchronized⟩
  have X0 : Stand p l e room_1 s m #[(.long v0), (.long v2), (.long v4), (.long v6)] below meth c s₁ [] 0 0 := Stand.of_body Bd
  have e0 : s₁.heap = h0 := by rw [← hh, Bd.state]; rfl
  have K := Keep.refl h0 []
  show Fin p e below s 1 4 (Q0 n0 (f0_0 v0 v2 v4 v6)) (s₁.setTop (entryFrame m #[(.long v0), (.long v2), (.long v4), (.long v6)] maxLocals))
  refine Fin.by (fun t k => castTop (ef_0 m v0 v2 v4 v6) k) ?_
  exact b0_0 B h0 n0 v0 v2 v4 v6 X0 e0 (Fr.nil n0) Z0  _ rfl

/-! the schedule in offsets from any start n -/
theorem own_ltL {x y : Int64} : x < y ↔ x.toInt < y.toInt := Int64.lt_iff_toInt_lt
theorem own_addL {x y : Int64} (h1 : -9223372036854775808 ≤ x.toInt + y.toInt) (h2 : x.toInt + y.toInt < 9223372036854775808) : (x + y).toInt = x.toInt + y.toInt := by
  have := c_ladd x y; have := rng64 (x + y); omega
theorem own_subL {x y : Int64} (h1 : -9223372036854775808 ≤ x.toInt - y.toInt) (h2 : x.toInt - y.toInt < 9223372036854775808) : (x - y).toInt = x.toInt - y.toInt := by
  have := c_lsub x y; have := rng64 (x - y); omega
theorem own_dd (n x y : Int64) : (n + x) - (n + y) = x - y := by
  apply Int64.toInt_inj.mp
  have := c_lsub (n + x) (n + y); have := c_ladd n x; have := c_ladd n y; have := c_lsub x y
  have := rng64 (n + x - (n + y)); have := rng64 (x - y)
  omega
theorem own_d0 (n x : Int64) : (n + x) - n = x := by
  apply Int64.toInt_inj.mp
  have := c_lsub (n + x) n; have := c_ladd n x; have := rng64 (n + x - n); have := rng64 x
  omega
theorem own_n0 (n : Int64) : n = n + 0 := (Int64.add_zero n).symm
theorem own_due (p s n sc so : Int64) (h1 : 0 ≤ sc.toInt ∧ sc.toInt < 2 ^ 60) (h2 : 0 ≤ so.toInt ∧ so.toInt < 2 ^ 60) : f5_0 p s (n + sc) (n + so) = n + (if sc < so then so else sc) := by
  unfold f5_0
  rw [own_dd]
  have h := c_lsub sc so
  have r := rng64 (sc - so)
  by_cases q : sc < so
  · rw [if_pos q, if_pos]
    rw [own_ltL] at q ⊢
    have z : (0 : Int64).toInt = 0 := rfl
    omega
  · rw [if_neg q, if_neg]
    rw [own_ltL] at q ⊢
    have z : (0 : Int64).toInt = 0 := rfl
    omega
theorem own_tick (n x p s sc y : Int64) : f4_0 (n + x) p s (n + sc) y = (p, s, n + (if x - sc < p then sc + p else x + p), n + (x + s)) := by
  unfold f4_0 f4_19 f4_43
  rw [own_dd]
  by_cases q : x - sc < p
  · simp only [if_pos q, if_true, Int64.add_assoc]
  · simp only [if_neg q, Int64.add_assoc, show ¬ ((1 : Int32) = 0) from by decide, if_false]
theorem own_short (P : Int64) (h : 1 ≤ P.toInt ∧ P.toInt ≤ 2 ^ 41) : (P - P / 10).toInt = P.toInt - P.toInt / 10 := by
  have h1 := (c_ldiv P 10 10 (by decide) (by decide)).1 (by omega)
  have := c_lsub P (P / 10); have := rng64 (P - P / 10)
  omega
theorem own_self (x : Int64) : x - x = 0 := by
  apply Int64.toInt_inj.mp
  have := c_lsub x x; have := rng64 (x - x); have z : (0 : Int64).toInt = 0 := rfl
  omega
theorem own_less (x : Int64) : x - 1 - x < 0 := by
  rw [own_ltL]
  have := c_lsub x 1; have := c_lsub (x - 1) x; have := rng64 (x - 1 - x); have z : (0 : Int64).toInt = 0 := rfl
  have z1 : (1 : Int64).toInt = 1 := rfl
  omega
theorem own_core (v0 n v4 v6 P A B s1 s2 : Int64) (hP : 1 ≤ P.toInt ∧ P.toInt ≤ 2 ^ 40) (hA : 0 ≤ A.toInt ∧ A.toInt < 2 ^ 41) (hB : 0 ≤ B.toInt ∧ B.toInt < 2 ^ 41)
    (h1 : s1 = if A - 0 < P then 0 + P else A + P) (h2 : s2 = if (f1_0 s1 (A + (P - P / 10)) + B) - s1 < P then s1 + P else (f1_0 s1 (A + (P - P / 10)) + B) + P) :
    f0_121 v0 n v4 v6 P A B (P - P / 10) A s1 (f1_0 s1 (A + (P - P / 10))) (f1_0 s1 (A + (P - P / 10)) + B) s2 (f1_0 s2 ((f1_0 s1 (A + (P - P / 10)) + B) + (P - P / 10))) = 1 := by
  have hs := own_short P (by omega)
  have z0 : (0 : Int64).toInt = 0 := rfl
  have a1 : (A + (P - P / 10)).toInt = A.toInt + (P - P / 10).toInt := own_addL (by omega) (by omega)
  have a3 : (A + P).toInt = A.toInt + P.toInt := own_addL (by omega) (by omega)
  have b1 : (0 + P).toInt = (0 : Int64).toInt + P.toInt := own_addL (by omega) (by omega)
  have hs1 : 1 ≤ s1.toInt ∧ s1.toInt ≤ 2 ^ 43 := by rw [h1]; split <;> omega
  have hd1 : 0 ≤ (f1_0 s1 (A + (P - P / 10))).toInt ∧ (f1_0 s1 (A + (P - P / 10))).toInt ≤ 2 ^ 43 := by unfold f1_0; split <;> omega
  generalize hD : f1_0 s1 (A + (P - P / 10)) = D at *
  have a4 : (D + B).toInt = D.toInt + B.toInt := own_addL (by omega) (by omega)
  have a5 : (D + B + P).toInt = (D + B).toInt + P.toInt := own_addL (by omega) (by omega)
  have a6 : (s1 + P).toInt = s1.toInt + P.toInt := own_addL (by omega) (by omega)
  have a7 : (D + B + (P - P / 10)).toInt = (D + B).toInt + (P - P / 10).toInt := own_addL (by omega) (by omega)
  have hs2 : 1 ≤ s2.toInt ∧ s2.toInt ≤ 2 ^ 45 := by rw [h2]; split <;> omega
  have e1 := own_tick n A P (P - P / 10) 0 n
  rw [← own_n0, ← h1] at e1
  have e2 := own_tick n (D + B) P (P - P / 10) s1 (n + (A + (P - P / 10)))
  rw [← h2] at e2
  have d1 := own_due P (P - P / 10) n s1 (A + (P - P / 10)) (by omega) (by omega)
  have d2 := own_due P (P - P / 10) n s2 (D + B + (P - P / 10)) (by omega) (by omega)
  have q1 : (if s1 < A + (P - P / 10) then A + (P - P / 10) else s1) = D := hD
  rw [q1] at d1
  change f5_0 P (P - P / 10) (n + s2) (n + (D + B + (P - P / 10))) = n + f1_0 s2 (D + B + (P - P / 10)) at d2
  generalize f1_0 s2 (D + B + (P - P / 10)) = E at *
  show f0_131 v0 n v4 v6 P A B (P - P / 10) A s1 D (D + B) s2 E P (P - P / 10) n n = 1
  unfold f0_131
  rw [e1]
  show f0_142 v0 n v4 v6 P A B (P - P / 10) A s1 D (D + B) s2 E P (P - P / 10) (n + s1) (n + (A + (P - P / 10))) = 1
  unfold f0_142
  rw [if_pos d1]
  unfold f0_160
  rw [e2]
  show f0_171 v0 n v4 v6 P A B (P - P / 10) A s1 D (D + B) s2 E 1 P (P - P / 10) (n + s2) (n + (D + B + (P - P / 10))) = 1
  unfold f0_171
  rw [if_pos d2]
  unfold f0_189
  rw [if_pos (show f6_0 (n + E - 1) P (P - P / 10) (n + s2) (n + (D + B + (P - P / 10))) = 0 from by unfold f6_0; rw [d2, if_pos (own_less _)])]
  unfold f0_210
  rw [if_neg (by decide), if_neg (by decide), if_neg (by decide), if_neg]
  unfold f6_0
  rw [d2, own_self, if_neg (by decide)]
  decide
theorem own_law (a n b c : Int64) : f0_0 a n b c = 1 := by
  have h1 := c_maskL a 1099511627775 40 (by decide) (by decide)
  have h2 := c_maskL b 2199023255551 41 (by decide) (by decide)
  have h3 := c_maskL c 2199023255551 41 (by decide) (by decide)
  have z : (1 : Int64).toInt = 1 := rfl
  have h4 : ((1 : Int64) + (a &&& 1099511627775)).toInt = (1 : Int64).toInt + (a &&& 1099511627775).toInt := own_addL (by omega) (by omega)
  unfold f0_0
  generalize (1 : Int64) + (a &&& 1099511627775) = P at *
  generalize b &&& 2199023255551 = A at *
  generalize c &&& 2199023255551 = B at *
  have key : ∀ s1 : Int64, s1 = (if A - 0 < P then 0 + P else A + P) → f0_62 a n b c P A B (P - P / 10) A s1 = 1 := by
    intro s1 hs1
    unfold f0_62 f0_76
    by_cases q : f1_0 s1 (A + (P - P / 10)) + B - s1 < P
    · rw [if_pos q]; exact own_core a n b c P A B s1 _ (by omega) (by omega) (by omega) hs1 (by rw [if_pos q])
    · rw [if_neg q]; exact own_core a n b c P A B s1 _ (by omega) (by omega) (by omega) hs1 (by rw [if_neg q])
  unfold f0_36
  by_cases q : A - 0 < P
  · rw [if_pos q]; exact key _ (by rw [if_pos q])
  · rw [if_neg q]; exact key _ (by rw [if_neg q])

set_option maxRecDepth 65536 in
set_option maxHeartbeats 40000000 in
theorem comes_1 {Post : Tables → Env → Array Value → State → Outcome → State → Prop} (hpost : ∀ tb e args s v u, (limb_1_1.after args s (.returned v) u = true ∧ limb_1_2.after args s (.returned v) u = true ∧ True) → FrameEnd s (.returned v) u (Jvm.fieldLocs frame_1_writes args s ++ Jvm.arrayLocs frame_1_arrays args s ++ Jvm.staticLocs frame_1_statics s) 16 128 → Post tb e args s (.returned v) u) :
    ArmFor flags0 classFile x code maxLocals ret World_1 tables_1 room_1 Calls_1 rest_1 Pre_1 Post := by
  intro l hfl _ _ p e ha hc hk s m args below hf hA hF happ hP
  obtain ⟨hcalls, hrest, hpre⟩ := hP
  obtain ⟨-, -, -, hnamed, -, -, -, hat⟩ := (Spec.applies_iff hf).mp happ
  obtain ⟨hg, hn⟩ := and_e (Cond.before_iff.mp (show (Jvm.Cond.and given_1 narrow_1).before args s = true from hpre))
  obtain ⟨gg1, gg2⟩ := and_e hg
  obtain ⟨gg3, gg4⟩ := and_e gg2
  obtain ⟨gg5, gg6⟩ := and_e gg4
  obtain ⟨gg7, gg8⟩ := and_e gg6
  obtain ⟨w0, w1, w2, w3, rfl⟩ : ∃ w0 w1 w2 w3 : Value, args = #[w0, w1, w2, w3] := by
    have hs : args.size = 4 := by simpa [Cond.value, given_1] using gg1
    obtain ⟨L⟩ := args
    match L, hs with
    | [w0, w1, w2, w3], _ => exact ⟨w0, w1, w2, w3, rfl⟩
  have hw := fun d (hd : d ∈ tables_1) => atoms_spec (ws := Jvm.Cond.code x code maxLocals ret :: tables_1) hat d (List.mem_cons_of_mem _ hd)
  have hfit : Fit s := fun {y c} hc i hi => by
    obtain ⟨ha, rfl⟩ := Array.getElem?_eq_some_iff.mp hc
    have q := List.all_eq_true.mp ((Array.all_eq_true_iff_forall_mem.mp hF) _ (Array.getElem_mem ha)) i (List.mem_range.mpr hi)
    simpa [Array.getElem?_eq_getElem hi] using q
  obtain ⟨i0, ei0⟩ := isL_v gg3
  obtain rfl : w0 = (.long i0) := Option.some.inj ei0
  obtain ⟨i1, ei1⟩ := isL_v gg5
  obtain rfl : w1 = (.long i1) := Option.some.inj ei1
  obtain ⟨i2, ei2⟩ := isL_v gg7
  obtain rfl : w2 = (.long i2) := Option.some.inj ei2
  obtain ⟨i3, ei3⟩ := isL_v gg8
  obtain rfl : w3 = (.long i3) := Option.some.inj ei3
  obtain ⟨n, o, h1, h2, h3, _, L, rfl, ⟨rfl, N⟩, hq⟩ := rm0 l s _ hw tables_1 i0 i1 i2 i3 s.heap s.heap.size (Nat.le_refl _)  p e ha hc hk s m _ below hf ((Spec.applies_iff_loose hf).mp happ).1 ⟨rfl, State.Warmed39.refl s, rfl⟩ trivial
  refine ⟨n, _, h1, h2, h3, hpost _ _ _ _ _ _ ⟨Cond.after_iff.mpr rfl, Cond.after_iff.mpr (eq_i res_at (Term.int_eval (1)) (congrArg Value.int (own_law i0 i1 i2 i3))), trivial⟩ ⟨hq.1, hq.2.1, (hq.2.2.sift fun y hy => Or.inr (N y hy)).mono (by decide) (by decide)⟩⟩
theorem main_1_1 : Claimed_1_1 := comes_1 fun _ _ _ _ _ _ h hF => ⟨h.1, hF⟩
theorem main_1_2 : Claimed_1_2 := comes_1 fun _ _ _ _ _ _ h hF => ⟨h.2.1, hF⟩
end Jvm.Pilot.@@N@@
namespace Jvm.Pilot.@@N@@
open Jvm Jvm.ClassFile Sem Op Lib Jvm.Free Jvm.Stand Jvm.Pilot.@@N@@.Jvm.D
/-! MADE BY PROGRAM (witnessworld.py) out of the Statement's table words and the real class files: 10 classes; the members and pool entries that the words name. The judged class is class 1, her method 1. -/
namespace start1
open Jvm.ClassFile
def u (s : String) : CpInfo := .utf8 (stringToUtf16 s)
/-- a pool by its gaps: so many unusable entries, then the entry; so many at the end -/
def gap : Nat → List CpInfo → List CpInfo
  | 0, r => r
  | n + 1, r => .unusable :: gap n r
def poolList (es : List (Nat × CpInfo)) (last : Nat) : List CpInfo := es.foldr (fun e r => gap e.1 (e.2 :: r)) (gap last [])
def pool (es : List (Nat × CpInfo)) (last : Nat) : Array CpInfo := ⟨poolList es last⟩
def fileOf (pool : Array CpInfo) (this : Nat) (attrs : Array Attribute := #[]) (ms : Array MethodInfo := #[]) (fl : Nat := 33) (sup : Nat := 0) (ifs : Array Nat := #[]) (fds : Array FieldInfo := #[]) : ClassFile where
  minorVersion := 0
  majorVersion := 65
  constantPool := pool
  accessFlags := fl
  thisClass := this
  superClass := sup
  interfaces := ifs
  fields := fds
  methods := ms
  attributes := attrs
def plain (name : String) (sup : Option ClassId) : Class where
  name := name
  kind := .ordinary
  loader := none
  accessFlags := 33
  super := sup
  interfaces := #[]
  cf := none
  fields := #[]
  methods := #[]
  instanceTypes := #[]
  staticTypes := #[]
  resolved := #[]
  callSites := []
  init := .initialized
  statics := none
  mirror := none

def pool0 : Array CpInfo := pool [(5, u "<init>"), (0, u "()V"), (1, .class_ 10), (1, u "java/lang/Object")] 113

def k0c0 : Code := { maxStack := 0, maxLocals := 1, code := object_method_1_code, exceptionTable := #[], attributes := #[] }
def k0m0 : Method := { name := "<init>", desc := "()V", sig := { parameters := [], returnType := none }, accessFlags := 1, code := some k0c0 }
/-- java/lang/Object -/
def k0 : Class := { plain "java/lang/Object" none with
  accessFlags := 33
  interfaces := #[]
  cf := some (fileOf pool0 8 #[] #[{ accessFlags := 1, nameIndex := 5, descriptorIndex := 6, attributes := #[] }] 33 0 #[] #[])
  fields := #[]
  methods := #[k0m0]
  instanceTypes := #[]
  staticTypes := #[]
  resolved := Array.replicate 124 none
  statics := none }

def pool1 : Array CpInfo := pool [(2, .class_ 4), (1, u "java/lang/Object"), (0, u "<init>"), (0, u "()V"), (0, .long 1099511627775), (1, .long 2199023255551), (1, .long 10), (1, .methodref 14 15), (0, .class_ 16), (0, .nameAndType 17 18), (0, u "java/lang/Math"), (0, u "max"), (0, u "(JJ)J"), (0, .class_ 20), (0, u "com/example/quietwire/quietwire/transport/TickSchedule"), (0, .methodref 19 22), (0, .nameAndType 5 23), (0, u "(JJ)V"), (0, .methodref 19 25), (0, .nameAndType 26 27), (0, u "ticked"), (0, u "(J)V"), (0, .methodref 19 29), (0, .nameAndType 30 31), (0, u "due"), (0, u "()J"), (0, .methodref 19 33), (0, .nameAndType 34 35), (0, u "isDue"), (0, u "(J)Z"), (0, .class_ 37), (0, u "com/example/quietwire/quietwire/transport/TickScheduleTickedPinLaw"), (2, u "law"), (0, u "(JJJJ)Z")] 3

def k1m0 : Method := { name := "<init>", desc := "()V", sig := { parameters := [], returnType := none }, accessFlags := 2, code := none }
def k1c1 : Code := { maxStack := 6, maxLocals := 33, code := code, exceptionTable := #[], attributes := #[] }
def k1m1 : Method := { name := "law", desc := "(JJJJ)Z", sig := { parameters := [.long, .long, .long, .long], returnType := some .boolean }, accessFlags := 9, code := some k1c1 }
/-- com/example/quietwire/quietwire/transport/TickScheduleTickedPinLaw -/
def k1 : Class := { plain "com/example/quietwire/quietwire/transport/TickScheduleTickedPinLaw" (some 0) with
  accessFlags := 49
  interfaces := #[]
  cf := some (fileOf pool1 36 #[] #[{ accessFlags := 2, nameIndex := 5, descriptorIndex := 6, attributes := #[] }, { accessFlags := 9, nameIndex := 40, descriptorIndex := 41, attributes := #[] }] 49 2 #[] #[])
  fields := #[]
  methods := #[k1m0, k1m1]
  instanceTypes := #[]
  staticTypes := #[]
  resolved := Array.replicate 45 none
  statics := none }

def pool2 : Array CpInfo := pool [(1, .class_ 2), (0, u "java/lang/Math"), (1, .class_ 6), (1, u "java/lang/Object"), (0, u "<init>"), (0, u "()V"), (89, .class_ 100), (1, u "java/lang/Math$RandomNumberGeneratorHolder"), (20, u "(JJ)J"), (50, u "negativeZeroFloatBits"), (0, u "J"), (2, u "negativeZeroDoubleBits"), (21, u "max"), (46, u "$assertionsDisabled"), (0, u "Z"), (91, u "twoToTheDoubleScaleDown"), (0, u "D"), (4, u "twoToTheDoubleScaleUp"), (9, u "E"), (3, u "PI"), (2, u "TAU"), (2, u "DEGREES_TO_RADIANS"), (0, u "RADIANS_TO_DEGREES")] 94

def k2m0 : Method := { name := "<init>", desc := "()V", sig := { parameters := [], returnType := none }, accessFlags := 2, code := none }
def k2c1 : Code := { maxStack := 4, maxLocals := 4, code := jdk_29_method_66_code, exceptionTable := #[], attributes := #[] }
def k2m1 : Method := { name := "max", desc := "(JJ)J", sig := { parameters := [.long, .long], returnType := some .long }, accessFlags := 9, code := some k2c1 }
/-- java/lang/Math -/
def k2 : Class := { plain "java/lang/Math" (some 0) with
  accessFlags := 49
  interfaces := #[]
  cf := some (fileOf pool2 1 #[.nestMembers #[98]] #[{ accessFlags := 2, nameIndex := 7, descriptorIndex := 8, attributes := #[] }, { accessFlags := 9, nameIndex := 198, descriptorIndex := 121, attributes := #[] }] 49 4 #[] #[{ accessFlags := 25, nameIndex := 354, descriptorIndex := 339, attributes := #[] }, { accessFlags := 25, nameIndex := 358, descriptorIndex := 339, attributes := #[] }, { accessFlags := 25, nameIndex := 361, descriptorIndex := 339, attributes := #[] }, { accessFlags := 26, nameIndex := 364, descriptorIndex := 339, attributes := #[] }, { accessFlags := 26, nameIndex := 365, descriptorIndex := 339, attributes := #[] }, { accessFlags := 26, nameIndex := 172, descriptorIndex := 173, attributes := #[] }, { accessFlags := 26, nameIndex := 176, descriptorIndex := 173, attributes := #[] }, { accessFlags := 8, nameIndex := 344, descriptorIndex := 339, attributes := #[] }, { accessFlags := 8, nameIndex := 338, descriptorIndex := 339, attributes := #[] }, { accessFlags := 4120, nameIndex := 245, descriptorIndex := 246, attributes := #[] }])
  fields := #[{ name := "E", type := .double, accessFlags := 25, slot := 0, constantValue := 0 }, { name := "PI", type := .double, accessFlags := 25, slot := 1, constantValue := 0 }, { name := "TAU", type := .double, accessFlags := 25, slot := 2, constantValue := 0 }, { name := "DEGREES_TO_RADIANS", type := .double, accessFlags := 26, slot := 3, constantValue := 0 }, { name := "RADIANS_TO_DEGREES", type := .double, accessFlags := 26, slot := 4, constantValue := 0 }, { name := "negativeZeroFloatBits", type := .long, accessFlags := 26, slot := 5, constantValue := 0 }, { name := "negativeZeroDoubleBits", type := .long, accessFlags := 26, slot := 6, constantValue := 0 }, { name := "twoToTheDoubleScaleUp", type := .double, accessFlags := 8, slot := 7, constantValue := 0 }, { name := "twoToTheDoubleScaleDown", type := .double, accessFlags := 8, slot := 8, constantValue := 0 }, { name := "$assertionsDisabled", type := .boolean, accessFlags := 4120, slot := 9, constantValue := 0 }]
  methods := #[k2m0, k2m1]
  instanceTypes := #[]
  staticTypes := #[.double, .double, .double, .double, .double, .long, .long, .double, .double, .boolean]
  resolved := Array.replicate 460 none
  statics := none }

def pool3 : Array CpInfo := pool [(1, .methodref 2 3), (0, .class_ 4), (0, .nameAndType 5 6), (0, u "java/lang/Object"), (0, u "<init>"), (0, u "()V"), (0, .fieldref 8 9), (0, .class_ 10), (0, .nameAndType 11 12), (0, u "com/example/quietwire/quietwire/transport/TickSchedule"), (0, u "period"), (0, u "J"), (0, .long 10), (1, .fieldref 8 16), (0, .nameAndType 17 12), (0, u "shortest"), (0, .fieldref 8 19), (0, .nameAndType 20 12), (0, u "scheduled"), (0, .fieldref 8 22), (0, .nameAndType 23 12), (0, u "soonest"), (0, .methodref 8 25), (0, .nameAndType 26 27), (0, u "due"), (0, u "()J"), (0, u "LEEWAY_PARTS"), (0, u "I"), (2, u "(JJ)V"), (3, u "isDue"), (0, u "(J)Z"), (0, u "ticked"), (0, u "(J)V")] 2

def k3c0 : Code := { maxStack := 7, maxLocals := 5, code := prog_116_method_1_code, exceptionTable := #[], attributes := #[] }
def k3m0 : Method := { name := "<init>", desc := "(JJ)V", sig := { parameters := [.long, .long], returnType := none }, accessFlags := 0, code := some k3c0 }
def k3c1 : Code := { maxStack := 4, maxLocals := 1, code := prog_116_method_2_code, exceptionTable := #[], attributes := #[] }
def k3m1 : Method := { name := "due", desc := "()J", sig := { parameters := [], returnType := some .long }, accessFlags := 0, code := some k3c1 }
def k3c2 : Code := { maxStack := 4, maxLocals := 3, code := prog_116_method_3_code, exceptionTable := #[], attributes := #[] }
def k3m2 : Method := { name := "isDue", desc := "(J)Z", sig := { parameters := [.long], returnType := some .boolean }, accessFlags := 0, code := some k3c2 }
def k3c3 : Code := { maxStack := 5, maxLocals := 4, code := prog_116_method_4_code, exceptionTable := #[], attributes := #[] }
def k3m3 : Method := { name := "ticked", desc := "(J)V", sig := { parameters := [.long], returnType := none }, accessFlags := 0, code := some k3c3 }
/-- com/example/quietwire/quietwire/transport/TickSchedule -/
def k3 : Class := { plain "com/example/quietwire/quietwire/transport/TickSchedule" (some 0) with
  accessFlags := 48
  interfaces := #[]
  cf := some (fileOf pool3 8 #[] #[{ accessFlags := 0, nameIndex := 5, descriptorIndex := 32, attributes := #[] }, { accessFlags := 0, nameIndex := 26, descriptorIndex := 27, attributes := #[] }, { accessFlags := 0, nameIndex := 36, descriptorIndex := 37, attributes := #[] }, { accessFlags := 0, nameIndex := 38, descriptorIndex := 39, attributes := #[] }] 48 2 #[] #[{ accessFlags := 26, nameIndex := 28, descriptorIndex := 29, attributes := #[] }, { accessFlags := 18, nameIndex := 11, descriptorIndex := 12, attributes := #[] }, { accessFlags := 18, nameIndex := 17, descriptorIndex := 12, attributes := #[] }, { accessFlags := 2, nameIndex := 20, descriptorIndex := 12, attributes := #[] }, { accessFlags := 2, nameIndex := 23, descriptorIndex := 12, attributes := #[] }])
  fields := #[{ name := "LEEWAY_PARTS", type := .int, accessFlags := 26, slot := 0, constantValue := 0 }, { name := "period", type := .long, accessFlags := 18, slot := 0, constantValue := 0 }, { name := "shortest", type := .long, accessFlags := 18, slot := 1, constantValue := 0 }, { name := "scheduled", type := .long, accessFlags := 2, slot := 2, constantValue := 0 }, { name := "soonest", type := .long, accessFlags := 2, slot := 3, constantValue := 0 }]
  methods := #[k3m0, k3m1, k3m2, k3m3]
  instanceTypes := #[.long, .long, .long, .long]
  staticTypes := #[.int]
  resolved := Array.replicate 42 none
  statics := none }

def pool4 : Array CpInfo := pool [(1, u "java/lang/Cloneable"), (0, .class_ 1), (0, u "java/lang/Object"), (0, .class_ 3)] 3

/-- java/lang/Cloneable -/
def k4 : Class := { plain "java/lang/Cloneable" (some 0) with
  accessFlags := 1537
  interfaces := #[]
  cf := some (fileOf pool4 2 #[] #[] 1537 4 #[] #[])
  fields := #[]
  methods := #[]
  instanceTypes := #[]
  staticTypes := #[]
  resolved := Array.replicate 8 none
  statics := none }

def pool5 : Array CpInfo := pool [(1, u "java/io/Serializable"), (0, .class_ 1), (0, u "java/lang/Object"), (0, .class_ 3)] 3

/-- java/io/Serializable -/
def k5 : Class := { plain "java/io/Serializable" (some 0) with
  accessFlags := 1537
  interfaces := #[]
  cf := some (fileOf pool5 2 #[] #[] 1537 4 #[] #[])
  fields := #[]
  methods := #[]
  instanceTypes := #[]
  staticTypes := #[]
  resolved := Array.replicate 8 none
  statics := none }

/-- the primitive byte -/
def k6 : Class := { plain "byte" none with kind := .primitive 'B', accessFlags := 0x411 }
/-- [B -/
def k7 : Class := { plain "[B" (some 0) with kind := .array 6 .byte, interfaces := #[4, 5], accessFlags := 1041 }

/-- the primitive int -/
def k8 : Class := { plain "int" none with kind := .primitive 'I', accessFlags := 0x411 }
/-- [I -/
def k9 : Class := { plain "[I" (some 0) with kind := .array 8 .int, interfaces := #[4, 5], accessFlags := 1041 }

def heap : Heap := #[]
def classes : Array Class := #[k0, k1, k2, k3, k4, k5, k6, k7, k8, k9]
def interned : List (Array UInt16 × Addr) := []
def slotsUsed : Nat := 0
def theMethod : MethodId := ⟨1, 1⟩
def args0 : Array Value := #[.long 5, .long 6, .long 7, .long 8]
def aboutOver (below : List Frame) : State where
  vm := { classes := classes, interned := interned.toArray }
  heap := heap
  slotsUsed := slotsUsed
  threads := #[{ frames := .invoking theMethod args0 :: below }]
def below0 : List Frame := [.native { method := ⟨0, 0⟩, args := #[] }]
def about1 : State := aboutOver below0
def p0 : Program := .bare "" "" ""
def e0 : Env := launch0.env 0 0 0
theorem w_frames : about1.frames = Frame.invoking theMethod args0 :: below0 := rfl
set_option maxRecDepth 65536 in
theorem w_args : argsFit about1.vm theMethod args0 = true := by decide +kernel
set_option maxRecDepth 65536 in
theorem w_heap : heapFits about1 = true := by decide +kernel
set_option maxRecDepth 65536 in
theorem w_runnable : about1.curStatus? = some .runnable := by decide +kernel
set_option maxRecDepth 65536 in
theorem w_alone : about1.alone = true := by decide +kernel
set_option maxRecDepth 65536 in
theorem w_named : about1.methodNamed? x = some theMethod := by decide +kernel
set_option maxRecDepth 65536 in
theorem w_hears : about1.hears theMethod below0 = true := by decide +kernel
set_option maxRecDepth 65536 in
theorem w_ripe : about1.ripe theMethod args0 below0 = true := by decide +kernel
theorem w_running : about1.status = .running := rfl
set_option maxRecDepth 65536 in
theorem w_room : about1.hasRoom e0.platform room_1 = true :=
  launch0.hasRoom_least _ room_1 (by decide +kernel) (by decide +kernel) (by decide +kernel) (by decide +kernel) (by decide +kernel) (by decide +kernel)
theorem allAtoms_all (ts : List Jvm.Cond) (a : Array Jvm.Value) (st : Jvm.State) : (allAtoms ts).before a st = ts.all (fun c => c.before a st) := by
  induction ts with
  | nil => rfl
  | cons c t ih =>
    show (Jvm.Cond.and c (allAtoms t)).before a st = _
    rw [Jvm.Cond.before_and, ih, List.all_cons]
def words1 : List Jvm.Cond := Jvm.Cond.code x code maxLocals ret :: tables_1
/-- a 'code' word, met by the world's own term for the bytes: nothing is compared byte by byte -/
theorem code_word {y : MethodName} {bytes : ByteArray} {mx : Nat} {rt : Option FieldType} {a : Array Value} {s : State} {m : MethodId} {meth : Method} {c : Code} (h1 : s.methodNamed? y = some m) (h2 : s.vm.method? m = some meth) (h3 : meth.code = some c) (h4 : c.code = bytes)
    (h5 : (c.maxLocals == mx && c.exceptionTable.isEmpty && decide (c.maxStack ≤ mostOperands) && decide (meth.sig.returnType = rt) && !meth.locks && decide (parseMethodDescriptor y.desc = some meth.sig)) = true) : (Jvm.Cond.code y bytes mx rt).before a s = true := by
  simp only [Bool.and_eq_true, beq_iff_eq, Bool.not_eq_true', decide_eq_true_eq] at h5
  obtain ⟨⟨⟨⟨⟨g1, g2⟩, g3⟩, g4⟩, g5⟩, g6⟩ := h5
  simp [Cond.before, Cond.holds, Cond.value, h1, h2, h3, h4, g1, g2, g3, g4, g5, g6]
def isCode : Jvm.Cond → Bool
  | .code _ _ _ _ => true
  | _ => false
theorem all_split {L : List Jvm.Cond} {P : Jvm.Cond → Bool} (h1 : L.all (fun c => isCode c || P c) = true) (h2 : ∀ c ∈ L.filter isCode, P c = true) : L.all P = true := by
  refine List.all_eq_true.mpr fun c hc => ?_
  have h := List.all_eq_true.mp h1 c hc
  rcases Bool.eq_false_or_eq_true (isCode c) with hi | hi
  · exact h2 c (List.mem_filter.mpr ⟨hc, hi⟩)
  · simpa [hi] using h
set_option maxRecDepth 65536 in
theorem w_c0 : (Jvm.Cond.code x code maxLocals ret).before args0 about1 = true := code_word (m := ⟨1, 1⟩) (meth := k1m1) (c := k1c1) (by decide +kernel) rfl rfl rfl (by decide +kernel)
set_option maxRecDepth 65536 in
theorem w_c1 : (Jvm.Cond.code ({ cls := "java/lang/Math", name := "max", desc := "(JJ)J" } : Jvm.MethodName) jdk_29_method_66_code (4 : Nat) (Option.some Jvm.ClassFile.FieldType.long)).before args0 about1 = true := code_word (m := ⟨2, 1⟩) (meth := k2m1) (c := k2c1) (by decide +kernel) rfl rfl rfl (by decide +kernel)
set_option maxRecDepth 65536 in
theorem w_c2 : (Jvm.Cond.code ({ cls := "com/example/quietwire/quietwire/transport/TickSchedule", name := "<init>", desc := "(JJ)V" } : Jvm.MethodName) prog_116_method_1_code (5 : Nat) (Option.none : Option Jvm.ClassFile.FieldType)).before args0 about1 = true := code_word (m := ⟨3, 0⟩) (meth := k3m0) (c := k3c0) (by decide +kernel) rfl rfl rfl (by decide +kernel)
set_option maxRecDepth 65536 in
theorem w_c3 : (Jvm.Cond.code ({ cls := "java/lang/Object", name := "<init>", desc := "()V" } : Jvm.MethodName) object_method_1_code (1 : Nat) (Option.none : Option Jvm.ClassFile.FieldType)).before args0 about1 = true := code_word (m := ⟨0, 0⟩) (meth := k0m0) (c := k0c0) (by decide +kernel) rfl rfl rfl (by decide +kernel)
set_option maxRecDepth 65536 in
theorem w_c4 : (Jvm.Cond.code ({ cls := "com/example/quietwire/quietwire/transport/TickSchedule", name := "ticked", desc := "(J)V" } : Jvm.MethodName) prog_116_method_4_code (4 : Nat) (Option.none : Option Jvm.ClassFile.FieldType)).before args0 about1 = true := code_word (m := ⟨3, 3⟩) (meth := k3m3) (c := k3c3) (by decide +kernel) rfl rfl rfl (by decide +kernel)
set_option maxRecDepth 65536 in
theorem w_c5 : (Jvm.Cond.code ({ cls := "com/example/quietwire/quietwire/transport/TickSchedule", name := "due", desc := "()J" } : Jvm.MethodName) prog_116_method_2_code (1 : Nat) (Option.some Jvm.ClassFile.FieldType.long)).before args0 about1 = true := code_word (m := ⟨3, 1⟩) (meth := k3m1) (c := k3c1) (by decide +kernel) rfl rfl rfl (by decide +kernel)
set_option maxRecDepth 65536 in
theorem w_c6 : (Jvm.Cond.code ({ cls := "com/example/quietwire/quietwire/transport/TickSchedule", name := "isDue", desc := "(J)Z" } : Jvm.MethodName) prog_116_method_3_code (3 : Nat) (Option.some Jvm.ClassFile.FieldType.boolean)).before args0 about1 = true := code_word (m := ⟨3, 2⟩) (meth := k3m2) (c := k3c2) (by decide +kernel) rfl rfl rfl (by decide +kernel)
def codes1 : List Jvm.Cond := [Jvm.Cond.code x code maxLocals ret, Jvm.Cond.code ({ cls := "java/lang/Math", name := "max", desc := "(JJ)J" } : Jvm.MethodName) jdk_29_method_66_code (4 : Nat) (Option.some Jvm.ClassFile.FieldType.long), Jvm.Cond.code ({ cls := "com/example/quietwire/quietwire/transport/TickSchedule", name := "<init>", desc := "(JJ)V" } : Jvm.MethodName) prog_116_method_1_code (5 : Nat) (Option.none : Option Jvm.ClassFile.FieldType), Jvm.Cond.code ({ cls := "java/lang/Object", name := "<init>", desc := "()V" } : Jvm.MethodName) object_method_1_code (1 : Nat) (Option.none : Option Jvm.ClassFile.FieldType), Jvm.Cond.code ({ cls := "com/example/quietwire/quietwire/transport/TickSchedule", name := "ticked", desc := "(J)V" } : Jvm.MethodName) prog_116_method_4_code (4 : Nat) (Option.none : Option Jvm.ClassFile.FieldType), Jvm.Cond.code ({ cls := "com/example/quietwire/quietwire/transport/TickSchedule", name := "due", desc := "()J" } : Jvm.MethodName) prog_116_method_2_code (1 : Nat) (Option.some Jvm.ClassFile.FieldType.long), Jvm.Cond.code ({ cls := "com/example/quietwire/quietwire/transport/TickSchedule", name := "isDue", desc := "(J)Z" } : Jvm.MethodName) prog_116_method_3_code (3 : Nat) (Option.some Jvm.ClassFile.FieldType.boolean)]
set_option maxRecDepth 65536 in
theorem codes_eq : words1.filter isCode = codes1 := rfl
theorem w_codes : ∀ c ∈ words1.filter isCode, c.before args0 about1 = true := by
  rw [codes_eq]
  intro c hc
  simp only [codes1, List.mem_cons, List.not_mem_nil, or_false] at hc
  rcases hc with rfl | rfl | rfl | rfl | rfl | rfl | rfl
  · exact w_c0
  · exact w_c1
  · exact w_c2
  · exact w_c3
  · exact w_c4
  · exact w_c5
  · exact w_c6
set_option maxRecDepth 65536 in
theorem w_t1 : (words1.take 24).all (fun c => isCode c || c.before args0 about1) = true := by decide +kernel
set_option maxRecDepth 65536 in
theorem w_t2 : (words1.drop 24).all (fun c => isCode c || c.before args0 about1) = true := by decide +kernel
theorem w_tables : (allAtoms (Jvm.Cond.code x code maxLocals ret :: tables_1)).before args0 about1 = true := by
  rw [allAtoms_all]
  show words1.all (fun c => c.before args0 about1) = true
  refine all_split ?_ w_codes
  rw [← List.take_append_drop 24 words1, List.all_append, w_t1, w_t2]
  rfl
set_option maxRecDepth 65536 in
theorem w_case : (Jvm.Cond.and given_1 narrow_1).before args0 about1 = true := by decide +kernel
theorem w_applies : (headSpec (Jvm.Cond.code x code maxLocals ret :: tables_1) room_1).applies x e0.platform about1 = true :=
  (Spec.applies_iff w_frames).mpr ⟨w_running, w_runnable, w_alone, w_named, w_hears, w_ripe, w_room, w_tables⟩
theorem atStart : AtStart classFile x code maxLocals ret World_1 tables_1 room_1 Calls_1 rest_1 Pre_1 launch0 p0 e0 about1 theMethod args0 below0 :=
  ⟨lists_1, trivial, launch0.admits_env _ _ _, launch0.least_env, fairChoices_fair.cas, fairChoices_fair.clock, w_frames, w_args, w_heap, w_applies, trivial, trivial, w_case⟩
end start1
theorem witness_1 : WitnessClaimed_1 := ⟨start1.p0, start1.e0, start1.about1, start1.theMethod, start1.args0, start1.below0, start1.atStart⟩
end Jvm.Pilot.@@N@@
