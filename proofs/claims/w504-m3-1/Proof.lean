import JvmDerived
import JvmDerived.Pilot.@@N@@Statement
import JvmDerived.Pilot.@@N@@Code
set_option linter.unusedVariables false
set_option linter.unusedSimpArgs false
namespace Jvm.RoadKit
open Sem ClassFile Op Lib Jvm.Stand Jvm.Free Jvm.LawKit
section New
variable {p : Program} {l : Launch} {e : Env} {R : Room} {s : State} {m : MethodId} {args : Array Value} {below : List Frame} {meth : Method} {c : Code} {T : State} {locs : List Loc} {cells slots : Nat}
theorem retI (X : Stand p l e R s m args below meth c T locs cells slots) (hx : p.tables.exec = Jvm.exec) {pc : Nat} {Ls : Array Slot} {z : Int32} {rest : List Value} (hret : meth.sig.returnType = some .int) (hd : decode c.code pc = .ok (.ireturn, 1)) {fs : List Frame}
    (hl : ∀ (f : JFrame) (acts : List Action), f.method = m → f.locked = none → f.entered = [] → (doReturn e (T.setTop f) acts (some (.int z))).1 = T.setFrames fs) : Steps p.tables e below (T.setTop (mkF m pc Ls (.int z :: rest))) (T.setFrames fs) := by
  have hm' : T.vm.method? m = some meth := X.method'
  have hn : narrow .int (.int z) = .int z := rfl
  show Steps p.tables e below (T.setTop { method := m, pc := pc, locals := Ls, stack := _ :: rest, locked := none }) _
  jvm_step X.here [X.here.top, hx, hd, hm', hret, hn]
  first | (intro acts; rw [hl _ acts rfl rfl rfl]) | rw [hl _ _ rfl rfl rfl]
  exact Steps.refl _
end New
end Jvm.RoadKit
namespace Jvm.Pilot.@@N@@
open Jvm Jvm.ClassFile Sem Op Lib Jvm.Free Jvm.Stand Jvm.LawKit Jvm.RoadKit Bundle Jvm.Pilot.@@N@@.Jvm.D
/-! what every block of a body's walk is given -/
def Ctx (p : Program) (Z s : State) (a0 : Array Value) (m : MethodId) (meth : Method) (c : Code) (own nm : String) (bytes : ByteArray) (maxl : Nat) (rt : Option FieldType) : Prop :=
  p.tables.exec = Jvm.exec ∧ Z.Warmed39 s.vm ∧ (∀ d ∈ tables_1, d.before a0 Z = true) ∧ c.code = bytes ∧ c.maxLocals = maxl ∧ meth.sig.returnType = rt ∧ s.vm.findClass own = some m.cls ∧ meth.name = nm ∧ meth.locks = false
/-- from the state A the body's run ends, returns, and leaves what Q says -/
def EndsIn (p : Program) (e : Env) (below : List Frame) (s : State) (cells slots : Nat) (Q : Option Value → Heap → List Loc → Prop) (A : State) : Prop :=
  ∃ s₂ o, Steps p.tables e below A s₂ ∧ s₂.status = .running ∧ Ended s₂ below o ∧ ∃ v L, o = .returned v ∧ Q v s₂.heap L ∧ FrameEnd s o s₂ L cells slots
section Ends
variable {p : Program} {l : Launch} {e : Env} {R : Room} {s : State} {m : MethodId} {args : Array Value} {below : List Frame} {meth : Method} {c : Code} {T : State} {locs : List Loc} {cells slots : Nat} {C S : Nat} {Q : Option Value → Heap → List Loc → Prop}
theorem EndsIn.by {A B : State} (h : ∀ t, Steps p.tables e below B t → Steps p.tables e below A t) (k : EndsIn p e below s C S Q B) : EndsIn p e below s C S Q A := by
  obtain ⟨s₂, o, h1, r⟩ := k
  exact ⟨s₂, o, h _ h1, r⟩
theorem own_retI (X : Stand p l e R s m args below meth c T locs cells slots) (hx : p.tables.exec = Jvm.exec) (hlk : meth.locks = false) {pc : Nat} {Ls : Array Slot} {z : Int32} {rest : List Value} (hret : meth.sig.returnType = some .int) (hd : decode c.code pc = .ok (.ireturn, 1)) (hc : cells ≤ C) (hs : slots ≤ S)
    (hq : Q (some (.int z)) T.heap locs) : EndsIn p e below s C S Q (T.setTop (mkF m pc Ls (.int z :: rest))) := by
  obtain ⟨fs, hr, hrun, hended, hW, hsame⟩ := X.leave (v := some (.int z)) (fun h => by rw [hret] at h; cases h) hlk
  exact ⟨_, _, retI X hx hret hd hr, hrun, hended, _, _, rfl, hq, ⟨_, rfl⟩, hW, hsame.mono hc hs⟩
theorem own_retN (X : Stand p l e R s m args below meth c T locs cells slots) (hx : p.tables.exec = Jvm.exec) (hlk : meth.locks = false) {pc : Nat} {Ls : Array Slot} {z : Int32} {rest : List Value} {t : FieldType} (hret : meth.sig.returnType = some t) (ht : t = .boolean ∨ t = .byte ∨ t = .char ∨ t = .short) (hd : decode c.code pc = .ok (.ireturn, 1)) (hc : cells ≤ C) (hs : slots ≤ S)
    (hq : Q (some (.int (nar t z))) T.heap locs) : EndsIn p e below s C S Q (T.setTop (mkF m pc Ls (.int z :: rest))) := by
  obtain ⟨fs, hr, hrun, hended, hW, hsame⟩ := X.leave (v := some (.int (nar t z))) (fun h => by rw [hret] at h; cases h) hlk
  exact ⟨_, _, retN X hx hret ht hd hr, hrun, hended, _, _, rfl, hq, ⟨_, rfl⟩, hW, hsame.mono hc hs⟩
theorem own_retJ (X : Stand p l e R s m args below meth c T locs cells slots) (hx : p.tables.exec = Jvm.exec) (hlk : meth.locks = false) {pc : Nat} {Ls : Array Slot} {z : Int64} (hret : meth.sig.returnType = some .long) (hd : decode c.code pc = .ok (.lreturn, 1)) (hc : cells ≤ C) (hs : slots ≤ S)
    (hq : Q (some (.long z)) T.heap locs) : EndsIn p e below s C S Q (T.setTop (mkF m pc Ls [.long z])) := by
  obtain ⟨fs, hr, hrun, hended, hW, hsame⟩ := X.leave (v := some (.long z)) (fun h => by rw [hret] at h; cases h) hlk
  exact ⟨_, _, X.lreturnOut hx hret hd hr, hrun, hended, _, _, rfl, hq, ⟨_, rfl⟩, hW, hsame.mono hc hs⟩
theorem own_retR (X : Stand p l e R s m args below meth c T locs cells slots) (hx : p.tables.exec = Jvm.exec) (hlk : meth.locks = false) {pc : Nat} {Ls : Array Slot} {z : Addr} {t : FieldType} (hret : meth.sig.returnType = some t) (ht : t.isReference = true) (hd : decode c.code pc = .ok (.areturn, 1)) (hc : cells ≤ C) (hs : slots ≤ S)
    (hq : Q (some (.ref z)) T.heap locs) : EndsIn p e below s C S Q (T.setTop (mkF m pc Ls [.ref z])) := by
  obtain ⟨fs, hr, hrun, hended, hW, hsame⟩ := X.leave (v := some (.ref z)) (fun h => by rw [hret] at h; cases h) hlk
  exact ⟨_, _, X.areturnOut hx rfl hret ht hd hr, hrun, hended, _, _, rfl, hq, ⟨_, rfl⟩, hW, hsame.mono hc hs⟩
theorem own_ret0 (X : Stand p l e R s m args below meth c T locs cells slots) (hx : p.tables.exec = Jvm.exec) (hlk : meth.locks = false) {pc : Nat} {Ls : Array Slot} (hret : meth.sig.returnType = none) (hd : decode c.code pc = .ok (.return_, 1)) (hc : cells ≤ C) (hs : slots ≤ S)
    (hq : Q none T.heap locs) : EndsIn p e below s C S Q (T.setTop (mkF m pc Ls [])) := by
  obtain ⟨fs, hr, hrun, hended, hW, hsame⟩ := X.leave (v := none) (fun _ => rfl) hlk
  exact ⟨_, _, X.returnOut hx hret hd hr, hrun, hended, _, _, rfl, hq, ⟨_, rfl⟩, hW, hsame.mono hc hs⟩
end Ends
section Arrays
variable {Z : State} {h h' : Heap} {a : Addr} {k : ClassId} {ty : FieldType} {n j : Int32} {vs : List Value} {d : Value}
/-- what an array of ints holds at the place j -/
def own_at (xs : List Int32) (j : Int32) : Int32 := xs.getD j.toNatClampNeg 0
def own_atJ (xs : List Int64) (j : Int32) : Int64 := xs.getD j.toNatClampNeg 0
theorem own_mapD (xs : List Int32) (i : Nat) : (xs.map Value.int).getD i (.int 0) = .int (xs.getD i 0) := by
  rw [List.getD_eq_getElem?_getD, List.getD_eq_getElem?_getD, List.getElem?_map]; cases xs[i]? <;> rfl
theorem own_mapDJ (xs : List Int64) (i : Nat) : (xs.map Value.long).getD i (.long 0) = .long (xs.getD i 0) := by
  rw [List.getD_eq_getElem?_getD, List.getD_eq_getElem?_getD, List.getElem?_map]; cases xs[i]? <;> rfl
theorem own_open (V : Arv Z h a k ty n vs d) (hj : ¬ (j < 0) ∧ j < n) : ∃ cl, Arr Z h a cl ty ∧ ¬ (j < 0 ∨ cl.slots.size ≤ j.toNatClampNeg) ∧ True := by
  obtain ⟨cl, Ar, -, S, -, -, -⟩ := V
  exact ⟨cl, Ar, inb_of S hj, trivial⟩
theorem own_readI {xs : List Int32} (V : Arv Z h a k ty n (xs.map Value.int) (.int 0)) (hj : ¬ (j < 0) ∧ j < n) (i : Nat) (hi : j.toNatClampNeg = i) : ∃ cl, Arr Z h a cl ty ∧ ¬ (j < 0 ∨ cl.slots.size ≤ j.toNatClampNeg) ∧ cl.slots[j.toNatClampNeg]? = some (.int (xs.getD i 0)) := by
  obtain ⟨cl, Ar, -, S, -, H, -⟩ := V
  have q := inb_of S hj
  refine ⟨cl, Ar, q, ?_⟩
  rw [H _ (Nat.lt_of_not_le fun y => q (Or.inr y)), own_mapD, hi]
theorem own_readJ {xs : List Int64} (V : Arv Z h a k ty n (xs.map Value.long) (.long 0)) (hj : ¬ (j < 0) ∧ j < n) (i : Nat) (hi : j.toNatClampNeg = i) : ∃ cl, Arr Z h a cl ty ∧ ¬ (j < 0 ∨ cl.slots.size ≤ j.toNatClampNeg) ∧ cl.slots[j.toNatClampNeg]? = some (.long (xs.getD i 0)) := by
  obtain ⟨cl, Ar, -, S, -, H, -⟩ := V
  have q := inb_of S hj
  refine ⟨cl, Ar, q, ?_⟩
  rw [H _ (Nat.lt_of_not_le fun y => q (Or.inr y)), own_mapDJ, hi]
theorem own_setI {xs : List Int32} {v : Int32} (V : Arv Z h a k ty n (xs.map Value.int) (.int 0)) (ln : xs.length = n.toNatClampNeg) (hj : ¬ (j < 0) ∧ j < n) (W : Wr h h' a j.toNatClampNeg (.int v)) (hf : fits ty (.int v) = true) (i : Nat) (hi : j.toNatClampNeg = i) :
    Arv Z h' a k ty n ((xs.set i v).map Value.int) (.int 0) ∧ (xs.set i v).length = n.toNatClampNeg := by
  subst hi
  obtain ⟨cl, Ar, q1, S, q3, H, G⟩ := V
  have q := inb_of S hj
  have W2 := Arv.set Ar q1 S q3 H G hf W j.toNatClampNeg rfl (by rw [List.length_map, ln, ← S]; exact Nat.lt_of_not_le fun y => q (Or.inr y))
  rw [List.map_set]
  exact ⟨W2, by rw [List.length_set]; exact ln⟩
theorem own_setJ {xs : List Int64} {v : Int64} (V : Arv Z h a k ty n (xs.map Value.long) (.long 0)) (ln : xs.length = n.toNatClampNeg) (hj : ¬ (j < 0) ∧ j < n) (W : Wr h h' a j.toNatClampNeg (.long v)) (hf : fits ty (.long v) = true) (i : Nat) (hi : j.toNatClampNeg = i) :
    Arv Z h' a k ty n ((xs.set i v).map Value.long) (.long 0) ∧ (xs.set i v).length = n.toNatClampNeg := by
  subst hi
  obtain ⟨cl, Ar, q1, S, q3, H, G⟩ := V
  have q := inb_of S hj
  have W2 := Arv.set Ar q1 S q3 H G hf W j.toNatClampNeg rfl (by rw [List.length_map, ln, ← S]; exact Nat.lt_of_not_le fun y => q (Or.inr y))
  rw [List.map_set]
  exact ⟨W2, by rw [List.length_set]; exact ln⟩
theorem own_newI (A : Arr Z h a (newA k ty n) ty) (hd : defaultValue ty = .int 0) (q : ¬ n < 0) {xs : List Int32} (hxs : xs = List.replicate n.toNatClampNeg 0) : Arv Z h a k ty n (xs.map Value.int) (.int 0) ∧ xs.length = n.toNatClampNeg := by
  subst hxs
  have V := Arv.new A q
  rw [hd] at V
  have V2 := V.pad (pad_rep [] (.int 0) n.toNatClampNeg)
  rw [List.map_replicate]
  exact ⟨V2, by rw [List.length_replicate]⟩
theorem own_newJ (A : Arr Z h a (newA k ty n) ty) (hd : defaultValue ty = .long 0) (q : ¬ n < 0) {xs : List Int64} (hxs : xs = List.replicate n.toNatClampNeg 0) : Arv Z h a k ty n (xs.map Value.long) (.long 0) ∧ xs.length = n.toNatClampNeg := by
  subst hxs
  have V := Arv.new A q
  rw [hd] at V
  have V2 := V.pad (pad_rep [] (.long 0) n.toNatClampNeg)
  rw [List.map_replicate]
  exact ⟨V2, by rw [List.length_replicate]⟩
end Arrays

theorem own_ltL {x y : Int64} : x < y ↔ x.toInt < y.toInt := Int64.lt_iff_toInt_lt
theorem own_m1 (a : Int64) : ¬ ((1 : Int64) + (a &&& (7 : Int64)) < (1 : Int64)) := by
  have h := c_maskL a 7 3 (by decide) (by decide)
  have := c_ladd 1 (a &&& 7); have := rng64 (1 + (a &&& 7)); have z : (1 : Int64).toInt = 1 := rfl
  rw [own_ltL]; omega
theorem own_m2 (x : Int64) : ¬ ((if (1 : Int64) < x then x else (1 : Int64)) < (1 : Int64)) := by
  split
  · rename_i q; rw [own_ltL] at q ⊢; omega
  · decide
theorem d5_0 : decode jdk_29_method_66_code 0 = .ok (.lload_n 0, 1) := by decide +kernel
theorem d5_1 : decode jdk_29_method_66_code 1 = .ok (.lload_n 2, 1) := by decide +kernel
theorem d5_2 : decode jdk_29_method_66_code 2 = .ok (.lcmp, 1) := by decide +kernel
theorem d5_3 : decode jdk_29_method_66_code 3 = .ok (.ifCond .lt 7, 3) := by decide +kernel
theorem d5_6 : decode jdk_29_method_66_code 6 = .ok (.lload_n 0, 1) := by decide +kernel
theorem d5_7 : decode jdk_29_method_66_code 7 = .ok (.goto 4, 3) := by decide +kernel
theorem d5_10 : decode jdk_29_method_66_code 10 = .ok (.lload_n 2, 1) := by decide +kernel
theorem d5_11 : decode jdk_29_method_66_code 11 = .ok (.lreturn, 1) := by decide +kernel
def R5 : Room := { frames := 0, cells := 0, slots := 0, locals := 0 }
def Q5 (Z : State)  (h0 : Heap) (n0 : Nat) (r : Int64) (v : Option Value) (h : Heap) (L : List Loc) : Prop := v = some (.long r) ∧ Fr n0 L ∧ h = h0
def f5_0 (v0 : Int64) (v2 : Int64) : Int64 := (if v0 < v2 then v2 else v0)
set_option maxRecDepth 65536 in
set_option maxHeartbeats 40000000 in
theorem b5_0 {p : Program} {l : Launch} {e : Env} {s : State} {m : MethodId} {args : Array Value} {below : List Frame} {meth : Method} {c : Code} {Z : State} {a0 : Array Value} (B : Ctx p Z s a0 m meth c "java/lang/Math" "max" jdk_29_method_66_code 4 (some .long)) {T0 : State} {locs : List Loc} {h : Heap} (h0 : Heap) (n0 : Nat) (v0 : Int64) (v2 : Int64) (X0 : Stand p l e R5 s m args below meth c T0 locs 0 0) (e0 : T0.heap = h) (N0 : Fr n0 locs) (Z0 : n0 ≤ h.size) (hh0 : h = h0) (r : Int64) (hr : f5_0 v0 v2 = r) :
    EndsIn p e below s R5.cells R5.slots (Q5 Z  h0 n0 r) (T0.setTop (mkF m 0 #[.val (.long v0), .second, .val (.long v2), .second] [])) := by
  obtain ⟨hx, hZ, hw, hby, hml, hret, hown, hnm, hlk⟩ := B
  unfold f5_0 at hr
  refine EndsIn.by (B := T0.setTop (mkF m 3 #[.val (.long v0), .second, .val (.long v2), .second] [(.int (lcmpW v0 v2))])) (fun t k => ?_) ?_
  · show Steps p.tables e below (T0.setTop (mkF m 0 #[.val (.long v0), .second, .val (.long v2), .second] [])) _
    refine XS.lloadN X0.here hx rfl (hb hby d5_0) rfl  ?_
    show Steps p.tables e below (T0.setTop (mkF m 1 #[.val (.long v0), .second, .val (.long v2), .second] [(.long v0)])) _
    refine XS.lloadN X0.here hx rfl (hb hby d5_1) rfl  ?_
    show Steps p.tables e below (T0.setTop (mkF m 2 #[.val (.long v0), .second, .val (.long v2), .second] [(.long v2), (.long v0)])) _
    refine XS.lcmp X0.here hx rfl (hb hby d5_2) rfl ?_
    exact k
  by_cases hc3 : v0 < v2
  · rw [if_pos hc3] at hr
    refine EndsIn.by (B := T0.setTop (mkF m 10 #[.val (.long v0), .second, .val (.long v2), .second] [])) (fun t k => ?_) ?_
    · show Steps p.tables e below (T0.setTop (mkF m 3 #[.val (.long v0), .second, .val (.long v2), .second] [(.int (lcmpW v0 v2))])) _
      exact XS.ifYes X0.here hx rfl (pc0 := 3) (pc' := 10) rfl (hb hby d5_3) rfl ((if0 _ _).trans (tlt ((lw_lt _ _).mpr hc3)).1) (by decide) (by decide) k
    refine EndsIn.by (B := T0.setTop (mkF m 11 #[.val (.long v0), .second, .val (.long v2), .second] [(.long v2)])) (fun t k => ?_) ?_
    · show Steps p.tables e below (T0.setTop (mkF m 10 #[.val (.long v0), .second, .val (.long v2), .second] [])) _
      refine XS.lloadN X0.here hx rfl (hb hby d5_10) rfl  ?_
      exact k
    subst hr
    exact own_retJ X0 hx hlk hret (hb hby d5_11) (by decide) (by decide) ⟨rfl, N0, (e0.trans hh0)⟩
  · rw [if_neg hc3] at hr
    refine EndsIn.by (B := T0.setTop (mkF m 6 #[.val (.long v0), .second, .val (.long v2), .second] [])) (fun t k => ?_) ?_
    · show Steps p.tables e below (T0.setTop (mkF m 3 #[.val (.long v0), .second, .val (.long v2), .second] [(.int (lcmpW v0 v2))])) _
      exact XS.ifNo X0.here hx rfl (hb hby d5_3) rfl ((if0 _ _).trans (flt (fun q => hc3 ((lw_lt _ _).mp q))).1) k
    refine EndsIn.by (B := T0.setTop (mkF m 11 #[.val (.long v0), .second, .val (.long v2), .second] [(.long v0)])) (fun t k => ?_) ?_
    · show Steps p.tables e below (T0.setTop (mkF m 6 #[.val (.long v0), .second, .val (.long v2), .second] [])) _
      refine XS.lloadN X0.here hx rfl (hb hby d5_6) rfl  ?_
      show Steps p.tables e below (T0.setTop (mkF m 7 #[.val (.long v0), .second, .val (.long v2), .second] [(.long v0)])) _
      refine XS.goto X0.here hx rfl (pc0 := 7) (pc' := 11) rfl (hb hby d5_7) (by decide) (by decide) ?_
      exact k
    subst hr
    exact own_retJ X0 hx hlk hret (hb hby d5_11) (by decide) (by decide) ⟨rfl, N0, (e0.trans hh0)⟩
theorem ef_5 (m : MethodId) (v0 : Int64) (v2 : Int64) : entryFrame m #[(.long v0), (.long v2)] 4 = (mkF m 0 #[.val (.long v0), .second, .val (.long v2), .second] []) := by first | (simp [entryFrame, mkF, argsToLocals, Value.category]; done) | rfl
set_option maxRecDepth 65536 in
set_option maxHeartbeats 40000000 in
theorem rm5 (l : Launch) (Z : State) (a0 : Array Value) (hw : ∀ d ∈ tables_1, d.before a0 Z = true) (ws : List Jvm.Cond) (v0 : Int64) (v2 : Int64) (h0 : Heap) (n0 : Nat) (Z0 : n0 ≤ h0.size) :
    MetFree l (⟨"java/lang/Math", "max", "(JJ)J"⟩ : MethodName) (head1 (Jvm.Cond.code (⟨"java/lang/Math", "max", "(JJ)J"⟩ : MethodName) jdk_29_method_66_code 4 (some .long) :: ws) R5) (fun a U => a = #[(.long v0), (.long v2)] ∧ Z.Warmed39 U.vm ∧ U.heap = h0) (fun _ _ _ _ _ => True) (fun _ U o U' => ∃ v L, o = .returned v ∧ (Q5 Z  h0 n0 (f5_0 v0 v2)) v U'.heap L ∧ FrameEnd U o U' L R5.cells R5.slots) := by
  refine MetFree.of_bodySF (Jvm.Free.JP.mathPlain rfl (by decide +kernel)) hisR ?_
  intro p e s m args below meth c s₁ Bd hml0 hP hK
  obtain ⟨rfl, hZ, hh⟩ := hP
  have B : Ctx p Z s a0 m meth c "java/lang/Math" "max" jdk_29_method_66_code 4 (some .long) := ⟨Bd.exec, hZ, hw, Bd.bytes, hml0, Bd.returns, findClass_of_methodNamed Bd.named, (name_of_methodNamed Bd.named Bd.method).1, Bd.notSynchronized⟩
  have X0 : Stand p l e R5 s m #[(.long v0), (.long v2)] below meth c s₁ [] 0 0 := Stand.of_body Bd
  have e0 : s₁.heap = h0 := by rw [← hh, Bd.state]; rfl
  have K := Keep.refl h0 []
  show EndsIn p e below s R5.cells R5.slots (Q5 Z  h0 n0 (f5_0 v0 v2)) (s₁.setTop (entryFrame m #[(.long v0), (.long v2)] 4))
  refine EndsIn.by (fun t k => castTop (ef_5 m v0 v2) k) ?_
  exact b5_0 B h0 n0 v0 v2 X0 e0 (Fr.nil n0) Z0 rfl  _ rfl
theorem pd_0 : parseMethodDescriptor "(JJ)J" = some ⟨[.long, .long], some .long⟩ := by decide +kernel
theorem d2_0 : decode jdk_30_method_1_code 0 = .ok (.aload_n 0, 1) := by decide +kernel
theorem d2_1 : decode jdk_30_method_1_code 1 = .ok (.invokespecial 1, 3) := by decide +kernel
theorem d2_4 : decode jdk_30_method_1_code 4 = .ok (.return_, 1) := by decide +kernel
theorem pn_2 : plainName "java/lang/Record" = true := by first | (simp [plainName, overriddenIn]; done) | decide +kernel
def R2 : Room := { frames := 1, cells := 0, slots := 0, locals := 12 }
def Q2 (Z : State)  (h0 : Heap) (n0 : Nat) (r : Unit) (v : Option Value) (h : Heap) (L : List Loc) : Prop := v = none ∧ Fr n0 L ∧ h = h0
def f2_0  : Unit := ()
set_option maxRecDepth 65536 in
set_option maxHeartbeats 40000000 in
theorem b2_0 {p : Program} {l : Launch} {e : Env} {s : State} {m : MethodId} {args : Array Value} {below : List Frame} {meth : Method} {c : Code} {Z : State} {a0 : Array Value} (B : Ctx p Z s a0 m meth c "java/lang/Record" "<init>" jdk_30_method_1_code 1 none) {T0 : State} {locs : List Loc} {h : Heap} (h0 : Heap) (n0 : Nat) (o0 : Addr) (X0 : Stand p l e R2 s m args below meth c T0 locs 0 0) (e0 : T0.heap = h) (N0 : Fr n0 locs) (Z0 : n0 ≤ h.size) (hh0 : h = h0) (r : Unit) (hr : f2_0  = r) :
    EndsIn p e below s R2.cells R2.slots (Q2 Z  h0 n0 r) (T0.setTop (mkF m 0 #[.val (.ref o0)] [])) := by
  obtain ⟨hx, hZ, hw, hby, hml, hret, hown, hnm, hlk⟩ := B
  unfold f2_0 at hr
  refine EndsIn.by (B := T0.setTop (mkF m 1 #[.val (.ref o0)] [(.ref o0)])) (fun t k => ?_) ?_
  · show Steps p.tables e below (T0.setTop (mkF m 0 #[.val (.ref o0)] [])) _
    refine XS.aloadN X0.here hx rfl (hb hby d2_0) rfl rfl ?_
    exact k
  obtain ⟨T1, X1, e1, st1⟩ := initO X0 hx hZ hown (hw _ (List.mem_of_getElem? (i := 12) rfl)) (hw _ (List.mem_of_getElem? (i := 13) rfl)) (hw _ (List.mem_of_getElem? (i := 14) rfl)) e0 (g := (mkF m 1 #[.val (.ref o0)] [(.ref o0)])) rfl (by rw [hml]; rfl) rfl (hb hby d2_1) (by decide) (W := 0) (by show 2 * 0 + _ ≤ _; exact Nat.le_of_eq rfl) (by decide)
  refine EndsIn.by (B := T1.setTop (mkF m 4 #[.val (.ref o0)] [])) (fun t k => st1 t k) ?_
  subst hr
  exact own_ret0 X1 hx hlk hret (hb hby d2_4) (by decide) (by decide) ⟨rfl, N0, (e1.trans hh0)⟩
theorem ef_2 (m : MethodId) (o0 : Addr) : entryFrame m #[(.ref o0)] 1 = (mkF m 0 #[.val (.ref o0)] []) := by first | (simp [entryFrame, mkF, argsToLocals, Value.category]; done) | rfl
set_option maxRecDepth 65536 in
set_option maxHeartbeats 40000000 in
theorem rm2 (l : Launch) (Z : State) (a0 : Array Value) (hw : ∀ d ∈ tables_1, d.before a0 Z = true) (ws : List Jvm.Cond) (o0 : Addr) (h0 : Heap) (n0 : Nat) (Z0 : n0 ≤ h0.size) :
    MetFree l (⟨"java/lang/Record", "<init>", "()V"⟩ : MethodName) (head1 (Jvm.Cond.code (⟨"java/lang/Record", "<init>", "()V"⟩ : MethodName) jdk_30_method_1_code 1 none :: ws) R2) (fun a U => a = #[(.ref o0)] ∧ Z.Warmed39 U.vm ∧ U.heap = h0) (fun _ _ _ _ _ => True) (fun _ U o U' => ∃ v L, o = .returned v ∧ (Q2 Z  h0 n0 f2_0) v U'.heap L ∧ FrameEnd U o U' L R2.cells R2.slots) := by
  refine MetFree.of_bodySF (plainFor_of_name pn_2) hisR ?_
  intro p e s m args below meth c s₁ Bd hml0 hP hK
  obtain ⟨rfl, hZ, hh⟩ := hP
  have B : Ctx p Z s a0 m meth c "java/lang/Record" "<init>" jdk_30_method_1_code 1 none := ⟨Bd.exec, hZ, hw, Bd.bytes, hml0, Bd.returns, findClass_of_methodNamed Bd.named, (name_of_methodNamed Bd.named Bd.method).1, Bd.notSynchronized⟩
  have X0 : Stand p l e R2 s m #[(.ref o0)] below meth c s₁ [] 0 0 := Stand.of_body Bd
  have e0 : s₁.heap = h0 := by rw [← hh, Bd.state]; rfl
  have K := Keep.refl h0 []
  show EndsIn p e below s R2.cells R2.slots (Q2 Z  h0 n0 f2_0) (s₁.setTop (entryFrame m #[(.ref o0)] 1))
  refine EndsIn.by (fun t k => castTop (ef_2 m o0) k) ?_
  exact b2_0 B h0 n0 o0 X0 e0 (Fr.nil n0) Z0 rfl  _ rfl
theorem pd_1 : parseMethodDescriptor "()V" = some ⟨[], none⟩ := by decide +kernel
theorem d1_0 : decode prog_19_method_1_code 0 = .ok (.aload_n 0, 1) := by decide +kernel
theorem d1_1 : decode prog_19_method_1_code 1 = .ok (.invokespecial 1, 3) := by decide +kernel
theorem d1_4 : decode prog_19_method_1_code 4 = .ok (.lload_n 1, 1) := by decide +kernel
theorem d1_5 : decode prog_19_method_1_code 5 = .ok (.lconst 1, 1) := by decide +kernel
theorem d1_6 : decode prog_19_method_1_code 6 = .ok (.lcmp, 1) := by decide +kernel
theorem d1_7 : decode prog_19_method_1_code 7 = .ok (.ifCond .lt 9, 3) := by decide +kernel
theorem d1_10 : decode prog_19_method_1_code 10 = .ok (.lload_n 3, 1) := by decide +kernel
theorem d1_11 : decode prog_19_method_1_code 11 = .ok (.lconst 1, 1) := by decide +kernel
theorem d1_12 : decode prog_19_method_1_code 12 = .ok (.lcmp, 1) := by decide +kernel
theorem d1_13 : decode prog_19_method_1_code 13 = .ok (.ifCond .ge 18, 3) := by decide +kernel
theorem d1_31 : decode prog_19_method_1_code 31 = .ok (.aload_n 0, 1) := by decide +kernel
theorem d1_32 : decode prog_19_method_1_code 32 = .ok (.lload_n 1, 1) := by decide +kernel
theorem d1_33 : decode prog_19_method_1_code 33 = .ok (.putfield 16, 3) := by decide +kernel
theorem d1_36 : decode prog_19_method_1_code 36 = .ok (.aload_n 0, 1) := by decide +kernel
theorem d1_37 : decode prog_19_method_1_code 37 = .ok (.lload_n 3, 1) := by decide +kernel
theorem d1_38 : decode prog_19_method_1_code 38 = .ok (.putfield 22, 3) := by decide +kernel
theorem d1_41 : decode prog_19_method_1_code 41 = .ok (.return_, 1) := by decide +kernel
theorem pn_1 : plainName "com/example/search_suggest/searchsuggest/engine/PrivacyFloor" = true := by first | (simp [plainName, overriddenIn]; done) | decide +kernel
def R1 : Room := { frames := 2, cells := 0, slots := 0, locals := 24 }
def Q1 (Z : State) (o0 : Addr) (h0 : Heap) (n0 : Nat) (r : Int64 × Int64) (v : Option Value) (h : Heap) (L : List Loc) : Prop := v = none ∧ Fr n0 L ∧ Keep h0 h [o0] ∧ Exa Z h o0 "com/example/search_suggest/searchsuggest/engine/PrivacyFloor" ∧ Fld Z h o0 "com/example/search_suggest/searchsuggest/engine/PrivacyFloor" "minCount" "J" (.long r.1) ∧ Fld Z h o0 "com/example/search_suggest/searchsuggest/engine/PrivacyFloor" "minUsers" "J" (.long r.2)
def f1_0 (v1 : Int64) (v3 : Int64) (o0_minCount : Int64) (o0_minUsers : Int64) : Int64 × Int64 := (v1, v3)
set_option maxRecDepth 65536 in
set_option maxHeartbeats 40000000 in
theorem b1_0 {p : Program} {l : Launch} {e : Env} {s : State} {m : MethodId} {args : Array Value} {below : List Frame} {meth : Method} {c : Code} {Z : State} {a0 : Array Value} (B : Ctx p Z s a0 m meth c "com/example/search_suggest/searchsuggest/engine/PrivacyFloor" "<init>" prog_19_method_1_code 5 none) {T0 : State} {locs : List Loc} {h : Heap} (h0 : Heap) (n0 : Nat) (o0 : Addr) (v1 : Int64) (v3 : Int64) (o0_minCount : Int64) (o0_minUsers : Int64) (X0 : Stand p l e R1 s m args below meth c T0 locs 0 0) (e0 : T0.heap = h) (N0 : Fr n0 locs) (Z0 : n0 ≤ h.size) (K : Keep h0 h [o0]) (E_o0 : Exa Z h o0 "com/example/search_suggest/searchsuggest/engine/PrivacyFloor") (F_o0_minCount : Fld Z h o0 "com/example/search_suggest/searchsuggest/engine/PrivacyFloor" "minCount" "J" (.long o0_minCount)) (F_o0_minUsers : Fld Z h o0 "com/example/search_suggest/searchsuggest/engine/PrivacyFloor" "minUsers" "J" (.long o0_minUsers)) (g_o0 : n0 ≤ o0) (h1 : ¬ (v1 < (1 : Int64))) (h2 : ¬ (v3 < (1 : Int64))) (r : Int64 × Int64) (hr : f1_0 v1 v3 o0_minCount o0_minUsers = r) :
    EndsIn p e below s R1.cells R1.slots (Q1 Z o0 h0 n0 r) (T0.setTop (mkF m 0 #[.val (.ref o0), .val (.long v1), .second, .val (.long v3), .second] [])) := by
  obtain ⟨hx, hZ, hw, hby, hml, hret, hown, hnm, hlk⟩ := B
  unfold f1_0 at hr
  refine EndsIn.by (B := T0.setTop (mkF m 1 #[.val (.ref o0), .val (.long v1), .second, .val (.long v3), .second] [(.ref o0)])) (fun t k => ?_) ?_
  · show Steps p.tables e below (T0.setTop (mkF m 0 #[.val (.ref o0), .val (.long v1), .second, .val (.long v3), .second] [])) _
    refine XS.aloadN X0.here hx rfl (hb hby d1_0) rfl rfl ?_
    exact k
  -- pc 1: java/lang/Record.<init>
  obtain ⟨_, _, ⟨T1, L1, k1, n1⟩, -, X1, ⟨Lc1, hQ1, l1, y1, z1⟩, st1⟩ := X0.specialBack hx (y := (⟨"java/lang/Record", "<init>", "()V"⟩ : MethodName)) rfl hown (mvT hZ (hw _ (List.mem_of_getElem? (i := 7) rfl))) (mvT hZ (hw _ (List.mem_of_getElem? (i := 8) rfl))) (mvT hZ (hw _ (List.mem_of_getElem? (i := 11) rfl))) (by decide) (backOf (W := 0) (rm2 l Z a0 hw [] o0 h n0 Z0 ) hZ (hw _ (List.mem_of_getElem? (i := 11) rfl)) (hw _ (List.mem_of_getElem? (i := 10) rfl)) (by decide) (by decide)) (g := (mkF m 1 #[.val (.ref o0), .val (.long v1), .second, .val (.long v3), .second] [(.ref o0)])) rfl (by rw [hml]; rfl) (Steps.refl _) (a := o0) (argsL := []) (rest := []) (lenOf pd_1 rfl) rfl (by show 2 * 0 + _ ≤ _; exact Nat.le_of_eq rfl) (hb hby d1_1) (fun _ _ => ⟨rfl, e0, (by decide : 0 + R2.cells ≤ _), (by decide : 0 + R2.slots ≤ _)⟩)
  dsimp only [Pt.U, Pt.locs, Pt.cells, Pt.slots] at X1 l1 y1 z1 st1 hQ1
  subst l1 y1 z1
  obtain ⟨rfl, Nq1, e1⟩ := hQ1
  have N1 := Fr.app N0 Nq1
  refine EndsIn.by (B := T1.setTop (mkF m 4 #[.val (.ref o0), .val (.long v1), .second, .val (.long v3), .second] [])) (fun t k => st1.trans k) ?_
  refine EndsIn.by (B := T1.setTop (mkF m 7 #[.val (.ref o0), .val (.long v1), .second, .val (.long v3), .second] [(.int (lcmpW v1 (1 : Int64)))])) (fun t k => ?_) ?_
  · show Steps p.tables e below (T1.setTop (mkF m 4 #[.val (.ref o0), .val (.long v1), .second, .val (.long v3), .second] [])) _
    refine XS.lloadN X1.here hx rfl (hb hby d1_4) rfl  ?_
    show Steps p.tables e below (T1.setTop (mkF m 5 #[.val (.ref o0), .val (.long v1), .second, .val (.long v3), .second] [(.long v1)])) _
    refine XS.lconst X1.here hx rfl (hb hby d1_5) ?_
    show Steps p.tables e below (T1.setTop (mkF m 6 #[.val (.ref o0), .val (.long v1), .second, .val (.long v3), .second] [(.long (1 : Int64)), (.long v1)])) _
    refine XS.lcmp X1.here hx rfl (hb hby d1_6) rfl ?_
    exact k
  have hc7 : ¬ (v1 < (1 : Int64)) := h1
  refine EndsIn.by (B := T1.setTop (mkF m 10 #[.val (.ref o0), .val (.long v1), .second, .val (.long v3), .second] [])) (fun t k => ?_) ?_
  · show Steps p.tables e below (T1.setTop (mkF m 7 #[.val (.ref o0), .val (.long v1), .second, .val (.long v3), .second] [(.int (lcmpW v1 (1 : Int64)))])) _
    exact XS.ifNo X1.here hx rfl (hb hby d1_7) rfl ((if0 _ _).trans (flt (fun q => hc7 ((lw_lt _ _).mp q))).1) k
  refine EndsIn.by (B := T1.setTop (mkF m 13 #[.val (.ref o0), .val (.long v1), .second, .val (.long v3), .second] [(.int (lcmpW v3 (1 : Int64)))])) (fun t k => ?_) ?_
  · show Steps p.tables e below (T1.setTop (mkF m 10 #[.val (.ref o0), .val (.long v1), .second, .val (.long v3), .second] [])) _
    refine XS.lloadN X1.here hx rfl (hb hby d1_10) rfl  ?_
    show Steps p.tables e below (T1.setTop (mkF m 11 #[.val (.ref o0), .val (.long v1), .second, .val (.long v3), .second] [(.long v3)])) _
    refine XS.lconst X1.here hx rfl (hb hby d1_11) ?_
    show Steps p.tables e below (T1.setTop (mkF m 12 #[.val (.ref o0), .val (.long v1), .second, .val (.long v3), .second] [(.long (1 : Int64)), (.long v3)])) _
    refine XS.lcmp X1.here hx rfl (hb hby d1_12) rfl ?_
    exact k
  have hc13 : ¬ (v3 < (1 : Int64)) := h2
  refine EndsIn.by (B := T1.setTop (mkF m 31 #[.val (.ref o0), .val (.long v1), .second, .val (.long v3), .second] [])) (fun t k => ?_) ?_
  · show Steps p.tables e below (T1.setTop (mkF m 13 #[.val (.ref o0), .val (.long v1), .second, .val (.long v3), .second] [(.int (lcmpW v3 (1 : Int64)))])) _
    exact XS.ifYes X1.here hx rfl (pc0 := 13) (pc' := 31) rfl (hb hby d1_13) rfl ((if0 _ _).trans (flt (fun q => hc13 ((lw_lt _ _).mp q))).2.1) (by decide) (by decide) k
  refine EndsIn.by (B := T1.setTop (mkF m 33 #[.val (.ref o0), .val (.long v1), .second, .val (.long v3), .second] [(.long v1), (.ref o0)])) (fun t k => ?_) ?_
  · show Steps p.tables e below (T1.setTop (mkF m 31 #[.val (.ref o0), .val (.long v1), .second, .val (.long v3), .second] [])) _
    refine XS.aloadN X1.here hx rfl (hb hby d1_31) rfl rfl ?_
    show Steps p.tables e below (T1.setTop (mkF m 32 #[.val (.ref o0), .val (.long v1), .second, .val (.long v3), .second] [(.ref o0)])) _
    refine XS.lloadN X1.here hx rfl (hb hby d1_32) rfl  ?_
    exact k
  obtain ⟨T2, h2, X2, e2, W2, st2⟩ := putF X1 hx hZ hown (host := "") (Or.inl (hw _ (List.mem_of_getElem? (i := 15) rfl))) Via.refl e1 F_o0_minCount E_o0 (Or.inr ⟨(hw _ (List.mem_of_getElem? (i := 16) rfl)), rfl, hnm⟩) (hw _ (List.mem_of_getElem? (i := 2) rfl)) (ty := .long) (by decide) rfl rfl (g := (mkF m 33 #[.val (.ref o0), .val (.long v1), .second, .val (.long v3), .second] [(.long v1), (.ref o0)])) rfl rfl (hb hby d1_33)
  have E_o0_2 := E_o0.wr W2
  have F_o0_minCount_2 := F_o0_minCount.same W2
  have F_o0_minUsers_2 := F_o0_minUsers.other W2 (Or.inr (slot_ne (Or.inr (hw _ (List.mem_of_getElem? (i := 18) rfl))) (Or.inr (hw _ (List.mem_of_getElem? (i := 16) rfl))) (by decide) (t := .long) (t' := .long) (by decide) (by decide)))
  have N2 := Fr.snoc X2 N1 g_o0
  have Z2 : n0 ≤ h2.size := Nat.le_trans Z0 (Nat.le_of_eq W2.size.symm)
  have K2 := K.wr W2 (Or.inl (by simp))
  refine EndsIn.by (B := T2.setTop (mkF m 36 #[.val (.ref o0), .val (.long v1), .second, .val (.long v3), .second] [])) (fun t k => st2 t k) ?_
  refine EndsIn.by (B := T2.setTop (mkF m 38 #[.val (.ref o0), .val (.long v1), .second, .val (.long v3), .second] [(.long v3), (.ref o0)])) (fun t k => ?_) ?_
  · show Steps p.tables e below (T2.setTop (mkF m 36 #[.val (.ref o0), .val (.long v1), .second, .val (.long v3), .second] [])) _
    refine XS.aloadN X2.here hx rfl (hb hby d1_36) rfl rfl ?_
    show Steps p.tables e below (T2.setTop (mkF m 37 #[.val (.ref o0), .val (.long v1), .second, .val (.long v3), .second] [(.ref o0)])) _
    refine XS.lloadN X2.here hx rfl (hb hby d1_37) rfl  ?_
    exact k
  obtain ⟨T3, h3, X3, e3, W3, st3⟩ := putF X2 hx hZ hown (host := "") (Or.inl (hw _ (List.mem_of_getElem? (i := 17) rfl))) Via.refl e2 F_o0_minUsers_2 E_o0_2 (Or.inr ⟨(hw _ (List.mem_of_getElem? (i := 18) rfl)), rfl, hnm⟩) (hw _ (List.mem_of_getElem? (i := 2) rfl)) (ty := .long) (by decide) rfl rfl (g := (mkF m 38 #[.val (.ref o0), .val (.long v1), .second, .val (.long v3), .second] [(.long v3), (.ref o0)])) rfl rfl (hb hby d1_38)
  have E_o0_3 := E_o0_2.wr W3
  have F_o0_minCount_3 := F_o0_minCount_2.other W3 (Or.inr (slot_ne (Or.inr (hw _ (List.mem_of_getElem? (i := 16) rfl))) (Or.inr (hw _ (List.mem_of_getElem? (i := 18) rfl))) (by decide) (t := .long) (t' := .long) (by decide) (by decide)))
  have F_o0_minUsers_3 := F_o0_minUsers_2.same W3
  have N3 := Fr.snoc X3 N2 g_o0
  have Z3 : n0 ≤ h3.size := Nat.le_trans Z2 (Nat.le_of_eq W3.size.symm)
  have K3 := K2.wr W3 (Or.inl (by simp))
  refine EndsIn.by (B := T3.setTop (mkF m 41 #[.val (.ref o0), .val (.long v1), .second, .val (.long v3), .second] [])) (fun t k => st3 t k) ?_
  subst hr
  exact own_ret0 X3 hx hlk hret (hb hby d1_41) (by decide) (by decide) ⟨rfl, N3, (by rw [e3]; exact K3), (by rw [e3]; exact E_o0_3), (by rw [e3]; exact F_o0_minCount_3), (by rw [e3]; exact F_o0_minUsers_3)⟩
theorem ef_1 (m : MethodId) (o0 : Addr) (v1 : Int64) (v3 : Int64) : entryFrame m #[(.ref o0), (.long v1), (.long v3)] 5 = (mkF m 0 #[.val (.ref o0), .val (.long v1), .second, .val (.long v3), .second] []) := by first | (simp [entryFrame, mkF, argsToLocals, Value.category]; done) | rfl
set_option maxRecDepth 65536 in
set_option maxHeartbeats 40000000 in
theorem rm1 (l : Launch) (Z : State) (a0 : Array Value) (hw : ∀ d ∈ tables_1, d.before a0 Z = true) (ws : List Jvm.Cond) (o0 : Addr) (v1 : Int64) (v3 : Int64) (o0_minCount : Int64) (o0_minUsers : Int64) (h0 : Heap) (n0 : Nat) (Z0 : n0 ≤ h0.size) (E_o0 : Exa Z h0 o0 "com/example/search_suggest/searchsuggest/engine/PrivacyFloor") (F_o0_minCount : Fld Z h0 o0 "com/example/search_suggest/searchsuggest/engine/PrivacyFloor" "minCount" "J" (.long o0_minCount)) (F_o0_minUsers : Fld Z h0 o0 "com/example/search_suggest/searchsuggest/engine/PrivacyFloor" "minUsers" "J" (.long o0_minUsers)) (g_o0 : n0 ≤ o0) (h1 : ¬ (v1 < (1 : Int64))) (h2 : ¬ (v3 < (1 : Int64))) :
    MetFree l (⟨"com/example/search_suggest/searchsuggest/engine/PrivacyFloor", "<init>", "(JJ)V"⟩ : MethodName) (head1 (Jvm.Cond.code (⟨"com/example/search_suggest/searchsuggest/engine/PrivacyFloor", "<init>", "(JJ)V"⟩ : MethodName) prog_19_method_1_code 5 none :: ws) R1) (fun a U => a = #[(.ref o0), (.long v1), (.long v3)] ∧ Z.Warmed39 U.vm ∧ U.heap = h0) (fun _ _ _ _ _ => True) (fun _ U o U' => ∃ v L, o = .returned v ∧ (Q1 Z o0 h0 n0 (f1_0 v1 v3 o0_minCount o0_minUsers)) v U'.heap L ∧ FrameEnd U o U' L R1.cells R1.slots) := by
  refine MetFree.of_bodySF (plainFor_of_name pn_1) hisR ?_
  intro p e s m args below meth c s₁ Bd hml0 hP hK
  obtain ⟨rfl, hZ, hh⟩ := hP
  have B : Ctx p Z s a0 m meth c "com/example/search_suggest/searchsuggest/engine/PrivacyFloor" "<init>" prog_19_method_1_code 5 none := ⟨Bd.exec, hZ, hw, Bd.bytes, hml0, Bd.returns, findClass_of_methodNamed Bd.named, (name_of_methodNamed Bd.named Bd.method).1, Bd.notSynchronized⟩
  have X0 : Stand p l e R1 s m #[(.ref o0), (.long v1), (.long v3)] below meth c s₁ [] 0 0 := Stand.of_body Bd
  have e0 : s₁.heap = h0 := by rw [← hh, Bd.state]; rfl
  have K := Keep.refl h0 [o0]
  show EndsIn p e below s R1.cells R1.slots (Q1 Z o0 h0 n0 (f1_0 v1 v3 o0_minCount o0_minUsers)) (s₁.setTop (entryFrame m #[(.ref o0), (.long v1), (.long v3)] 5))
  refine EndsIn.by (fun t k => castTop (ef_1 m o0 v1 v3) k) ?_
  exact b1_0 B h0 n0 o0 v1 v3 o0_minCount o0_minUsers X0 e0 (Fr.nil n0) Z0 K E_o0 F_o0_minCount F_o0_minUsers g_o0 h1 h2 _ rfl
theorem pd_2 : parseMethodDescriptor "(JJ)V" = some ⟨[.long, .long], none⟩ := by decide +kernel
theorem d4_0 : decode prog_19_method_2_code 0 = .ok (.lload_n 1, 1) := by decide +kernel
theorem d4_1 : decode prog_19_method_2_code 1 = .ok (.aload_n 0, 1) := by decide +kernel
theorem d4_2 : decode prog_19_method_2_code 2 = .ok (.getfield 16, 3) := by decide +kernel
theorem d4_5 : decode prog_19_method_2_code 5 = .ok (.lcmp, 1) := by decide +kernel
theorem d4_6 : decode prog_19_method_2_code 6 = .ok (.ifCond .lt 26, 3) := by decide +kernel
theorem d4_9 : decode prog_19_method_2_code 9 = .ok (.aload_n 0, 1) := by decide +kernel
theorem d4_10 : decode prog_19_method_2_code 10 = .ok (.getfield 22, 3) := by decide +kernel
theorem d4_13 : decode prog_19_method_2_code 13 = .ok (.lconst 1, 1) := by decide +kernel
theorem d4_14 : decode prog_19_method_2_code 14 = .ok (.lcmp, 1) := by decide +kernel
theorem d4_15 : decode prog_19_method_2_code 15 = .ok (.ifCond .eq 13, 3) := by decide +kernel
theorem d4_18 : decode prog_19_method_2_code 18 = .ok (.iload_n 3, 1) := by decide +kernel
theorem d4_19 : decode prog_19_method_2_code 19 = .ok (.i2l, 1) := by decide +kernel
theorem d4_20 : decode prog_19_method_2_code 20 = .ok (.aload_n 0, 1) := by decide +kernel
theorem d4_21 : decode prog_19_method_2_code 21 = .ok (.getfield 22, 3) := by decide +kernel
theorem d4_24 : decode prog_19_method_2_code 24 = .ok (.lcmp, 1) := by decide +kernel
theorem d4_25 : decode prog_19_method_2_code 25 = .ok (.ifCond .lt 7, 3) := by decide +kernel
theorem d4_28 : decode prog_19_method_2_code 28 = .ok (.iconst 1, 1) := by decide +kernel
theorem d4_29 : decode prog_19_method_2_code 29 = .ok (.goto 4, 3) := by decide +kernel
theorem d4_32 : decode prog_19_method_2_code 32 = .ok (.iconst 0, 1) := by decide +kernel
theorem d4_33 : decode prog_19_method_2_code 33 = .ok (.ireturn, 1) := by decide +kernel
theorem pn_4 : plainName "com/example/search_suggest/searchsuggest/engine/PrivacyFloor" = true := by first | (simp [plainName, overriddenIn]; done) | decide +kernel
def R4 : Room := { frames := 0, cells := 0, slots := 0, locals := 0 }
def Q4 (Z : State)  (h0 : Heap) (n0 : Nat) (r : Int32) (v : Option Value) (h : Heap) (L : List Loc) : Prop := v = some (.int r) ∧ Fr n0 L ∧ h = h0
def f4_28 (v1 : Int64) (v3 : Int32) (o0_minCount : Int64) (o0_minUsers : Int64) : Int32 := (1 : Int32)
set_option maxRecDepth 65536 in
set_option maxHeartbeats 40000000 in
theorem b4_28 {p : Program} {l : Launch} {e : Env} {s : State} {m : MethodId} {args : Array Value} {below : List Frame} {meth : Method} {c : Code} {Z : State} {a0 : Array Value} (B : Ctx p Z s a0 m meth c "com/example/search_suggest/searchsuggest/engine/PrivacyFloor" "admits" prog_19_method_2_code 4 (some .boolean)) {T0 : State} {locs : List Loc} {h : Heap} (h0 : Heap) (n0 : Nat) (o0 : Addr) (v1 : Int64) (v3 : Int32) (o0_minCount : Int64) (o0_minUsers : Int64) (X0 : Stand p l e R4 s m args below meth c T0 locs 0 0) (e0 : T0.heap = h) (N0 : Fr n0 locs) (Z0 : n0 ≤ h.size) (hh0 : h = h0) (E_o0 : Exa Z h o0 "com/example/search_suggest/searchsuggest/engine/PrivacyFloor") (F_o0_minCount : Fld Z h o0 "com/example/search_suggest/searchsuggest/engine/PrivacyFloor" "minCount" "J" (.long o0_minCount)) (F_o0_minUsers : Fld Z h o0 "com/example/search_suggest/searchsuggest/engine/PrivacyFloor" "minUsers" "J" (.long o0_minUsers)) (r : Int32) (hr : f4_28 v1 v3 o0_minCount o0_minUsers = r) :
    EndsIn p e below s R4.cells R4.slots (Q4 Z  h0 n0 r) (T0.setTop (mkF m 28 #[.val (.ref o0), .val (.long v1), .second, .val (.int v3)] [])) := by
  obtain ⟨hx, hZ, hw, hby, hml, hret, hown, hnm, hlk⟩ := B
  unfold f4_28 at hr
  refine EndsIn.by (B := T0.setTop (mkF m 33 #[.val (.ref o0), .val (.long v1), .second, .val (.int v3)] [(.int (1 : Int32))])) (fun t k => ?_) ?_
  · show Steps p.tables e below (T0.setTop (mkF m 28 #[.val (.ref o0), .val (.long v1), .second, .val (.int v3)] [])) _
    refine XS.iconst X0.here hx rfl (hb hby d4_28) ?_
    show Steps p.tables e below (T0.setTop (mkF m 29 #[.val (.ref o0), .val (.long v1), .second, .val (.int v3)] [(.int (1 : Int32))])) _
    refine XS.goto X0.here hx rfl (pc0 := 29) (pc' := 33) rfl (hb hby d4_29) (by decide) (by decide) ?_
    exact k
  subst hr
  exact own_retN X0 hx hlk (t := .boolean) hret (by simp) (hb hby d4_33) (by decide) (by decide) ⟨rfl, N0, (e0.trans hh0)⟩
def f4_0 (v1 : Int64) (v3 : Int32) (o0_minCount : Int64) (o0_minUsers : Int64) : Int32 := (if v1 < o0_minCount then (0 : Int32) else (if o0_minUsers = (1 : Int64) then (f4_28 v1 v3 o0_minCount o0_minUsers) else (if (v3.toInt64) < o0_minUsers then (0 : Int32) else (f4_28 v1 v3 o0_minCount o0_minUsers))))
set_option maxRecDepth 65536 in
set_option maxHeartbeats 40000000 in
theorem b4_0 {p : Program} {l : Launch} {e : Env} {s : State} {m : MethodId} {args : Array Value} {below : List Frame} {meth : Method} {c : Code} {Z : State} {a0 : Array Value} (B : Ctx p Z s a0 m meth c "com/example/search_suggest/searchsuggest/engine/PrivacyFloor" "admits" prog_19_method_2_code 4 (some .boolean)) {T0 : State} {locs : List Loc} {h : Heap} (h0 : Heap) (n0 : Nat) (o0 : Addr) (v1 : Int64) (v3 : Int32) (o0_minCount : Int64) (o0_minUsers : Int64) (X0 : Stand p l e R4 s m args below meth c T0 locs 0 0) (e0 : T0.heap = h) (N0 : Fr n0 locs) (Z0 : n0 ≤ h.size) (hh0 : h = h0) (E_o0 : Exa Z h o0 "com/example/search_suggest/searchsuggest/engine/PrivacyFloor") (F_o0_minCount : Fld Z h o0 "com/example/search_suggest/searchsuggest/engine/PrivacyFloor" "minCount" "J" (.long o0_minCount)) (F_o0_minUsers : Fld Z h o0 "com/example/search_suggest/searchsuggest/engine/PrivacyFloor" "minUsers" "J" (.long o0_minUsers)) (r : Int32) (hr : f4_0 v1 v3 o0_minCount o0_minUsers = r) :
    EndsIn p e below s R4.cells R4.slots (Q4 Z  h0 n0 r) (T0.setTop (mkF m 0 #[.val (.ref o0), .val (.long v1), .second, .val (.int v3)] [])) := by
  obtain ⟨hx, hZ, hw, hby, hml, hret, hown, hnm, hlk⟩ := B
  unfold f4_0 at hr
  refine EndsIn.by (B := T0.setTop (mkF m 2 #[.val (.ref o0), .val (.long v1), .second, .val (.int v3)] [(.ref o0), (.long v1)])) (fun t k => ?_) ?_
  · show Steps p.tables e below (T0.setTop (mkF m 0 #[.val (.ref o0), .val (.long v1), .second, .val (.int v3)] [])) _
    refine XS.lloadN X0.here hx rfl (hb hby d4_0) rfl  ?_
    show Steps p.tables e below (T0.setTop (mkF m 1 #[.val (.ref o0), .val (.long v1), .second, .val (.int v3)] [(.long v1)])) _
    refine XS.aloadN X0.here hx rfl (hb hby d4_1) rfl rfl ?_
    exact k
  obtain ⟨T1, X1, e1, st1⟩ := getF X0 hx hZ hown (host := "") (Or.inl (hw _ (List.mem_of_getElem? (i := 15) rfl))) Via.refl e0 F_o0_minCount (g := (mkF m 2 #[.val (.ref o0), .val (.long v1), .second, .val (.int v3)] [(.ref o0), (.long v1)])) rfl rfl (hb hby d4_2)
  refine EndsIn.by (B := T1.setTop (mkF m 5 #[.val (.ref o0), .val (.long v1), .second, .val (.int v3)] [(.long o0_minCount), (.long v1)])) (fun t k => st1 t k) ?_
  refine EndsIn.by (B := T1.setTop (mkF m 6 #[.val (.ref o0), .val (.long v1), .second, .val (.int v3)] [(.int (lcmpW v1 o0_minCount))])) (fun t k => ?_) ?_
  · show Steps p.tables e below (T1.setTop (mkF m 5 #[.val (.ref o0), .val (.long v1), .second, .val (.int v3)] [(.long o0_minCount), (.long v1)])) _
    refine XS.lcmp X1.here hx rfl (hb hby d4_5) rfl ?_
    exact k
  by_cases hc6 : v1 < o0_minCount
  · rw [if_pos hc6] at hr
    refine EndsIn.by (B := T1.setTop (mkF m 32 #[.val (.ref o0), .val (.long v1), .second, .val (.int v3)] [])) (fun t k => ?_) ?_
    · show Steps p.tables e below (T1.setTop (mkF m 6 #[.val (.ref o0), .val (.long v1), .second, .val (.int v3)] [(.int (lcmpW v1 o0_minCount))])) _
      exact XS.ifYes X1.here hx rfl (pc0 := 6) (pc' := 32) rfl (hb hby d4_6) rfl ((if0 _ _).trans (tlt ((lw_lt _ _).mpr hc6)).1) (by decide) (by decide) k
    refine EndsIn.by (B := T1.setTop (mkF m 33 #[.val (.ref o0), .val (.long v1), .second, .val (.int v3)] [(.int (0 : Int32))])) (fun t k => ?_) ?_
    · show Steps p.tables e below (T1.setTop (mkF m 32 #[.val (.ref o0), .val (.long v1), .second, .val (.int v3)] [])) _
      refine XS.iconst X1.here hx rfl (hb hby d4_32) ?_
      exact k
    subst hr
    exact own_retN X1 hx hlk (t := .boolean) hret (by simp) (hb hby d4_33) (by decide) (by decide) ⟨rfl, N0, (e1.trans hh0)⟩
  · rw [if_neg hc6] at hr
    refine EndsIn.by (B := T1.setTop (mkF m 9 #[.val (.ref o0), .val (.long v1), .second, .val (.int v3)] [])) (fun t k => ?_) ?_
    · show Steps p.tables e below (T1.setTop (mkF m 6 #[.val (.ref o0), .val (.long v1), .second, .val (.int v3)] [(.int (lcmpW v1 o0_minCount))])) _
      exact XS.ifNo X1.here hx rfl (hb hby d4_6) rfl ((if0 _ _).trans (flt (fun q => hc6 ((lw_lt _ _).mp q))).1) k
    refine EndsIn.by (B := T1.setTop (mkF m 10 #[.val (.ref o0), .val (.long v1), .second, .val (.int v3)] [(.ref o0)])) (fun t k => ?_) ?_
    · show Steps p.tables e below (T1.setTop (mkF m 9 #[.val (.ref o0), .val (.long v1), .second, .val (.int v3)] [])) _
      refine XS.aloadN X1.here hx rfl (hb hby d4_9) rfl rfl ?_
      exact k
    obtain ⟨T2, X2, e2, st2⟩ := getF X1 hx hZ hown (host := "") (Or.inl (hw _ (List.mem_of_getElem? (i := 17) rfl))) Via.refl e1 F_o0_minUsers (g := (mkF m 10 #[.val (.ref o0), .val (.long v1), .second, .val (.int v3)] [(.ref o0)])) rfl rfl (hb hby d4_10)
    refine EndsIn.by (B := T2.setTop (mkF m 13 #[.val (.ref o0), .val (.long v1), .second, .val (.int v3)] [(.long o0_minUsers)])) (fun t k => st2 t k) ?_
    refine EndsIn.by (B := T2.setTop (mkF m 15 #[.val (.ref o0), .val (.long v1), .second, .val (.int v3)] [(.int (lcmpW o0_minUsers (1 : Int64)))])) (fun t k => ?_) ?_
    · show Steps p.tables e below (T2.setTop (mkF m 13 #[.val (.ref o0), .val (.long v1), .second, .val (.int v3)] [(.long o0_minUsers)])) _
      refine XS.lconst X2.here hx rfl (hb hby d4_13) ?_
      show Steps p.tables e below (T2.setTop (mkF m 14 #[.val (.ref o0), .val (.long v1), .second, .val (.int v3)] [(.long (1 : Int64)), (.long o0_minUsers)])) _
      refine XS.lcmp X2.here hx rfl (hb hby d4_14) rfl ?_
      exact k
    by_cases hc15 : o0_minUsers = (1 : Int64)
    · rw [if_pos hc15] at hr
      refine EndsIn.by (B := T2.setTop (mkF m 28 #[.val (.ref o0), .val (.long v1), .second, .val (.int v3)] [])) (fun t k => ?_) ?_
      · show Steps p.tables e below (T2.setTop (mkF m 15 #[.val (.ref o0), .val (.long v1), .second, .val (.int v3)] [(.int (lcmpW o0_minUsers (1 : Int64)))])) _
        exact XS.ifYes X2.here hx rfl (pc0 := 15) (pc' := 28) rfl (hb hby d4_15) rfl ((if0 _ _).trans (teq ((lw_eq _ _).mpr hc15)).1) (by decide) (by decide) k
      exact b4_28 ⟨hx, hZ, hw, hby, hml, hret, hown, hnm, hlk⟩ h0 n0 o0 v1 v3 o0_minCount o0_minUsers X2 e2 N0 Z0 hh0 E_o0 F_o0_minCount F_o0_minUsers _ hr
    · rw [if_neg hc15] at hr
      refine EndsIn.by (B := T2.setTop (mkF m 18 #[.val (.ref o0), .val (.long v1), .second, .val (.int v3)] [])) (fun t k => ?_) ?_
      · show Steps p.tables e below (T2.setTop (mkF m 15 #[.val (.ref o0), .val (.long v1), .second, .val (.int v3)] [(.int (lcmpW o0_minUsers (1 : Int64)))])) _
        exact XS.ifNo X2.here hx rfl (hb hby d4_15) rfl ((if0 _ _).trans (feq (fun q => hc15 ((lw_eq _ _).mp q))).1) k
      refine EndsIn.by (B := T2.setTop (mkF m 21 #[.val (.ref o0), .val (.long v1), .second, .val (.int v3)] [(.ref o0), (.long (v3.toInt64))])) (fun t k => ?_) ?_
      · show Steps p.tables e below (T2.setTop (mkF m 18 #[.val (.ref o0), .val (.long v1), .second, .val (.int v3)] [])) _
        refine XS.iloadN X2.here hx rfl (hb hby d4_18) rfl  ?_
        show Steps p.tables e below (T2.setTop (mkF m 19 #[.val (.ref o0), .val (.long v1), .second, .val (.int v3)] [(.int v3)])) _
        refine XS.i2l X2.here hx rfl (hb hby d4_19) rfl ?_
        show Steps p.tables e below (T2.setTop (mkF m 20 #[.val (.ref o0), .val (.long v1), .second, .val (.int v3)] [(.long (v3.toInt64))])) _
        refine XS.aloadN X2.here hx rfl (hb hby d4_20) rfl rfl ?_
        exact k
      obtain ⟨T3, X3, e3, st3⟩ := getF X2 hx hZ hown (host := "") (Or.inl (hw _ (List.mem_of_getElem? (i := 17) rfl))) Via.refl e2 F_o0_minUsers (g := (mkF m 21 #[.val (.ref o0), .val (.long v1), .second, .val (.int v3)] [(.ref o0), (.long (v3.toInt64))])) rfl rfl (hb hby d4_21)
      refine EndsIn.by (B := T3.setTop (mkF m 24 #[.val (.ref o0), .val (.long v1), .second, .val (.int v3)] [(.long o0_minUsers), (.long (v3.toInt64))])) (fun t k => st3 t k) ?_
      refine EndsIn.by (B := T3.setTop (mkF m 25 #[.val (.ref o0), .val (.long v1), .second, .val (.int v3)] [(.int (lcmpW (v3.toInt64) o0_minUsers))])) (fun t k => ?_) ?_
      · show Steps p.tables e below (T3.setTop (mkF m 24 #[.val (.ref o0), .val (.long v1), .second, .val (.int v3)] [(.long o0_minUsers), (.long (v3.toInt64))])) _
        refine XS.lcmp X3.here hx rfl (hb hby d4_24) rfl ?_
        exact k
      by_cases hc25 : (v3.toInt64) < o0_minUsers
      · rw [if_pos hc25] at hr
        refine EndsIn.by (B := T3.setTop (mkF m 32 #[.val (.ref o0), .val (.long v1), .second, .val (.int v3)] [])) (fun t k => ?_) ?_
        · show Steps p.tables e below (T3.setTop (mkF m 25 #[.val (.ref o0), .val (.long v1), .second, .val (.int v3)] [(.int (lcmpW (v3.toInt64) o0_minUsers))])) _
          exact XS.ifYes X3.here hx rfl (pc0 := 25) (pc' := 32) rfl (hb hby d4_25) rfl ((if0 _ _).trans (tlt ((lw_lt _ _).mpr hc25)).1) (by decide) (by decide) k
        refine EndsIn.by (B := T3.setTop (mkF m 33 #[.val (.ref o0), .val (.long v1), .second, .val (.int v3)] [(.int (0 : Int32))])) (fun t k => ?_) ?_
        · show Steps p.tables e below (T3.setTop (mkF m 32 #[.val (.ref o0), .val (.long v1), .second, .val (.int v3)] [])) _
          refine XS.iconst X3.here hx rfl (hb hby d4_32) ?_
          exact k
        subst hr
        exact own_retN X3 hx hlk (t := .boolean) hret (by simp) (hb hby d4_33) (by decide) (by decide) ⟨rfl, N0, (e3.trans hh0)⟩
      · rw [if_neg hc25] at hr
        refine EndsIn.by (B := T3.setTop (mkF m 28 #[.val (.ref o0), .val (.long v1), .second, .val (.int v3)] [])) (fun t k => ?_) ?_
        · show Steps p.tables e below (T3.setTop (mkF m 25 #[.val (.ref o0), .val (.long v1), .second, .val (.int v3)] [(.int (lcmpW (v3.toInt64) o0_minUsers))])) _
          exact XS.ifNo X3.here hx rfl (hb hby d4_25) rfl ((if0 _ _).trans (flt (fun q => hc25 ((lw_lt _ _).mp q))).1) k
        exact b4_28 ⟨hx, hZ, hw, hby, hml, hret, hown, hnm, hlk⟩ h0 n0 o0 v1 v3 o0_minCount o0_minUsers X3 e3 N0 Z0 hh0 E_o0 F_o0_minCount F_o0_minUsers _ hr
theorem ef_4 (m : MethodId) (o0 : Addr) (v1 : Int64) (v3 : Int32) : entryFrame m #[(.ref o0), (.long v1), (.int v3)] 4 = (mkF m 0 #[.val (.ref o0), .val (.long v1), .second, .val (.int v3)] []) := by first | (simp [entryFrame, mkF, argsToLocals, Value.category]; done) | rfl
set_option maxRecDepth 65536 in
set_option maxHeartbeats 40000000 in
theorem rm4 (l : Launch) (Z : State) (a0 : Array Value) (hw : ∀ d ∈ tables_1, d.before a0 Z = true) (ws : List Jvm.Cond) (o0 : Addr) (v1 : Int64) (v3 : Int32) (o0_minCount : Int64) (o0_minUsers : Int64) (h0 : Heap) (n0 : Nat) (Z0 : n0 ≤ h0.size) (E_o0 : Exa Z h0 o0 "com/example/search_suggest/searchsuggest/engine/PrivacyFloor") (F_o0_minCount : Fld Z h0 o0 "com/example/search_suggest/searchsuggest/engine/PrivacyFloor" "minCount" "J" (.long o0_minCount)) (F_o0_minUsers : Fld Z h0 o0 "com/example/search_suggest/searchsuggest/engine/PrivacyFloor" "minUsers" "J" (.long o0_minUsers)) :
    MetFree l (⟨"com/example/search_suggest/searchsuggest/engine/PrivacyFloor", "admits", "(JI)Z"⟩ : MethodName) (head1 (Jvm.Cond.code (⟨"com/example/search_suggest/searchsuggest/engine/PrivacyFloor", "admits", "(JI)Z"⟩ : MethodName) prog_19_method_2_code 4 (some .boolean) :: ws) R4) (fun a U => a = #[(.ref o0), (.long v1), (.int v3)] ∧ Z.Warmed39 U.vm ∧ U.heap = h0) (fun _ _ _ _ _ => True) (fun _ U o U' => ∃ v L, o = .returned v ∧ (Q4 Z  h0 n0 (f4_0 v1 v3 o0_minCount o0_minUsers)) v U'.heap L ∧ FrameEnd U o U' L R4.cells R4.slots) := by
  refine MetFree.of_bodySF (plainFor_of_name pn_4) hisR ?_
  intro p e s m args below meth c s₁ Bd hml0 hP hK
  obtain ⟨rfl, hZ, hh⟩ := hP
  have B : Ctx p Z s a0 m meth c "com/example/search_suggest/searchsuggest/engine/PrivacyFloor" "admits" prog_19_method_2_code 4 (some .boolean) := ⟨Bd.exec, hZ, hw, Bd.bytes, hml0, Bd.returns, findClass_of_methodNamed Bd.named, (name_of_methodNamed Bd.named Bd.method).1, Bd.notSynchronized⟩
  have X0 : Stand p l e R4 s m #[(.ref o0), (.long v1), (.int v3)] below meth c s₁ [] 0 0 := Stand.of_body Bd
  have e0 : s₁.heap = h0 := by rw [← hh, Bd.state]; rfl
  have K := Keep.refl h0 []
  show EndsIn p e below s R4.cells R4.slots (Q4 Z  h0 n0 (f4_0 v1 v3 o0_minCount o0_minUsers)) (s₁.setTop (entryFrame m #[(.ref o0), (.long v1), (.int v3)] 4))
  refine EndsIn.by (fun t k => castTop (ef_4 m o0 v1 v3) k) ?_
  exact b4_0 B h0 n0 o0 v1 v3 o0_minCount o0_minUsers X0 e0 (Fr.nil n0) Z0 rfl E_o0 F_o0_minCount F_o0_minUsers _ rfl
theorem pd_3 : parseMethodDescriptor "(JI)Z" = some ⟨[.long, .int], some .boolean⟩ := by decide +kernel
theorem pn_0 : plainName "com/example/search_suggest/searchsuggest/engine/PrivacyFloorAdmitsPinLaw" = true := by first | (simp [plainName, overriddenIn]; done) | decide +kernel
def Q0 (n0 : Nat) (r : Int32) (v : Option Value) (h : Heap) (L : List Loc) : Prop := v = some (.int r) ∧ Fr n0 L
def f0_217 (v0 : Int64) (v2 : Int64) (v4 : Int64) (v6 : Int32) (v7 : Int32) (v8 : Int64) (v10 : Int64) (v13 : Int32) (b56_minCount : Int64) (b56_minUsers : Int64) : Int32 := (if v10 = (1 : Int64) then (if (f4_0 v8 (-2147483648 : Int32) b56_minCount b56_minUsers) = (0 : Int32) then (0 : Int32) else (1 : Int32)) else (1 : Int32))
set_option maxRecDepth 65536 in
set_option maxHeartbeats 40000000 in
theorem b0_217 {p : Program} {l : Launch} {e : Env} {s : State} {m : MethodId} {args : Array Value} {below : List Frame} {meth : Method} {c : Code} {Z : State} {a0 : Array Value} (B : Ctx p Z s a0 m meth c "com/example/search_suggest/searchsuggest/engine/PrivacyFloorAdmitsPinLaw" "law" code 15 (some .boolean)) {T0 : State} {locs : List Loc} {h : Heap} (h0 : Heap) (n0 : Nat) (v0 : Int64) (v2 : Int64) (v4 : Int64) (v6 : Int32) (v7 : Int32) (v8 : Int64) (v10 : Int64) (b56 : Addr) (v13 : Int32) (b56_minCount : Int64) (b56_minUsers : Int64) (X0 : Stand p l e room_1 s m args below meth c T0 locs 1 2) (e0 : T0.heap = h) (N0 : Fr n0 locs) (Z0 : n0 ≤ h.size) (E_b56 : Exa Z h b56 "com/example/search_suggest/searchsuggest/engine/PrivacyFloor") (F_b56_minCount : Fld Z h b56 "com/example/search_suggest/searchsuggest/engine/PrivacyFloor" "minCount" "J" (.long b56_minCount)) (F_b56_minUsers : Fld Z h b56 "com/example/search_suggest/searchsuggest/engine/PrivacyFloor" "minUsers" "J" (.long b56_minUsers)) (g_b56 : n0 ≤ b56) (r : Int32) (hr : f0_217 v0 v2 v4 v6 v7 v8 v10 v13 b56_minCount b56_minUsers = r) :
    EndsIn p e below s 1 2 (Q0 n0 r) (T0.setTop (mkF m 217 #[.val (.long v0), .second, .val (.long v2), .second, .val (.long v4), .second, .val (.int v6), .val (.int v7), .val (.long v8), .second, .val (.long v10), .second, .val (.ref b56), .val (.int v13), .unset] [])) := by
  obtain ⟨hx, hZ, hw, hby, hml, hret, hown, hnm, hlk⟩ := B
  unfold f0_217 at hr
  refine EndsIn.by (B := T0.setTop (mkF m 221 #[.val (.long v0), .second, .val (.long v2), .second, .val (.long v4), .second, .val (.int v6), .val (.int v7), .val (.long v8), .second, .val (.long v10), .second, .val (.ref b56), .val (.int v13), .unset] [(.int (lcmpW v10 (1 : Int64)))])) (fun t k => ?_) ?_
  · show Steps p.tables e below (T0.setTop (mkF m 217 #[.val (.long v0), .second, .val (.long v2), .second, .val (.long v4), .second, .val (.int v6), .val (.int v7), .val (.long v8), .second, .val (.long v10), .second, .val (.ref b56), .val (.int v13), .unset] [])) _
    refine XS.lload X0.here hx rfl (hb hby at_217) rfl  ?_
    show Steps p.tables e below (T0.setTop (mkF m 219 #[.val (.long v0), .second, .val (.long v2), .second, .val (.long v4), .second, .val (.int v6), .val (.int v7), .val (.long v8), .second, .val (.long v10), .second, .val (.ref b56), .val (.int v13), .unset] [(.long v10)])) _
    refine XS.lconst X0.here hx rfl (hb hby at_219) ?_
    show Steps p.tables e below (T0.setTop (mkF m 220 #[.val (.long v0), .second, .val (.long v2), .second, .val (.long v4), .second, .val (.int v6), .val (.int v7), .val (.long v8), .second, .val (.long v10), .second, .val (.ref b56), .val (.int v13), .unset] [(.long (1 : Int64)), (.long v10)])) _
    refine XS.lcmp X0.here hx rfl (hb hby at_220) rfl ?_
    exact k
  by_cases hc221 : v10 = (1 : Int64)
  · rw [if_pos hc221] at hr
    refine EndsIn.by (B := T0.setTop (mkF m 224 #[.val (.long v0), .second, .val (.long v2), .second, .val (.long v4), .second, .val (.int v6), .val (.int v7), .val (.long v8), .second, .val (.long v10), .second, .val (.ref b56), .val (.int v13), .unset] [])) (fun t k => ?_) ?_
    · show Steps p.tables e below (T0.setTop (mkF m 221 #[.val (.long v0), .second, .val (.long v2), .second, .val (.long v4), .second, .val (.int v6), .val (.int v7), .val (.long v8), .second, .val (.long v10), .second, .val (.ref b56), .val (.int v13), .unset] [(.int (lcmpW v10 (1 : Int64)))])) _
      exact XS.ifNo X0.here hx rfl (hb hby at_221) rfl ((if0 _ _).trans (teq ((lw_eq _ _).mpr hc221)).2) k
    refine EndsIn.by (B := T0.setTop (mkF m 230 #[.val (.long v0), .second, .val (.long v2), .second, .val (.long v4), .second, .val (.int v6), .val (.int v7), .val (.long v8), .second, .val (.long v10), .second, .val (.ref b56), .val (.int v13), .unset] [(.int (-2147483648 : Int32)), (.long v8), (.ref b56)])) (fun t k => ?_) ?_
    · show Steps p.tables e below (T0.setTop (mkF m 224 #[.val (.long v0), .second, .val (.long v2), .second, .val (.long v4), .second, .val (.int v6), .val (.int v7), .val (.long v8), .second, .val (.long v10), .second, .val (.ref b56), .val (.int v13), .unset] [])) _
      refine XS.aload X0.here hx rfl (hb hby at_224) rfl rfl ?_
      show Steps p.tables e below (T0.setTop (mkF m 226 #[.val (.long v0), .second, .val (.long v2), .second, .val (.long v4), .second, .val (.int v6), .val (.int v7), .val (.long v8), .second, .val (.long v10), .second, .val (.ref b56), .val (.int v13), .unset] [(.ref b56)])) _
      refine XS.lload X0.here hx rfl (hb hby at_226) rfl  ?_
      show Steps p.tables e below (T0.setTop (mkF m 228 #[.val (.long v0), .second, .val (.long v2), .second, .val (.long v4), .second, .val (.int v6), .val (.int v7), .val (.long v8), .second, .val (.long v10), .second, .val (.ref b56), .val (.int v13), .unset] [(.long v8), (.ref b56)])) _
      refine X0.ldcInt hx hown (mvT hZ (hw _ (List.mem_of_getElem? (i := 30) rfl))) (g := (mkF m 228 #[.val (.long v0), .second, .val (.long v2), .second, .val (.long v4), .second, .val (.int v6), .val (.int v7), .val (.long v8), .second, .val (.long v10), .second, .val (.ref b56), .val (.int v13), .unset] [(.long v8), (.ref b56)])) rfl (hb hby at_228) _ ?_
      exact k
    -- pc 230: com/example/search_suggest/searchsuggest/engine/PrivacyFloor.admits
    obtain ⟨cq7, kq7, q7a, q7b, q7c⟩ := isOf hZ e0 E_b56
    obtain ⟨_, _, ⟨T7, L7, k7, n7⟩, -, X7, ⟨Lc7, hQ7, l7, y7, z7⟩, st7⟩ := X0.virtualBack hx (y := (⟨"com/example/search_suggest/searchsuggest/engine/PrivacyFloor", "admits", "(JI)Z"⟩ : MethodName)) (z := (⟨"com/example/search_suggest/searchsuggest/engine/PrivacyFloor", "admits", "(JI)Z"⟩ : MethodName)) hown (mvT hZ (hw _ (List.mem_of_getElem? (i := 19) rfl))) (mvT hZ (hw _ (List.mem_of_getElem? (i := 20) rfl))) (notFace_of_selects (args := #[]) (mvT hZ (hw _ (List.mem_of_getElem? (i := 22) rfl)))) (mvT hZ (hw _ (List.mem_of_getElem? (i := 22) rfl))) (mvT hZ (hw _ (List.mem_of_getElem? (i := 21) rfl))) (by decide) (backOf (W := 0) (rm4 l Z a0 hw [] b56 v8 (-2147483648 : Int32) b56_minCount b56_minUsers h n0 Z0 E_b56 F_b56_minCount F_b56_minUsers) hZ (hw _ (List.mem_of_getElem? (i := 23) rfl)) (hw _ (List.mem_of_getElem? (i := 3) rfl)) (by decide) (by decide)) q7a q7c (g := (mkF m 230 #[.val (.long v0), .second, .val (.long v2), .second, .val (.long v4), .second, .val (.int v6), .val (.int v7), .val (.long v8), .second, .val (.long v10), .second, .val (.ref b56), .val (.int v13), .unset] [(.int (-2147483648 : Int32)), (.long v8), (.ref b56)])) rfl (by rw [hml]; rfl) (Steps.refl _) (argsL := [(.long v8), (.int (-2147483648 : Int32))]) (rest := []) (lenOf pd_3 rfl) rfl (by show 2 * 0 + _ ≤ _; exact Nat.le_of_eq rfl) (hb hby at_230) (fun _ _ => ⟨rfl, e0, (by decide : 1 + R4.cells ≤ _), (by decide : 2 + R4.slots ≤ _)⟩)
    dsimp only [Pt.U, Pt.locs, Pt.cells, Pt.slots] at X7 l7 y7 z7 st7 hQ7
    subst l7 y7 z7
    obtain ⟨rfl, Nq7, e7⟩ := hQ7
    have N7 := Fr.app N0 Nq7
    refine EndsIn.by (B := T7.setTop (mkF m 233 #[.val (.long v0), .second, .val (.long v2), .second, .val (.long v4), .second, .val (.int v6), .val (.int v7), .val (.long v8), .second, .val (.long v10), .second, .val (.ref b56), .val (.int v13), .unset] [(.int (f4_0 v8 (-2147483648 : Int32) b56_minCount b56_minUsers))])) (fun t k => st7.trans k) ?_
    by_cases hc233 : (f4_0 v8 (-2147483648 : Int32) b56_minCount b56_minUsers) = (0 : Int32)
    · rw [if_pos hc233] at hr
      refine EndsIn.by (B := T7.setTop (mkF m 236 #[.val (.long v0), .second, .val (.long v2), .second, .val (.long v4), .second, .val (.int v6), .val (.int v7), .val (.long v8), .second, .val (.long v10), .second, .val (.ref b56), .val (.int v13), .unset] [])) (fun t k => ?_) ?_
      · show Steps p.tables e below (T7.setTop (mkF m 233 #[.val (.long v0), .second, .val (.long v2), .second, .val (.long v4), .second, .val (.int v6), .val (.int v7), .val (.long v8), .second, .val (.long v10), .second, .val (.ref b56), .val (.int v13), .unset] [(.int (f4_0 v8 (-2147483648 : Int32) b56_minCount b56_minUsers))])) _
        exact XS.ifNo X7.here hx rfl (hb hby at_233) rfl ((if0 _ _).trans (teq hc233).2) k
      refine EndsIn.by (B := T7.setTop (mkF m 237 #[.val (.long v0), .second, .val (.long v2), .second, .val (.long v4), .second, .val (.int v6), .val (.int v7), .val (.long v8), .second, .val (.long v10), .second, .val (.ref b56), .val (.int v13), .unset] [(.int (0 : Int32))])) (fun t k => ?_) ?_
      · show Steps p.tables e below (T7.setTop (mkF m 236 #[.val (.long v0), .second, .val (.long v2), .second, .val (.long v4), .second, .val (.int v6), .val (.int v7), .val (.long v8), .second, .val (.long v10), .second, .val (.ref b56), .val (.int v13), .unset] [])) _
        refine XS.iconst X7.here hx rfl (hb hby at_236) ?_
        exact k
      subst hr
      exact own_retN X7 hx hlk (t := .boolean) hret (by simp) (hb hby at_237) (by decide) (by decide) ⟨rfl, N7⟩
    · rw [if_neg hc233] at hr
      refine EndsIn.by (B := T7.setTop (mkF m 238 #[.val (.long v0), .second, .val (.long v2), .second, .val (.long v4), .second, .val (.int v6), .val (.int v7), .val (.long v8), .second, .val (.long v10), .second, .val (.ref b56), .val (.int v13), .unset] [])) (fun t k => ?_) ?_
      · show Steps p.tables e below (T7.setTop (mkF m 233 #[.val (.long v0), .second, .val (.long v2), .second, .val (.long v4), .second, .val (.int v6), .val (.int v7), .val (.long v8), .second, .val (.long v10), .second, .val (.ref b56), .val (.int v13), .unset] [(.int (f4_0 v8 (-2147483648 : Int32) b56_minCount b56_minUsers))])) _
        exact XS.ifYes X7.here hx rfl (pc0 := 233) (pc' := 238) rfl (hb hby at_233) rfl ((if0 _ _).trans (feq hc233).2) (by decide) (by decide) k
      refine EndsIn.by (B := T7.setTop (mkF m 239 #[.val (.long v0), .second, .val (.long v2), .second, .val (.long v4), .second, .val (.int v6), .val (.int v7), .val (.long v8), .second, .val (.long v10), .second, .val (.ref b56), .val (.int v13), .unset] [(.int (1 : Int32))])) (fun t k => ?_) ?_
      · show Steps p.tables e below (T7.setTop (mkF m 238 #[.val (.long v0), .second, .val (.long v2), .second, .val (.long v4), .second, .val (.int v6), .val (.int v7), .val (.long v8), .second, .val (.long v10), .second, .val (.ref b56), .val (.int v13), .unset] [])) _
        refine XS.iconst X7.here hx rfl (hb hby at_238) ?_
        exact k
      subst hr
      exact own_retN X7 hx hlk (t := .boolean) hret (by simp) (hb hby at_239) (by decide) (by decide) ⟨rfl, N7⟩
  · rw [if_neg hc221] at hr
    refine EndsIn.by (B := T0.setTop (mkF m 238 #[.val (.long v0), .second, .val (.long v2), .second, .val (.long v4), .second, .val (.int v6), .val (.int v7), .val (.long v8), .second, .val (.long v10), .second, .val (.ref b56), .val (.int v13), .unset] [])) (fun t k => ?_) ?_
    · show Steps p.tables e below (T0.setTop (mkF m 221 #[.val (.long v0), .second, .val (.long v2), .second, .val (.long v4), .second, .val (.int v6), .val (.int v7), .val (.long v8), .second, .val (.long v10), .second, .val (.ref b56), .val (.int v13), .unset] [(.int (lcmpW v10 (1 : Int64)))])) _
      exact XS.ifYes X0.here hx rfl (pc0 := 221) (pc' := 238) rfl (hb hby at_221) rfl ((if0 _ _).trans (feq (fun q => hc221 ((lw_eq _ _).mp q))).2) (by decide) (by decide) k
    refine EndsIn.by (B := T0.setTop (mkF m 239 #[.val (.long v0), .second, .val (.long v2), .second, .val (.long v4), .second, .val (.int v6), .val (.int v7), .val (.long v8), .second, .val (.long v10), .second, .val (.ref b56), .val (.int v13), .unset] [(.int (1 : Int32))])) (fun t k => ?_) ?_
    · show Steps p.tables e below (T0.setTop (mkF m 238 #[.val (.long v0), .second, .val (.long v2), .second, .val (.long v4), .second, .val (.int v6), .val (.int v7), .val (.long v8), .second, .val (.long v10), .second, .val (.ref b56), .val (.int v13), .unset] [])) _
      refine XS.iconst X0.here hx rfl (hb hby at_238) ?_
      exact k
    subst hr
    exact own_retN X0 hx hlk (t := .boolean) hret (by simp) (hb hby at_239) (by decide) (by decide) ⟨rfl, N0⟩
def f0_196 (v0 : Int64) (v2 : Int64) (v4 : Int64) (v6 : Int32) (v7 : Int32) (v8 : Int64) (v10 : Int64) (v13 : Int32) (b56_minCount : Int64) (b56_minUsers : Int64) : Int32 := (if (1 : Int64) < v10 then (if (f4_0 (9223372036854775807 : Int64) (0 : Int32) b56_minCount b56_minUsers) = (0 : Int32) then (f0_217 v0 v2 v4 v6 v7 v8 v10 v13 b56_minCount b56_minUsers) else (0 : Int32)) else (f0_217 v0 v2 v4 v6 v7 v8 v10 v13 b56_minCount b56_minUsers))
set_option maxRecDepth 65536 in
set_option maxHeartbeats 40000000 in
theorem b0_196 {p : Program} {l : Launch} {e : Env} {s : State} {m : MethodId} {args : Array Value} {below : List Frame} {meth : Method} {c : Code} {Z : State} {a0 : Array Value} (B : Ctx p Z s a0 m meth c "com/example/search_suggest/searchsuggest/engine/PrivacyFloorAdmitsPinLaw" "law" code 15 (some .boolean)) {T0 : State} {locs : List Loc} {h : Heap} (h0 : Heap) (n0 : Nat) (v0 : Int64) (v2 : Int64) (v4 : Int64) (v6 : Int32) (v7 : Int32) (v8 : Int64) (v10 : Int64) (b56 : Addr) (v13 : Int32) (b56_minCount : Int64) (b56_minUsers : Int64) (X0 : Stand p l e room_1 s m args below meth c T0 locs 1 2) (e0 : T0.heap = h) (N0 : Fr n0 locs) (Z0 : n0 ≤ h.size) (E_b56 : Exa Z h b56 "com/example/search_suggest/searchsuggest/engine/PrivacyFloor") (F_b56_minCount : Fld Z h b56 "com/example/search_suggest/searchsuggest/engine/PrivacyFloor" "minCount" "J" (.long b56_minCount)) (F_b56_minUsers : Fld Z h b56 "com/example/search_suggest/searchsuggest/engine/PrivacyFloor" "minUsers" "J" (.long b56_minUsers)) (g_b56 : n0 ≤ b56) (r : Int32) (hr : f0_196 v0 v2 v4 v6 v7 v8 v10 v13 b56_minCount b56_minUsers = r) :
    EndsIn p e below s 1 2 (Q0 n0 r) (T0.setTop (mkF m 196 #[.val (.long v0), .second, .val (.long v2), .second, .val (.long v4), .second, .val (.int v6), .val (.int v7), .val (.long v8), .second, .val (.long v10), .second, .val (.ref b56), .val (.int v13), .unset] [])) := by
  obtain ⟨hx, hZ, hw, hby, hml, hret, hown, hnm, hlk⟩ := B
  unfold f0_196 at hr
  refine EndsIn.by (B := T0.setTop (mkF m 200 #[.val (.long v0), .second, .val (.long v2), .second, .val (.long v4), .second, .val (.int v6), .val (.int v7), .val (.long v8), .second, .val (.long v10), .second, .val (.ref b56), .val (.int v13), .unset] [(.int (lcmpW v10 (1 : Int64)))])) (fun t k => ?_) ?_
  · show Steps p.tables e below (T0.setTop (mkF m 196 #[.val (.long v0), .second, .val (.long v2), .second, .val (.long v4), .second, .val (.int v6), .val (.int v7), .val (.long v8), .second, .val (.long v10), .second, .val (.ref b56), .val (.int v13), .unset] [])) _
    refine XS.lload X0.here hx rfl (hb hby at_196) rfl  ?_
    show Steps p.tables e below (T0.setTop (mkF m 198 #[.val (.long v0), .second, .val (.long v2), .second, .val (.long v4), .second, .val (.int v6), .val (.int v7), .val (.long v8), .second, .val (.long v10), .second, .val (.ref b56), .val (.int v13), .unset] [(.long v10)])) _
    refine XS.lconst X0.here hx rfl (hb hby at_198) ?_
    show Steps p.tables e below (T0.setTop (mkF m 199 #[.val (.long v0), .second, .val (.long v2), .second, .val (.long v4), .second, .val (.int v6), .val (.int v7), .val (.long v8), .second, .val (.long v10), .second, .val (.ref b56), .val (.int v13), .unset] [(.long (1 : Int64)), (.long v10)])) _
    refine XS.lcmp X0.here hx rfl (hb hby at_199) rfl ?_
    exact k
  by_cases hc200 : (1 : Int64) < v10
  · rw [if_pos hc200] at hr
    refine EndsIn.by (B := T0.setTop (mkF m 203 #[.val (.long v0), .second, .val (.long v2), .second, .val (.long v4), .second, .val (.int v6), .val (.int v7), .val (.long v8), .second, .val (.long v10), .second, .val (.ref b56), .val (.int v13), .unset] [])) (fun t k => ?_) ?_
    · show Steps p.tables e below (T0.setTop (mkF m 200 #[.val (.long v0), .second, .val (.long v2), .second, .val (.long v4), .second, .val (.int v6), .val (.int v7), .val (.long v8), .second, .val (.long v10), .second, .val (.ref b56), .val (.int v13), .unset] [(.int (lcmpW v10 (1 : Int64)))])) _
      exact XS.ifNo X0.here hx rfl (hb hby at_200) rfl ((if0 _ _).trans (tlt ((lw_gt _ _).mpr hc200)).2.2.2) k
    refine EndsIn.by (B := T0.setTop (mkF m 209 #[.val (.long v0), .second, .val (.long v2), .second, .val (.long v4), .second, .val (.int v6), .val (.int v7), .val (.long v8), .second, .val (.long v10), .second, .val (.ref b56), .val (.int v13), .unset] [(.int (0 : Int32)), (.long (9223372036854775807 : Int64)), (.ref b56)])) (fun t k => ?_) ?_
    · show Steps p.tables e below (T0.setTop (mkF m 203 #[.val (.long v0), .second, .val (.long v2), .second, .val (.long v4), .second, .val (.int v6), .val (.int v7), .val (.long v8), .second, .val (.long v10), .second, .val (.ref b56), .val (.int v13), .unset] [])) _
      refine XS.aload X0.here hx rfl (hb hby at_203) rfl rfl ?_
      show Steps p.tables e below (T0.setTop (mkF m 205 #[.val (.long v0), .second, .val (.long v2), .second, .val (.long v4), .second, .val (.int v6), .val (.int v7), .val (.long v8), .second, .val (.long v10), .second, .val (.ref b56), .val (.int v13), .unset] [(.ref b56)])) _
      refine X0.ldc2Long hx hown (mvT hZ (hw _ (List.mem_of_getElem? (i := 25) rfl))) (g := (mkF m 205 #[.val (.long v0), .second, .val (.long v2), .second, .val (.long v4), .second, .val (.int v6), .val (.int v7), .val (.long v8), .second, .val (.long v10), .second, .val (.ref b56), .val (.int v13), .unset] [(.ref b56)])) rfl (hb hby at_205) _ ?_
      show Steps p.tables e below (T0.setTop (mkF m 208 #[.val (.long v0), .second, .val (.long v2), .second, .val (.long v4), .second, .val (.int v6), .val (.int v7), .val (.long v8), .second, .val (.long v10), .second, .val (.ref b56), .val (.int v13), .unset] [(.long (9223372036854775807 : Int64)), (.ref b56)])) _
      refine XS.iconst X0.here hx rfl (hb hby at_208) ?_
      exact k
    -- pc 209: com/example/search_suggest/searchsuggest/engine/PrivacyFloor.admits
    obtain ⟨cq6, kq6, q6a, q6b, q6c⟩ := isOf hZ e0 E_b56
    obtain ⟨_, _, ⟨T6, L6, k6, n6⟩, -, X6, ⟨Lc6, hQ6, l6, y6, z6⟩, st6⟩ := X0.virtualBack hx (y := (⟨"com/example/search_suggest/searchsuggest/engine/PrivacyFloor", "admits", "(JI)Z"⟩ : MethodName)) (z := (⟨"com/example/search_suggest/searchsuggest/engine/PrivacyFloor", "admits", "(JI)Z"⟩ : MethodName)) hown (mvT hZ (hw _ (List.mem_of_getElem? (i := 19) rfl))) (mvT hZ (hw _ (List.mem_of_getElem? (i := 20) rfl))) (notFace_of_selects (args := #[]) (mvT hZ (hw _ (List.mem_of_getElem? (i := 22) rfl)))) (mvT hZ (hw _ (List.mem_of_getElem? (i := 22) rfl))) (mvT hZ (hw _ (List.mem_of_getElem? (i := 21) rfl))) (by decide) (backOf (W := 0) (rm4 l Z a0 hw [] b56 (9223372036854775807 : Int64) (0 : Int32) b56_minCount b56_minUsers h n0 Z0 E_b56 F_b56_minCount F_b56_minUsers) hZ (hw _ (List.mem_of_getElem? (i := 23) rfl)) (hw _ (List.mem_of_getElem? (i := 3) rfl)) (by decide) (by decide)) q6a q6c (g := (mkF m 209 #[.val (.long v0), .second, .val (.long v2), .second, .val (.long v4), .second, .val (.int v6), .val (.int v7), .val (.long v8), .second, .val (.long v10), .second, .val (.ref b56), .val (.int v13), .unset] [(.int (0 : Int32)), (.long (9223372036854775807 : Int64)), (.ref b56)])) rfl (by rw [hml]; rfl) (Steps.refl _) (argsL := [(.long (9223372036854775807 : Int64)), (.int (0 : Int32))]) (rest := []) (lenOf pd_3 rfl) rfl (by show 2 * 0 + _ ≤ _; exact Nat.le_of_eq rfl) (hb hby at_209) (fun _ _ => ⟨rfl, e0, (by decide : 1 + R4.cells ≤ _), (by decide : 2 + R4.slots ≤ _)⟩)
    dsimp only [Pt.U, Pt.locs, Pt.cells, Pt.slots] at X6 l6 y6 z6 st6 hQ6
    subst l6 y6 z6
    obtain ⟨rfl, Nq6, e6⟩ := hQ6
    have N6 := Fr.app N0 Nq6
    refine EndsIn.by (B := T6.setTop (mkF m 212 #[.val (.long v0), .second, .val (.long v2), .second, .val (.long v4), .second, .val (.int v6), .val (.int v7), .val (.long v8), .second, .val (.long v10), .second, .val (.ref b56), .val (.int v13), .unset] [(.int (f4_0 (9223372036854775807 : Int64) (0 : Int32) b56_minCount b56_minUsers))])) (fun t k => st6.trans k) ?_
    by_cases hc212 : (f4_0 (9223372036854775807 : Int64) (0 : Int32) b56_minCount b56_minUsers) = (0 : Int32)
    · rw [if_pos hc212] at hr
      refine EndsIn.by (B := T6.setTop (mkF m 217 #[.val (.long v0), .second, .val (.long v2), .second, .val (.long v4), .second, .val (.int v6), .val (.int v7), .val (.long v8), .second, .val (.long v10), .second, .val (.ref b56), .val (.int v13), .unset] [])) (fun t k => ?_) ?_
      · show Steps p.tables e below (T6.setTop (mkF m 212 #[.val (.long v0), .second, .val (.long v2), .second, .val (.long v4), .second, .val (.int v6), .val (.int v7), .val (.long v8), .second, .val (.long v10), .second, .val (.ref b56), .val (.int v13), .unset] [(.int (f4_0 (9223372036854775807 : Int64) (0 : Int32) b56_minCount b56_minUsers))])) _
        exact XS.ifYes X6.here hx rfl (pc0 := 212) (pc' := 217) rfl (hb hby at_212) rfl ((if0 _ _).trans (teq hc212).1) (by decide) (by decide) k
      exact b0_217 ⟨hx, hZ, hw, hby, hml, hret, hown, hnm, hlk⟩ h0 n0 v0 v2 v4 v6 v7 v8 v10 b56 v13 b56_minCount b56_minUsers X6 e6 N6 Z0 E_b56 F_b56_minCount F_b56_minUsers g_b56 _ hr
    · rw [if_neg hc212] at hr
      refine EndsIn.by (B := T6.setTop (mkF m 215 #[.val (.long v0), .second, .val (.long v2), .second, .val (.long v4), .second, .val (.int v6), .val (.int v7), .val (.long v8), .second, .val (.long v10), .second, .val (.ref b56), .val (.int v13), .unset] [])) (fun t k => ?_) ?_
      · show Steps p.tables e below (T6.setTop (mkF m 212 #[.val (.long v0), .second, .val (.long v2), .second, .val (.long v4), .second, .val (.int v6), .val (.int v7), .val (.long v8), .second, .val (.long v10), .second, .val (.ref b56), .val (.int v13), .unset] [(.int (f4_0 (9223372036854775807 : Int64) (0 : Int32) b56_minCount b56_minUsers))])) _
        exact XS.ifNo X6.here hx rfl (hb hby at_212) rfl ((if0 _ _).trans (feq hc212).1) k
      refine EndsIn.by (B := T6.setTop (mkF m 216 #[.val (.long v0), .second, .val (.long v2), .second, .val (.long v4), .second, .val (.int v6), .val (.int v7), .val (.long v8), .second, .val (.long v10), .second, .val (.ref b56), .val (.int v13), .unset] [(.int (0 : Int32))])) (fun t k => ?_) ?_
      · show Steps p.tables e below (T6.setTop (mkF m 215 #[.val (.long v0), .second, .val (.long v2), .second, .val (.long v4), .second, .val (.int v6), .val (.int v7), .val (.long v8), .second, .val (.long v10), .second, .val (.ref b56), .val (.int v13), .unset] [])) _
        refine XS.iconst X6.here hx rfl (hb hby at_215) ?_
        exact k
      subst hr
      exact own_retN X6 hx hlk (t := .boolean) hret (by simp) (hb hby at_216) (by decide) (by decide) ⟨rfl, N6⟩
  · rw [if_neg hc200] at hr
    refine EndsIn.by (B := T0.setTop (mkF m 217 #[.val (.long v0), .second, .val (.long v2), .second, .val (.long v4), .second, .val (.int v6), .val (.int v7), .val (.long v8), .second, .val (.long v10), .second, .val (.ref b56), .val (.int v13), .unset] [])) (fun t k => ?_) ?_
    · show Steps p.tables e below (T0.setTop (mkF m 200 #[.val (.long v0), .second, .val (.long v2), .second, .val (.long v4), .second, .val (.int v6), .val (.int v7), .val (.long v8), .second, .val (.long v10), .second, .val (.ref b56), .val (.int v13), .unset] [(.int (lcmpW v10 (1 : Int64)))])) _
      exact XS.ifYes X0.here hx rfl (pc0 := 200) (pc' := 217) rfl (hb hby at_200) rfl ((if0 _ _).trans (flt (fun q => hc200 ((lw_gt _ _).mp q))).2.2.2) (by decide) (by decide) k
    exact b0_217 ⟨hx, hZ, hw, hby, hml, hret, hown, hnm, hlk⟩ h0 n0 v0 v2 v4 v6 v7 v8 v10 b56 v13 b56_minCount b56_minUsers X0 e0 N0 Z0 E_b56 F_b56_minCount F_b56_minUsers g_b56 _ hr
def f0_217_1 (v0 : Int64) (v2 : Int64) (v4 : Int64) (v6 : Int32) (v7 : Int32) (v8 : Int64) (v10 : Int64) (v13 : Int32) (v14 : Int32) (b56_minCount : Int64) (b56_minUsers : Int64) : Int32 := (if v10 = (1 : Int64) then (if (f4_0 v8 (-2147483648 : Int32) b56_minCount b56_minUsers) = (0 : Int32) then (0 : Int32) else (1 : Int32)) else (1 : Int32))
set_option maxRecDepth 65536 in
set_option maxHeartbeats 40000000 in
theorem b0_217_1 {p : Program} {l : Launch} {e : Env} {s : State} {m : MethodId} {args : Array Value} {below : List Frame} {meth : Method} {c : Code} {Z : State} {a0 : Array Value} (B : Ctx p Z s a0 m meth c "com/example/search_suggest/searchsuggest/engine/PrivacyFloorAdmitsPinLaw" "law" code 15 (some .boolean)) {T0 : State} {locs : List Loc} {h : Heap} (h0 : Heap) (n0 : Nat) (v0 : Int64) (v2 : Int64) (v4 : Int64) (v6 : Int32) (v7 : Int32) (v8 : Int64) (v10 : Int64) (b56 : Addr) (v13 : Int32) (v14 : Int32) (b56_minCount : Int64) (b56_minUsers : Int64) (X0 : Stand p l e room_1 s m args below meth c T0 locs 1 2) (e0 : T0.heap = h) (N0 : Fr n0 locs) (Z0 : n0 ≤ h.size) (E_b56 : Exa Z h b56 "com/example/search_suggest/searchsuggest/engine/PrivacyFloor") (F_b56_minCount : Fld Z h b56 "com/example/search_suggest/searchsuggest/engine/PrivacyFloor" "minCount" "J" (.long b56_minCount)) (F_b56_minUsers : Fld Z h b56 "com/example/search_suggest/searchsuggest/engine/PrivacyFloor" "minUsers" "J" (.long b56_minUsers)) (g_b56 : n0 ≤ b56) (r : Int32) (hr : f0_217_1 v0 v2 v4 v6 v7 v8 v10 v13 v14 b56_minCount b56_minUsers = r) :
    EndsIn p e below s 1 2 (Q0 n0 r) (T0.setTop (mkF m 217 #[.val (.long v0), .second, .val (.long v2), .second, .val (.long v4), .second, .val (.int v6), .val (.int v7), .val (.long v8), .second, .val (.long v10), .second, .val (.ref b56), .val (.int v13), .val (.int v14)] [])) := by
  obtain ⟨hx, hZ, hw, hby, hml, hret, hown, hnm, hlk⟩ := B
  unfold f0_217_1 at hr
  refine EndsIn.by (B := T0.setTop (mkF m 221 #[.val (.long v0), .second, .val (.long v2), .second, .val (.long v4), .second, .val (.int v6), .val (.int v7), .val (.long v8), .second, .val (.long v10), .second, .val (.ref b56), .val (.int v13), .val (.int v14)] [(.int (lcmpW v10 (1 : Int64)))])) (fun t k => ?_) ?_
  · show Steps p.tables e below (T0.setTop (mkF m 217 #[.val (.long v0), .second, .val (.long v2), .second, .val (.long v4), .second, .val (.int v6), .val (.int v7), .val (.long v8), .second, .val (.long v10), .second, .val (.ref b56), .val (.int v13), .val (.int v14)] [])) _
    refine XS.lload X0.here hx rfl (hb hby at_217) rfl  ?_
    show Steps p.tables e below (T0.setTop (mkF m 219 #[.val (.long v0), .second, .val (.long v2), .second, .val (.long v4), .second, .val (.int v6), .val (.int v7), .val (.long v8), .second, .val (.long v10), .second, .val (.ref b56), .val (.int v13), .val (.int v14)] [(.long v10)])) _
    refine XS.lconst X0.here hx rfl (hb hby at_219) ?_
    show Steps p.tables e below (T0.setTop (mkF m 220 #[.val (.long v0), .second, .val (.long v2), .second, .val (.long v4), .second, .val (.int v6), .val (.int v7), .val (.long v8), .second, .val (.long v10), .second, .val (.ref b56), .val (.int v13), .val (.int v14)] [(.long (1 : Int64)), (.long v10)])) _
    refine XS.lcmp X0.here hx rfl (hb hby at_220) rfl ?_
    exact k
  by_cases hc221 : v10 = (1 : Int64)
  · rw [if_pos hc221] at hr
    refine EndsIn.by (B := T0.setTop (mkF m 224 #[.val (.long v0), .second, .val (.long v2), .second, .val (.long v4), .second, .val (.int v6), .val (.int v7), .val (.long v8), .second, .val (.long v10), .second, .val (.ref b56), .val (.int v13), .val (.int v14)] [])) (fun t k => ?_) ?_
    · show Steps p.tables e below (T0.setTop (mkF m 221 #[.val (.long v0), .second, .val (.long v2), .second, .val (.long v4), .second, .val (.int v6), .val (.int v7), .val (.long v8), .second, .val (.long v10), .second, .val (.ref b56), .val (.int v13), .val (.int v14)] [(.int (lcmpW v10 (1 : Int64)))])) _
      exact XS.ifNo X0.here hx rfl (hb hby at_221) rfl ((if0 _ _).trans (teq ((lw_eq _ _).mpr hc221)).2) k
    refine EndsIn.by (B := T0.setTop (mkF m 230 #[.val (.long v0), .second, .val (.long v2), .second, .val (.long v4), .second, .val (.int v6), .val (.int v7), .val (.long v8), .second, .val (.long v10), .second, .val (.ref b56), .val (.int v13), .val (.int v14)] [(.int (-2147483648 : Int32)), (.long v8), (.ref b56)])) (fun t k => ?_) ?_
    · show Steps p.tables e below (T0.setTop (mkF m 224 #[.val (.long v0), .second, .val (.long v2), .second, .val (.long v4), .second, .val (.int v6), .val (.int v7), .val (.long v8), .second, .val (.long v10), .second, .val (.ref b56), .val (.int v13), .val (.int v14)] [])) _
      refine XS.aload X0.here hx rfl (hb hby at_224) rfl rfl ?_
      show Steps p.tables e below (T0.setTop (mkF m 226 #[.val (.long v0), .second, .val (.long v2), .second, .val (.long v4), .second, .val (.int v6), .val (.int v7), .val (.long v8), .second, .val (.long v10), .second, .val (.ref b56), .val (.int v13), .val (.int v14)] [(.ref b56)])) _
      refine XS.lload X0.here hx rfl (hb hby at_226) rfl  ?_
      show Steps p.tables e below (T0.setTop (mkF m 228 #[.val (.long v0), .second, .val (.long v2), .second, .val (.long v4), .second, .val (.int v6), .val (.int v7), .val (.long v8), .second, .val (.long v10), .second, .val (.ref b56), .val (.int v13), .val (.int v14)] [(.long v8), (.ref b56)])) _
      refine X0.ldcInt hx hown (mvT hZ (hw _ (List.mem_of_getElem? (i := 30) rfl))) (g := (mkF m 228 #[.val (.long v0), .second, .val (.long v2), .second, .val (.long v4), .second, .val (.int v6), .val (.int v7), .val (.long v8), .second, .val (.long v10), .second, .val (.ref b56), .val (.int v13), .val (.int v14)] [(.long v8), (.ref b56)])) rfl (hb hby at_228) _ ?_
      exact k
    -- pc 230: com/example/search_suggest/searchsuggest/engine/PrivacyFloor.admits
    obtain ⟨cq12, kq12, q12a, q12b, q12c⟩ := isOf hZ e0 E_b56
    obtain ⟨_, _, ⟨T12, L12, k12, n12⟩, -, X12, ⟨Lc12, hQ12, l12, y12, z12⟩, st12⟩ := X0.virtualBack hx (y := (⟨"com/example/search_suggest/searchsuggest/engine/PrivacyFloor", "admits", "(JI)Z"⟩ : MethodName)) (z := (⟨"com/example/search_suggest/searchsuggest/engine/PrivacyFloor", "admits", "(JI)Z"⟩ : MethodName)) hown (mvT hZ (hw _ (List.mem_of_getElem? (i := 19) rfl))) (mvT hZ (hw _ (List.mem_of_getElem? (i := 20) rfl))) (notFace_of_selects (args := #[]) (mvT hZ (hw _ (List.mem_of_getElem? (i := 22) rfl)))) (mvT hZ (hw _ (List.mem_of_getElem? (i := 22) rfl))) (mvT hZ (hw _ (List.mem_of_getElem? (i := 21) rfl))) (by decide) (backOf (W := 0) (rm4 l Z a0 hw [] b56 v8 (-2147483648 : Int32) b56_minCount b56_minUsers h n0 Z0 E_b56 F_b56_minCount F_b56_minUsers) hZ (hw _ (List.mem_of_getElem? (i := 23) rfl)) (hw _ (List.mem_of_getElem? (i := 3) rfl)) (by decide) (by decide)) q12a q12c (g := (mkF m 230 #[.val (.long v0), .second, .val (.long v2), .second, .val (.long v4), .second, .val (.int v6), .val (.int v7), .val (.long v8), .second, .val (.long v10), .second, .val (.ref b56), .val (.int v13), .val (.int v14)] [(.int (-2147483648 : Int32)), (.long v8), (.ref b56)])) rfl (by rw [hml]; rfl) (Steps.refl _) (argsL := [(.long v8), (.int (-2147483648 : Int32))]) (rest := []) (lenOf pd_3 rfl) rfl (by show 2 * 0 + _ ≤ _; exact Nat.le_of_eq rfl) (hb hby at_230) (fun _ _ => ⟨rfl, e0, (by decide : 1 + R4.cells ≤ _), (by decide : 2 + R4.slots ≤ _)⟩)
    dsimp only [Pt.U, Pt.locs, Pt.cells, Pt.slots] at X12 l12 y12 z12 st12 hQ12
    subst l12 y12 z12
    obtain ⟨rfl, Nq12, e12⟩ := hQ12
    have N12 := Fr.app N0 Nq12
    refine EndsIn.by (B := T12.setTop (mkF m 233 #[.val (.long v0), .second, .val (.long v2), .second, .val (.long v4), .second, .val (.int v6), .val (.int v7), .val (.long v8), .second, .val (.long v10), .second, .val (.ref b56), .val (.int v13), .val (.int v14)] [(.int (f4_0 v8 (-2147483648 : Int32) b56_minCount b56_minUsers))])) (fun t k => st12.trans k) ?_
    by_cases hc233 : (f4_0 v8 (-2147483648 : Int32) b56_minCount b56_minUsers) = (0 : Int32)
    · rw [if_pos hc233] at hr
      refine EndsIn.by (B := T12.setTop (mkF m 236 #[.val (.long v0), .second, .val (.long v2), .second, .val (.long v4), .second, .val (.int v6), .val (.int v7), .val (.long v8), .second, .val (.long v10), .second, .val (.ref b56), .val (.int v13), .val (.int v14)] [])) (fun t k => ?_) ?_
      · show Steps p.tables e below (T12.setTop (mkF m 233 #[.val (.long v0), .second, .val (.long v2), .second, .val (.long v4), .second, .val (.int v6), .val (.int v7), .val (.long v8), .second, .val (.long v10), .second, .val (.ref b56), .val (.int v13), .val (.int v14)] [(.int (f4_0 v8 (-2147483648 : Int32) b56_minCount b56_minUsers))])) _
        exact XS.ifNo X12.here hx rfl (hb hby at_233) rfl ((if0 _ _).trans (teq hc233).2) k
      refine EndsIn.by (B := T12.setTop (mkF m 237 #[.val (.long v0), .second, .val (.long v2), .second, .val (.long v4), .second, .val (.int v6), .val (.int v7), .val (.long v8), .second, .val (.long v10), .second, .val (.ref b56), .val (.int v13), .val (.int v14)] [(.int (0 : Int32))])) (fun t k => ?_) ?_
      · show Steps p.tables e below (T12.setTop (mkF m 236 #[.val (.long v0), .second, .val (.long v2), .second, .val (.long v4), .second, .val (.int v6), .val (.int v7), .val (.long v8), .second, .val (.long v10), .second, .val (.ref b56), .val (.int v13), .val (.int v14)] [])) _
        refine XS.iconst X12.here hx rfl (hb hby at_236) ?_
        exact k
      subst hr
      exact own_retN X12 hx hlk (t := .boolean) hret (by simp) (hb hby at_237) (by decide) (by decide) ⟨rfl, N12⟩
    · rw [if_neg hc233] at hr
      refine EndsIn.by (B := T12.setTop (mkF m 238 #[.val (.long v0), .second, .val (.long v2), .second, .val (.long v4), .second, .val (.int v6), .val (.int v7), .val (.long v8), .second, .val (.long v10), .second, .val (.ref b56), .val (.int v13), .val (.int v14)] [])) (fun t k => ?_) ?_
      · show Steps p.tables e below (T12.setTop (mkF m 233 #[.val (.long v0), .second, .val (.long v2), .second, .val (.long v4), .second, .val (.int v6), .val (.int v7), .val (.long v8), .second, .val (.long v10), .second, .val (.ref b56), .val (.int v13), .val (.int v14)] [(.int (f4_0 v8 (-2147483648 : Int32) b56_minCount b56_minUsers))])) _
        exact XS.ifYes X12.here hx rfl (pc0 := 233) (pc' := 238) rfl (hb hby at_233) rfl ((if0 _ _).trans (feq hc233).2) (by decide) (by decide) k
      refine EndsIn.by (B := T12.setTop (mkF m 239 #[.val (.long v0), .second, .val (.long v2), .second, .val (.long v4), .second, .val (.int v6), .val (.int v7), .val (.long v8), .second, .val (.long v10), .second, .val (.ref b56), .val (.int v13), .val (.int v14)] [(.int (1 : Int32))])) (fun t k => ?_) ?_
      · show Steps p.tables e below (T12.setTop (mkF m 238 #[.val (.long v0), .second, .val (.long v2), .second, .val (.long v4), .second, .val (.int v6), .val (.int v7), .val (.long v8), .second, .val (.long v10), .second, .val (.ref b56), .val (.int v13), .val (.int v14)] [])) _
        refine XS.iconst X12.here hx rfl (hb hby at_238) ?_
        exact k
      subst hr
      exact own_retN X12 hx hlk (t := .boolean) hret (by simp) (hb hby at_239) (by decide) (by decide) ⟨rfl, N12⟩
  · rw [if_neg hc221] at hr
    refine EndsIn.by (B := T0.setTop (mkF m 238 #[.val (.long v0), .second, .val (.long v2), .second, .val (.long v4), .second, .val (.int v6), .val (.int v7), .val (.long v8), .second, .val (.long v10), .second, .val (.ref b56), .val (.int v13), .val (.int v14)] [])) (fun t k => ?_) ?_
    · show Steps p.tables e below (T0.setTop (mkF m 221 #[.val (.long v0), .second, .val (.long v2), .second, .val (.long v4), .second, .val (.int v6), .val (.int v7), .val (.long v8), .second, .val (.long v10), .second, .val (.ref b56), .val (.int v13), .val (.int v14)] [(.int (lcmpW v10 (1 : Int64)))])) _
      exact XS.ifYes X0.here hx rfl (pc0 := 221) (pc' := 238) rfl (hb hby at_221) rfl ((if0 _ _).trans (feq (fun q => hc221 ((lw_eq _ _).mp q))).2) (by decide) (by decide) k
    refine EndsIn.by (B := T0.setTop (mkF m 239 #[.val (.long v0), .second, .val (.long v2), .second, .val (.long v4), .second, .val (.int v6), .val (.int v7), .val (.long v8), .second, .val (.long v10), .second, .val (.ref b56), .val (.int v13), .val (.int v14)] [(.int (1 : Int32))])) (fun t k => ?_) ?_
    · show Steps p.tables e below (T0.setTop (mkF m 238 #[.val (.long v0), .second, .val (.long v2), .second, .val (.long v4), .second, .val (.int v6), .val (.int v7), .val (.long v8), .second, .val (.long v10), .second, .val (.ref b56), .val (.int v13), .val (.int v14)] [])) _
      refine XS.iconst X0.here hx rfl (hb hby at_238) ?_
      exact k
    subst hr
    exact own_retN X0 hx hlk (t := .boolean) hret (by simp) (hb hby at_239) (by decide) (by decide) ⟨rfl, N0⟩
def f0_196_1 (v0 : Int64) (v2 : Int64) (v4 : Int64) (v6 : Int32) (v7 : Int32) (v8 : Int64) (v10 : Int64) (v13 : Int32) (v14 : Int32) (b56_minCount : Int64) (b56_minUsers : Int64) : Int32 := (if (1 : Int64) < v10 then (if (f4_0 (9223372036854775807 : Int64) (0 : Int32) b56_minCount b56_minUsers) = (0 : Int32) then (f0_217_1 v0 v2 v4 v6 v7 v8 v10 v13 v14 b56_minCount b56_minUsers) else (0 : Int32)) else (f0_217_1 v0 v2 v4 v6 v7 v8 v10 v13 v14 b56_minCount b56_minUsers))
set_option maxRecDepth 65536 in
set_option maxHeartbeats 40000000 in
theorem b0_196_1 {p : Program} {l : Launch} {e : Env} {s : State} {m : MethodId} {args : Array Value} {below : List Frame} {meth : Method} {c : Code} {Z : State} {a0 : Array Value} (B : Ctx p Z s a0 m meth c "com/example/search_suggest/searchsuggest/engine/PrivacyFloorAdmitsPinLaw" "law" code 15 (some .boolean)) {T0 : State} {locs : List Loc} {h : Heap} (h0 : Heap) (n0 : Nat) (v0 : Int64) (v2 : Int64) (v4 : Int64) (v6 : Int32) (v7 : Int32) (v8 : Int64) (v10 : Int64) (b56 : Addr) (v13 : Int32) (v14 : Int32) (b56_minCount : Int64) (b56_minUsers : Int64) (X0 : Stand p l e room_1 s m args below meth c T0 locs 1 2) (e0 : T0.heap = h) (N0 : Fr n0 locs) (Z0 : n0 ≤ h.size) (E_b56 : Exa Z h b56 "com/example/search_suggest/searchsuggest/engine/PrivacyFloor") (F_b56_minCount : Fld Z h b56 "com/example/search_suggest/searchsuggest/engine/PrivacyFloor" "minCount" "J" (.long b56_minCount)) (F_b56_minUsers : Fld Z h b56 "com/example/search_suggest/searchsuggest/engine/PrivacyFloor" "minUsers" "J" (.long b56_minUsers)) (g_b56 : n0 ≤ b56) (r : Int32) (hr : f0_196_1 v0 v2 v4 v6 v7 v8 v10 v13 v14 b56_minCount b56_minUsers = r) :
    EndsIn p e below s 1 2 (Q0 n0 r) (T0.setTop (mkF m 196 #[.val (.long v0), .second, .val (.long v2), .second, .val (.long v4), .second, .val (.int v6), .val (.int v7), .val (.long v8), .second, .val (.long v10), .second, .val (.ref b56), .val (.int v13), .val (.int v14)] [])) := by
  obtain ⟨hx, hZ, hw, hby, hml, hret, hown, hnm, hlk⟩ := B
  unfold f0_196_1 at hr
  refine EndsIn.by (B := T0.setTop (mkF m 200 #[.val (.long v0), .second, .val (.long v2), .second, .val (.long v4), .second, .val (.int v6), .val (.int v7), .val (.long v8), .second, .val (.long v10), .second, .val (.ref b56), .val (.int v13), .val (.int v14)] [(.int (lcmpW v10 (1 : Int64)))])) (fun t k => ?_) ?_
  · show Steps p.tables e below (T0.setTop (mkF m 196 #[.val (.long v0), .second, .val (.long v2), .second, .val (.long v4), .second, .val (.int v6), .val (.int v7), .val (.long v8), .second, .val (.long v10), .second, .val (.ref b56), .val (.int v13), .val (.int v14)] [])) _
    refine XS.lload X0.here hx rfl (hb hby at_196) rfl  ?_
    show Steps p.tables e below (T0.setTop (mkF m 198 #[.val (.long v0), .second, .val (.long v2), .second, .val (.long v4), .second, .val (.int v6), .val (.int v7), .val (.long v8), .second, .val (.long v10), .second, .val (.ref b56), .val (.int v13), .val (.int v14)] [(.long v10)])) _
    refine XS.lconst X0.here hx rfl (hb hby at_198) ?_
    show Steps p.tables e below (T0.setTop (mkF m 199 #[.val (.long v0), .second, .val (.long v2), .second, .val (.long v4), .second, .val (.int v6), .val (.int v7), .val (.long v8), .second, .val (.long v10), .second, .val (.ref b56), .val (.int v13), .val (.int v14)] [(.long (1 : Int64)), (.long v10)])) _
    refine XS.lcmp X0.here hx rfl (hb hby at_199) rfl ?_
    exact k
  by_cases hc200 : (1 : Int64) < v10
  · rw [if_pos hc200] at hr
    refine EndsIn.by (B := T0.setTop (mkF m 203 #[.val (.long v0), .second, .val (.long v2), .second, .val (.long v4), .second, .val (.int v6), .val (.int v7), .val (.long v8), .second, .val (.long v10), .second, .val (.ref b56), .val (.int v13), .val (.int v14)] [])) (fun t k => ?_) ?_
    · show Steps p.tables e below (T0.setTop (mkF m 200 #[.val (.long v0), .second, .val (.long v2), .second, .val (.long v4), .second, .val (.int v6), .val (.int v7), .val (.long v8), .second, .val (.long v10), .second, .val (.ref b56), .val (.int v13), .val (.int v14)] [(.int (lcmpW v10 (1 : Int64)))])) _
      exact XS.ifNo X0.here hx rfl (hb hby at_200) rfl ((if0 _ _).trans (tlt ((lw_gt _ _).mpr hc200)).2.2.2) k
    refine EndsIn.by (B := T0.setTop (mkF m 209 #[.val (.long v0), .second, .val (.long v2), .second, .val (.long v4), .second, .val (.int v6), .val (.int v7), .val (.long v8), .second, .val (.long v10), .second, .val (.ref b56), .val (.int v13), .val (.int v14)] [(.int (0 : Int32)), (.long (9223372036854775807 : Int64)), (.ref b56)])) (fun t k => ?_) ?_
    · show Steps p.tables e below (T0.setTop (mkF m 203 #[.val (.long v0), .second, .val (.long v2), .second, .val (.long v4), .second, .val (.int v6), .val (.int v7), .val (.long v8), .second, .val (.long v10), .second, .val (.ref b56), .val (.int v13), .val (.int v14)] [])) _
      refine XS.aload X0.here hx rfl (hb hby at_203) rfl rfl ?_
      show Steps p.tables e below (T0.setTop (mkF m 205 #[.val (.long v0), .second, .val (.long v2), .second, .val (.long v4), .second, .val (.int v6), .val (.int v7), .val (.long v8), .second, .val (.long v10), .second, .val (.ref b56), .val (.int v13), .val (.int v14)] [(.ref b56)])) _
      refine X0.ldc2Long hx hown (mvT hZ (hw _ (List.mem_of_getElem? (i := 25) rfl))) (g := (mkF m 205 #[.val (.long v0), .second, .val (.long v2), .second, .val (.long v4), .second, .val (.int v6), .val (.int v7), .val (.long v8), .second, .val (.long v10), .second, .val (.ref b56), .val (.int v13), .val (.int v14)] [(.ref b56)])) rfl (hb hby at_205) _ ?_
      show Steps p.tables e below (T0.setTop (mkF m 208 #[.val (.long v0), .second, .val (.long v2), .second, .val (.long v4), .second, .val (.int v6), .val (.int v7), .val (.long v8), .second, .val (.long v10), .second, .val (.ref b56), .val (.int v13), .val (.int v14)] [(.long (9223372036854775807 : Int64)), (.ref b56)])) _
      refine XS.iconst X0.here hx rfl (hb hby at_208) ?_
      exact k
    -- pc 209: com/example/search_suggest/searchsuggest/engine/PrivacyFloor.admits
    obtain ⟨cq11, kq11, q11a, q11b, q11c⟩ := isOf hZ e0 E_b56
    obtain ⟨_, _, ⟨T11, L11, k11, n11⟩, -, X11, ⟨Lc11, hQ11, l11, y11, z11⟩, st11⟩ := X0.virtualBack hx (y := (⟨"com/example/search_suggest/searchsuggest/engine/PrivacyFloor", "admits", "(JI)Z"⟩ : MethodName)) (z := (⟨"com/example/search_suggest/searchsuggest/engine/PrivacyFloor", "admits", "(JI)Z"⟩ : MethodName)) hown (mvT hZ (hw _ (List.mem_of_getElem? (i := 19) rfl))) (mvT hZ (hw _ (List.mem_of_getElem? (i := 20) rfl))) (notFace_of_selects (args := #[]) (mvT hZ (hw _ (List.mem_of_getElem? (i := 22) rfl)))) (mvT hZ (hw _ (List.mem_of_getElem? (i := 22) rfl))) (mvT hZ (hw _ (List.mem_of_getElem? (i := 21) rfl))) (by decide) (backOf (W := 0) (rm4 l Z a0 hw [] b56 (9223372036854775807 : Int64) (0 : Int32) b56_minCount b56_minUsers h n0 Z0 E_b56 F_b56_minCount F_b56_minUsers) hZ (hw _ (List.mem_of_getElem? (i := 23) rfl)) (hw _ (List.mem_of_getElem? (i := 3) rfl)) (by decide) (by decide)) q11a q11c (g := (mkF m 209 #[.val (.long v0), .second, .val (.long v2), .second, .val (.long v4), .second, .val (.int v6), .val (.int v7), .val (.long v8), .second, .val (.long v10), .second, .val (.ref b56), .val (.int v13), .val (.int v14)] [(.int (0 : Int32)), (.long (9223372036854775807 : Int64)), (.ref b56)])) rfl (by rw [hml]; rfl) (Steps.refl _) (argsL := [(.long (9223372036854775807 : Int64)), (.int (0 : Int32))]) (rest := []) (lenOf pd_3 rfl) rfl (by show 2 * 0 + _ ≤ _; exact Nat.le_of_eq rfl) (hb hby at_209) (fun _ _ => ⟨rfl, e0, (by decide : 1 + R4.cells ≤ _), (by decide : 2 + R4.slots ≤ _)⟩)
    dsimp only [Pt.U, Pt.locs, Pt.cells, Pt.slots] at X11 l11 y11 z11 st11 hQ11
    subst l11 y11 z11
    obtain ⟨rfl, Nq11, e11⟩ := hQ11
    have N11 := Fr.app N0 Nq11
    refine EndsIn.by (B := T11.setTop (mkF m 212 #[.val (.long v0), .second, .val (.long v2), .second, .val (.long v4), .second, .val (.int v6), .val (.int v7), .val (.long v8), .second, .val (.long v10), .second, .val (.ref b56), .val (.int v13), .val (.int v14)] [(.int (f4_0 (9223372036854775807 : Int64) (0 : Int32) b56_minCount b56_minUsers))])) (fun t k => st11.trans k) ?_
    by_cases hc212 : (f4_0 (9223372036854775807 : Int64) (0 : Int32) b56_minCount b56_minUsers) = (0 : Int32)
    · rw [if_pos hc212] at hr
      refine EndsIn.by (B := T11.setTop (mkF m 217 #[.val (.long v0), .second, .val (.long v2), .second, .val (.long v4), .second, .val (.int v6), .val (.int v7), .val (.long v8), .second, .val (.long v10), .second, .val (.ref b56), .val (.int v13), .val (.int v14)] [])) (fun t k => ?_) ?_
      · show Steps p.tables e below (T11.setTop (mkF m 212 #[.val (.long v0), .second, .val (.long v2), .second, .val (.long v4), .second, .val (.int v6), .val (.int v7), .val (.long v8), .second, .val (.long v10), .second, .val (.ref b56), .val (.int v13), .val (.int v14)] [(.int (f4_0 (9223372036854775807 : Int64) (0 : Int32) b56_minCount b56_minUsers))])) _
        exact XS.ifYes X11.here hx rfl (pc0 := 212) (pc' := 217) rfl (hb hby at_212) rfl ((if0 _ _).trans (teq hc212).1) (by decide) (by decide) k
      exact b0_217_1 ⟨hx, hZ, hw, hby, hml, hret, hown, hnm, hlk⟩ h0 n0 v0 v2 v4 v6 v7 v8 v10 b56 v13 v14 b56_minCount b56_minUsers X11 e11 N11 Z0 E_b56 F_b56_minCount F_b56_minUsers g_b56 _ hr
    · rw [if_neg hc212] at hr
      refine EndsIn.by (B := T11.setTop (mkF m 215 #[.val (.long v0), .second, .val (.long v2), .second, .val (.long v4), .second, .val (.int v6), .val (.int v7), .val (.long v8), .second, .val (.long v10), .second, .val (.ref b56), .val (.int v13), .val (.int v14)] [])) (fun t k => ?_) ?_
      · show Steps p.tables e below (T11.setTop (mkF m 212 #[.val (.long v0), .second, .val (.long v2), .second, .val (.long v4), .second, .val (.int v6), .val (.int v7), .val (.long v8), .second, .val (.long v10), .second, .val (.ref b56), .val (.int v13), .val (.int v14)] [(.int (f4_0 (9223372036854775807 : Int64) (0 : Int32) b56_minCount b56_minUsers))])) _
        exact XS.ifNo X11.here hx rfl (hb hby at_212) rfl ((if0 _ _).trans (feq hc212).1) k
      refine EndsIn.by (B := T11.setTop (mkF m 216 #[.val (.long v0), .second, .val (.long v2), .second, .val (.long v4), .second, .val (.int v6), .val (.int v7), .val (.long v8), .second, .val (.long v10), .second, .val (.ref b56), .val (.int v13), .val (.int v14)] [(.int (0 : Int32))])) (fun t k => ?_) ?_
      · show Steps p.tables e below (T11.setTop (mkF m 215 #[.val (.long v0), .second, .val (.long v2), .second, .val (.long v4), .second, .val (.int v6), .val (.int v7), .val (.long v8), .second, .val (.long v10), .second, .val (.ref b56), .val (.int v13), .val (.int v14)] [])) _
        refine XS.iconst X11.here hx rfl (hb hby at_215) ?_
        exact k
      subst hr
      exact own_retN X11 hx hlk (t := .boolean) hret (by simp) (hb hby at_216) (by decide) (by decide) ⟨rfl, N11⟩
  · rw [if_neg hc200] at hr
    refine EndsIn.by (B := T0.setTop (mkF m 217 #[.val (.long v0), .second, .val (.long v2), .second, .val (.long v4), .second, .val (.int v6), .val (.int v7), .val (.long v8), .second, .val (.long v10), .second, .val (.ref b56), .val (.int v13), .val (.int v14)] [])) (fun t k => ?_) ?_
    · show Steps p.tables e below (T0.setTop (mkF m 200 #[.val (.long v0), .second, .val (.long v2), .second, .val (.long v4), .second, .val (.int v6), .val (.int v7), .val (.long v8), .second, .val (.long v10), .second, .val (.ref b56), .val (.int v13), .val (.int v14)] [(.int (lcmpW v10 (1 : Int64)))])) _
      exact XS.ifYes X0.here hx rfl (pc0 := 200) (pc' := 217) rfl (hb hby at_200) rfl ((if0 _ _).trans (flt (fun q => hc200 ((lw_gt _ _).mp q))).2.2.2) (by decide) (by decide) k
    exact b0_217_1 ⟨hx, hZ, hw, hby, hml, hret, hown, hnm, hlk⟩ h0 n0 v0 v2 v4 v6 v7 v8 v10 b56 v13 v14 b56_minCount b56_minUsers X0 e0 N0 Z0 E_b56 F_b56_minCount F_b56_minUsers g_b56 _ hr
def f0_112 (v0 : Int64) (v2 : Int64) (v4 : Int64) (v6 : Int32) (v7 : Int32) (v8 : Int64) (v10 : Int64) (v13 : Int32) (b56_minCount : Int64) (b56_minUsers : Int64) : Int32 := (if (f4_0 v4 v6 b56_minCount b56_minUsers) = v13 then (if (2147483647 : Int64) < v10 then (f0_196 v0 v2 v4 v6 v7 v8 v10 v13 b56_minCount b56_minUsers) else (if (f4_0 v8 (v10.toInt32) b56_minCount b56_minUsers) = (0 : Int32) then (0 : Int32) else (if (f4_0 (v8 - (1 : Int64)) (v10.toInt32) b56_minCount b56_minUsers) = (0 : Int32) then (if (1 : Int64) < v10 then (if (f4_0 (9223372036854775807 : Int64) ((v10.toInt32) - (1 : Int32)) b56_minCount b56_minUsers) = (0 : Int32) then (f0_196_1 v0 v2 v4 v6 v7 v8 v10 v13 (v10.toInt32) b56_minCount b56_minUsers) else (0 : Int32)) else (f0_196_1 v0 v2 v4 v6 v7 v8 v10 v13 (v10.toInt32) b56_minCount b56_minUsers)) else (0 : Int32)))) else (0 : Int32))
set_option maxRecDepth 65536 in
set_option maxHeartbeats 40000000 in
theorem b0_112 {p : Program} {l : Launch} {e : Env} {s : State} {m : MethodId} {args : Array Value} {below : List Frame} {meth : Method} {c : Code} {Z : State} {a0 : Array Value} (B : Ctx p Z s a0 m meth c "com/example/search_suggest/searchsuggest/engine/PrivacyFloorAdmitsPinLaw" "law" code 15 (some .boolean)) {T0 : State} {locs : List Loc} {h : Heap} (h0 : Heap) (n0 : Nat) (v0 : Int64) (v2 : Int64) (v4 : Int64) (v6 : Int32) (v7 : Int32) (v8 : Int64) (v10 : Int64) (b56 : Addr) (v13 : Int32) (b56_minCount : Int64) (b56_minUsers : Int64) (X0 : Stand p l e room_1 s m args below meth c T0 locs 1 2) (e0 : T0.heap = h) (N0 : Fr n0 locs) (Z0 : n0 ≤ h.size) (E_b56 : Exa Z h b56 "com/example/search_suggest/searchsuggest/engine/PrivacyFloor") (F_b56_minCount : Fld Z h b56 "com/example/search_suggest/searchsuggest/engine/PrivacyFloor" "minCount" "J" (.long b56_minCount)) (F_b56_minUsers : Fld Z h b56 "com/example/search_suggest/searchsuggest/engine/PrivacyFloor" "minUsers" "J" (.long b56_minUsers)) (g_b56 : n0 ≤ b56) (r : Int32) (hr : f0_112 v0 v2 v4 v6 v7 v8 v10 v13 b56_minCount b56_minUsers = r) :
    EndsIn p e below s 1 2 (Q0 n0 r) (T0.setTop (mkF m 112 #[.val (.long v0), .second, .val (.long v2), .second, .val (.long v4), .second, .val (.int v6), .val (.int v7), .val (.long v8), .second, .val (.long v10), .second, .val (.ref b56), .val (.int v13), .unset] [])) := by
  obtain ⟨hx, hZ, hw, hby, hml, hret, hown, hnm, hlk⟩ := B
  unfold f0_112 at hr
  refine EndsIn.by (B := T0.setTop (mkF m 118 #[.val (.long v0), .second, .val (.long v2), .second, .val (.long v4), .second, .val (.int v6), .val (.int v7), .val (.long v8), .second, .val (.long v10), .second, .val (.ref b56), .val (.int v13), .unset] [(.int v6), (.long v4), (.ref b56)])) (fun t k => ?_) ?_
  · show Steps p.tables e below (T0.setTop (mkF m 112 #[.val (.long v0), .second, .val (.long v2), .second, .val (.long v4), .second, .val (.int v6), .val (.int v7), .val (.long v8), .second, .val (.long v10), .second, .val (.ref b56), .val (.int v13), .unset] [])) _
    refine XS.aload X0.here hx rfl (hb hby at_112) rfl rfl ?_
    show Steps p.tables e below (T0.setTop (mkF m 114 #[.val (.long v0), .second, .val (.long v2), .second, .val (.long v4), .second, .val (.int v6), .val (.int v7), .val (.long v8), .second, .val (.long v10), .second, .val (.ref b56), .val (.int v13), .unset] [(.ref b56)])) _
    refine XS.lload X0.here hx rfl (hb hby at_114) rfl  ?_
    show Steps p.tables e below (T0.setTop (mkF m 116 #[.val (.long v0), .second, .val (.long v2), .second, .val (.long v4), .second, .val (.int v6), .val (.int v7), .val (.long v8), .second, .val (.long v10), .second, .val (.ref b56), .val (.int v13), .unset] [(.long v4), (.ref b56)])) _
    refine XS.iload X0.here hx rfl (hb hby at_116) rfl  ?_
    exact k
  -- pc 118: com/example/search_suggest/searchsuggest/engine/PrivacyFloor.admits
  obtain ⟨cq5, kq5, q5a, q5b, q5c⟩ := isOf hZ e0 E_b56
  obtain ⟨_, _, ⟨T5, L5, k5, n5⟩, -, X5, ⟨Lc5, hQ5, l5, y5, z5⟩, st5⟩ := X0.virtualBack hx (y := (⟨"com/example/search_suggest/searchsuggest/engine/PrivacyFloor", "admits", "(JI)Z"⟩ : MethodName)) (z := (⟨"com/example/search_suggest/searchsuggest/engine/PrivacyFloor", "admits", "(JI)Z"⟩ : MethodName)) hown (mvT hZ (hw _ (List.mem_of_getElem? (i := 19) rfl))) (mvT hZ (hw _ (List.mem_of_getElem? (i := 20) rfl))) (notFace_of_selects (args := #[]) (mvT hZ (hw _ (List.mem_of_getElem? (i := 22) rfl)))) (mvT hZ (hw _ (List.mem_of_getElem? (i := 22) rfl))) (mvT hZ (hw _ (List.mem_of_getElem? (i := 21) rfl))) (by decide) (backOf (W := 0) (rm4 l Z a0 hw [] b56 v4 v6 b56_minCount b56_minUsers h n0 Z0 E_b56 F_b56_minCount F_b56_minUsers) hZ (hw _ (List.mem_of_getElem? (i := 23) rfl)) (hw _ (List.mem_of_getElem? (i := 3) rfl)) (by decide) (by decide)) q5a q5c (g := (mkF m 118 #[.val (.long v0), .second, .val (.long v2), .second, .val (.long v4), .second, .val (.int v6), .val (.int v7), .val (.long v8), .second, .val (.long v10), .second, .val (.ref b56), .val (.int v13), .unset] [(.int v6), (.long v4), (.ref b56)])) rfl (by rw [hml]; rfl) (Steps.refl _) (argsL := [(.long v4), (.int v6)]) (rest := []) (lenOf pd_3 rfl) rfl (by show 2 * 0 + _ ≤ _; exact Nat.le_of_eq rfl) (hb hby at_118) (fun _ _ => ⟨rfl, e0, (by decide : 1 + R4.cells ≤ _), (by decide : 2 + R4.slots ≤ _)⟩)
  dsimp only [Pt.U, Pt.locs, Pt.cells, Pt.slots] at X5 l5 y5 z5 st5 hQ5
  subst l5 y5 z5
  obtain ⟨rfl, Nq5, e5⟩ := hQ5
  have N5 := Fr.app N0 Nq5
  refine EndsIn.by (B := T5.setTop (mkF m 121 #[.val (.long v0), .second, .val (.long v2), .second, .val (.long v4), .second, .val (.int v6), .val (.int v7), .val (.long v8), .second, .val (.long v10), .second, .val (.ref b56), .val (.int v13), .unset] [(.int (f4_0 v4 v6 b56_minCount b56_minUsers))])) (fun t k => st5.trans k) ?_
  refine EndsIn.by (B := T5.setTop (mkF m 123 #[.val (.long v0), .second, .val (.long v2), .second, .val (.long v4), .second, .val (.int v6), .val (.int v7), .val (.long v8), .second, .val (.long v10), .second, .val (.ref b56), .val (.int v13), .unset] [(.int v13), (.int (f4_0 v4 v6 b56_minCount b56_minUsers))])) (fun t k => ?_) ?_
  · show Steps p.tables e below (T5.setTop (mkF m 121 #[.val (.long v0), .second, .val (.long v2), .second, .val (.long v4), .second, .val (.int v6), .val (.int v7), .val (.long v8), .second, .val (.long v10), .second, .val (.ref b56), .val (.int v13), .unset] [(.int (f4_0 v4 v6 b56_minCount b56_minUsers))])) _
    refine XS.iload X5.here hx rfl (hb hby at_121) rfl  ?_
    exact k
  by_cases hc123 : (f4_0 v4 v6 b56_minCount b56_minUsers) = v13
  · rw [if_pos hc123] at hr
    refine EndsIn.by (B := T5.setTop (mkF m 128 #[.val (.long v0), .second, .val (.long v2), .second, .val (.long v4), .second, .val (.int v6), .val (.int v7), .val (.long v8), .second, .val (.long v10), .second, .val (.ref b56), .val (.int v13), .unset] [])) (fun t k => ?_) ?_
    · show Steps p.tables e below (T5.setTop (mkF m 123 #[.val (.long v0), .second, .val (.long v2), .second, .val (.long v4), .second, .val (.int v6), .val (.int v7), .val (.long v8), .second, .val (.long v10), .second, .val (.ref b56), .val (.int v13), .unset] [(.int v13), (.int (f4_0 v4 v6 b56_minCount b56_minUsers))])) _
      exact XS.icmpYes X5.here hx rfl (pc0 := 123) (pc' := 128) rfl (hb hby at_123) rfl (teq hc123).1 (by decide) (by decide) k
    refine EndsIn.by (B := T5.setTop (mkF m 134 #[.val (.long v0), .second, .val (.long v2), .second, .val (.long v4), .second, .val (.int v6), .val (.int v7), .val (.long v8), .second, .val (.long v10), .second, .val (.ref b56), .val (.int v13), .unset] [(.int (lcmpW v10 (2147483647 : Int64)))])) (fun t k => ?_) ?_
    · show Steps p.tables e below (T5.setTop (mkF m 128 #[.val (.long v0), .second, .val (.long v2), .second, .val (.long v4), .second, .val (.int v6), .val (.int v7), .val (.long v8), .second, .val (.long v10), .second, .val (.ref b56), .val (.int v13), .unset] [])) _
      refine XS.lload X5.here hx rfl (hb hby at_128) rfl  ?_
      show Steps p.tables e below (T5.setTop (mkF m 130 #[.val (.long v0), .second, .val (.long v2), .second, .val (.long v4), .second, .val (.int v6), .val (.int v7), .val (.long v8), .second, .val (.long v10), .second, .val (.ref b56), .val (.int v13), .unset] [(.long v10)])) _
      refine X5.ldc2Long hx hown (mvT hZ (hw _ (List.mem_of_getElem? (i := 24) rfl))) (g := (mkF m 130 #[.val (.long v0), .second, .val (.long v2), .second, .val (.long v4), .second, .val (.int v6), .val (.int v7), .val (.long v8), .second, .val (.long v10), .second, .val (.ref b56), .val (.int v13), .unset] [(.long v10)])) rfl (hb hby at_130) _ ?_
      show Steps p.tables e below (T5.setTop (mkF m 133 #[.val (.long v0), .second, .val (.long v2), .second, .val (.long v4), .second, .val (.int v6), .val (.int v7), .val (.long v8), .second, .val (.long v10), .second, .val (.ref b56), .val (.int v13), .unset] [(.long (2147483647 : Int64)), (.long v10)])) _
      refine XS.lcmp X5.here hx rfl (hb hby at_133) rfl ?_
      exact k
    by_cases hc134 : (2147483647 : Int64) < v10
    · rw [if_pos hc134] at hr
      refine EndsIn.by (B := T5.setTop (mkF m 196 #[.val (.long v0), .second, .val (.long v2), .second, .val (.long v4), .second, .val (.int v6), .val (.int v7), .val (.long v8), .second, .val (.long v10), .second, .val (.ref b56), .val (.int v13), .unset] [])) (fun t k => ?_) ?_
      · show Steps p.tables e below (T5.setTop (mkF m 134 #[.val (.long v0), .second, .val (.long v2), .second, .val (.long v4), .second, .val (.int v6), .val (.int v7), .val (.long v8), .second, .val (.long v10), .second, .val (.ref b56), .val (.int v13), .unset] [(.int (lcmpW v10 (2147483647 : Int64)))])) _
        exact XS.ifYes X5.here hx rfl (pc0 := 134) (pc' := 196) rfl (hb hby at_134) rfl ((if0 _ _).trans (tlt ((lw_gt _ _).mpr hc134)).2.2.1) (by decide) (by decide) k
      exact b0_196 ⟨hx, hZ, hw, hby, hml, hret, hown, hnm, hlk⟩ h0 n0 v0 v2 v4 v6 v7 v8 v10 b56 v13 b56_minCount b56_minUsers X5 e5 N5 Z0 E_b56 F_b56_minCount F_b56_minUsers g_b56 _ hr
    · rw [if_neg hc134] at hr
      refine EndsIn.by (B := T5.setTop (mkF m 137 #[.val (.long v0), .second, .val (.long v2), .second, .val (.long v4), .second, .val (.int v6), .val (.int v7), .val (.long v8), .second, .val (.long v10), .second, .val (.ref b56), .val (.int v13), .unset] [])) (fun t k => ?_) ?_
      · show Steps p.tables e below (T5.setTop (mkF m 134 #[.val (.long v0), .second, .val (.long v2), .second, .val (.long v4), .second, .val (.int v6), .val (.int v7), .val (.long v8), .second, .val (.long v10), .second, .val (.ref b56), .val (.int v13), .unset] [(.int (lcmpW v10 (2147483647 : Int64)))])) _
        exact XS.ifNo X5.here hx rfl (hb hby at_134) rfl ((if0 _ _).trans (flt (fun q => hc134 ((lw_gt _ _).mp q))).2.2.1) k
      refine EndsIn.by (B := T5.setTop (mkF m 148 #[.val (.long v0), .second, .val (.long v2), .second, .val (.long v4), .second, .val (.int v6), .val (.int v7), .val (.long v8), .second, .val (.long v10), .second, .val (.ref b56), .val (.int v13), .val (.int (v10.toInt32))] [(.int (v10.toInt32)), (.long v8), (.ref b56)])) (fun t k => ?_) ?_
      · show Steps p.tables e below (T5.setTop (mkF m 137 #[.val (.long v0), .second, .val (.long v2), .second, .val (.long v4), .second, .val (.int v6), .val (.int v7), .val (.long v8), .second, .val (.long v10), .second, .val (.ref b56), .val (.int v13), .unset] [])) _
        refine XS.lload X5.here hx rfl (hb hby at_137) rfl  ?_
        show Steps p.tables e below (T5.setTop (mkF m 139 #[.val (.long v0), .second, .val (.long v2), .second, .val (.long v4), .second, .val (.int v6), .val (.int v7), .val (.long v8), .second, .val (.long v10), .second, .val (.ref b56), .val (.int v13), .unset] [(.long v10)])) _
        refine XS.l2i X5.here hx rfl (hb hby at_139) rfl ?_
        show Steps p.tables e below (T5.setTop (mkF m 140 #[.val (.long v0), .second, .val (.long v2), .second, .val (.long v4), .second, .val (.int v6), .val (.int v7), .val (.long v8), .second, .val (.long v10), .second, .val (.ref b56), .val (.int v13), .unset] [(.int (v10.toInt32))])) _
        refine XS.istore X5.here hx rfl (hb hby at_140) rfl (l' := #[.val (.long v0), .second, .val (.long v2), .second, .val (.long v4), .second, .val (.int v6), .val (.int v7), .val (.long v8), .second, .val (.long v10), .second, .val (.ref b56), .val (.int v13), .val (.int (v10.toInt32))]) rfl ?_
        show Steps p.tables e below (T5.setTop (mkF m 142 #[.val (.long v0), .second, .val (.long v2), .second, .val (.long v4), .second, .val (.int v6), .val (.int v7), .val (.long v8), .second, .val (.long v10), .second, .val (.ref b56), .val (.int v13), .val (.int (v10.toInt32))] [])) _
        refine XS.aload X5.here hx rfl (hb hby at_142) rfl rfl ?_
        show Steps p.tables e below (T5.setTop (mkF m 144 #[.val (.long v0), .second, .val (.long v2), .second, .val (.long v4), .second, .val (.int v6), .val (.int v7), .val (.long v8), .second, .val (.long v10), .second, .val (.ref b56), .val (.int v13), .val (.int (v10.toInt32))] [(.ref b56)])) _
        refine XS.lload X5.here hx rfl (hb hby at_144) rfl  ?_
        show Steps p.tables e below (T5.setTop (mkF m 146 #[.val (.long v0), .second, .val (.long v2), .second, .val (.long v4), .second, .val (.int v6), .val (.int v7), .val (.long v8), .second, .val (.long v10), .second, .val (.ref b56), .val (.int v13), .val (.int (v10.toInt32))] [(.long v8), (.ref b56)])) _
        refine XS.iload X5.here hx rfl (hb hby at_146) rfl  ?_
        exact k
      -- pc 148: com/example/search_suggest/searchsuggest/engine/PrivacyFloor.admits
      obtain ⟨cq8, kq8, q8a, q8b, q8c⟩ := isOf hZ e5 E_b56
      obtain ⟨_, _, ⟨T8, L8, k8, n8⟩, -, X8, ⟨Lc8, hQ8, l8, y8, z8⟩, st8⟩ := X5.virtualBack hx (y := (⟨"com/example/search_suggest/searchsuggest/engine/PrivacyFloor", "admits", "(JI)Z"⟩ : MethodName)) (z := (⟨"com/example/search_suggest/searchsuggest/engine/PrivacyFloor", "admits", "(JI)Z"⟩ : MethodName)) hown (mvT hZ (hw _ (List.mem_of_getElem? (i := 19) rfl))) (mvT hZ (hw _ (List.mem_of_getElem? (i := 20) rfl))) (notFace_of_selects (args := #[]) (mvT hZ (hw _ (List.mem_of_getElem? (i := 22) rfl)))) (mvT hZ (hw _ (List.mem_of_getElem? (i := 22) rfl))) (mvT hZ (hw _ (List.mem_of_getElem? (i := 21) rfl))) (by decide) (backOf (W := 0) (rm4 l Z a0 hw [] b56 v8 (v10.toInt32) b56_minCount b56_minUsers h n0 Z0 E_b56 F_b56_minCount F_b56_minUsers) hZ (hw _ (List.mem_of_getElem? (i := 23) rfl)) (hw _ (List.mem_of_getElem? (i := 3) rfl)) (by decide) (by decide)) q8a q8c (g := (mkF m 148 #[.val (.long v0), .second, .val (.long v2), .second, .val (.long v4), .second, .val (.int v6), .val (.int v7), .val (.long v8), .second, .val (.long v10), .second, .val (.ref b56), .val (.int v13), .val (.int (v10.toInt32))] [(.int (v10.toInt32)), (.long v8), (.ref b56)])) rfl (by rw [hml]; rfl) (Steps.refl _) (argsL := [(.long v8), (.int (v10.toInt32))]) (rest := []) (lenOf pd_3 rfl) rfl (by show 2 * 0 + _ ≤ _; exact Nat.le_of_eq rfl) (hb hby at_148) (fun _ _ => ⟨rfl, e5, (by decide : 1 + R4.cells ≤ _), (by decide : 2 + R4.slots ≤ _)⟩)
      dsimp only [Pt.U, Pt.locs, Pt.cells, Pt.slots] at X8 l8 y8 z8 st8 hQ8
      subst l8 y8 z8
      obtain ⟨rfl, Nq8, e8⟩ := hQ8
      have N8 := Fr.app N5 Nq8
      refine EndsIn.by (B := T8.setTop (mkF m 151 #[.val (.long v0), .second, .val (.long v2), .second, .val (.long v4), .second, .val (.int v6), .val (.int v7), .val (.long v8), .second, .val (.long v10), .second, .val (.ref b56), .val (.int v13), .val (.int (v10.toInt32))] [(.int (f4_0 v8 (v10.toInt32) b56_minCount b56_minUsers))])) (fun t k => st8.trans k) ?_
      by_cases hc151 : (f4_0 v8 (v10.toInt32) b56_minCount b56_minUsers) = (0 : Int32)
      · rw [if_pos hc151] at hr
        refine EndsIn.by (B := T8.setTop (mkF m 154 #[.val (.long v0), .second, .val (.long v2), .second, .val (.long v4), .second, .val (.int v6), .val (.int v7), .val (.long v8), .second, .val (.long v10), .second, .val (.ref b56), .val (.int v13), .val (.int (v10.toInt32))] [])) (fun t k => ?_) ?_
        · show Steps p.tables e below (T8.setTop (mkF m 151 #[.val (.long v0), .second, .val (.long v2), .second, .val (.long v4), .second, .val (.int v6), .val (.int v7), .val (.long v8), .second, .val (.long v10), .second, .val (.ref b56), .val (.int v13), .val (.int (v10.toInt32))] [(.int (f4_0 v8 (v10.toInt32) b56_minCount b56_minUsers))])) _
          exact XS.ifNo X8.here hx rfl (hb hby at_151) rfl ((if0 _ _).trans (teq hc151).2) k
        refine EndsIn.by (B := T8.setTop (mkF m 155 #[.val (.long v0), .second, .val (.long v2), .second, .val (.long v4), .second, .val (.int v6), .val (.int v7), .val (.long v8), .second, .val (.long v10), .second, .val (.ref b56), .val (.int v13), .val (.int (v10.toInt32))] [(.int (0 : Int32))])) (fun t k => ?_) ?_
        · show Steps p.tables e below (T8.setTop (mkF m 154 #[.val (.long v0), .second, .val (.long v2), .second, .val (.long v4), .second, .val (.int v6), .val (.int v7), .val (.long v8), .second, .val (.long v10), .second, .val (.ref b56), .val (.int v13), .val (.int (v10.toInt32))] [])) _
          refine XS.iconst X8.here hx rfl (hb hby at_154) ?_
          exact k
        subst hr
        exact own_retN X8 hx hlk (t := .boolean) hret (by simp) (hb hby at_155) (by decide) (by decide) ⟨rfl, N8⟩
      · rw [if_neg hc151] at hr
        refine EndsIn.by (B := T8.setTop (mkF m 156 #[.val (.long v0), .second, .val (.long v2), .second, .val (.long v4), .second, .val (.int v6), .val (.int v7), .val (.long v8), .second, .val (.long v10), .second, .val (.ref b56), .val (.int v13), .val (.int (v10.toInt32))] [])) (fun t k => ?_) ?_
        · show Steps p.tables e below (T8.setTop (mkF m 151 #[.val (.long v0), .second, .val (.long v2), .second, .val (.long v4), .second, .val (.int v6), .val (.int v7), .val (.long v8), .second, .val (.long v10), .second, .val (.ref b56), .val (.int v13), .val (.int (v10.toInt32))] [(.int (f4_0 v8 (v10.toInt32) b56_minCount b56_minUsers))])) _
          exact XS.ifYes X8.here hx rfl (pc0 := 151) (pc' := 156) rfl (hb hby at_151) rfl ((if0 _ _).trans (feq hc151).2) (by decide) (by decide) k
        refine EndsIn.by (B := T8.setTop (mkF m 164 #[.val (.long v0), .second, .val (.long v2), .second, .val (.long v4), .second, .val (.int v6), .val (.int v7), .val (.long v8), .second, .val (.long v10), .second, .val (.ref b56), .val (.int v13), .val (.int (v10.toInt32))] [(.int (v10.toInt32)), (.long (v8 - (1 : Int64))), (.ref b56)])) (fun t k => ?_) ?_
        · show Steps p.tables e below (T8.setTop (mkF m 156 #[.val (.long v0), .second, .val (.long v2), .second, .val (.long v4), .second, .val (.int v6), .val (.int v7), .val (.long v8), .second, .val (.long v10), .second, .val (.ref b56), .val (.int v13), .val (.int (v10.toInt32))] [])) _
          refine XS.aload X8.here hx rfl (hb hby at_156) rfl rfl ?_
          show Steps p.tables e below (T8.setTop (mkF m 158 #[.val (.long v0), .second, .val (.long v2), .second, .val (.long v4), .second, .val (.int v6), .val (.int v7), .val (.long v8), .second, .val (.long v10), .second, .val (.ref b56), .val (.int v13), .val (.int (v10.toInt32))] [(.ref b56)])) _
          refine XS.lload X8.here hx rfl (hb hby at_158) rfl  ?_
          show Steps p.tables e below (T8.setTop (mkF m 160 #[.val (.long v0), .second, .val (.long v2), .second, .val (.long v4), .second, .val (.int v6), .val (.int v7), .val (.long v8), .second, .val (.long v10), .second, .val (.ref b56), .val (.int v13), .val (.int (v10.toInt32))] [(.long v8), (.ref b56)])) _
          refine XS.lconst X8.here hx rfl (hb hby at_160) ?_
          show Steps p.tables e below (T8.setTop (mkF m 161 #[.val (.long v0), .second, .val (.long v2), .second, .val (.long v4), .second, .val (.int v6), .val (.int v7), .val (.long v8), .second, .val (.long v10), .second, .val (.ref b56), .val (.int v13), .val (.int (v10.toInt32))] [(.long (1 : Int64)), (.long v8), (.ref b56)])) _
          refine XS.lsub X8.here hx rfl (hb hby at_161) rfl ?_
          show Steps p.tables e below (T8.setTop (mkF m 162 #[.val (.long v0), .second, .val (.long v2), .second, .val (.long v4), .second, .val (.int v6), .val (.int v7), .val (.long v8), .second, .val (.long v10), .second, .val (.ref b56), .val (.int v13), .val (.int (v10.toInt32))] [(.long (v8 - (1 : Int64))), (.ref b56)])) _
          refine XS.iload X8.here hx rfl (hb hby at_162) rfl  ?_
          exact k
        -- pc 164: com/example/search_suggest/searchsuggest/engine/PrivacyFloor.admits
        obtain ⟨cq9, kq9, q9a, q9b, q9c⟩ := isOf hZ e8 E_b56
        obtain ⟨_, _, ⟨T9, L9, k9, n9⟩, -, X9, ⟨Lc9, hQ9, l9, y9, z9⟩, st9⟩ := X8.virtualBack hx (y := (⟨"com/example/search_suggest/searchsuggest/engine/PrivacyFloor", "admits", "(JI)Z"⟩ : MethodName)) (z := (⟨"com/example/search_suggest/searchsuggest/engine/PrivacyFloor", "admits", "(JI)Z"⟩ : MethodName)) hown (mvT hZ (hw _ (List.mem_of_getElem? (i := 19) rfl))) (mvT hZ (hw _ (List.mem_of_getElem? (i := 20) rfl))) (notFace_of_selects (args := #[]) (mvT hZ (hw _ (List.mem_of_getElem? (i := 22) rfl)))) (mvT hZ (hw _ (List.mem_of_getElem? (i := 22) rfl))) (mvT hZ (hw _ (List.mem_of_getElem? (i := 21) rfl))) (by decide) (backOf (W := 0) (rm4 l Z a0 hw [] b56 (v8 - (1 : Int64)) (v10.toInt32) b56_minCount b56_minUsers h n0 Z0 E_b56 F_b56_minCount F_b56_minUsers) hZ (hw _ (List.mem_of_getElem? (i := 23) rfl)) (hw _ (List.mem_of_getElem? (i := 3) rfl)) (by decide) (by decide)) q9a q9c (g := (mkF m 164 #[.val (.long v0), .second, .val (.long v2), .second, .val (.long v4), .second, .val (.int v6), .val (.int v7), .val (.long v8), .second, .val (.long v10), .second, .val (.ref b56), .val (.int v13), .val (.int (v10.toInt32))] [(.int (v10.toInt32)), (.long (v8 - (1 : Int64))), (.ref b56)])) rfl (by rw [hml]; rfl) (Steps.refl _) (argsL := [(.long (v8 - (1 : Int64))), (.int (v10.toInt32))]) (rest := []) (lenOf pd_3 rfl) rfl (by show 2 * 0 + _ ≤ _; exact Nat.le_of_eq rfl) (hb hby at_164) (fun _ _ => ⟨rfl, e8, (by decide : 1 + R4.cells ≤ _), (by decide : 2 + R4.slots ≤ _)⟩)
        dsimp only [Pt.U, Pt.locs, Pt.cells, Pt.slots] at X9 l9 y9 z9 st9 hQ9
        subst l9 y9 z9
        obtain ⟨rfl, Nq9, e9⟩ := hQ9
        have N9 := Fr.app N8 Nq9
        refine EndsIn.by (B := T9.setTop (mkF m 167 #[.val (.long v0), .second, .val (.long v2), .second, .val (.long v4), .second, .val (.int v6), .val (.int v7), .val (.long v8), .second, .val (.long v10), .second, .val (.ref b56), .val (.int v13), .val (.int (v10.toInt32))] [(.int (f4_0 (v8 - (1 : Int64)) (v10.toInt32) b56_minCount b56_minUsers))])) (fun t k => st9.trans k) ?_
        by_cases hc167 : (f4_0 (v8 - (1 : Int64)) (v10.toInt32) b56_minCount b56_minUsers) = (0 : Int32)
        · rw [if_pos hc167] at hr
          refine EndsIn.by (B := T9.setTop (mkF m 172 #[.val (.long v0), .second, .val (.long v2), .second, .val (.long v4), .second, .val (.int v6), .val (.int v7), .val (.long v8), .second, .val (.long v10), .second, .val (.ref b56), .val (.int v13), .val (.int (v10.toInt32))] [])) (fun t k => ?_) ?_
          · show Steps p.tables e below (T9.setTop (mkF m 167 #[.val (.long v0), .second, .val (.long v2), .second, .val (.long v4), .second, .val (.int v6), .val (.int v7), .val (.long v8), .second, .val (.long v10), .second, .val (.ref b56), .val (.int v13), .val (.int (v10.toInt32))] [(.int (f4_0 (v8 - (1 : Int64)) (v10.toInt32) b56_minCount b56_minUsers))])) _
            exact XS.ifYes X9.here hx rfl (pc0 := 167) (pc' := 172) rfl (hb hby at_167) rfl ((if0 _ _).trans (teq hc167).1) (by decide) (by decide) k
          refine EndsIn.by (B := T9.setTop (mkF m 176 #[.val (.long v0), .second, .val (.long v2), .second, .val (.long v4), .second, .val (.int v6), .val (.int v7), .val (.long v8), .second, .val (.long v10), .second, .val (.ref b56), .val (.int v13), .val (.int (v10.toInt32))] [(.int (lcmpW v10 (1 : Int64)))])) (fun t k => ?_) ?_
          · show Steps p.tables e below (T9.setTop (mkF m 172 #[.val (.long v0), .second, .val (.long v2), .second, .val (.long v4), .second, .val (.int v6), .val (.int v7), .val (.long v8), .second, .val (.long v10), .second, .val (.ref b56), .val (.int v13), .val (.int (v10.toInt32))] [])) _
            refine XS.lload X9.here hx rfl (hb hby at_172) rfl  ?_
            show Steps p.tables e below (T9.setTop (mkF m 174 #[.val (.long v0), .second, .val (.long v2), .second, .val (.long v4), .second, .val (.int v6), .val (.int v7), .val (.long v8), .second, .val (.long v10), .second, .val (.ref b56), .val (.int v13), .val (.int (v10.toInt32))] [(.long v10)])) _
            refine XS.lconst X9.here hx rfl (hb hby at_174) ?_
            show Steps p.tables e below (T9.setTop (mkF m 175 #[.val (.long v0), .second, .val (.long v2), .second, .val (.long v4), .second, .val (.int v6), .val (.int v7), .val (.long v8), .second, .val (.long v10), .second, .val (.ref b56), .val (.int v13), .val (.int (v10.toInt32))] [(.long (1 : Int64)), (.long v10)])) _
            refine XS.lcmp X9.here hx rfl (hb hby at_175) rfl ?_
            exact k
          by_cases hc176 : (1 : Int64) < v10
          · rw [if_pos hc176] at hr
            refine EndsIn.by (B := T9.setTop (mkF m 179 #[.val (.long v0), .second, .val (.long v2), .second, .val (.long v4), .second, .val (.int v6), .val (.int v7), .val (.long v8), .second, .val (.long v10), .second, .val (.ref b56), .val (.int v13), .val (.int (v10.toInt32))] [])) (fun t k => ?_) ?_
            · show Steps p.tables e below (T9.setTop (mkF m 176 #[.val (.long v0), .second, .val (.long v2), .second, .val (.long v4), .second, .val (.int v6), .val (.int v7), .val (.long v8), .second, .val (.long v10), .second, .val (.ref b56), .val (.int v13), .val (.int (v10.toInt32))] [(.int (lcmpW v10 (1 : Int64)))])) _
              exact XS.ifNo X9.here hx rfl (hb hby at_176) rfl ((if0 _ _).trans (tlt ((lw_gt _ _).mpr hc176)).2.2.2) k
            refine EndsIn.by (B := T9.setTop (mkF m 188 #[.val (.long v0), .second, .val (.long v2), .second, .val (.long v4), .second, .val (.int v6), .val (.int v7), .val (.long v8), .second, .val (.long v10), .second, .val (.ref b56), .val (.int v13), .val (.int (v10.toInt32))] [(.int ((v10.toInt32) - (1 : Int32))), (.long (9223372036854775807 : Int64)), (.ref b56)])) (fun t k => ?_) ?_
            · show Steps p.tables e below (T9.setTop (mkF m 179 #[.val (.long v0), .second, .val (.long v2), .second, .val (.long v4), .second, .val (.int v6), .val (.int v7), .val (.long v8), .second, .val (.long v10), .second, .val (.ref b56), .val (.int v13), .val (.int (v10.toInt32))] [])) _
              refine XS.aload X9.here hx rfl (hb hby at_179) rfl rfl ?_
              show Steps p.tables e below (T9.setTop (mkF m 181 #[.val (.long v0), .second, .val (.long v2), .second, .val (.long v4), .second, .val (.int v6), .val (.int v7), .val (.long v8), .second, .val (.long v10), .second, .val (.ref b56), .val (.int v13), .val (.int (v10.toInt32))] [(.ref b56)])) _
              refine X9.ldc2Long hx hown (mvT hZ (hw _ (List.mem_of_getElem? (i := 25) rfl))) (g := (mkF m 181 #[.val (.long v0), .second, .val (.long v2), .second, .val (.long v4), .second, .val (.int v6), .val (.int v7), .val (.long v8), .second, .val (.long v10), .second, .val (.ref b56), .val (.int v13), .val (.int (v10.toInt32))] [(.ref b56)])) rfl (hb hby at_181) _ ?_
              show Steps p.tables e below (T9.setTop (mkF m 184 #[.val (.long v0), .second, .val (.long v2), .second, .val (.long v4), .second, .val (.int v6), .val (.int v7), .val (.long v8), .second, .val (.long v10), .second, .val (.ref b56), .val (.int v13), .val (.int (v10.toInt32))] [(.long (9223372036854775807 : Int64)), (.ref b56)])) _
              refine XS.iload X9.here hx rfl (hb hby at_184) rfl  ?_
              show Steps p.tables e below (T9.setTop (mkF m 186 #[.val (.long v0), .second, .val (.long v2), .second, .val (.long v4), .second, .val (.int v6), .val (.int v7), .val (.long v8), .second, .val (.long v10), .second, .val (.ref b56), .val (.int v13), .val (.int (v10.toInt32))] [(.int (v10.toInt32)), (.long (9223372036854775807 : Int64)), (.ref b56)])) _
              refine XS.iconst X9.here hx rfl (hb hby at_186) ?_
              show Steps p.tables e below (T9.setTop (mkF m 187 #[.val (.long v0), .second, .val (.long v2), .second, .val (.long v4), .second, .val (.int v6), .val (.int v7), .val (.long v8), .second, .val (.long v10), .second, .val (.ref b56), .val (.int v13), .val (.int (v10.toInt32))] [(.int (1 : Int32)), (.int (v10.toInt32)), (.long (9223372036854775807 : Int64)), (.ref b56)])) _
              refine XS.isub X9.here hx rfl (hb hby at_187) rfl ?_
              exact k
            -- pc 188: com/example/search_suggest/searchsuggest/engine/PrivacyFloor.admits
            obtain ⟨cq10, kq10, q10a, q10b, q10c⟩ := isOf hZ e9 E_b56
            obtain ⟨_, _, ⟨T10, L10, k10, n10⟩, -, X10, ⟨Lc10, hQ10, l10, y10, z10⟩, st10⟩ := X9.virtualBack hx (y := (⟨"com/example/search_suggest/searchsuggest/engine/PrivacyFloor", "admits", "(JI)Z"⟩ : MethodName)) (z := (⟨"com/example/search_suggest/searchsuggest/engine/PrivacyFloor", "admits", "(JI)Z"⟩ : MethodName)) hown (mvT hZ (hw _ (List.mem_of_getElem? (i := 19) rfl))) (mvT hZ (hw _ (List.mem_of_getElem? (i := 20) rfl))) (notFace_of_selects (args := #[]) (mvT hZ (hw _ (List.mem_of_getElem? (i := 22) rfl)))) (mvT hZ (hw _ (List.mem_of_getElem? (i := 22) rfl))) (mvT hZ (hw _ (List.mem_of_getElem? (i := 21) rfl))) (by decide) (backOf (W := 0) (rm4 l Z a0 hw [] b56 (9223372036854775807 : Int64) ((v10.toInt32) - (1 : Int32)) b56_minCount b56_minUsers h n0 Z0 E_b56 F_b56_minCount F_b56_minUsers) hZ (hw _ (List.mem_of_getElem? (i := 23) rfl)) (hw _ (List.mem_of_getElem? (i := 3) rfl)) (by decide) (by decide)) q10a q10c (g := (mkF m 188 #[.val (.long v0), .second, .val (.long v2), .second, .val (.long v4), .second, .val (.int v6), .val (.int v7), .val (.long v8), .second, .val (.long v10), .second, .val (.ref b56), .val (.int v13), .val (.int (v10.toInt32))] [(.int ((v10.toInt32) - (1 : Int32))), (.long (9223372036854775807 : Int64)), (.ref b56)])) rfl (by rw [hml]; rfl) (Steps.refl _) (argsL := [(.long (9223372036854775807 : Int64)), (.int ((v10.toInt32) - (1 : Int32)))]) (rest := []) (lenOf pd_3 rfl) rfl (by show 2 * 0 + _ ≤ _; exact Nat.le_of_eq rfl) (hb hby at_188) (fun _ _ => ⟨rfl, e9, (by decide : 1 + R4.cells ≤ _), (by decide : 2 + R4.slots ≤ _)⟩)
            dsimp only [Pt.U, Pt.locs, Pt.cells, Pt.slots] at X10 l10 y10 z10 st10 hQ10
            subst l10 y10 z10
            obtain ⟨rfl, Nq10, e10⟩ := hQ10
            have N10 := Fr.app N9 Nq10
            refine EndsIn.by (B := T10.setTop (mkF m 191 #[.val (.long v0), .second, .val (.long v2), .second, .val (.long v4), .second, .val (.int v6), .val (.int v7), .val (.long v8), .second, .val (.long v10), .second, .val (.ref b56), .val (.int v13), .val (.int (v10.toInt32))] [(.int (f4_0 (9223372036854775807 : Int64) ((v10.toInt32) - (1 : Int32)) b56_minCount b56_minUsers))])) (fun t k => st10.trans k) ?_
            by_cases hc191 : (f4_0 (9223372036854775807 : Int64) ((v10.toInt32) - (1 : Int32)) b56_minCount b56_minUsers) = (0 : Int32)
            · rw [if_pos hc191] at hr
              refine EndsIn.by (B := T10.setTop (mkF m 196 #[.val (.long v0), .second, .val (.long v2), .second, .val (.long v4), .second, .val (.int v6), .val (.int v7), .val (.long v8), .second, .val (.long v10), .second, .val (.ref b56), .val (.int v13), .val (.int (v10.toInt32))] [])) (fun t k => ?_) ?_
              · show Steps p.tables e below (T10.setTop (mkF m 191 #[.val (.long v0), .second, .val (.long v2), .second, .val (.long v4), .second, .val (.int v6), .val (.int v7), .val (.long v8), .second, .val (.long v10), .second, .val (.ref b56), .val (.int v13), .val (.int (v10.toInt32))] [(.int (f4_0 (9223372036854775807 : Int64) ((v10.toInt32) - (1 : Int32)) b56_minCount b56_minUsers))])) _
                exact XS.ifYes X10.here hx rfl (pc0 := 191) (pc' := 196) rfl (hb hby at_191) rfl ((if0 _ _).trans (teq hc191).1) (by decide) (by decide) k
              exact b0_196_1 ⟨hx, hZ, hw, hby, hml, hret, hown, hnm, hlk⟩ h0 n0 v0 v2 v4 v6 v7 v8 v10 b56 v13 (v10.toInt32) b56_minCount b56_minUsers X10 e10 N10 Z0 E_b56 F_b56_minCount F_b56_minUsers g_b56 _ hr
            · rw [if_neg hc191] at hr
              refine EndsIn.by (B := T10.setTop (mkF m 194 #[.val (.long v0), .second, .val (.long v2), .second, .val (.long v4), .second, .val (.int v6), .val (.int v7), .val (.long v8), .second, .val (.long v10), .second, .val (.ref b56), .val (.int v13), .val (.int (v10.toInt32))] [])) (fun t k => ?_) ?_
              · show Steps p.tables e below (T10.setTop (mkF m 191 #[.val (.long v0), .second, .val (.long v2), .second, .val (.long v4), .second, .val (.int v6), .val (.int v7), .val (.long v8), .second, .val (.long v10), .second, .val (.ref b56), .val (.int v13), .val (.int (v10.toInt32))] [(.int (f4_0 (9223372036854775807 : Int64) ((v10.toInt32) - (1 : Int32)) b56_minCount b56_minUsers))])) _
                exact XS.ifNo X10.here hx rfl (hb hby at_191) rfl ((if0 _ _).trans (feq hc191).1) k
              refine EndsIn.by (B := T10.setTop (mkF m 195 #[.val (.long v0), .second, .val (.long v2), .second, .val (.long v4), .second, .val (.int v6), .val (.int v7), .val (.long v8), .second, .val (.long v10), .second, .val (.ref b56), .val (.int v13), .val (.int (v10.toInt32))] [(.int (0 : Int32))])) (fun t k => ?_) ?_
              · show Steps p.tables e below (T10.setTop (mkF m 194 #[.val (.long v0), .second, .val (.long v2), .second, .val (.long v4), .second, .val (.int v6), .val (.int v7), .val (.long v8), .second, .val (.long v10), .second, .val (.ref b56), .val (.int v13), .val (.int (v10.toInt32))] [])) _
                refine XS.iconst X10.here hx rfl (hb hby at_194) ?_
                exact k
              subst hr
              exact own_retN X10 hx hlk (t := .boolean) hret (by simp) (hb hby at_195) (by decide) (by decide) ⟨rfl, N10⟩
          · rw [if_neg hc176] at hr
            refine EndsIn.by (B := T9.setTop (mkF m 196 #[.val (.long v0), .second, .val (.long v2), .second, .val (.long v4), .second, .val (.int v6), .val (.int v7), .val (.long v8), .second, .val (.long v10), .second, .val (.ref b56), .val (.int v13), .val (.int (v10.toInt32))] [])) (fun t k => ?_) ?_
            · show Steps p.tables e below (T9.setTop (mkF m 176 #[.val (.long v0), .second, .val (.long v2), .second, .val (.long v4), .second, .val (.int v6), .val (.int v7), .val (.long v8), .second, .val (.long v10), .second, .val (.ref b56), .val (.int v13), .val (.int (v10.toInt32))] [(.int (lcmpW v10 (1 : Int64)))])) _
              exact XS.ifYes X9.here hx rfl (pc0 := 176) (pc' := 196) rfl (hb hby at_176) rfl ((if0 _ _).trans (flt (fun q => hc176 ((lw_gt _ _).mp q))).2.2.2) (by decide) (by decide) k
            exact b0_196_1 ⟨hx, hZ, hw, hby, hml, hret, hown, hnm, hlk⟩ h0 n0 v0 v2 v4 v6 v7 v8 v10 b56 v13 (v10.toInt32) b56_minCount b56_minUsers X9 e9 N9 Z0 E_b56 F_b56_minCount F_b56_minUsers g_b56 _ hr
        · rw [if_neg hc167] at hr
          refine EndsIn.by (B := T9.setTop (mkF m 170 #[.val (.long v0), .second, .val (.long v2), .second, .val (.long v4), .second, .val (.int v6), .val (.int v7), .val (.long v8), .second, .val (.long v10), .second, .val (.ref b56), .val (.int v13), .val (.int (v10.toInt32))] [])) (fun t k => ?_) ?_
          · show Steps p.tables e below (T9.setTop (mkF m 167 #[.val (.long v0), .second, .val (.long v2), .second, .val (.long v4), .second, .val (.int v6), .val (.int v7), .val (.long v8), .second, .val (.long v10), .second, .val (.ref b56), .val (.int v13), .val (.int (v10.toInt32))] [(.int (f4_0 (v8 - (1 : Int64)) (v10.toInt32) b56_minCount b56_minUsers))])) _
            exact XS.ifNo X9.here hx rfl (hb hby at_167) rfl ((if0 _ _).trans (feq hc167).1) k
          refine EndsIn.by (B := T9.setTop (mkF m 171 #[.val (.long v0), .second, .val (.long v2), .second, .val (.long v4), .second, .val (.int v6), .val (.int v7), .val (.long v8), .second, .val (.long v10), .second, .val (.ref b56), .val (.int v13), .val (.int (v10.toInt32))] [(.int (0 : Int32))])) (fun t k => ?_) ?_
          · show Steps p.tables e below (T9.setTop (mkF m 170 #[.val (.long v0), .second, .val (.long v2), .second, .val (.long v4), .second, .val (.int v6), .val (.int v7), .val (.long v8), .second, .val (.long v10), .second, .val (.ref b56), .val (.int v13), .val (.int (v10.toInt32))] [])) _
            refine XS.iconst X9.here hx rfl (hb hby at_170) ?_
            exact k
          subst hr
          exact own_retN X9 hx hlk (t := .boolean) hret (by simp) (hb hby at_171) (by decide) (by decide) ⟨rfl, N9⟩
  · rw [if_neg hc123] at hr
    refine EndsIn.by (B := T5.setTop (mkF m 126 #[.val (.long v0), .second, .val (.long v2), .second, .val (.long v4), .second, .val (.int v6), .val (.int v7), .val (.long v8), .second, .val (.long v10), .second, .val (.ref b56), .val (.int v13), .unset] [])) (fun t k => ?_) ?_
    · show Steps p.tables e below (T5.setTop (mkF m 123 #[.val (.long v0), .second, .val (.long v2), .second, .val (.long v4), .second, .val (.int v6), .val (.int v7), .val (.long v8), .second, .val (.long v10), .second, .val (.ref b56), .val (.int v13), .unset] [(.int v13), (.int (f4_0 v4 v6 b56_minCount b56_minUsers))])) _
      exact XS.icmpNo X5.here hx rfl (hb hby at_123) rfl (feq hc123).1 k
    refine EndsIn.by (B := T5.setTop (mkF m 127 #[.val (.long v0), .second, .val (.long v2), .second, .val (.long v4), .second, .val (.int v6), .val (.int v7), .val (.long v8), .second, .val (.long v10), .second, .val (.ref b56), .val (.int v13), .unset] [(.int (0 : Int32))])) (fun t k => ?_) ?_
    · show Steps p.tables e below (T5.setTop (mkF m 126 #[.val (.long v0), .second, .val (.long v2), .second, .val (.long v4), .second, .val (.int v6), .val (.int v7), .val (.long v8), .second, .val (.long v10), .second, .val (.ref b56), .val (.int v13), .unset] [])) _
      refine XS.iconst X5.here hx rfl (hb hby at_126) ?_
      exact k
    subst hr
    exact own_retN X5 hx hlk (t := .boolean) hret (by simp) (hb hby at_127) (by decide) (by decide) ⟨rfl, N5⟩
def f0_110 (v0 : Int64) (v2 : Int64) (v4 : Int64) (v6 : Int32) (v7 : Int32) (v8 : Int64) (v10 : Int64) (t0 : Int32) (b56_minCount : Int64) (b56_minUsers : Int64) : Int32 := (f0_112 v0 v2 v4 v6 v7 v8 v10 t0 b56_minCount b56_minUsers)
set_option maxRecDepth 65536 in
set_option maxHeartbeats 40000000 in
theorem b0_110 {p : Program} {l : Launch} {e : Env} {s : State} {m : MethodId} {args : Array Value} {below : List Frame} {meth : Method} {c : Code} {Z : State} {a0 : Array Value} (B : Ctx p Z s a0 m meth c "com/example/search_suggest/searchsuggest/engine/PrivacyFloorAdmitsPinLaw" "law" code 15 (some .boolean)) {T0 : State} {locs : List Loc} {h : Heap} (h0 : Heap) (n0 : Nat) (v0 : Int64) (v2 : Int64) (v4 : Int64) (v6 : Int32) (v7 : Int32) (v8 : Int64) (v10 : Int64) (b56 : Addr) (t0 : Int32) (b56_minCount : Int64) (b56_minUsers : Int64) (X0 : Stand p l e room_1 s m args below meth c T0 locs 1 2) (e0 : T0.heap = h) (N0 : Fr n0 locs) (Z0 : n0 ≤ h.size) (E_b56 : Exa Z h b56 "com/example/search_suggest/searchsuggest/engine/PrivacyFloor") (F_b56_minCount : Fld Z h b56 "com/example/search_suggest/searchsuggest/engine/PrivacyFloor" "minCount" "J" (.long b56_minCount)) (F_b56_minUsers : Fld Z h b56 "com/example/search_suggest/searchsuggest/engine/PrivacyFloor" "minUsers" "J" (.long b56_minUsers)) (g_b56 : n0 ≤ b56) (r : Int32) (hr : f0_110 v0 v2 v4 v6 v7 v8 v10 t0 b56_minCount b56_minUsers = r) :
    EndsIn p e below s 1 2 (Q0 n0 r) (T0.setTop (mkF m 110 #[.val (.long v0), .second, .val (.long v2), .second, .val (.long v4), .second, .val (.int v6), .val (.int v7), .val (.long v8), .second, .val (.long v10), .second, .val (.ref b56), .unset, .unset] [(.int t0)])) := by
  obtain ⟨hx, hZ, hw, hby, hml, hret, hown, hnm, hlk⟩ := B
  unfold f0_110 at hr
  refine EndsIn.by (B := T0.setTop (mkF m 112 #[.val (.long v0), .second, .val (.long v2), .second, .val (.long v4), .second, .val (.int v6), .val (.int v7), .val (.long v8), .second, .val (.long v10), .second, .val (.ref b56), .val (.int t0), .unset] [])) (fun t k => ?_) ?_
  · show Steps p.tables e below (T0.setTop (mkF m 110 #[.val (.long v0), .second, .val (.long v2), .second, .val (.long v4), .second, .val (.int v6), .val (.int v7), .val (.long v8), .second, .val (.long v10), .second, .val (.ref b56), .unset, .unset] [(.int t0)])) _
    refine XS.istore X0.here hx rfl (hb hby at_110) rfl (l' := #[.val (.long v0), .second, .val (.long v2), .second, .val (.long v4), .second, .val (.int v6), .val (.int v7), .val (.long v8), .second, .val (.long v10), .second, .val (.ref b56), .val (.int t0), .unset]) rfl ?_
    exact k
  exact b0_112 ⟨hx, hZ, hw, hby, hml, hret, hown, hnm, hlk⟩ h0 n0 v0 v2 v4 v6 v7 v8 v10 b56 t0 b56_minCount b56_minUsers X0 e0 N0 Z0 E_b56 F_b56_minCount F_b56_minUsers g_b56 _ hr
def f0_67 (v0 : Int64) (v2 : Int64) (v4 : Int64) (v6 : Int32) (v7 : Int32) (v8 : Int64) (v10 : Int64) (b56_minCount : Int64) (b56_minUsers : Int64) : Int32 := (if v4 < v8 then (f0_112 v0 v2 v4 v6 v7 v8 v10 (0 : Int32) b56_minCount b56_minUsers) else (if v10 = (1 : Int64) then (f0_112 v0 v2 v4 v6 v7 v8 v10 (1 : Int32) b56_minCount b56_minUsers) else (if (v6.toInt64) < v10 then (f0_110 v0 v2 v4 v6 v7 v8 v10 (0 : Int32) b56_minCount b56_minUsers) else (f0_110 v0 v2 v4 v6 v7 v8 v10 (1 : Int32) b56_minCount b56_minUsers))))
set_option maxRecDepth 65536 in
set_option maxHeartbeats 40000000 in
theorem b0_67 {p : Program} {l : Launch} {e : Env} {s : State} {m : MethodId} {args : Array Value} {below : List Frame} {meth : Method} {c : Code} {Z : State} {a0 : Array Value} (B : Ctx p Z s a0 m meth c "com/example/search_suggest/searchsuggest/engine/PrivacyFloorAdmitsPinLaw" "law" code 15 (some .boolean)) {T0 : State} {locs : List Loc} {h : Heap} (h0 : Heap) (n0 : Nat) (v0 : Int64) (v2 : Int64) (v4 : Int64) (v6 : Int32) (v7 : Int32) (v8 : Int64) (v10 : Int64) (b56 : Addr) (b56_minCount : Int64) (b56_minUsers : Int64) (X0 : Stand p l e room_1 s m args below meth c T0 locs 1 2) (e0 : T0.heap = h) (N0 : Fr n0 locs) (Z0 : n0 ≤ h.size) (E_b56 : Exa Z h b56 "com/example/search_suggest/searchsuggest/engine/PrivacyFloor") (F_b56_minCount : Fld Z h b56 "com/example/search_suggest/searchsuggest/engine/PrivacyFloor" "minCount" "J" (.long b56_minCount)) (F_b56_minUsers : Fld Z h b56 "com/example/search_suggest/searchsuggest/engine/PrivacyFloor" "minUsers" "J" (.long b56_minUsers)) (g_b56 : n0 ≤ b56) (r : Int32) (hr : f0_67 v0 v2 v4 v6 v7 v8 v10 b56_minCount b56_minUsers = r) :
    EndsIn p e below s 1 2 (Q0 n0 r) (T0.setTop (mkF m 67 #[.val (.long v0), .second, .val (.long v2), .second, .val (.long v4), .second, .val (.int v6), .val (.int v7), .val (.long v8), .second, .val (.long v10), .second, .unset, .unset, .unset] [(.ref b56)])) := by
  obtain ⟨hx, hZ, hw, hby, hml, hret, hown, hnm, hlk⟩ := B
  unfold f0_67 at hr
  refine EndsIn.by (B := T0.setTop (mkF m 74 #[.val (.long v0), .second, .val (.long v2), .second, .val (.long v4), .second, .val (.int v6), .val (.int v7), .val (.long v8), .second, .val (.long v10), .second, .val (.ref b56), .unset, .unset] [(.int (lcmpW v4 v8))])) (fun t k => ?_) ?_
  · show Steps p.tables e below (T0.setTop (mkF m 67 #[.val (.long v0), .second, .val (.long v2), .second, .val (.long v4), .second, .val (.int v6), .val (.int v7), .val (.long v8), .second, .val (.long v10), .second, .unset, .unset, .unset] [(.ref b56)])) _
    refine XS.astore X0.here hx rfl (hb hby at_67) rfl rfl (l' := #[.val (.long v0), .second, .val (.long v2), .second, .val (.long v4), .second, .val (.int v6), .val (.int v7), .val (.long v8), .second, .val (.long v10), .second, .val (.ref b56), .unset, .unset]) rfl ?_
    show Steps p.tables e below (T0.setTop (mkF m 69 #[.val (.long v0), .second, .val (.long v2), .second, .val (.long v4), .second, .val (.int v6), .val (.int v7), .val (.long v8), .second, .val (.long v10), .second, .val (.ref b56), .unset, .unset] [])) _
    refine XS.lload X0.here hx rfl (hb hby at_69) rfl  ?_
    show Steps p.tables e below (T0.setTop (mkF m 71 #[.val (.long v0), .second, .val (.long v2), .second, .val (.long v4), .second, .val (.int v6), .val (.int v7), .val (.long v8), .second, .val (.long v10), .second, .val (.ref b56), .unset, .unset] [(.long v4)])) _
    refine XS.lload X0.here hx rfl (hb hby at_71) rfl  ?_
    show Steps p.tables e below (T0.setTop (mkF m 73 #[.val (.long v0), .second, .val (.long v2), .second, .val (.long v4), .second, .val (.int v6), .val (.int v7), .val (.long v8), .second, .val (.long v10), .second, .val (.ref b56), .unset, .unset] [(.long v8), (.long v4)])) _
    refine XS.lcmp X0.here hx rfl (hb hby at_73) rfl ?_
    exact k
  by_cases hc74 : v4 < v8
  · rw [if_pos hc74] at hr
    refine EndsIn.by (B := T0.setTop (mkF m 77 #[.val (.long v0), .second, .val (.long v2), .second, .val (.long v4), .second, .val (.int v6), .val (.int v7), .val (.long v8), .second, .val (.long v10), .second, .val (.ref b56), .unset, .unset] [])) (fun t k => ?_) ?_
    · show Steps p.tables e below (T0.setTop (mkF m 74 #[.val (.long v0), .second, .val (.long v2), .second, .val (.long v4), .second, .val (.int v6), .val (.int v7), .val (.long v8), .second, .val (.long v10), .second, .val (.ref b56), .unset, .unset] [(.int (lcmpW v4 v8))])) _
      exact XS.ifNo X0.here hx rfl (hb hby at_74) rfl ((if0 _ _).trans (tlt ((lw_lt _ _).mpr hc74)).2.1) k
    refine EndsIn.by (B := T0.setTop (mkF m 112 #[.val (.long v0), .second, .val (.long v2), .second, .val (.long v4), .second, .val (.int v6), .val (.int v7), .val (.long v8), .second, .val (.long v10), .second, .val (.ref b56), .val (.int (0 : Int32)), .unset] [])) (fun t k => ?_) ?_
    · show Steps p.tables e below (T0.setTop (mkF m 77 #[.val (.long v0), .second, .val (.long v2), .second, .val (.long v4), .second, .val (.int v6), .val (.int v7), .val (.long v8), .second, .val (.long v10), .second, .val (.ref b56), .unset, .unset] [])) _
      refine XS.iconst X0.here hx rfl (hb hby at_77) ?_
      show Steps p.tables e below (T0.setTop (mkF m 78 #[.val (.long v0), .second, .val (.long v2), .second, .val (.long v4), .second, .val (.int v6), .val (.int v7), .val (.long v8), .second, .val (.long v10), .second, .val (.ref b56), .unset, .unset] [(.int (0 : Int32))])) _
      refine XS.istore X0.here hx rfl (hb hby at_78) rfl (l' := #[.val (.long v0), .second, .val (.long v2), .second, .val (.long v4), .second, .val (.int v6), .val (.int v7), .val (.long v8), .second, .val (.long v10), .second, .val (.ref b56), .val (.int (0 : Int32)), .unset]) rfl ?_
      show Steps p.tables e below (T0.setTop (mkF m 80 #[.val (.long v0), .second, .val (.long v2), .second, .val (.long v4), .second, .val (.int v6), .val (.int v7), .val (.long v8), .second, .val (.long v10), .second, .val (.ref b56), .val (.int (0 : Int32)), .unset] [])) _
      refine XS.goto X0.here hx rfl (pc0 := 80) (pc' := 112) rfl (hb hby at_80) (by decide) (by decide) ?_
      exact k
    exact b0_112 ⟨hx, hZ, hw, hby, hml, hret, hown, hnm, hlk⟩ h0 n0 v0 v2 v4 v6 v7 v8 v10 b56 (0 : Int32) b56_minCount b56_minUsers X0 e0 N0 Z0 E_b56 F_b56_minCount F_b56_minUsers g_b56 _ hr
  · rw [if_neg hc74] at hr
    refine EndsIn.by (B := T0.setTop (mkF m 83 #[.val (.long v0), .second, .val (.long v2), .second, .val (.long v4), .second, .val (.int v6), .val (.int v7), .val (.long v8), .second, .val (.long v10), .second, .val (.ref b56), .unset, .unset] [])) (fun t k => ?_) ?_
    · show Steps p.tables e below (T0.setTop (mkF m 74 #[.val (.long v0), .second, .val (.long v2), .second, .val (.long v4), .second, .val (.int v6), .val (.int v7), .val (.long v8), .second, .val (.long v10), .second, .val (.ref b56), .unset, .unset] [(.int (lcmpW v4 v8))])) _
      exact XS.ifYes X0.here hx rfl (pc0 := 74) (pc' := 83) rfl (hb hby at_74) rfl ((if0 _ _).trans (flt (fun q => hc74 ((lw_lt _ _).mp q))).2.1) (by decide) (by decide) k
    refine EndsIn.by (B := T0.setTop (mkF m 87 #[.val (.long v0), .second, .val (.long v2), .second, .val (.long v4), .second, .val (.int v6), .val (.int v7), .val (.long v8), .second, .val (.long v10), .second, .val (.ref b56), .unset, .unset] [(.int (lcmpW v10 (1 : Int64)))])) (fun t k => ?_) ?_
    · show Steps p.tables e below (T0.setTop (mkF m 83 #[.val (.long v0), .second, .val (.long v2), .second, .val (.long v4), .second, .val (.int v6), .val (.int v7), .val (.long v8), .second, .val (.long v10), .second, .val (.ref b56), .unset, .unset] [])) _
      refine XS.lload X0.here hx rfl (hb hby at_83) rfl  ?_
      show Steps p.tables e below (T0.setTop (mkF m 85 #[.val (.long v0), .second, .val (.long v2), .second, .val (.long v4), .second, .val (.int v6), .val (.int v7), .val (.long v8), .second, .val (.long v10), .second, .val (.ref b56), .unset, .unset] [(.long v10)])) _
      refine XS.lconst X0.here hx rfl (hb hby at_85) ?_
      show Steps p.tables e below (T0.setTop (mkF m 86 #[.val (.long v0), .second, .val (.long v2), .second, .val (.long v4), .second, .val (.int v6), .val (.int v7), .val (.long v8), .second, .val (.long v10), .second, .val (.ref b56), .unset, .unset] [(.long (1 : Int64)), (.long v10)])) _
      refine XS.lcmp X0.here hx rfl (hb hby at_86) rfl ?_
      exact k
    by_cases hc87 : v10 = (1 : Int64)
    · rw [if_pos hc87] at hr
      refine EndsIn.by (B := T0.setTop (mkF m 90 #[.val (.long v0), .second, .val (.long v2), .second, .val (.long v4), .second, .val (.int v6), .val (.int v7), .val (.long v8), .second, .val (.long v10), .second, .val (.ref b56), .unset, .unset] [])) (fun t k => ?_) ?_
      · show Steps p.tables e below (T0.setTop (mkF m 87 #[.val (.long v0), .second, .val (.long v2), .second, .val (.long v4), .second, .val (.int v6), .val (.int v7), .val (.long v8), .second, .val (.long v10), .second, .val (.ref b56), .unset, .unset] [(.int (lcmpW v10 (1 : Int64)))])) _
        exact XS.ifNo X0.here hx rfl (hb hby at_87) rfl ((if0 _ _).trans (teq ((lw_eq _ _).mpr hc87)).2) k
      refine EndsIn.by (B := T0.setTop (mkF m 112 #[.val (.long v0), .second, .val (.long v2), .second, .val (.long v4), .second, .val (.int v6), .val (.int v7), .val (.long v8), .second, .val (.long v10), .second, .val (.ref b56), .val (.int (1 : Int32)), .unset] [])) (fun t k => ?_) ?_
      · show Steps p.tables e below (T0.setTop (mkF m 90 #[.val (.long v0), .second, .val (.long v2), .second, .val (.long v4), .second, .val (.int v6), .val (.int v7), .val (.long v8), .second, .val (.long v10), .second, .val (.ref b56), .unset, .unset] [])) _
        refine XS.iconst X0.here hx rfl (hb hby at_90) ?_
        show Steps p.tables e below (T0.setTop (mkF m 91 #[.val (.long v0), .second, .val (.long v2), .second, .val (.long v4), .second, .val (.int v6), .val (.int v7), .val (.long v8), .second, .val (.long v10), .second, .val (.ref b56), .unset, .unset] [(.int (1 : Int32))])) _
        refine XS.istore X0.here hx rfl (hb hby at_91) rfl (l' := #[.val (.long v0), .second, .val (.long v2), .second, .val (.long v4), .second, .val (.int v6), .val (.int v7), .val (.long v8), .second, .val (.long v10), .second, .val (.ref b56), .val (.int (1 : Int32)), .unset]) rfl ?_
        show Steps p.tables e below (T0.setTop (mkF m 93 #[.val (.long v0), .second, .val (.long v2), .second, .val (.long v4), .second, .val (.int v6), .val (.int v7), .val (.long v8), .second, .val (.long v10), .second, .val (.ref b56), .val (.int (1 : Int32)), .unset] [])) _
        refine XS.goto X0.here hx rfl (pc0 := 93) (pc' := 112) rfl (hb hby at_93) (by decide) (by decide) ?_
        exact k
      exact b0_112 ⟨hx, hZ, hw, hby, hml, hret, hown, hnm, hlk⟩ h0 n0 v0 v2 v4 v6 v7 v8 v10 b56 (1 : Int32) b56_minCount b56_minUsers X0 e0 N0 Z0 E_b56 F_b56_minCount F_b56_minUsers g_b56 _ hr
    · rw [if_neg hc87] at hr
      refine EndsIn.by (B := T0.setTop (mkF m 96 #[.val (.long v0), .second, .val (.long v2), .second, .val (.long v4), .second, .val (.int v6), .val (.int v7), .val (.long v8), .second, .val (.long v10), .second, .val (.ref b56), .unset, .unset] [])) (fun t k => ?_) ?_
      · show Steps p.tables e below (T0.setTop (mkF m 87 #[.val (.long v0), .second, .val (.long v2), .second, .val (.long v4), .second, .val (.int v6), .val (.int v7), .val (.long v8), .second, .val (.long v10), .second, .val (.ref b56), .unset, .unset] [(.int (lcmpW v10 (1 : Int64)))])) _
        exact XS.ifYes X0.here hx rfl (pc0 := 87) (pc' := 96) rfl (hb hby at_87) rfl ((if0 _ _).trans (feq (fun q => hc87 ((lw_eq _ _).mp q))).2) (by decide) (by decide) k
      refine EndsIn.by (B := T0.setTop (mkF m 102 #[.val (.long v0), .second, .val (.long v2), .second, .val (.long v4), .second, .val (.int v6), .val (.int v7), .val (.long v8), .second, .val (.long v10), .second, .val (.ref b56), .unset, .unset] [(.int (lcmpW (v6.toInt64) v10))])) (fun t k => ?_) ?_
      · show Steps p.tables e below (T0.setTop (mkF m 96 #[.val (.long v0), .second, .val (.long v2), .second, .val (.long v4), .second, .val (.int v6), .val (.int v7), .val (.long v8), .second, .val (.long v10), .second, .val (.ref b56), .unset, .unset] [])) _
        refine XS.iload X0.here hx rfl (hb hby at_96) rfl  ?_
        show Steps p.tables e below (T0.setTop (mkF m 98 #[.val (.long v0), .second, .val (.long v2), .second, .val (.long v4), .second, .val (.int v6), .val (.int v7), .val (.long v8), .second, .val (.long v10), .second, .val (.ref b56), .unset, .unset] [(.int v6)])) _
        refine XS.i2l X0.here hx rfl (hb hby at_98) rfl ?_
        show Steps p.tables e below (T0.setTop (mkF m 99 #[.val (.long v0), .second, .val (.long v2), .second, .val (.long v4), .second, .val (.int v6), .val (.int v7), .val (.long v8), .second, .val (.long v10), .second, .val (.ref b56), .unset, .unset] [(.long (v6.toInt64))])) _
        refine XS.lload X0.here hx rfl (hb hby at_99) rfl  ?_
        show Steps p.tables e below (T0.setTop (mkF m 101 #[.val (.long v0), .second, .val (.long v2), .second, .val (.long v4), .second, .val (.int v6), .val (.int v7), .val (.long v8), .second, .val (.long v10), .second, .val (.ref b56), .unset, .unset] [(.long v10), (.long (v6.toInt64))])) _
        refine XS.lcmp X0.here hx rfl (hb hby at_101) rfl ?_
        exact k
      by_cases hc102 : (v6.toInt64) < v10
      · rw [if_pos hc102] at hr
        refine EndsIn.by (B := T0.setTop (mkF m 109 #[.val (.long v0), .second, .val (.long v2), .second, .val (.long v4), .second, .val (.int v6), .val (.int v7), .val (.long v8), .second, .val (.long v10), .second, .val (.ref b56), .unset, .unset] [])) (fun t k => ?_) ?_
        · show Steps p.tables e below (T0.setTop (mkF m 102 #[.val (.long v0), .second, .val (.long v2), .second, .val (.long v4), .second, .val (.int v6), .val (.int v7), .val (.long v8), .second, .val (.long v10), .second, .val (.ref b56), .unset, .unset] [(.int (lcmpW (v6.toInt64) v10))])) _
          exact XS.ifYes X0.here hx rfl (pc0 := 102) (pc' := 109) rfl (hb hby at_102) rfl ((if0 _ _).trans (tlt ((lw_lt _ _).mpr hc102)).1) (by decide) (by decide) k
        refine EndsIn.by (B := T0.setTop (mkF m 110 #[.val (.long v0), .second, .val (.long v2), .second, .val (.long v4), .second, .val (.int v6), .val (.int v7), .val (.long v8), .second, .val (.long v10), .second, .val (.ref b56), .unset, .unset] [(.int (0 : Int32))])) (fun t k => ?_) ?_
        · show Steps p.tables e below (T0.setTop (mkF m 109 #[.val (.long v0), .second, .val (.long v2), .second, .val (.long v4), .second, .val (.int v6), .val (.int v7), .val (.long v8), .second, .val (.long v10), .second, .val (.ref b56), .unset, .unset] [])) _
          refine XS.iconst X0.here hx rfl (hb hby at_109) ?_
          exact k
        exact b0_110 ⟨hx, hZ, hw, hby, hml, hret, hown, hnm, hlk⟩ h0 n0 v0 v2 v4 v6 v7 v8 v10 b56 (0 : Int32) b56_minCount b56_minUsers X0 e0 N0 Z0 E_b56 F_b56_minCount F_b56_minUsers g_b56 _ hr
      · rw [if_neg hc102] at hr
        refine EndsIn.by (B := T0.setTop (mkF m 105 #[.val (.long v0), .second, .val (.long v2), .second, .val (.long v4), .second, .val (.int v6), .val (.int v7), .val (.long v8), .second, .val (.long v10), .second, .val (.ref b56), .unset, .unset] [])) (fun t k => ?_) ?_
        · show Steps p.tables e below (T0.setTop (mkF m 102 #[.val (.long v0), .second, .val (.long v2), .second, .val (.long v4), .second, .val (.int v6), .val (.int v7), .val (.long v8), .second, .val (.long v10), .second, .val (.ref b56), .unset, .unset] [(.int (lcmpW (v6.toInt64) v10))])) _
          exact XS.ifNo X0.here hx rfl (hb hby at_102) rfl ((if0 _ _).trans (flt (fun q => hc102 ((lw_lt _ _).mp q))).1) k
        refine EndsIn.by (B := T0.setTop (mkF m 110 #[.val (.long v0), .second, .val (.long v2), .second, .val (.long v4), .second, .val (.int v6), .val (.int v7), .val (.long v8), .second, .val (.long v10), .second, .val (.ref b56), .unset, .unset] [(.int (1 : Int32))])) (fun t k => ?_) ?_
        · show Steps p.tables e below (T0.setTop (mkF m 105 #[.val (.long v0), .second, .val (.long v2), .second, .val (.long v4), .second, .val (.int v6), .val (.int v7), .val (.long v8), .second, .val (.long v10), .second, .val (.ref b56), .unset, .unset] [])) _
          refine XS.iconst X0.here hx rfl (hb hby at_105) ?_
          show Steps p.tables e below (T0.setTop (mkF m 106 #[.val (.long v0), .second, .val (.long v2), .second, .val (.long v4), .second, .val (.int v6), .val (.int v7), .val (.long v8), .second, .val (.long v10), .second, .val (.ref b56), .unset, .unset] [(.int (1 : Int32))])) _
          refine XS.goto X0.here hx rfl (pc0 := 106) (pc' := 110) rfl (hb hby at_106) (by decide) (by decide) ?_
          exact k
        exact b0_110 ⟨hx, hZ, hw, hby, hml, hret, hown, hnm, hlk⟩ h0 n0 v0 v2 v4 v6 v7 v8 v10 b56 (1 : Int32) b56_minCount b56_minUsers X0 e0 N0 Z0 E_b56 F_b56_minCount F_b56_minUsers g_b56 _ hr
def f0_54 (v0 : Int64) (v2 : Int64) (v4 : Int64) (v6 : Int32) (v7 : Int32) (v8 : Int64) (t0 : Int64) : Int32 := (f0_67 v0 v2 v4 v6 v7 v8 t0 ((f1_0 v8 t0 (0 : Int64) (0 : Int64)).1) ((f1_0 v8 t0 (0 : Int64) (0 : Int64)).2))
set_option maxRecDepth 65536 in
set_option maxHeartbeats 40000000 in
theorem b0_54 {p : Program} {l : Launch} {e : Env} {s : State} {m : MethodId} {args : Array Value} {below : List Frame} {meth : Method} {c : Code} {Z : State} {a0 : Array Value} (B : Ctx p Z s a0 m meth c "com/example/search_suggest/searchsuggest/engine/PrivacyFloorAdmitsPinLaw" "law" code 15 (some .boolean)) {T0 : State} {locs : List Loc} {h : Heap} (h0 : Heap) (n0 : Nat) (v0 : Int64) (v2 : Int64) (v4 : Int64) (v6 : Int32) (v7 : Int32) (v8 : Int64) (t0 : Int64) (X0 : Stand p l e room_1 s m args below meth c T0 locs 0 0) (e0 : T0.heap = h) (N0 : Fr n0 locs) (Z0 : n0 ≤ h.size) (i8 : ¬ (v8 < (1 : Int64))) (i54 : ¬ (t0 < (1 : Int64))) (r : Int32) (hr : f0_54 v0 v2 v4 v6 v7 v8 t0 = r) :
    EndsIn p e below s 1 2 (Q0 n0 r) (T0.setTop (mkF m 54 #[.val (.long v0), .second, .val (.long v2), .second, .val (.long v4), .second, .val (.int v6), .val (.int v7), .val (.long v8), .second, .unset, .unset, .unset, .unset, .unset] [(.long t0)])) := by
  obtain ⟨hx, hZ, hw, hby, hml, hret, hown, hnm, hlk⟩ := B
  unfold f0_54 at hr
  refine EndsIn.by (B := T0.setTop (mkF m 56 #[.val (.long v0), .second, .val (.long v2), .second, .val (.long v4), .second, .val (.int v6), .val (.int v7), .val (.long v8), .second, .val (.long t0), .second, .unset, .unset, .unset] [])) (fun t k => ?_) ?_
  · show Steps p.tables e below (T0.setTop (mkF m 54 #[.val (.long v0), .second, .val (.long v2), .second, .val (.long v4), .second, .val (.int v6), .val (.int v7), .val (.long v8), .second, .unset, .unset, .unset, .unset, .unset] [(.long t0)])) _
    refine XS.lstore X0.here hx rfl (hb hby at_54) rfl (l' := #[.val (.long v0), .second, .val (.long v2), .second, .val (.long v4), .second, .val (.int v6), .val (.int v7), .val (.long v8), .second, .val (.long t0), .second, .unset, .unset, .unset]) rfl ?_
    exact k
  obtain ⟨T3, h3, X3, e3, X3e, A3, D3, -, st3⟩ := newO X0 hx hZ hown (hw _ (List.mem_of_getElem? (i := 1) rfl)) (hw _ (List.mem_of_getElem? (i := 2) rfl)) (hw _ (List.mem_of_getElem? (i := 3) rfl)) e0 (g := (mkF m 56 #[.val (.long v0), .second, .val (.long v2), .second, .val (.long v4), .second, .val (.int v6), .val (.int v7), .val (.long v8), .second, .val (.long t0), .second, .unset, .unset, .unset] [])) rfl (hb hby at_56) (by decide) (by decide)
  obtain ⟨b56, g3⟩ : ∃ z, z = h.size := ⟨_, rfl⟩
  rw [← g3] at A3 D3 st3
  have g_b56 : n0 ≤ b56 := Nat.le_trans Z0 (Nat.le_of_eq g3.symm)
  have Z3 : n0 ≤ h3.size := Nat.le_trans Z0 X3e.1
  have E_b56_3 := A3
  have F_b56_minCount_3 : Fld Z h3 b56 "com/example/search_suggest/searchsuggest/engine/PrivacyFloor" "minCount" "J" (.long (0 : Int64)) := D3 (Or.inr (hw _ (List.mem_of_getElem? (i := 16) rfl))) (ty := .long) (by decide)
  have F_b56_minUsers_3 : Fld Z h3 b56 "com/example/search_suggest/searchsuggest/engine/PrivacyFloor" "minUsers" "J" (.long (0 : Int64)) := D3 (Or.inr (hw _ (List.mem_of_getElem? (i := 18) rfl))) (ty := .long) (by decide)
  refine EndsIn.by (B := T3.setTop (mkF m 59 #[.val (.long v0), .second, .val (.long v2), .second, .val (.long v4), .second, .val (.int v6), .val (.int v7), .val (.long v8), .second, .val (.long t0), .second, .unset, .unset, .unset] [(.ref b56)])) (fun t k => st3 t k) ?_
  refine EndsIn.by (B := T3.setTop (mkF m 64 #[.val (.long v0), .second, .val (.long v2), .second, .val (.long v4), .second, .val (.int v6), .val (.int v7), .val (.long v8), .second, .val (.long t0), .second, .unset, .unset, .unset] [(.long t0), (.long v8), (.ref b56), (.ref b56)])) (fun t k => ?_) ?_
  · show Steps p.tables e below (T3.setTop (mkF m 59 #[.val (.long v0), .second, .val (.long v2), .second, .val (.long v4), .second, .val (.int v6), .val (.int v7), .val (.long v8), .second, .val (.long t0), .second, .unset, .unset, .unset] [(.ref b56)])) _
    refine XS.dup X3.here hx rfl (hb hby at_59) rfl rfl ?_
    show Steps p.tables e below (T3.setTop (mkF m 60 #[.val (.long v0), .second, .val (.long v2), .second, .val (.long v4), .second, .val (.int v6), .val (.int v7), .val (.long v8), .second, .val (.long t0), .second, .unset, .unset, .unset] [(.ref b56), (.ref b56)])) _
    refine XS.lload X3.here hx rfl (hb hby at_60) rfl  ?_
    show Steps p.tables e below (T3.setTop (mkF m 62 #[.val (.long v0), .second, .val (.long v2), .second, .val (.long v4), .second, .val (.int v6), .val (.int v7), .val (.long v8), .second, .val (.long t0), .second, .unset, .unset, .unset] [(.long v8), (.ref b56), (.ref b56)])) _
    refine XS.lload X3.here hx rfl (hb hby at_62) rfl  ?_
    exact k
  have hp4_h1 : ¬ (v8 < (1 : Int64)) := i8
  have hp4_h2 : ¬ (t0 < (1 : Int64)) := i54
  -- pc 64: com/example/search_suggest/searchsuggest/engine/PrivacyFloor.<init>
  obtain ⟨_, _, ⟨T4, L4, k4, n4⟩, -, X4, ⟨Lc4, hQ4, l4, y4, z4⟩, st4⟩ := X3.specialBack hx (y := (⟨"com/example/search_suggest/searchsuggest/engine/PrivacyFloor", "<init>", "(JJ)V"⟩ : MethodName)) rfl hown (mvT hZ (hw _ (List.mem_of_getElem? (i := 4) rfl))) (mvT hZ (hw _ (List.mem_of_getElem? (i := 5) rfl))) (mvT hZ (hw _ (List.mem_of_getElem? (i := 6) rfl))) (by decide) (backOf (W := 1) (rm1 l Z a0 hw [] b56 v8 t0 (0 : Int64) (0 : Int64) h3 n0 Z3 E_b56_3 F_b56_minCount_3 F_b56_minUsers_3 g_b56 hp4_h1 hp4_h2) hZ (hw _ (List.mem_of_getElem? (i := 6) rfl)) (hw _ (List.mem_of_getElem? (i := 3) rfl)) (by decide) (by decide)) (g := (mkF m 64 #[.val (.long v0), .second, .val (.long v2), .second, .val (.long v4), .second, .val (.int v6), .val (.int v7), .val (.long v8), .second, .val (.long t0), .second, .unset, .unset, .unset] [(.long t0), (.long v8), (.ref b56), (.ref b56)])) rfl (by rw [hml]; rfl) (Steps.refl _) (a := b56) (argsL := [(.long v8), (.long t0)]) (rest := [(.ref b56)]) (lenOf pd_2 rfl) rfl (by show 2 * 0 + _ ≤ _; exact Nat.le_of_eq rfl) (hb hby at_64) (fun _ _ => ⟨rfl, e3, (by decide : 1 + R1.cells ≤ _), (by decide : 2 + R1.slots ≤ _)⟩)
  dsimp only [Pt.U, Pt.locs, Pt.cells, Pt.slots] at X4 l4 y4 z4 st4 hQ4
  subst l4 y4 z4
  obtain ⟨rfl, Nq4, Kq4, E_b56_4, F_b56_minCount_4, F_b56_minUsers_4⟩ := hQ4
  obtain ⟨h4, e4⟩ : ∃ z, T4.heap = z := ⟨_, rfl⟩
  rw [e4] at Kq4 E_b56_4 F_b56_minCount_4 F_b56_minUsers_4
  have N4 := Fr.app N0 Nq4
  have Z4 : n0 ≤ h4.size := Nat.le_trans Z3 Kq4.1
  refine EndsIn.by (B := T4.setTop (mkF m 67 #[.val (.long v0), .second, .val (.long v2), .second, .val (.long v4), .second, .val (.int v6), .val (.int v7), .val (.long v8), .second, .val (.long t0), .second, .unset, .unset, .unset] [(.ref b56)])) (fun t k => st4.trans k) ?_
  exact b0_67 ⟨hx, hZ, hw, hby, hml, hret, hown, hnm, hlk⟩ h0 n0 v0 v2 v4 v6 v7 v8 t0 b56 ((f1_0 v8 t0 (0 : Int64) (0 : Int64)).1) ((f1_0 v8 t0 (0 : Int64) (0 : Int64)).2) X4 e4 N4 Z4 E_b56_4 F_b56_minCount_4 F_b56_minUsers_4 g_b56 _ hr
def f0_26 (v0 : Int64) (v2 : Int64) (v4 : Int64) (v6 : Int32) (v7 : Int32) (t0 : Int64) : Int32 := (if (v7 &&& (2 : Int32)) = (0 : Int32) then (f0_54 v0 v2 v4 v6 v7 t0 (f5_0 (1 : Int64) (v2 &&& (9223372036854775807 : Int64)))) else (f0_54 v0 v2 v4 v6 v7 t0 ((1 : Int64) + (v2 &&& (7 : Int64)))))
set_option maxRecDepth 65536 in
set_option maxHeartbeats 40000000 in
theorem b0_26 {p : Program} {l : Launch} {e : Env} {s : State} {m : MethodId} {args : Array Value} {below : List Frame} {meth : Method} {c : Code} {Z : State} {a0 : Array Value} (B : Ctx p Z s a0 m meth c "com/example/search_suggest/searchsuggest/engine/PrivacyFloorAdmitsPinLaw" "law" code 15 (some .boolean)) {T0 : State} {locs : List Loc} {h : Heap} (h0 : Heap) (n0 : Nat) (v0 : Int64) (v2 : Int64) (v4 : Int64) (v6 : Int32) (v7 : Int32) (t0 : Int64) (X0 : Stand p l e room_1 s m args below meth c T0 locs 0 0) (e0 : T0.heap = h) (N0 : Fr n0 locs) (Z0 : n0 ≤ h.size) (i26 : ¬ (t0 < (1 : Int64))) (r : Int32) (hr : f0_26 v0 v2 v4 v6 v7 t0 = r) :
    EndsIn p e below s 1 2 (Q0 n0 r) (T0.setTop (mkF m 26 #[.val (.long v0), .second, .val (.long v2), .second, .val (.long v4), .second, .val (.int v6), .val (.int v7), .unset, .unset, .unset, .unset, .unset, .unset, .unset] [(.long t0)])) := by
  obtain ⟨hx, hZ, hw, hby, hml, hret, hown, hnm, hlk⟩ := B
  unfold f0_26 at hr
  refine EndsIn.by (B := T0.setTop (mkF m 32 #[.val (.long v0), .second, .val (.long v2), .second, .val (.long v4), .second, .val (.int v6), .val (.int v7), .val (.long t0), .second, .unset, .unset, .unset, .unset, .unset] [(.int (v7 &&& (2 : Int32)))])) (fun t k => ?_) ?_
  · show Steps p.tables e below (T0.setTop (mkF m 26 #[.val (.long v0), .second, .val (.long v2), .second, .val (.long v4), .second, .val (.int v6), .val (.int v7), .unset, .unset, .unset, .unset, .unset, .unset, .unset] [(.long t0)])) _
    refine XS.lstore X0.here hx rfl (hb hby at_26) rfl (l' := #[.val (.long v0), .second, .val (.long v2), .second, .val (.long v4), .second, .val (.int v6), .val (.int v7), .val (.long t0), .second, .unset, .unset, .unset, .unset, .unset]) rfl ?_
    show Steps p.tables e below (T0.setTop (mkF m 28 #[.val (.long v0), .second, .val (.long v2), .second, .val (.long v4), .second, .val (.int v6), .val (.int v7), .val (.long t0), .second, .unset, .unset, .unset, .unset, .unset] [])) _
    refine XS.iload X0.here hx rfl (hb hby at_28) rfl  ?_
    show Steps p.tables e below (T0.setTop (mkF m 30 #[.val (.long v0), .second, .val (.long v2), .second, .val (.long v4), .second, .val (.int v6), .val (.int v7), .val (.long t0), .second, .unset, .unset, .unset, .unset, .unset] [(.int v7)])) _
    refine XS.iconst X0.here hx rfl (hb hby at_30) ?_
    show Steps p.tables e below (T0.setTop (mkF m 31 #[.val (.long v0), .second, .val (.long v2), .second, .val (.long v4), .second, .val (.int v6), .val (.int v7), .val (.long t0), .second, .unset, .unset, .unset, .unset, .unset] [(.int (2 : Int32)), (.int v7)])) _
    refine XS.iand X0.here hx rfl (hb hby at_31) rfl ?_
    exact k
  by_cases hc32 : (v7 &&& (2 : Int32)) = (0 : Int32)
  · rw [if_pos hc32] at hr
    refine EndsIn.by (B := T0.setTop (mkF m 45 #[.val (.long v0), .second, .val (.long v2), .second, .val (.long v4), .second, .val (.int v6), .val (.int v7), .val (.long t0), .second, .unset, .unset, .unset, .unset, .unset] [])) (fun t k => ?_) ?_
    · show Steps p.tables e below (T0.setTop (mkF m 32 #[.val (.long v0), .second, .val (.long v2), .second, .val (.long v4), .second, .val (.int v6), .val (.int v7), .val (.long t0), .second, .unset, .unset, .unset, .unset, .unset] [(.int (v7 &&& (2 : Int32)))])) _
      exact XS.ifYes X0.here hx rfl (pc0 := 32) (pc' := 45) rfl (hb hby at_32) rfl ((if0 _ _).trans (teq hc32).1) (by decide) (by decide) k
    refine EndsIn.by (B := T0.setTop (mkF m 51 #[.val (.long v0), .second, .val (.long v2), .second, .val (.long v4), .second, .val (.int v6), .val (.int v7), .val (.long t0), .second, .unset, .unset, .unset, .unset, .unset] [(.long (v2 &&& (9223372036854775807 : Int64))), (.long (1 : Int64))])) (fun t k => ?_) ?_
    · show Steps p.tables e below (T0.setTop (mkF m 45 #[.val (.long v0), .second, .val (.long v2), .second, .val (.long v4), .second, .val (.int v6), .val (.int v7), .val (.long t0), .second, .unset, .unset, .unset, .unset, .unset] [])) _
      refine XS.lconst X0.here hx rfl (hb hby at_45) ?_
      show Steps p.tables e below (T0.setTop (mkF m 46 #[.val (.long v0), .second, .val (.long v2), .second, .val (.long v4), .second, .val (.int v6), .val (.int v7), .val (.long t0), .second, .unset, .unset, .unset, .unset, .unset] [(.long (1 : Int64))])) _
      refine XS.lloadN X0.here hx rfl (hb hby at_46) rfl  ?_
      show Steps p.tables e below (T0.setTop (mkF m 47 #[.val (.long v0), .second, .val (.long v2), .second, .val (.long v4), .second, .val (.int v6), .val (.int v7), .val (.long t0), .second, .unset, .unset, .unset, .unset, .unset] [(.long v2), (.long (1 : Int64))])) _
      refine X0.ldc2Long hx hown (mvT hZ (hw _ (List.mem_of_getElem? (i := 25) rfl))) (g := (mkF m 47 #[.val (.long v0), .second, .val (.long v2), .second, .val (.long v4), .second, .val (.int v6), .val (.int v7), .val (.long t0), .second, .unset, .unset, .unset, .unset, .unset] [(.long v2), (.long (1 : Int64))])) rfl (hb hby at_47) _ ?_
      show Steps p.tables e below (T0.setTop (mkF m 50 #[.val (.long v0), .second, .val (.long v2), .second, .val (.long v4), .second, .val (.int v6), .val (.int v7), .val (.long t0), .second, .unset, .unset, .unset, .unset, .unset] [(.long (9223372036854775807 : Int64)), (.long v2), (.long (1 : Int64))])) _
      refine XS.land X0.here hx rfl (hb hby at_50) rfl ?_
      exact k
    -- pc 51: java/lang/Math.max
    obtain ⟨_, _, ⟨T2, L2, k2, n2⟩, -, X2, ⟨Lc2, hQ2, l2, y2, z2⟩, st2⟩ := Jvm.LawKit.callS X0 hx (y := (⟨"java/lang/Math", "max", "(JJ)J"⟩ : MethodName)) hown (mvT hZ (hw _ (List.mem_of_getElem? (i := 26) rfl))) (mvT hZ (hw _ (List.mem_of_getElem? (i := 27) rfl))) (mvT hZ (hw _ (List.mem_of_getElem? (i := 28) rfl))) (mvT hZ (hw _ (List.mem_of_getElem? (i := 29) rfl))) (by decide) (backOf (W := 0) (rm5 l Z a0 hw [] (1 : Int64) (v2 &&& (9223372036854775807 : Int64)) h n0 Z0 ) hZ (hw _ (List.mem_of_getElem? (i := 29) rfl)) (hw _ (List.mem_of_getElem? (i := 28) rfl)) (by decide) (by decide)) (g := (mkF m 51 #[.val (.long v0), .second, .val (.long v2), .second, .val (.long v4), .second, .val (.int v6), .val (.int v7), .val (.long t0), .second, .unset, .unset, .unset, .unset, .unset] [(.long (v2 &&& (9223372036854775807 : Int64))), (.long (1 : Int64))])) rfl (by rw [hml]; rfl) (argsL := [(.long (1 : Int64)), (.long (v2 &&& (9223372036854775807 : Int64)))]) (rest := []) (lenOf pd_0 rfl) rfl (by show 2 * 0 + _ ≤ _; exact Nat.le_of_eq rfl) (hb hby at_51) (fun _ _ => ⟨rfl, e0, (by decide : 0 + R5.cells ≤ _), (by decide : 0 + R5.slots ≤ _)⟩)
    dsimp only [Pt.U, Pt.locs, Pt.cells, Pt.slots] at X2 l2 y2 z2 st2 hQ2
    subst l2 y2 z2
    obtain ⟨rfl, Nq2, e2⟩ := hQ2
    have N2 := Fr.app N0 Nq2
    refine EndsIn.by (B := T2.setTop (mkF m 54 #[.val (.long v0), .second, .val (.long v2), .second, .val (.long v4), .second, .val (.int v6), .val (.int v7), .val (.long t0), .second, .unset, .unset, .unset, .unset, .unset] [(.long (f5_0 (1 : Int64) (v2 &&& (9223372036854775807 : Int64))))])) (fun t k => st2 t k) ?_
    have i8_j : ¬ (t0 < (1 : Int64)) := i26
    have i54_j : ¬ ((f5_0 (1 : Int64) (v2 &&& (9223372036854775807 : Int64))) < (1 : Int64)) := by first | (unfold f5_0; exact own_m2 _) | exact own_m1 _
    exact b0_54 ⟨hx, hZ, hw, hby, hml, hret, hown, hnm, hlk⟩ h0 n0 v0 v2 v4 v6 v7 t0 (f5_0 (1 : Int64) (v2 &&& (9223372036854775807 : Int64))) X2 e2 N2 Z0 i8_j i54_j _ hr
  · rw [if_neg hc32] at hr
    refine EndsIn.by (B := T0.setTop (mkF m 35 #[.val (.long v0), .second, .val (.long v2), .second, .val (.long v4), .second, .val (.int v6), .val (.int v7), .val (.long t0), .second, .unset, .unset, .unset, .unset, .unset] [])) (fun t k => ?_) ?_
    · show Steps p.tables e below (T0.setTop (mkF m 32 #[.val (.long v0), .second, .val (.long v2), .second, .val (.long v4), .second, .val (.int v6), .val (.int v7), .val (.long t0), .second, .unset, .unset, .unset, .unset, .unset] [(.int (v7 &&& (2 : Int32)))])) _
      exact XS.ifNo X0.here hx rfl (hb hby at_32) rfl ((if0 _ _).trans (feq hc32).1) k
    refine EndsIn.by (B := T0.setTop (mkF m 54 #[.val (.long v0), .second, .val (.long v2), .second, .val (.long v4), .second, .val (.int v6), .val (.int v7), .val (.long t0), .second, .unset, .unset, .unset, .unset, .unset] [(.long ((1 : Int64) + (v2 &&& (7 : Int64))))])) (fun t k => ?_) ?_
    · show Steps p.tables e below (T0.setTop (mkF m 35 #[.val (.long v0), .second, .val (.long v2), .second, .val (.long v4), .second, .val (.int v6), .val (.int v7), .val (.long t0), .second, .unset, .unset, .unset, .unset, .unset] [])) _
      refine XS.lconst X0.here hx rfl (hb hby at_35) ?_
      show Steps p.tables e below (T0.setTop (mkF m 36 #[.val (.long v0), .second, .val (.long v2), .second, .val (.long v4), .second, .val (.int v6), .val (.int v7), .val (.long t0), .second, .unset, .unset, .unset, .unset, .unset] [(.long (1 : Int64))])) _
      refine XS.lloadN X0.here hx rfl (hb hby at_36) rfl  ?_
      show Steps p.tables e below (T0.setTop (mkF m 37 #[.val (.long v0), .second, .val (.long v2), .second, .val (.long v4), .second, .val (.int v6), .val (.int v7), .val (.long t0), .second, .unset, .unset, .unset, .unset, .unset] [(.long v2), (.long (1 : Int64))])) _
      refine X0.ldc2Long hx hown (mvT hZ (hw _ (List.mem_of_getElem? (i := 0) rfl))) (g := (mkF m 37 #[.val (.long v0), .second, .val (.long v2), .second, .val (.long v4), .second, .val (.int v6), .val (.int v7), .val (.long t0), .second, .unset, .unset, .unset, .unset, .unset] [(.long v2), (.long (1 : Int64))])) rfl (hb hby at_37) _ ?_
      show Steps p.tables e below (T0.setTop (mkF m 40 #[.val (.long v0), .second, .val (.long v2), .second, .val (.long v4), .second, .val (.int v6), .val (.int v7), .val (.long t0), .second, .unset, .unset, .unset, .unset, .unset] [(.long (7 : Int64)), (.long v2), (.long (1 : Int64))])) _
      refine XS.land X0.here hx rfl (hb hby at_40) rfl ?_
      show Steps p.tables e below (T0.setTop (mkF m 41 #[.val (.long v0), .second, .val (.long v2), .second, .val (.long v4), .second, .val (.int v6), .val (.int v7), .val (.long t0), .second, .unset, .unset, .unset, .unset, .unset] [(.long (v2 &&& (7 : Int64))), (.long (1 : Int64))])) _
      refine XS.ladd X0.here hx rfl (hb hby at_41) rfl ?_
      show Steps p.tables e below (T0.setTop (mkF m 42 #[.val (.long v0), .second, .val (.long v2), .second, .val (.long v4), .second, .val (.int v6), .val (.int v7), .val (.long t0), .second, .unset, .unset, .unset, .unset, .unset] [(.long ((1 : Int64) + (v2 &&& (7 : Int64))))])) _
      refine XS.goto X0.here hx rfl (pc0 := 42) (pc' := 54) rfl (hb hby at_42) (by decide) (by decide) ?_
      exact k
    have i8_j : ¬ (t0 < (1 : Int64)) := i26
    have i54_j : ¬ (((1 : Int64) + (v2 &&& (7 : Int64))) < (1 : Int64)) := by first | (unfold f5_0; exact own_m2 _) | exact own_m1 _
    exact b0_54 ⟨hx, hZ, hw, hby, hml, hret, hown, hnm, hlk⟩ h0 n0 v0 v2 v4 v6 v7 t0 ((1 : Int64) + (v2 &&& (7 : Int64))) X0 e0 N0 Z0 i8_j i54_j _ hr
def f0_0 (v0 : Int64) (v2 : Int64) (v4 : Int64) (v6 : Int32) (v7 : Int32) : Int32 := (if (v7 &&& (1 : Int32)) = (0 : Int32) then (f0_26 v0 v2 v4 v6 v7 (f5_0 (1 : Int64) (v0 &&& (9223372036854775807 : Int64)))) else (f0_26 v0 v2 v4 v6 v7 ((1 : Int64) + (v0 &&& (7 : Int64)))))
set_option maxRecDepth 65536 in
set_option maxHeartbeats 40000000 in
theorem b0_0 {p : Program} {l : Launch} {e : Env} {s : State} {m : MethodId} {args : Array Value} {below : List Frame} {meth : Method} {c : Code} {Z : State} {a0 : Array Value} (B : Ctx p Z s a0 m meth c "com/example/search_suggest/searchsuggest/engine/PrivacyFloorAdmitsPinLaw" "law" code 15 (some .boolean)) {T0 : State} {locs : List Loc} {h : Heap} (h0 : Heap) (n0 : Nat) (v0 : Int64) (v2 : Int64) (v4 : Int64) (v6 : Int32) (v7 : Int32) (X0 : Stand p l e room_1 s m args below meth c T0 locs 0 0) (e0 : T0.heap = h) (N0 : Fr n0 locs) (Z0 : n0 ≤ h.size) (r : Int32) (hr : f0_0 v0 v2 v4 v6 v7 = r) :
    EndsIn p e below s 1 2 (Q0 n0 r) (T0.setTop (mkF m 0 #[.val (.long v0), .second, .val (.long v2), .second, .val (.long v4), .second, .val (.int v6), .val (.int v7), .unset, .unset, .unset, .unset, .unset, .unset, .unset] [])) := by
  obtain ⟨hx, hZ, hw, hby, hml, hret, hown, hnm, hlk⟩ := B
  unfold f0_0 at hr
  refine EndsIn.by (B := T0.setTop (mkF m 4 #[.val (.long v0), .second, .val (.long v2), .second, .val (.long v4), .second, .val (.int v6), .val (.int v7), .unset, .unset, .unset, .unset, .unset, .unset, .unset] [(.int (v7 &&& (1 : Int32)))])) (fun t k => ?_) ?_
  · show Steps p.tables e below (T0.setTop (mkF m 0 #[.val (.long v0), .second, .val (.long v2), .second, .val (.long v4), .second, .val (.int v6), .val (.int v7), .unset, .unset, .unset, .unset, .unset, .unset, .unset] [])) _
    refine XS.iload X0.here hx rfl (hb hby at_0) rfl  ?_
    show Steps p.tables e below (T0.setTop (mkF m 2 #[.val (.long v0), .second, .val (.long v2), .second, .val (.long v4), .second, .val (.int v6), .val (.int v7), .unset, .unset, .unset, .unset, .unset, .unset, .unset] [(.int v7)])) _
    refine XS.iconst X0.here hx rfl (hb hby at_2) ?_
    show Steps p.tables e below (T0.setTop (mkF m 3 #[.val (.long v0), .second, .val (.long v2), .second, .val (.long v4), .second, .val (.int v6), .val (.int v7), .unset, .unset, .unset, .unset, .unset, .unset, .unset] [(.int (1 : Int32)), (.int v7)])) _
    refine XS.iand X0.here hx rfl (hb hby at_3) rfl ?_
    exact k
  by_cases hc4 : (v7 &&& (1 : Int32)) = (0 : Int32)
  · rw [if_pos hc4] at hr
    refine EndsIn.by (B := T0.setTop (mkF m 17 #[.val (.long v0), .second, .val (.long v2), .second, .val (.long v4), .second, .val (.int v6), .val (.int v7), .unset, .unset, .unset, .unset, .unset, .unset, .unset] [])) (fun t k => ?_) ?_
    · show Steps p.tables e below (T0.setTop (mkF m 4 #[.val (.long v0), .second, .val (.long v2), .second, .val (.long v4), .second, .val (.int v6), .val (.int v7), .unset, .unset, .unset, .unset, .unset, .unset, .unset] [(.int (v7 &&& (1 : Int32)))])) _
      exact XS.ifYes X0.here hx rfl (pc0 := 4) (pc' := 17) rfl (hb hby at_4) rfl ((if0 _ _).trans (teq hc4).1) (by decide) (by decide) k
    refine EndsIn.by (B := T0.setTop (mkF m 23 #[.val (.long v0), .second, .val (.long v2), .second, .val (.long v4), .second, .val (.int v6), .val (.int v7), .unset, .unset, .unset, .unset, .unset, .unset, .unset] [(.long (v0 &&& (9223372036854775807 : Int64))), (.long (1 : Int64))])) (fun t k => ?_) ?_
    · show Steps p.tables e below (T0.setTop (mkF m 17 #[.val (.long v0), .second, .val (.long v2), .second, .val (.long v4), .second, .val (.int v6), .val (.int v7), .unset, .unset, .unset, .unset, .unset, .unset, .unset] [])) _
      refine XS.lconst X0.here hx rfl (hb hby at_17) ?_
      show Steps p.tables e below (T0.setTop (mkF m 18 #[.val (.long v0), .second, .val (.long v2), .second, .val (.long v4), .second, .val (.int v6), .val (.int v7), .unset, .unset, .unset, .unset, .unset, .unset, .unset] [(.long (1 : Int64))])) _
      refine XS.lloadN X0.here hx rfl (hb hby at_18) rfl  ?_
      show Steps p.tables e below (T0.setTop (mkF m 19 #[.val (.long v0), .second, .val (.long v2), .second, .val (.long v4), .second, .val (.int v6), .val (.int v7), .unset, .unset, .unset, .unset, .unset, .unset, .unset] [(.long v0), (.long (1 : Int64))])) _
      refine X0.ldc2Long hx hown (mvT hZ (hw _ (List.mem_of_getElem? (i := 25) rfl))) (g := (mkF m 19 #[.val (.long v0), .second, .val (.long v2), .second, .val (.long v4), .second, .val (.int v6), .val (.int v7), .unset, .unset, .unset, .unset, .unset, .unset, .unset] [(.long v0), (.long (1 : Int64))])) rfl (hb hby at_19) _ ?_
      show Steps p.tables e below (T0.setTop (mkF m 22 #[.val (.long v0), .second, .val (.long v2), .second, .val (.long v4), .second, .val (.int v6), .val (.int v7), .unset, .unset, .unset, .unset, .unset, .unset, .unset] [(.long (9223372036854775807 : Int64)), (.long v0), (.long (1 : Int64))])) _
      refine XS.land X0.here hx rfl (hb hby at_22) rfl ?_
      exact k
    -- pc 23: java/lang/Math.max
    obtain ⟨_, _, ⟨T1, L1, k1, n1⟩, -, X1, ⟨Lc1, hQ1, l1, y1, z1⟩, st1⟩ := Jvm.LawKit.callS X0 hx (y := (⟨"java/lang/Math", "max", "(JJ)J"⟩ : MethodName)) hown (mvT hZ (hw _ (List.mem_of_getElem? (i := 26) rfl))) (mvT hZ (hw _ (List.mem_of_getElem? (i := 27) rfl))) (mvT hZ (hw _ (List.mem_of_getElem? (i := 28) rfl))) (mvT hZ (hw _ (List.mem_of_getElem? (i := 29) rfl))) (by decide) (backOf (W := 0) (rm5 l Z a0 hw [] (1 : Int64) (v0 &&& (9223372036854775807 : Int64)) h n0 Z0 ) hZ (hw _ (List.mem_of_getElem? (i := 29) rfl)) (hw _ (List.mem_of_getElem? (i := 28) rfl)) (by decide) (by decide)) (g := (mkF m 23 #[.val (.long v0), .second, .val (.long v2), .second, .val (.long v4), .second, .val (.int v6), .val (.int v7), .unset, .unset, .unset, .unset, .unset, .unset, .unset] [(.long (v0 &&& (9223372036854775807 : Int64))), (.long (1 : Int64))])) rfl (by rw [hml]; rfl) (argsL := [(.long (1 : Int64)), (.long (v0 &&& (9223372036854775807 : Int64)))]) (rest := []) (lenOf pd_0 rfl) rfl (by show 2 * 0 + _ ≤ _; exact Nat.le_of_eq rfl) (hb hby at_23) (fun _ _ => ⟨rfl, e0, (by decide : 0 + R5.cells ≤ _), (by decide : 0 + R5.slots ≤ _)⟩)
    dsimp only [Pt.U, Pt.locs, Pt.cells, Pt.slots] at X1 l1 y1 z1 st1 hQ1
    subst l1 y1 z1
    obtain ⟨rfl, Nq1, e1⟩ := hQ1
    have N1 := Fr.app N0 Nq1
    refine EndsIn.by (B := T1.setTop (mkF m 26 #[.val (.long v0), .second, .val (.long v2), .second, .val (.long v4), .second, .val (.int v6), .val (.int v7), .unset, .unset, .unset, .unset, .unset, .unset, .unset] [(.long (f5_0 (1 : Int64) (v0 &&& (9223372036854775807 : Int64))))])) (fun t k => st1 t k) ?_
    have i26_j : ¬ ((f5_0 (1 : Int64) (v0 &&& (9223372036854775807 : Int64))) < (1 : Int64)) := by first | (unfold f5_0; exact own_m2 _) | exact own_m1 _
    exact b0_26 ⟨hx, hZ, hw, hby, hml, hret, hown, hnm, hlk⟩ h0 n0 v0 v2 v4 v6 v7 (f5_0 (1 : Int64) (v0 &&& (9223372036854775807 : Int64))) X1 e1 N1 Z0 i26_j _ hr
  · rw [if_neg hc4] at hr
    refine EndsIn.by (B := T0.setTop (mkF m 7 #[.val (.long v0), .second, .val (.long v2), .second, .val (.long v4), .second, .val (.int v6), .val (.int v7), .unset, .unset, .unset, .unset, .unset, .unset, .unset] [])) (fun t k => ?_) ?_
    · show Steps p.tables e below (T0.setTop (mkF m 4 #[.val (.long v0), .second, .val (.long v2), .second, .val (.long v4), .second, .val (.int v6), .val (.int v7), .unset, .unset, .unset, .unset, .unset, .unset, .unset] [(.int (v7 &&& (1 : Int32)))])) _
      exact XS.ifNo X0.here hx rfl (hb hby at_4) rfl ((if0 _ _).trans (feq hc4).1) k
    refine EndsIn.by (B := T0.setTop (mkF m 26 #[.val (.long v0), .second, .val (.long v2), .second, .val (.long v4), .second, .val (.int v6), .val (.int v7), .unset, .unset, .unset, .unset, .unset, .unset, .unset] [(.long ((1 : Int64) + (v0 &&& (7 : Int64))))])) (fun t k => ?_) ?_
    · show Steps p.tables e below (T0.setTop (mkF m 7 #[.val (.long v0), .second, .val (.long v2), .second, .val (.long v4), .second, .val (.int v6), .val (.int v7), .unset, .unset, .unset, .unset, .unset, .unset, .unset] [])) _
      refine XS.lconst X0.here hx rfl (hb hby at_7) ?_
      show Steps p.tables e below (T0.setTop (mkF m 8 #[.val (.long v0), .second, .val (.long v2), .second, .val (.long v4), .second, .val (.int v6), .val (.int v7), .unset, .unset, .unset, .unset, .unset, .unset, .unset] [(.long (1 : Int64))])) _
      refine XS.lloadN X0.here hx rfl (hb hby at_8) rfl  ?_
      show Steps p.tables e below (T0.setTop (mkF m 9 #[.val (.long v0), .second, .val (.long v2), .second, .val (.long v4), .second, .val (.int v6), .val (.int v7), .unset, .unset, .unset, .unset, .unset, .unset, .unset] [(.long v0), (.long (1 : Int64))])) _
      refine X0.ldc2Long hx hown (mvT hZ (hw _ (List.mem_of_getElem? (i := 0) rfl))) (g := (mkF m 9 #[.val (.long v0), .second, .val (.long v2), .second, .val (.long v4), .second, .val (.int v6), .val (.int v7), .unset, .unset, .unset, .unset, .unset, .unset, .unset] [(.long v0), (.long (1 : Int64))])) rfl (hb hby at_9) _ ?_
      show Steps p.tables e below (T0.setTop (mkF m 12 #[.val (.long v0), .second, .val (.long v2), .second, .val (.long v4), .second, .val (.int v6), .val (.int v7), .unset, .unset, .unset, .unset, .unset, .unset, .unset] [(.long (7 : Int64)), (.long v0), (.long (1 : Int64))])) _
      refine XS.land X0.here hx rfl (hb hby at_12) rfl ?_
      show Steps p.tables e below (T0.setTop (mkF m 13 #[.val (.long v0), .second, .val (.long v2), .second, .val (.long v4), .second, .val (.int v6), .val (.int v7), .unset, .unset, .unset, .unset, .unset, .unset, .unset] [(.long (v0 &&& (7 : Int64))), (.long (1 : Int64))])) _
      refine XS.ladd X0.here hx rfl (hb hby at_13) rfl ?_
      show Steps p.tables e below (T0.setTop (mkF m 14 #[.val (.long v0), .second, .val (.long v2), .second, .val (.long v4), .second, .val (.int v6), .val (.int v7), .unset, .unset, .unset, .unset, .unset, .unset, .unset] [(.long ((1 : Int64) + (v0 &&& (7 : Int64))))])) _
      refine XS.goto X0.here hx rfl (pc0 := 14) (pc' := 26) rfl (hb hby at_14) (by decide) (by decide) ?_
      exact k
    have i26_j : ¬ (((1 : Int64) + (v0 &&& (7 : Int64))) < (1 : Int64)) := by first | (unfold f5_0; exact own_m2 _) | exact own_m1 _
    exact b0_26 ⟨hx, hZ, hw, hby, hml, hret, hown, hnm, hlk⟩ h0 n0 v0 v2 v4 v6 v7 ((1 : Int64) + (v0 &&& (7 : Int64))) X0 e0 N0 Z0 i26_j _ hr
theorem ef_0 (m : MethodId) (v0 : Int64) (v2 : Int64) (v4 : Int64) (v6 : Int32) (v7 : Int32) : entryFrame m #[(.long v0), (.long v2), (.long v4), (.int v6), (.int v7)] maxLocals = (mkF m 0 #[.val (.long v0), .second, .val (.long v2), .second, .val (.long v4), .second, .val (.int v6), .val (.int v7), .unset, .unset, .unset, .unset, .unset, .unset, .unset] []) := by first | (simp [entryFrame, mkF, argsToLocals, Value.category, maxLocals]; done) | rfl
set_option maxRecDepth 65536 in
set_option maxHeartbeats 40000000 in
theorem rm0 (l : Launch) (Z : State) (a0 : Array Value) (hw : ∀ d ∈ tables_1, d.before a0 Z = true) (ws : List Jvm.Cond) (v0 : Int64) (v2 : Int64) (v4 : Int64) (v6 : Int32) (v7 : Int32) (h0 : Heap) (n0 : Nat) (Z0 : n0 ≤ h0.size) :
    MetFree l x (head1 (Jvm.Cond.code x code maxLocals ret :: ws) room_1) (fun a U => a = #[(.long v0), (.long v2), (.long v4), (.int v6), (.int v7)] ∧ Z.Warmed39 U.vm ∧ U.heap = h0) (fun _ _ _ _ _ => True) (fun _ U o U' => ∃ v L, o = .returned v ∧ (Q0 n0 (f0_0 v0 v2 v4 v6 v7)) v U'.heap L ∧ FrameEnd U o U' L 1 2) := by
  refine MetFree.of_bodySF (plainFor_of_name pn_0) hisR ?_
  intro p e s m args below meth c s₁ Bd hml0 hP hK
  obtain ⟨rfl, hZ, hh⟩ := hP
  have B : Ctx p Z s a0 m meth c "com/example/search_suggest/searchsuggest/engine/PrivacyFloorAdmitsPinLaw" "law" code 15 (some .boolean) := ⟨Bd.exec, hZ, hw, Bd.bytes, hml0, Bd.returns, findClass_of_methodNamed Bd.named, (name_of_methodNamed Bd.named Bd.method).1, Bd.notSynchronized⟩
  have X0 : Stand p l e room_1 s m #[(.long v0), (.long v2), (.long v4), (.int v6), (.int v7)] below meth c s₁ [] 0 0 := Stand.of_body Bd
  have e0 : s₁.heap = h0 := by rw [← hh, Bd.state]; rfl
  have K := Keep.refl h0 []
  show EndsIn p e below s 1 2 (Q0 n0 (f0_0 v0 v2 v4 v6 v7)) (s₁.setTop (entryFrame m #[(.long v0), (.long v2), (.long v4), (.int v6), (.int v7)] maxLocals))
  refine EndsIn.by (fun t k => castTop (ef_0 m v0 v2 v4 v6 v7) k) ?_
  exact b0_0 B h0 n0 v0 v2 v4 v6 v7 X0 e0 (Fr.nil n0) Z0  _ rfl

theorem own_adm (t : Int64) (k : Int32) (c u : Int64) : f4_0 t k c u = if t < c then 0 else if u = 1 then 1 else if k.toInt64 < u then 0 else 1 := by
  unfold f4_0 f4_28; rfl
theorem own_217 (v0 v2 v4 : Int64) (v6 v7 : Int32) (c u : Int64) (v13 : Int32) : f0_217 v0 v2 v4 v6 v7 c u v13 c u = 1 := by
  unfold f0_217
  rw [own_adm]
  by_cases h : u = 1
  · rw [if_pos h, if_neg (Int64.lt_irrefl), if_pos h]; decide
  · rw [if_neg h]
theorem own_0 (c u : Int64) (hu : 1 < u) : f4_0 9223372036854775807 0 c u = 0 := by
  rw [own_adm]
  have h1 : ¬ ((9223372036854775807 : Int64) < c) := by rw [own_ltL]; have := rng64 c; have z : (9223372036854775807 : Int64).toInt = 9223372036854775807 := rfl; omega
  have h2 : ¬ (u = 1) := fun h => by subst h; exact absurd hu (by decide)
  have h3 : (0 : Int32).toInt64 < u := by rw [own_ltL] at hu ⊢; have z : (1 : Int64).toInt = 1 := rfl; have z0 : (0 : Int32).toInt64.toInt = 0 := rfl; omega
  rw [if_neg h1, if_neg h2, if_pos h3]
theorem own_196 (v0 v2 v4 : Int64) (v6 v7 : Int32) (c u : Int64) (v13 : Int32) : f0_196 v0 v2 v4 v6 v7 c u v13 c u = 1 := by
  unfold f0_196
  by_cases h : 1 < u
  · rw [if_pos h, if_pos (own_0 c u h), own_217]
  · rw [if_neg h, own_217]
theorem own_196_1 (v0 v2 v4 : Int64) (v6 v7 : Int32) (c u : Int64) (v13 v14 : Int32) : f0_196_1 v0 v2 v4 v6 v7 c u v13 v14 c u = 1 := own_196 v0 v2 v4 v6 v7 c u v13
theorem own_112 (v0 v2 v4 : Int64) (v6 v7 : Int32) (c u : Int64) (v13 : Int32) (hc : ¬ c < 1) (hu : ¬ u < 1) (hv : f4_0 v4 v6 c u = v13) : f0_112 v0 v2 v4 v6 v7 c u v13 c u = 1 := by
  unfold f0_112
  have z1 : (1 : Int64).toInt = 1 := rfl
  have z2 : (2147483647 : Int64).toInt = 2147483647 := rfl
  have z3 : (1 : Int32).toInt = 1 := rfl
  rw [if_pos hv]
  by_cases h : (2147483647 : Int64) < u
  · rw [if_pos h, own_196]
  · rw [if_neg h]
    rw [own_ltL] at h hc hu
    have k1 := c_l2i u; have k2 := rng32 u.toInt32
    have k3 : u.toInt32.toInt = u.toInt := by omega
    have k4 : u.toInt32.toInt64.toInt = u.toInt := by rw [c_i2l]; exact k3
    have q1 : f4_0 c u.toInt32 c u = 1 := by
      rw [own_adm, if_neg (Int64.lt_irrefl)]
      split
      · rfl
      · rw [if_neg]; rw [own_ltL]; omega
    have q2 : f4_0 (c - 1) u.toInt32 c u = 0 := by
      rw [own_adm, if_pos]; rw [own_ltL]; have := c_lsub c 1; have := rng64 (c - 1); have := rng64 c; omega
    rw [if_neg (by rw [q1]; decide), if_pos q2]
    by_cases w : 1 < u
    · rw [if_pos w]
      have q3 : f4_0 9223372036854775807 (u.toInt32 - 1) c u = 0 := by
        rw [own_adm]
        have h1 : ¬ ((9223372036854775807 : Int64) < c) := by rw [own_ltL]; have := rng64 c; have z : (9223372036854775807 : Int64).toInt = 9223372036854775807 := rfl; omega
        have h2 : ¬ (u = 1) := fun h => by subst h; exact absurd w (by decide)
        have h3 : (u.toInt32 - 1).toInt64 < u := by rw [own_ltL, c_i2l]; have := c_isub u.toInt32 1; have := rng32 (u.toInt32 - 1); omega
        rw [if_neg h1, if_neg h2, if_pos h3]
      rw [if_pos q3, own_196_1]
    · rw [if_neg w, own_196_1]
theorem own_54 (v0 v2 v4 : Int64) (v6 v7 : Int32) (c u : Int64) (hc : ¬ c < 1) (hu : ¬ u < 1) : f0_54 v0 v2 v4 v6 v7 c u = 1 := by
  show f0_67 v0 v2 v4 v6 v7 c u c u = 1
  have e := own_adm v4 v6 c u
  unfold f0_67 f0_110
  by_cases h1 : v4 < c
  · rw [if_pos h1] at e ⊢; exact own_112 _ _ _ _ _ _ _ _ hc hu e
  · rw [if_neg h1] at e ⊢
    by_cases h2 : u = 1
    · rw [if_pos h2] at e ⊢; exact own_112 _ _ _ _ _ _ _ _ hc hu e
    · rw [if_neg h2] at e ⊢
      by_cases h3 : v6.toInt64 < u
      · rw [if_pos h3] at e ⊢; exact own_112 _ _ _ _ _ _ _ _ hc hu e
      · rw [if_neg h3] at e ⊢; exact own_112 _ _ _ _ _ _ _ _ hc hu e
theorem own_26 (v0 v2 v4 : Int64) (v6 v7 : Int32) (c : Int64) (hc : ¬ c < 1) : f0_26 v0 v2 v4 v6 v7 c = 1 := by
  unfold f0_26
  split
  · exact own_54 _ _ _ _ _ _ _ hc (by unfold f5_0; exact own_m2 _)
  · exact own_54 _ _ _ _ _ _ _ hc (own_m1 _)
theorem own_law (v0 v2 v4 : Int64) (v6 v7 : Int32) : f0_0 v0 v2 v4 v6 v7 = 1 := by
  unfold f0_0
  split
  · exact own_26 _ _ _ _ _ _ (by unfold f5_0; exact own_m2 _)
  · exact own_26 _ _ _ _ _ _ (own_m1 _)

set_option maxRecDepth 65536 in
set_option maxHeartbeats 40000000 in
theorem comes_1 {Post : Tables → Env → Array Value → State → Outcome → State → Prop} (hpost : ∀ tb e args s v u, (limb_1_1.after args s (.returned v) u = true ∧ limb_1_2.after args s (.returned v) u = true ∧ True) → FrameEnd s (.returned v) u (Jvm.fieldLocs frame_1_writes args s ++ Jvm.arrayLocs frame_1_arrays args s ++ Jvm.staticLocs frame_1_statics s) 16 128 → Post tb e args s (.returned v) u) :
    ArmFor flags0 classFile x code maxLocals ret World_1 tables_1 room_1 Calls_1 rest_1 Pre_1 Post := by
  intro l hfl _ _ p e ha hc hk s m args below hf hA hF happ hP
  obtain ⟨hcalls, hrest, hpre⟩ := hP
  obtain ⟨-, -, -, hnamed, -, -, -, hat⟩ := (Spec.applies_iff hf).mp happ
  obtain ⟨hg, hn⟩ := and_e (Cond.before_iff.mp (show (Jvm.Cond.and given_1 narrow_1).before args s = true from hpre))
  obtain ⟨gg1, gg2⟩ := and_e hg
  obtain ⟨gg3, gg4⟩ := and_e gg2
  obtain ⟨gg5, gg6⟩ := and_e gg4
  obtain ⟨gg7, gg8⟩ := and_e gg6
  obtain ⟨gg9, gg10⟩ := and_e gg8
  obtain ⟨w0, w1, w2, w3, w4, rfl⟩ : ∃ w0 w1 w2 w3 w4 : Value, args = #[w0, w1, w2, w3, w4] := by
    have hs : args.size = 5 := by simpa [Cond.value, given_1] using gg1
    obtain ⟨L⟩ := args
    match L, hs with
    | [w0, w1, w2, w3, w4], _ => exact ⟨w0, w1, w2, w3, w4, rfl⟩
  have hw := fun d (hd : d ∈ tables_1) => atoms_spec (ws := Jvm.Cond.code x code maxLocals ret :: tables_1) hat d (List.mem_cons_of_mem _ hd)
  have hfit : Fit s := fun {y c} hc i hi => by
    obtain ⟨ha, rfl⟩ := Array.getElem?_eq_some_iff.mp hc
    have q := List.all_eq_true.mp ((Array.all_eq_true_iff_forall_mem.mp hF) _ (Array.getElem_mem ha)) i (List.mem_range.mpr hi)
    simpa [Array.getElem?_eq_getElem hi] using q
  obtain ⟨i0, ei0⟩ := isL_v gg3
  obtain rfl : w0 = (.long i0) := Option.some.inj ei0
  obtain ⟨i1, ei1⟩ := isL_v gg5
  obtain rfl : w1 = (.long i1) := Option.some.inj ei1
  obtain ⟨i2, ei2⟩ := isL_v gg7
  obtain rfl : w2 = (.long i2) := Option.some.inj ei2
  obtain ⟨i3, ei3⟩ := is_v gg9
  obtain rfl : w3 = (.int i3) := Option.some.inj ei3
  obtain ⟨i4, ei4⟩ := is_v gg10
  obtain rfl : w4 = (.int i4) := Option.some.inj ei4
  obtain ⟨n, o, h1, h2, h3, _, L, rfl, ⟨rfl, N⟩, hq⟩ := rm0 l s _ hw tables_1 i0 i1 i2 i3 i4 s.heap s.heap.size (Nat.le_refl _)  p e ha hc hk s m _ below hf ((Spec.applies_iff_loose hf).mp happ).1 ⟨rfl, State.Warmed39.refl s, rfl⟩ trivial
  refine ⟨n, _, h1, h2, h3, hpost _ _ _ _ _ _ ⟨Cond.after_iff.mpr rfl, Cond.after_iff.mpr (eq_i res_at (Term.int_eval (1)) (congrArg Value.int (own_law i0 i1 i2 i3 i4))), trivial⟩ ⟨hq.1, hq.2.1, (hq.2.2.sift fun y hy => Or.inr (N y hy)).mono (by decide) (by decide)⟩⟩
theorem main_1_1 : Claimed_1_1 := comes_1 fun _ _ _ _ _ _ h hF => ⟨h.1, hF⟩
theorem main_1_2 : Claimed_1_2 := comes_1 fun _ _ _ _ _ _ h hF => ⟨h.2.1, hF⟩
end Jvm.Pilot.@@N@@
namespace Jvm.Pilot.@@N@@
open Jvm Jvm.ClassFile Sem Op Lib Jvm.Free Jvm.Stand Jvm.Pilot.@@N@@.Jvm.D
/-! MADE BY PROGRAM (witnessworld.py) out of the Statement's table words and the real class files: 11 classes; the members and pool entries that the words name. The judged class is class 1, her method 1. -/
namespace start1
open Jvm.ClassFile
def u (s : String) : CpInfo := .utf8 (stringToUtf16 s)
/-- a pool by its gaps: so many unusable entries, then the entry; so many at the end -/
def gap : Nat → List CpInfo → List CpInfo
  | 0, r => r
  | n + 1, r => .unusable :: gap n r
def poolList (es : List (Nat × CpInfo)) (last : Nat) : List CpInfo := es.foldr (fun e r => gap e.1 (e.2 :: r)) (gap last [])
def pool (es : List (Nat × CpInfo)) (last : Nat) : Array CpInfo := ⟨poolList es last⟩
def fileOf (pool : Array CpInfo) (this : Nat) (attrs : Array Attribute := #[]) (ms : Array MethodInfo := #[]) (fl : Nat := 33) (sup : Nat := 0) (ifs : Array Nat := #[]) (fds : Array FieldInfo := #[]) : ClassFile where
  minorVersion := 0
  majorVersion := 65
  constantPool := pool
  accessFlags := fl
  thisClass := this
  superClass := sup
  interfaces := ifs
  fields := fds
  methods := ms
  attributes := attrs
def plain (name : String) (sup : Option ClassId) : Class where
  name := name
  kind := .ordinary
  loader := none
  accessFlags := 33
  super := sup
  interfaces := #[]
  cf := none
  fields := #[]
  methods := #[]
  instanceTypes := #[]
  staticTypes := #[]
  resolved := #[]
  callSites := []
  init := .initialized
  statics := none
  mirror := none

def pool0 : Array CpInfo := pool [(5, u "<init>"), (0, u "()V"), (1, .class_ 10), (1, u "java/lang/Object")] 113

def k0c0 : Code := { maxStack := 0, maxLocals := 1, code := object_method_1_code, exceptionTable := #[], attributes := #[] }
def k0m0 : Method := { name := "<init>", desc := "()V", sig := { parameters := [], returnType := none }, accessFlags := 1, code := some k0c0 }
/-- java/lang/Object -/
def k0 : Class := { plain "java/lang/Object" none with
  accessFlags := 33
  interfaces := #[]
  cf := some (fileOf pool0 8 #[] #[{ accessFlags := 1, nameIndex := 5, descriptorIndex := 6, attributes := #[] }] 33 0 #[] #[])
  fields := #[]
  methods := #[k0m0]
  instanceTypes := #[]
  staticTypes := #[]
  resolved := Array.replicate 124 none
  statics := none }

def pool1 : Array CpInfo := pool [(2, .class_ 4), (1, u "java/lang/Object"), (0, u "<init>"), (0, u "()V"), (0, .long 7), (3, .long 9223372036854775807), (1, .methodref 14 15), (0, .class_ 16), (0, .nameAndType 17 18), (0, u "java/lang/Math"), (0, u "max"), (0, u "(JJ)J"), (0, .class_ 20), (0, u "com/example/search_suggest/searchsuggest/engine/PrivacyFloor"), (0, .methodref 19 22), (0, .nameAndType 5 23), (0, u "(JJ)V"), (0, .methodref 19 25), (0, .nameAndType 26 27), (0, u "admits"), (0, u "(JI)Z"), (2, .long 2147483647), (1, .integer 2147483648), (0, .class_ 34), (0, u "com/example/search_suggest/searchsuggest/engine/PrivacyFloorAdmitsPinLaw"), (2, u "law"), (0, u "(JJJII)Z")] 3

def k1m0 : Method := { name := "<init>", desc := "()V", sig := { parameters := [], returnType := none }, accessFlags := 1, code := none }
def k1c1 : Code := { maxStack := 6, maxLocals := 15, code := code, exceptionTable := #[], attributes := #[] }
def k1m1 : Method := { name := "law", desc := "(JJJII)Z", sig := { parameters := [.long, .long, .long, .int, .int], returnType := some .boolean }, accessFlags := 9, code := some k1c1 }
/-- com/example/search_suggest/searchsuggest/engine/PrivacyFloorAdmitsPinLaw -/
def k1 : Class := { plain "com/example/search_suggest/searchsuggest/engine/PrivacyFloorAdmitsPinLaw" (some 0) with
  accessFlags := 49
  interfaces := #[]
  cf := some (fileOf pool1 33 #[] #[{ accessFlags := 1, nameIndex := 5, descriptorIndex := 6, attributes := #[] }, { accessFlags := 9, nameIndex := 37, descriptorIndex := 38, attributes := #[] }] 49 2 #[] #[])
  fields := #[]
  methods := #[k1m0, k1m1]
  instanceTypes := #[]
  staticTypes := #[]
  resolved := Array.replicate 42 none
  statics := none }

def pool2 : Array CpInfo := pool [(1, .methodref 2 3), (0, .class_ 4), (0, .nameAndType 5 6), (0, u "java/lang/Object"), (0, u "<init>"), (0, u "()V"), (0, .class_ 8), (0, u "java/lang/Record")] 13

def k2c0 : Code := { maxStack := 1, maxLocals := 1, code := jdk_30_method_1_code, exceptionTable := #[], attributes := #[] }
def k2m0 : Method := { name := "<init>", desc := "()V", sig := { parameters := [], returnType := none }, accessFlags := 4, code := some k2c0 }
/-- java/lang/Record -/
def k2 : Class := { plain "java/lang/Record" (some 0) with
  accessFlags := 1057
  interfaces := #[]
  cf := some (fileOf pool2 7 #[] #[{ accessFlags := 4, nameIndex := 5, descriptorIndex := 6, attributes := #[] }] 1057 2 #[] #[])
  fields := #[]
  methods := #[k2m0]
  instanceTypes := #[]
  staticTypes := #[]
  resolved := Array.replicate 22 none
  statics := none }

def pool3 : Array CpInfo := pool [(1, .methodref 2 3), (0, .class_ 4), (0, .nameAndType 5 6), (0, u "java/lang/Record"), (0, u "<init>"), (0, u "()V"), (9, .fieldref 17 18), (0, .class_ 19), (0, .nameAndType 20 21), (0, u "com/example/search_suggest/searchsuggest/engine/PrivacyFloor"), (0, u "minCount"), (0, u "J"), (0, .fieldref 17 23), (0, .nameAndType 24 21), (0, u "minUsers"), (14, u "(JJ)V"), (2, u "NONE"), (0, u "Lcom/example/search_suggest/searchsuggest/engine/PrivacyFloor;"), (4, u "admits"), (0, u "(JI)Z")] 34

def k3c0 : Code := { maxStack := 6, maxLocals := 5, code := prog_19_method_1_code, exceptionTable := #[], attributes := #[] }
def k3m0 : Method := { name := "<init>", desc := "(JJ)V", sig := { parameters := [.long, .long], returnType := none }, accessFlags := 1, code := some k3c0 }
def k3c1 : Code := { maxStack := 4, maxLocals := 4, code := prog_19_method_2_code, exceptionTable := #[], attributes := #[] }
def k3m1 : Method := { name := "admits", desc := "(JI)Z", sig := { parameters := [.long, .int], returnType := some .boolean }, accessFlags := 0, code := some k3c1 }
/-- com/example/search_suggest/searchsuggest/engine/PrivacyFloor -/
def k3 : Class := { plain "com/example/search_suggest/searchsuggest/engine/PrivacyFloor" (some 2) with
  accessFlags := 49
  interfaces := #[]
  cf := some (fileOf pool3 17 #[] #[{ accessFlags := 1, nameIndex := 5, descriptorIndex := 39, attributes := #[] }, { accessFlags := 0, nameIndex := 48, descriptorIndex := 49, attributes := #[] }] 49 2 #[] #[{ accessFlags := 18, nameIndex := 20, descriptorIndex := 21, attributes := #[] }, { accessFlags := 18, nameIndex := 24, descriptorIndex := 21, attributes := #[] }, { accessFlags := 25, nameIndex := 42, descriptorIndex := 43, attributes := #[] }])
  fields := #[{ name := "minCount", type := .long, accessFlags := 18, slot := 0, constantValue := 0 }, { name := "minUsers", type := .long, accessFlags := 18, slot := 1, constantValue := 0 }, { name := "NONE", type := (.object "com/example/search_suggest/searchsuggest/engine/PrivacyFloor"), accessFlags := 25, slot := 0, constantValue := 0 }]
  methods := #[k3m0, k3m1]
  instanceTypes := #[.long, .long]
  staticTypes := #[(.object "com/example/search_suggest/searchsuggest/engine/PrivacyFloor")]
  resolved := Array.replicate 84 none
  statics := none }

def pool4 : Array CpInfo := pool [(1, .class_ 2), (0, u "java/lang/Math"), (1, .class_ 6), (1, u "java/lang/Object"), (0, u "<init>"), (0, u "()V"), (89, .class_ 100), (1, u "java/lang/Math$RandomNumberGeneratorHolder"), (20, u "(JJ)J"), (50, u "negativeZeroFloatBits"), (0, u "J"), (2, u "negativeZeroDoubleBits"), (21, u "max"), (46, u "$assertionsDisabled"), (0, u "Z"), (91, u "twoToTheDoubleScaleDown"), (0, u "D"), (4, u "twoToTheDoubleScaleUp"), (9, u "E"), (3, u "PI"), (2, u "TAU"), (2, u "DEGREES_TO_RADIANS"), (0, u "RADIANS_TO_DEGREES")] 94

def k4m0 : Method := { name := "<init>", desc := "()V", sig := { parameters := [], returnType := none }, accessFlags := 2, code := none }
def k4c1 : Code := { maxStack := 4, maxLocals := 4, code := jdk_29_method_66_code, exceptionTable := #[], attributes := #[] }
def k4m1 : Method := { name := "max", desc := "(JJ)J", sig := { parameters := [.long, .long], returnType := some .long }, accessFlags := 9, code := some k4c1 }
/-- java/lang/Math -/
def k4 : Class := { plain "java/lang/Math" (some 0) with
  accessFlags := 49
  interfaces := #[]
  cf := some (fileOf pool4 1 #[.nestMembers #[98]] #[{ accessFlags := 2, nameIndex := 7, descriptorIndex := 8, attributes := #[] }, { accessFlags := 9, nameIndex := 198, descriptorIndex := 121, attributes := #[] }] 49 4 #[] #[{ accessFlags := 25, nameIndex := 354, descriptorIndex := 339, attributes := #[] }, { accessFlags := 25, nameIndex := 358, descriptorIndex := 339, attributes := #[] }, { accessFlags := 25, nameIndex := 361, descriptorIndex := 339, attributes := #[] }, { accessFlags := 26, nameIndex := 364, descriptorIndex := 339, attributes := #[] }, { accessFlags := 26, nameIndex := 365, descriptorIndex := 339, attributes := #[] }, { accessFlags := 26, nameIndex := 172, descriptorIndex := 173, attributes := #[] }, { accessFlags := 26, nameIndex := 176, descriptorIndex := 173, attributes := #[] }, { accessFlags := 8, nameIndex := 344, descriptorIndex := 339, attributes := #[] }, { accessFlags := 8, nameIndex := 338, descriptorIndex := 339, attributes := #[] }, { accessFlags := 4120, nameIndex := 245, descriptorIndex := 246, attributes := #[] }])
  fields := #[{ name := "E", type := .double, accessFlags := 25, slot := 0, constantValue := 0 }, { name := "PI", type := .double, accessFlags := 25, slot := 1, constantValue := 0 }, { name := "TAU", type := .double, accessFlags := 25, slot := 2, constantValue := 0 }, { name := "DEGREES_TO_RADIANS", type := .double, accessFlags := 26, slot := 3, constantValue := 0 }, { name := "RADIANS_TO_DEGREES", type := .double, accessFlags := 26, slot := 4, constantValue := 0 }, { name := "negativeZeroFloatBits", type := .long, accessFlags := 26, slot := 5, constantValue := 0 }, { name := "negativeZeroDoubleBits", type := .long, accessFlags := 26, slot := 6, constantValue := 0 }, { name := "twoToTheDoubleScaleUp", type := .double, accessFlags := 8, slot := 7, constantValue := 0 }, { name := "twoToTheDoubleScaleDown", type := .double, accessFlags := 8, slot := 8, constantValue := 0 }, { name := "$assertionsDisabled", type := .boolean, accessFlags := 4120, slot := 9, constantValue := 0 }]
  methods := #[k4m0, k4m1]
  instanceTypes := #[]
  staticTypes := #[.double, .double, .double, .double, .double, .long, .long, .double, .double, .boolean]
  resolved := Array.replicate 460 none
  statics := none }

def pool5 : Array CpInfo := pool [(1, u "java/lang/Cloneable"), (0, .class_ 1), (0, u "java/lang/Object"), (0, .class_ 3)] 3

/-- java/lang/Cloneable -/
def k5 : Class := { plain "java/lang/Cloneable" (some 0) with
  accessFlags := 1537
  interfaces := #[]
  cf := some (fileOf pool5 2 #[] #[] 1537 4 #[] #[])
  fields := #[]
  methods := #[]
  instanceTypes := #[]
  staticTypes := #[]
  resolved := Array.replicate 8 none
  statics := none }

def pool6 : Array CpInfo := pool [(1, u "java/io/Serializable"), (0, .class_ 1), (0, u "java/lang/Object"), (0, .class_ 3)] 3

/-- java/io/Serializable -/
def k6 : Class := { plain "java/io/Serializable" (some 0) with
  accessFlags := 1537
  interfaces := #[]
  cf := some (fileOf pool6 2 #[] #[] 1537 4 #[] #[])
  fields := #[]
  methods := #[]
  instanceTypes := #[]
  staticTypes := #[]
  resolved := Array.replicate 8 none
  statics := none }

/-- the primitive byte -/
def k7 : Class := { plain "byte" none with kind := .primitive 'B', accessFlags := 0x411 }
/-- [B -/
def k8 : Class := { plain "[B" (some 0) with kind := .array 7 .byte, interfaces := #[5, 6], accessFlags := 1041 }

/-- the primitive int -/
def k9 : Class := { plain "int" none with kind := .primitive 'I', accessFlags := 0x411 }
/-- [I -/
def k10 : Class := { plain "[I" (some 0) with kind := .array 9 .int, interfaces := #[5, 6], accessFlags := 1041 }

def heap : Heap := #[]
def classes : Array Class := #[k0, k1, k2, k3, k4, k5, k6, k7, k8, k9, k10]
def interned : List (Array UInt16 × Addr) := []
def slotsUsed : Nat := 0
def theMethod : MethodId := ⟨1, 1⟩
def args0 : Array Value := #[.long 5, .long 6, .long 7, .int 8, .int 3]
def aboutOver (below : List Frame) : State where
  vm := { classes := classes, interned := interned.toArray }
  heap := heap
  slotsUsed := slotsUsed
  threads := #[{ frames := .invoking theMethod args0 :: below }]
def below0 : List Frame := [.native { method := ⟨0, 0⟩, args := #[] }]
def about1 : State := aboutOver below0
def p0 : Program := .bare "" "" ""
def e0 : Env := launch0.env 0 0 0
theorem w_frames : about1.frames = Frame.invoking theMethod args0 :: below0 := rfl
set_option maxRecDepth 65536 in
theorem w_args : argsFit about1.vm theMethod args0 = true := by decide +kernel
set_option maxRecDepth 65536 in
theorem w_heap : heapFits about1 = true := by decide +kernel
set_option maxRecDepth 65536 in
theorem w_runnable : about1.curStatus? = some .runnable := by decide +kernel
set_option maxRecDepth 65536 in
theorem w_alone : about1.alone = true := by decide +kernel
set_option maxRecDepth 65536 in
theorem w_named : about1.methodNamed? x = some theMethod := by decide +kernel
set_option maxRecDepth 65536 in
theorem w_hears : about1.hears theMethod below0 = true := by decide +kernel
set_option maxRecDepth 65536 in
theorem w_ripe : about1.ripe theMethod args0 below0 = true := by decide +kernel
theorem w_running : about1.status = .running := rfl
set_option maxRecDepth 65536 in
theorem w_room : about1.hasRoom e0.platform room_1 = true :=
  launch0.hasRoom_least _ room_1 (by decide +kernel) (by decide +kernel) (by decide +kernel) (by decide +kernel) (by decide +kernel) (by decide +kernel)
theorem allAtoms_all (ts : List Jvm.Cond) (a : Array Jvm.Value) (st : Jvm.State) : (allAtoms ts).before a st = ts.all (fun c => c.before a st) := by
  induction ts with
  | nil => rfl
  | cons c t ih =>
    show (Jvm.Cond.and c (allAtoms t)).before a st = _
    rw [Jvm.Cond.before_and, ih, List.all_cons]
def words1 : List Jvm.Cond := Jvm.Cond.code x code maxLocals ret :: tables_1
/-- a 'code' word, met by the world's own term for the bytes: nothing is compared byte by byte -/
theorem code_word {y : MethodName} {bytes : ByteArray} {mx : Nat} {rt : Option FieldType} {a : Array Value} {s : State} {m : MethodId} {meth : Method} {c : Code} (h1 : s.methodNamed? y = some m) (h2 : s.vm.method? m = some meth) (h3 : meth.code = some c) (h4 : c.code = bytes)
    (h5 : (c.maxLocals == mx && c.exceptionTable.isEmpty && decide (c.maxStack ≤ mostOperands) && decide (meth.sig.returnType = rt) && !meth.locks && decide (parseMethodDescriptor y.desc = some meth.sig)) = true) : (Jvm.Cond.code y bytes mx rt).before a s = true := by
  simp only [Bool.and_eq_true, beq_iff_eq, Bool.not_eq_true', decide_eq_true_eq] at h5
  obtain ⟨⟨⟨⟨⟨g1, g2⟩, g3⟩, g4⟩, g5⟩, g6⟩ := h5
  simp [Cond.before, Cond.holds, Cond.value, h1, h2, h3, h4, g1, g2, g3, g4, g5, g6]
def isCode : Jvm.Cond → Bool
  | .code _ _ _ _ => true
  | _ => false
theorem all_split {L : List Jvm.Cond} {P : Jvm.Cond → Bool} (h1 : L.all (fun c => isCode c || P c) = true) (h2 : ∀ c ∈ L.filter isCode, P c = true) : L.all P = true := by
  refine List.all_eq_true.mpr fun c hc => ?_
  have h := List.all_eq_true.mp h1 c hc
  rcases Bool.eq_false_or_eq_true (isCode c) with hi | hi
  · exact h2 c (List.mem_filter.mpr ⟨hc, hi⟩)
  · simpa [hi] using h
set_option maxRecDepth 65536 in
theorem w_c0 : (Jvm.Cond.code x code maxLocals ret).before args0 about1 = true := code_word (m := ⟨1, 1⟩) (meth := k1m1) (c := k1c1) (by decide +kernel) rfl rfl rfl (by decide +kernel)
set_option maxRecDepth 65536 in
theorem w_c1 : (Jvm.Cond.code ({ cls := "com/example/search_suggest/searchsuggest/engine/PrivacyFloor", name := "<init>", desc := "(JJ)V" } : Jvm.MethodName) prog_19_method_1_code (5 : Nat) (Option.none : Option Jvm.ClassFile.FieldType)).before args0 about1 = true := code_word (m := ⟨3, 0⟩) (meth := k3m0) (c := k3c0) (by decide +kernel) rfl rfl rfl (by decide +kernel)
set_option maxRecDepth 65536 in
theorem w_c2 : (Jvm.Cond.code ({ cls := "java/lang/Record", name := "<init>", desc := "()V" } : Jvm.MethodName) jdk_30_method_1_code (1 : Nat) (Option.none : Option Jvm.ClassFile.FieldType)).before args0 about1 = true := code_word (m := ⟨2, 0⟩) (meth := k2m0) (c := k2c0) (by decide +kernel) rfl rfl rfl (by decide +kernel)
set_option maxRecDepth 65536 in
theorem w_c3 : (Jvm.Cond.code ({ cls := "java/lang/Object", name := "<init>", desc := "()V" } : Jvm.MethodName) object_method_1_code (1 : Nat) (Option.none : Option Jvm.ClassFile.FieldType)).before args0 about1 = true := code_word (m := ⟨0, 0⟩) (meth := k0m0) (c := k0c0) (by decide +kernel) rfl rfl rfl (by decide +kernel)
set_option maxRecDepth 65536 in
theorem w_c4 : (Jvm.Cond.code ({ cls := "com/example/search_suggest/searchsuggest/engine/PrivacyFloor", name := "admits", desc := "(JI)Z" } : Jvm.MethodName) prog_19_method_2_code (4 : Nat) (Option.some Jvm.ClassFile.FieldType.boolean)).before args0 about1 = true := code_word (m := ⟨3, 1⟩) (meth := k3m1) (c := k3c1) (by decide +kernel) rfl rfl rfl (by decide +kernel)
set_option maxRecDepth 65536 in
theorem w_c5 : (Jvm.Cond.code ({ cls := "java/lang/Math", name := "max", desc := "(JJ)J" } : Jvm.MethodName) jdk_29_method_66_code (4 : Nat) (Option.some Jvm.ClassFile.FieldType.long)).before args0 about1 = true := code_word (m := ⟨4, 1⟩) (meth := k4m1) (c := k4c1) (by decide +kernel) rfl rfl rfl (by decide +kernel)
def codes1 : List Jvm.Cond := [Jvm.Cond.code x code maxLocals ret, Jvm.Cond.code ({ cls := "com/example/search_suggest/searchsuggest/engine/PrivacyFloor", name := "<init>", desc := "(JJ)V" } : Jvm.MethodName) prog_19_method_1_code (5 : Nat) (Option.none : Option Jvm.ClassFile.FieldType), Jvm.Cond.code ({ cls := "java/lang/Record", name := "<init>", desc := "()V" } : Jvm.MethodName) jdk_30_method_1_code (1 : Nat) (Option.none : Option Jvm.ClassFile.FieldType), Jvm.Cond.code ({ cls := "java/lang/Object", name := "<init>", desc := "()V" } : Jvm.MethodName) object_method_1_code (1 : Nat) (Option.none : Option Jvm.ClassFile.FieldType), Jvm.Cond.code ({ cls := "com/example/search_suggest/searchsuggest/engine/PrivacyFloor", name := "admits", desc := "(JI)Z" } : Jvm.MethodName) prog_19_method_2_code (4 : Nat) (Option.some Jvm.ClassFile.FieldType.boolean), Jvm.Cond.code ({ cls := "java/lang/Math", name := "max", desc := "(JJ)J" } : Jvm.MethodName) jdk_29_method_66_code (4 : Nat) (Option.some Jvm.ClassFile.FieldType.long)]
set_option maxRecDepth 65536 in
theorem codes_eq : words1.filter isCode = codes1 := rfl
theorem w_codes : ∀ c ∈ words1.filter isCode, c.before args0 about1 = true := by
  rw [codes_eq]
  intro c hc
  simp only [codes1, List.mem_cons, List.not_mem_nil, or_false] at hc
  rcases hc with rfl | rfl | rfl | rfl | rfl | rfl
  · exact w_c0
  · exact w_c1
  · exact w_c2
  · exact w_c3
  · exact w_c4
  · exact w_c5
set_option maxRecDepth 65536 in
theorem w_t1 : (words1.take 24).all (fun c => isCode c || c.before args0 about1) = true := by decide +kernel
set_option maxRecDepth 65536 in
theorem w_t2 : (words1.drop 24).all (fun c => isCode c || c.before args0 about1) = true := by decide +kernel
theorem w_tables : (allAtoms (Jvm.Cond.code x code maxLocals ret :: tables_1)).before args0 about1 = true := by
  rw [allAtoms_all]
  show words1.all (fun c => c.before args0 about1) = true
  refine all_split ?_ w_codes
  rw [← List.take_append_drop 24 words1, List.all_append, w_t1, w_t2]
  rfl
set_option maxRecDepth 65536 in
theorem w_case : (Jvm.Cond.and given_1 narrow_1).before args0 about1 = true := by decide +kernel
theorem w_applies : (headSpec (Jvm.Cond.code x code maxLocals ret :: tables_1) room_1).applies x e0.platform about1 = true :=
  (Spec.applies_iff w_frames).mpr ⟨w_running, w_runnable, w_alone, w_named, w_hears, w_ripe, w_room, w_tables⟩
theorem atStart : AtStart classFile x code maxLocals ret World_1 tables_1 room_1 Calls_1 rest_1 Pre_1 launch0 p0 e0 about1 theMethod args0 below0 :=
  ⟨lists_1, trivial, launch0.admits_env _ _ _, launch0.least_env, fairChoices_fair.cas, fairChoices_fair.clock, w_frames, w_args, w_heap, w_applies, trivial, trivial, w_case⟩
end start1
theorem witness_1 : WitnessClaimed_1 := ⟨start1.p0, start1.e0, start1.about1, start1.theMethod, start1.args0, start1.below0, start1.atStart⟩
end Jvm.Pilot.@@N@@
