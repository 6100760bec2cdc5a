import JvmDerived
import JvmDerived.Pilot.@@N@@Statement
import JvmDerived.Pilot.@@N@@Code
set_option linter.unusedVariables false
set_option linter.unusedSimpArgs false
namespace Jvm.RoadKit
open Sem ClassFile Op Lib Jvm.Stand Jvm.Free Jvm.LawKit
section New
variable {p : Program} {l : Launch} {e : Env} {R : Room} {s : State} {m : MethodId} {args : Array Value} {below : List Frame} {meth : Method} {c : Code} {T : State} {locs : List Loc} {cells slots : Nat}
theorem retI (X : Stand p l e R s m args below meth c T locs cells slots) (hx : p.tables.exec = Jvm.exec) {pc : Nat} {Ls : Array Slot} {z : Int32} {rest : List Value} (hret : meth.sig.returnType = some .int) (hd : decode c.code pc = .ok (.ireturn, 1)) {fs : List Frame}
    (hl : ∀ (f : JFrame) (acts : List Action), f.method = m → f.locked = none → f.entered = [] → (doReturn e (T.setTop f) acts (some (.int z))).1 = T.setFrames fs) : Steps p.tables e below (T.setTop (mkF m pc Ls (.int z :: rest))) (T.setFrames fs) := by
  have hm' : T.vm.method? m = some meth := X.method'
  have hn : narrow .int (.int z) = .int z := rfl
  show Steps p.tables e below (T.setTop { method := m, pc := pc, locals := Ls, stack := _ :: rest, locked := none }) _
  jvm_step X.here [X.here.top, hx, hd, hm', hret, hn]
  first | (intro acts; rw [hl _ acts rfl rfl rfl]) | rw [hl _ _ rfl rfl rfl]
  exact Steps.refl _
end New
end Jvm.RoadKit
namespace Jvm.Pilot.@@N@@
open Jvm Jvm.ClassFile Sem Op Lib Jvm.Free Jvm.Stand Jvm.LawKit Jvm.RoadKit Bundle Jvm.Pilot.@@N@@.Jvm.D
/-! what every block of a body's walk is given -/
def Ctx (p : Program) (Z s : State) (a0 : Array Value) (m : MethodId) (meth : Method) (c : Code) (own nm : String) (bytes : ByteArray) (maxl : Nat) (rt : Option FieldType) : Prop :=
  p.tables.exec = Jvm.exec ∧ Z.Warmed39 s.vm ∧ (∀ d ∈ tables_1, d.before a0 Z = true) ∧ c.code = bytes ∧ c.maxLocals = maxl ∧ meth.sig.returnType = rt ∧ s.vm.findClass own = some m.cls ∧ meth.name = nm ∧ meth.locks = false
/-- from the state A the body's run ends, returns, and leaves what Q says -/
def Fin (p : Program) (e : Env) (below : List Frame) (s : State) (cells slots : Nat) (Q : Option Value → Heap → List Loc → Prop) (A : State) : Prop :=
  ∃ s₂ o, Steps p.tables e below A s₂ ∧ s₂.status = .running ∧ Ended s₂ below o ∧ ∃ v L, o = .returned v ∧ Q v s₂.heap L ∧ FrameEnd s o s₂ L cells slots
section Ends
variable {p : Program} {l : Launch} {e : Env} {R : Room} {s : State} {m : MethodId} {args : Array Value} {below : List Frame} {meth : Method} {c : Code} {T : State} {locs : List Loc} {cells slots : Nat} {C S : Nat} {Q : Option Value → Heap → List Loc → Prop}
theorem Fin.by {A B : State} (h : ∀ t, Steps p.tables e below B t → Steps p.tables e below A t) (k : Fin p e below s C S Q B) : Fin p e below s C S Q A := by
  obtain ⟨s₂, o, h1, r⟩ := k
  exact ⟨s₂, o, h _ h1, r⟩
theorem own_retI (X : Stand p l e R s m args below meth c T locs cells slots) (hx : p.tables.exec = Jvm.exec) (hlk : meth.locks = false) {pc : Nat} {Ls : Array Slot} {z : Int32} {rest : List Value} (hret : meth.sig.returnType = some .int) (hd : decode c.code pc = .ok (.ireturn, 1)) (hc : cells ≤ C) (hs : slots ≤ S)
    (hq : Q (some (.int z)) T.heap locs) : Fin p e below s C S Q (T.setTop (mkF m pc Ls (.int z :: rest))) := by
  obtain ⟨fs, hr, hrun, hended, hW, hsame⟩ := X.leave (v := some (.int z)) (fun h => by rw [hret] at h; cases h) hlk
  exact ⟨_, _, retI X hx hret hd hr, hrun, hended, _, _, rfl, hq, ⟨_, rfl⟩, hW, hsame.mono hc hs⟩
theorem own_retN (X : Stand p l e R s m args below meth c T locs cells slots) (hx : p.tables.exec = Jvm.exec) (hlk : meth.locks = false) {pc : Nat} {Ls : Array Slot} {z : Int32} {rest : List Value} {t : FieldType} (hret : meth.sig.returnType = some t) (ht : t = .boolean ∨ t = .byte ∨ t = .char ∨ t = .short) (hd : decode c.code pc = .ok (.ireturn, 1)) (hc : cells ≤ C) (hs : slots ≤ S)
    (hq : Q (some (.int (nar t z))) T.heap locs) : Fin p e below s C S Q (T.setTop (mkF m pc Ls (.int z :: rest))) := by
  obtain ⟨fs, hr, hrun, hended, hW, hsame⟩ := X.leave (v := some (.int (nar t z))) (fun h => by rw [hret] at h; cases h) hlk
  exact ⟨_, _, retN X hx hret ht hd hr, hrun, hended, _, _, rfl, hq, ⟨_, rfl⟩, hW, hsame.mono hc hs⟩
theorem own_retJ (X : Stand p l e R s m args below meth c T locs cells slots) (hx : p.tables.exec = Jvm.exec) (hlk : meth.locks = false) {pc : Nat} {Ls : Array Slot} {z : Int64} (hret : meth.sig.returnType = some .long) (hd : decode c.code pc = .ok (.lreturn, 1)) (hc : cells ≤ C) (hs : slots ≤ S)
    (hq : Q (some (.long z)) T.heap locs) : Fin p e below s C S Q (T.setTop (mkF m pc Ls [.long z])) := by
  obtain ⟨fs, hr, hrun, hended, hW, hsame⟩ := X.leave (v := some (.long z)) (fun h => by rw [hret] at h; cases h) hlk
  exact ⟨_, _, X.lreturnOut hx hret hd hr, hrun, hended, _, _, rfl, hq, ⟨_, rfl⟩, hW, hsame.mono hc hs⟩
theorem own_retR (X : Stand p l e R s m args below meth c T locs cells slots) (hx : p.tables.exec = Jvm.exec) (hlk : meth.locks = false) {pc : Nat} {Ls : Array Slot} {z : Addr} {t : FieldType} (hret : meth.sig.returnType = some t) (ht : t.isReference = true) (hd : decode c.code pc = .ok (.areturn, 1)) (hc : cells ≤ C) (hs : slots ≤ S)
    (hq : Q (some (.ref z)) T.heap locs) : Fin p e below s C S Q (T.setTop (mkF m pc Ls [.ref z])) := by
  obtain ⟨fs, hr, hrun, hended, hW, hsame⟩ := X.leave (v := some (.ref z)) (fun h => by rw [hret] at h; cases h) hlk
  exact ⟨_, _, X.areturnOut hx rfl hret ht hd hr, hrun, hended, _, _, rfl, hq, ⟨_, rfl⟩, hW, hsame.mono hc hs⟩
theorem own_ret0 (X : Stand p l e R s m args below meth c T locs cells slots) (hx : p.tables.exec = Jvm.exec) (hlk : meth.locks = false) {pc : Nat} {Ls : Array Slot} (hret : meth.sig.returnType = none) (hd : decode c.code pc = .ok (.return_, 1)) (hc : cells ≤ C) (hs : slots ≤ S)
    (hq : Q none T.heap locs) : Fin p e below s C S Q (T.setTop (mkF m pc Ls [])) := by
  obtain ⟨fs, hr, hrun, hended, hW, hsame⟩ := X.leave (v := none) (fun _ => rfl) hlk
  exact ⟨_, _, X.returnOut hx hret hd hr, hrun, hended, _, _, rfl, hq, ⟨_, rfl⟩, hW, hsame.mono hc hs⟩
end Ends
section Arrays
variable {Z : State} {h h' : Heap} {a : Addr} {k : ClassId} {ty : FieldType} {n j : Int32} {vs : List Value} {d : Value}
/-- what an array of ints holds at the place j -/
def own_at (xs : List Int32) (j : Int32) : Int32 := xs.getD j.toNatClampNeg 0
def own_atJ (xs : List Int64) (j : Int32) : Int64 := xs.getD j.toNatClampNeg 0
theorem own_mapD (xs : List Int32) (i : Nat) : (xs.map Value.int).getD i (.int 0) = .int (xs.getD i 0) := by
  rw [List.getD_eq_getElem?_getD, List.getD_eq_getElem?_getD, List.getElem?_map]; cases xs[i]? <;> rfl
theorem own_mapDJ (xs : List Int64) (i : Nat) : (xs.map Value.long).getD i (.long 0) = .long (xs.getD i 0) := by
  rw [List.getD_eq_getElem?_getD, List.getD_eq_getElem?_getD, List.getElem?_map]; cases xs[i]? <;> rfl
theorem own_open (V : Arv Z h a k ty n vs d) (hj : ¬ (j < 0) ∧ j < n) : ∃ cl, Arr Z h a cl ty ∧ ¬ (j < 0 ∨ cl.slots.size ≤ j.toNatClampNeg) ∧ True := by
  obtain ⟨cl, Ar, -, S, -, -, -⟩ := V
  exact ⟨cl, Ar, inb_of S hj, trivial⟩
theorem own_readI {xs : List Int32} (V : Arv Z h a k ty n (xs.map Value.int) (.int 0)) (hj : ¬ (j < 0) ∧ j < n) (i : Nat) (hi : j.toNatClampNeg = i) : ∃ cl, Arr Z h a cl ty ∧ ¬ (j < 0 ∨ cl.slots.size ≤ j.toNatClampNeg) ∧ cl.slots[j.toNatClampNeg]? = some (.int (xs.getD i 0)) := by
  obtain ⟨cl, Ar, -, S, -, H, -⟩ := V
  have q := inb_of S hj
  refine ⟨cl, Ar, q, ?_⟩
  rw [H _ (Nat.lt_of_not_le fun y => q (Or.inr y)), own_mapD, hi]
theorem own_readJ {xs : List Int64} (V : Arv Z h a k ty n (xs.map Value.long) (.long 0)) (hj : ¬ (j < 0) ∧ j < n) (i : Nat) (hi : j.toNatClampNeg = i) : ∃ cl, Arr Z h a cl ty ∧ ¬ (j < 0 ∨ cl.slots.size ≤ j.toNatClampNeg) ∧ cl.slots[j.toNatClampNeg]? = some (.long (xs.getD i 0)) := by
  obtain ⟨cl, Ar, -, S, -, H, -⟩ := V
  have q := inb_of S hj
  refine ⟨cl, Ar, q, ?_⟩
  rw [H _ (Nat.lt_of_not_le fun y => q (Or.inr y)), own_mapDJ, hi]
theorem own_setI {xs : List Int32} {v : Int32} (V : Arv Z h a k ty n (xs.map Value.int) (.int 0)) (ln : xs.length = n.toNatClampNeg) (hj : ¬ (j < 0) ∧ j < n) (W : Wr h h' a j.toNatClampNeg (.int v)) (hf : fits ty (.int v) = true) (i : Nat) (hi : j.toNatClampNeg = i) :
    Arv Z h' a k ty n ((xs.set i v).map Value.int) (.int 0) ∧ (xs.set i v).length = n.toNatClampNeg := by
  subst hi
  obtain ⟨cl, Ar, q1, S, q3, H, G⟩ := V
  have q := inb_of S hj
  have W2 := Arv.set Ar q1 S q3 H G hf W j.toNatClampNeg rfl (by rw [List.length_map, ln, ← S]; exact Nat.lt_of_not_le fun y => q (Or.inr y))
  rw [List.map_set]
  exact ⟨W2, by rw [List.length_set]; exact ln⟩
theorem own_setJ {xs : List Int64} {v : Int64} (V : Arv Z h a k ty n (xs.map Value.long) (.long 0)) (ln : xs.length = n.toNatClampNeg) (hj : ¬ (j < 0) ∧ j < n) (W : Wr h h' a j.toNatClampNeg (.long v)) (hf : fits ty (.long v) = true) (i : Nat) (hi : j.toNatClampNeg = i) :
    Arv Z h' a k ty n ((xs.set i v).map Value.long) (.long 0) ∧ (xs.set i v).length = n.toNatClampNeg := by
  subst hi
  obtain ⟨cl, Ar, q1, S, q3, H, G⟩ := V
  have q := inb_of S hj
  have W2 := Arv.set Ar q1 S q3 H G hf W j.toNatClampNeg rfl (by rw [List.length_map, ln, ← S]; exact Nat.lt_of_not_le fun y => q (Or.inr y))
  rw [List.map_set]
  exact ⟨W2, by rw [List.length_set]; exact ln⟩
theorem own_newI (A : Arr Z h a (newA k ty n) ty) (hd : defaultValue ty = .int 0) (q : ¬ n < 0) {xs : List Int32} (hxs : xs = List.replicate n.toNatClampNeg 0) : Arv Z h a k ty n (xs.map Value.int) (.int 0) ∧ xs.length = n.toNatClampNeg := by
  subst hxs
  have V := Arv.new A q
  rw [hd] at V
  have V2 := V.pad (pad_rep [] (.int 0) n.toNatClampNeg)
  rw [List.map_replicate]
  exact ⟨V2, by rw [List.length_replicate]⟩
theorem own_newJ (A : Arr Z h a (newA k ty n) ty) (hd : defaultValue ty = .long 0) (q : ¬ n < 0) {xs : List Int64} (hxs : xs = List.replicate n.toNatClampNeg 0) : Arv Z h a k ty n (xs.map Value.long) (.long 0) ∧ xs.length = n.toNatClampNeg := by
  subst hxs
  have V := Arv.new A q
  rw [hd] at V
  have V2 := V.pad (pad_rep [] (.long 0) n.toNatClampNeg)
  rw [List.map_replicate]
  exact ⟨V2, by rw [List.length_replicate]⟩
end Arrays

theorem own_ltI {x y : Int32} : x < y ↔ x.toInt < y.toInt := Int32.lt_iff_toInt_lt
theorem own_ch (x : Int32) : ¬ ((255 : Int32) < ((x &&& (255 : Int32)).toUInt32.toUInt16.toUInt32.toInt32)) := by
  rw [i2c_mask, own_ltI]
  have h := c_mask x 255 8 (by decide) (by decide)
  have z : (255 : Int32).toInt = 255 := rfl
  omega

theorem own_pos (x : Int32) (h : ¬ ((x &&& (2147483647 : Int32)) = (0 : Int32))) : ¬ ((x &&& (2147483647 : Int32)) < (1 : Int32)) := by
  have e := c_mask x 2147483647 31 (by decide) (by decide)
  have z : (1 : Int32).toInt = 1 := rfl
  have n : (x &&& 2147483647).toInt ≠ (0 : Int32).toInt := fun q => h (Int32.toInt_inj.mp q)
  have z0 : (0 : Int32).toInt = 0 := rfl
  rw [own_ltI]; omega
theorem own_nz (m : Int32) (h : ¬ (m < (1 : Int32))) : ¬ (m = (0 : Int32)) := fun q => by subst q; exact h (by decide)
theorem own_q (c m : Int32) (h : ¬ (m < (1 : Int32))) : ((1 : Int32) + ((c &&& (2147483647 : Int32)) % m)).toInt = 1 + ((c &&& (2147483647 : Int32)) % m).toInt ∧ 0 ≤ ((c &&& (2147483647 : Int32)) % m).toInt ∧ ((c &&& (2147483647 : Int32)) % m).toInt < m.toInt := by
  have e := c_mask c 2147483647 31 (by decide) (by decide)
  have z : (1 : Int32).toInt = 1 := rfl
  rw [own_ltI] at h
  have r := (c_iremV (c &&& 2147483647) m).1 (by omega) (by omega)
  have a := c_iadd 1 ((c &&& 2147483647) % m); have b := rng32 (1 + (c &&& 2147483647) % m); have d := rng32 m
  exact ⟨by omega, r.1, r.2.1⟩
theorem own_q1 (c m : Int32) (h : ¬ (m < (1 : Int32))) : ¬ (((1 : Int32) + ((c &&& (2147483647 : Int32)) % m)) < (1 : Int32)) := by
  have := own_q c m h; have z : (1 : Int32).toInt = 1 := rfl; rw [own_ltI]; omega
theorem own_q2 (c m : Int32) (h : ¬ (m < (1 : Int32))) : ¬ (m < ((1 : Int32) + ((c &&& (2147483647 : Int32)) % m))) := by
  have := own_q c m h; rw [own_ltI]; omega
theorem d2_0 : decode jdk_43_method_3_code 0 = .ok (.iload_n 0, 1) := by decide +kernel
theorem d2_1 : decode jdk_43_method_3_code 1 = .ok (.sipush 255, 3) := by decide +kernel
theorem d2_4 : decode jdk_43_method_3_code 4 = .ok (.if_icmp .gt 7, 3) := by decide +kernel
theorem d2_7 : decode jdk_43_method_3_code 7 = .ok (.iconst 1, 1) := by decide +kernel
theorem d2_8 : decode jdk_43_method_3_code 8 = .ok (.goto 4, 3) := by decide +kernel
theorem d2_11 : decode jdk_43_method_3_code 11 = .ok (.iconst 0, 1) := by decide +kernel
theorem d2_12 : decode jdk_43_method_3_code 12 = .ok (.ireturn, 1) := by decide +kernel
theorem pn_2 : plainName "java/lang/StringLatin1" = true := by first | (simp [plainName, overriddenIn]; done) | decide +kernel
def R2 : Room := { frames := 0, cells := 0, slots := 0, locals := 0 }
def Q2 (Z : State)  (h0 : Heap) (n0 : Nat) (r : Int32) (v : Option Value) (h : Heap) (L : List Loc) : Prop := v = some (.int r) ∧ Fr n0 L ∧ h = h0
def f2_0 (v0 : Int32) : Int32 := (if (255 : Int32) < v0 then (0 : Int32) else (1 : Int32))
set_option maxRecDepth 65536 in
set_option maxHeartbeats 40000000 in
theorem b2_0 {p : Program} {l : Launch} {e : Env} {s : State} {m : MethodId} {args : Array Value} {below : List Frame} {meth : Method} {c : Code} {Z : State} {a0 : Array Value} (B : Ctx p Z s a0 m meth c "java/lang/StringLatin1" "canEncode" jdk_43_method_3_code 1 (some .boolean)) {T0 : State} {locs : List Loc} {h : Heap} (h0 : Heap) (n0 : Nat) (v0 : Int32) (X0 : Stand p l e R2 s m args below meth c T0 locs 0 0) (e0 : T0.heap = h) (N0 : Fr n0 locs) (Z0 : n0 ≤ h.size) (hh0 : h = h0) (r : Int32) (hr : f2_0 v0 = r) :
    Fin p e below s R2.cells R2.slots (Q2 Z  h0 n0 r) (T0.setTop (mkF m 0 #[.val (.int v0)] [])) := by
  obtain ⟨hx, hZ, hw, hby, hml, hret, hown, hnm, hlk⟩ := B
  unfold f2_0 at hr
  refine Fin.by (B := T0.setTop (mkF m 4 #[.val (.int v0)] [(.int (255 : Int32)), (.int v0)])) (fun t k => ?_) ?_
  · show Steps p.tables e below (T0.setTop (mkF m 0 #[.val (.int v0)] [])) _
    refine XS.iloadN X0.here hx rfl (hb hby d2_0) rfl  ?_
    show Steps p.tables e below (T0.setTop (mkF m 1 #[.val (.int v0)] [(.int v0)])) _
    refine XS.sipush X0.here hx rfl (hb hby d2_1) ?_
    exact k
  by_cases hc4 : (255 : Int32) < v0
  · rw [if_pos hc4] at hr
    refine Fin.by (B := T0.setTop (mkF m 11 #[.val (.int v0)] [])) (fun t k => ?_) ?_
    · show Steps p.tables e below (T0.setTop (mkF m 4 #[.val (.int v0)] [(.int (255 : Int32)), (.int v0)])) _
      exact XS.icmpYes X0.here hx rfl (pc0 := 4) (pc' := 11) rfl (hb hby d2_4) rfl (tlt hc4).2.2.1 (by decide) (by decide) k
    refine Fin.by (B := T0.setTop (mkF m 12 #[.val (.int v0)] [(.int (0 : Int32))])) (fun t k => ?_) ?_
    · show Steps p.tables e below (T0.setTop (mkF m 11 #[.val (.int v0)] [])) _
      refine XS.iconst X0.here hx rfl (hb hby d2_11) ?_
      exact k
    subst hr
    exact own_retN X0 hx hlk (t := .boolean) hret (by simp) (hb hby d2_12) (by decide) (by decide) ⟨rfl, N0, (e0.trans hh0)⟩
  · rw [if_neg hc4] at hr
    refine Fin.by (B := T0.setTop (mkF m 7 #[.val (.int v0)] [])) (fun t k => ?_) ?_
    · show Steps p.tables e below (T0.setTop (mkF m 4 #[.val (.int v0)] [(.int (255 : Int32)), (.int v0)])) _
      exact XS.icmpNo X0.here hx rfl (hb hby d2_4) rfl (flt hc4).2.2.1 k
    refine Fin.by (B := T0.setTop (mkF m 12 #[.val (.int v0)] [(.int (1 : Int32))])) (fun t k => ?_) ?_
    · show Steps p.tables e below (T0.setTop (mkF m 7 #[.val (.int v0)] [])) _
      refine XS.iconst X0.here hx rfl (hb hby d2_7) ?_
      show Steps p.tables e below (T0.setTop (mkF m 8 #[.val (.int v0)] [(.int (1 : Int32))])) _
      refine XS.goto X0.here hx rfl (pc0 := 8) (pc' := 12) rfl (hb hby d2_8) (by decide) (by decide) ?_
      exact k
    subst hr
    exact own_retN X0 hx hlk (t := .boolean) hret (by simp) (hb hby d2_12) (by decide) (by decide) ⟨rfl, N0, (e0.trans hh0)⟩
theorem ef_2 (m : MethodId) (v0 : Int32) : entryFrame m #[(.int v0)] 1 = (mkF m 0 #[.val (.int v0)] []) := by first | (simp [entryFrame, mkF, argsToLocals, Value.category]; done) | rfl
set_option maxRecDepth 65536 in
set_option maxHeartbeats 40000000 in
theorem rm2 (l : Launch) (Z : State) (a0 : Array Value) (hw : ∀ d ∈ tables_1, d.before a0 Z = true) (ws : List Jvm.Cond) (v0 : Int32) (h0 : Heap) (n0 : Nat) (Z0 : n0 ≤ h0.size) :
    MetFree l (⟨"java/lang/StringLatin1", "canEncode", "(C)Z"⟩ : MethodName) (head1 (Jvm.Cond.code (⟨"java/lang/StringLatin1", "canEncode", "(C)Z"⟩ : MethodName) jdk_43_method_3_code 1 (some .boolean) :: ws) R2) (fun a U => a = #[(.int v0)] ∧ Z.Warmed39 U.vm ∧ U.heap = h0) (fun _ _ _ _ _ => True) (fun _ U o U' => ∃ v L, o = .returned v ∧ (Q2 Z  h0 n0 (f2_0 v0)) v U'.heap L ∧ FrameEnd U o U' L R2.cells R2.slots) := by
  refine MetFree.of_bodySF (plainFor_of_name pn_2) hisR ?_
  intro p e s m args below meth c s₁ Bd hml0 hP hK
  obtain ⟨rfl, hZ, hh⟩ := hP
  have B : Ctx p Z s a0 m meth c "java/lang/StringLatin1" "canEncode" jdk_43_method_3_code 1 (some .boolean) := ⟨Bd.exec, hZ, hw, Bd.bytes, hml0, Bd.returns, findClass_of_methodNamed Bd.named, (name_of_methodNamed Bd.named Bd.method).1, Bd.notSynchronized⟩
  have X0 : Stand p l e R2 s m #[(.int v0)] below meth c s₁ [] 0 0 := Stand.of_body Bd
  have e0 : s₁.heap = h0 := by rw [← hh, Bd.state]; rfl
  have K := Keep.refl h0 []
  show Fin p e below s R2.cells R2.slots (Q2 Z  h0 n0 (f2_0 v0)) (s₁.setTop (entryFrame m #[(.int v0)] 1))
  refine Fin.by (fun t k => castTop (ef_2 m v0) k) ?_
  exact b2_0 B h0 n0 v0 X0 e0 (Fr.nil n0) Z0 rfl  _ rfl
theorem pd_0 : parseMethodDescriptor "(C)Z" = some ⟨[.char], some .boolean⟩ := by decide +kernel
theorem d3_0 : decode jdk_43_method_46_code 0 = .ok (.iconst 1, 1) := by decide +kernel
theorem d3_1 : decode jdk_43_method_46_code 1 = .ok (.newarray .byte, 2) := by decide +kernel
theorem d3_3 : decode jdk_43_method_46_code 3 = .ok (.dup, 1) := by decide +kernel
theorem d3_4 : decode jdk_43_method_46_code 4 = .ok (.iconst 0, 1) := by decide +kernel
theorem d3_5 : decode jdk_43_method_46_code 5 = .ok (.iload_n 0, 1) := by decide +kernel
theorem d3_6 : decode jdk_43_method_46_code 6 = .ok (.i2b, 1) := by decide +kernel
theorem d3_7 : decode jdk_43_method_46_code 7 = .ok (.bastore, 1) := by decide +kernel
theorem d3_8 : decode jdk_43_method_46_code 8 = .ok (.areturn, 1) := by decide +kernel
theorem pn_3 : plainName "java/lang/StringLatin1" = true := by first | (simp [plainName, overriddenIn]; done) | decide +kernel
def R3 : Room := { frames := 0, cells := 1, slots := 1, locals := 0 }
def Q3 (Z : State)  (h0 : Heap) (n0 : Nat) (r : List Int32) (v : Option Value) (h : Heap) (L : List Loc) : Prop := ∃ (b : Addr) (kb : ClassId), v = some (.ref b) ∧ Fr n0 L ∧ n0 ≤ b ∧ h0.size ≤ b ∧ Keep h0 h [] ∧ Arv Z h b kb .byte (1 : Int32) (r.map Value.int) (.int 0) ∧ r.length = (1 : Int32).toNatClampNeg
def f3_0 (v0 : Int32) : List Int32 := ([((v0.toInt8.toInt32).toInt8.toInt32)] : List Int32)
set_option maxRecDepth 65536 in
set_option maxHeartbeats 40000000 in
theorem b3_0 {p : Program} {l : Launch} {e : Env} {s : State} {m : MethodId} {args : Array Value} {below : List Frame} {meth : Method} {c : Code} {Z : State} {a0 : Array Value} (B : Ctx p Z s a0 m meth c "java/lang/StringLatin1" "toBytes" jdk_43_method_46_code 1 (some (.array .byte))) {T0 : State} {locs : List Loc} {h : Heap} (h0 : Heap) (n0 : Nat) (v0 : Int32) (X0 : Stand p l e R3 s m args below meth c T0 locs 0 0) (e0 : T0.heap = h) (N0 : Fr n0 locs) (Z0 : n0 ≤ h.size) (K : Keep h0 h []) (r : List Int32) (hr : f3_0 v0 = r) :
    Fin p e below s R3.cells R3.slots (Q3 Z  h0 n0 r) (T0.setTop (mkF m 0 #[.val (.int v0)] [])) := by
  obtain ⟨hx, hZ, hw, hby, hml, hret, hown, hnm, hlk⟩ := B
  unfold f3_0 at hr
  refine Fin.by (B := T0.setTop (mkF m 1 #[.val (.int v0)] [(.int (1 : Int32))])) (fun t k => ?_) ?_
  · show Steps p.tables e below (T0.setTop (mkF m 0 #[.val (.int v0)] [])) _
    refine XS.iconst X0.here hx rfl (hb hby d3_0) ?_
    exact k
  obtain ⟨T1, h1, k1, X1, e1, X1e, A1, st1⟩ := newP X0 hx hZ (hw _ (List.mem_of_getElem? (i := 15) rfl)) e0 (g := (mkF m 1 #[.val (.int v0)] [(.int (1 : Int32))])) rfl (hb hby d3_1) rfl (by decide) (cap := 1) (by decide) (by decide) (by decide) (by decide)
  obtain ⟨b1, g1⟩ : ∃ z, z = h.size := ⟨_, rfl⟩
  rw [← g1] at A1 st1
  have g_b1 : n0 ≤ b1 := Nat.le_trans Z0 (Nat.le_of_eq g1.symm)
  have sz_b1 : h0.size ≤ b1 := Nat.le_trans K.1 (Nat.le_of_eq g1.symm)
  have Z1 : n0 ≤ h1.size := Nat.le_trans Z0 X1e.1
  have K1 := K.ext X1e
  obtain ⟨V_b1_1, ln_b1_1⟩ : Arv Z h1 b1 k1 .byte (1 : Int32) (([0] : List Int32).map Value.int) (.int 0) ∧ ([0] : List Int32).length = (1 : Int32).toNatClampNeg := own_newI A1 rfl (by decide) (xs := ([0] : List Int32)) (by decide)
  refine Fin.by (B := T1.setTop (mkF m 3 #[.val (.int v0)] [(.ref b1)])) (fun t k => st1 t k) ?_
  refine Fin.by (B := T1.setTop (mkF m 7 #[.val (.int v0)] [(.int (v0.toInt8.toInt32)), (.int (0 : Int32)), (.ref b1), (.ref b1)])) (fun t k => ?_) ?_
  · show Steps p.tables e below (T1.setTop (mkF m 3 #[.val (.int v0)] [(.ref b1)])) _
    refine XS.dup X1.here hx rfl (hb hby d3_3) rfl rfl ?_
    show Steps p.tables e below (T1.setTop (mkF m 4 #[.val (.int v0)] [(.ref b1), (.ref b1)])) _
    refine XS.iconst X1.here hx rfl (hb hby d3_4) ?_
    show Steps p.tables e below (T1.setTop (mkF m 5 #[.val (.int v0)] [(.int (0 : Int32)), (.ref b1), (.ref b1)])) _
    refine XS.iloadN X1.here hx rfl (hb hby d3_5) rfl  ?_
    show Steps p.tables e below (T1.setTop (mkF m 6 #[.val (.int v0)] [(.int v0), (.int (0 : Int32)), (.ref b1), (.ref b1)])) _
    refine XS.i2b X1.here hx rfl (hb hby d3_6) rfl ?_
    exact k
  have hin2 : ¬ ((0 : Int32) < 0) ∧ (0 : Int32) < (1 : Int32) := by decide
  obtain ⟨cl2, Ar2, hi2, q2⟩ := own_open V_b1_1 hin2
  obtain ⟨T2, h2, X2, e2, W2, st2⟩ := stB X1 hx hZ e1 Ar2 (j := (0 : Int32)) hi2 (g := (mkF m 7 #[.val (.int v0)] [(.int (v0.toInt8.toInt32)), (.int (0 : Int32)), (.ref b1), (.ref b1)])) rfl rfl (hb hby d3_7)
  obtain ⟨V_b1_2, ln_b1_2⟩ : Arv Z h2 b1 k1 .byte (1 : Int32) (([((v0.toInt8.toInt32).toInt8.toInt32)] : List Int32).map Value.int) (.int 0) ∧ ([((v0.toInt8.toInt32).toInt8.toInt32)] : List Int32).length = (1 : Int32).toNatClampNeg := own_setI V_b1_1 ln_b1_1 hin2 W2 (fits_nar_byte _) 0 (by decide)
  have N2 := Fr.snoc X2 N0 g_b1
  have Z2 : n0 ≤ h2.size := Nat.le_trans Z1 (Nat.le_of_eq W2.size.symm)
  have K2 := K1.wr W2 (Or.inr sz_b1)
  refine Fin.by (B := T2.setTop (mkF m 8 #[.val (.int v0)] [(.ref b1)])) (fun t k => st2 t k) ?_
  subst hr
  exact own_retR X2 hx hlk hret rfl (hb hby d3_8) (by decide) (by decide) ⟨b1, k1, rfl, N2, g_b1, sz_b1, (by rw [e2]; exact K2), (by rw [e2]; exact V_b1_2), ln_b1_2⟩
theorem ef_3 (m : MethodId) (v0 : Int32) : entryFrame m #[(.int v0)] 1 = (mkF m 0 #[.val (.int v0)] []) := by first | (simp [entryFrame, mkF, argsToLocals, Value.category]; done) | rfl
set_option maxRecDepth 65536 in
set_option maxHeartbeats 40000000 in
theorem rm3 (l : Launch) (Z : State) (a0 : Array Value) (hw : ∀ d ∈ tables_1, d.before a0 Z = true) (ws : List Jvm.Cond) (v0 : Int32) (h0 : Heap) (n0 : Nat) (Z0 : n0 ≤ h0.size) :
    MetFree l (⟨"java/lang/StringLatin1", "toBytes", "(C)[B"⟩ : MethodName) (head1 (Jvm.Cond.code (⟨"java/lang/StringLatin1", "toBytes", "(C)[B"⟩ : MethodName) jdk_43_method_46_code 1 (some (.array .byte)) :: ws) R3) (fun a U => a = #[(.int v0)] ∧ Z.Warmed39 U.vm ∧ U.heap = h0) (fun _ _ _ _ _ => True) (fun _ U o U' => ∃ v L, o = .returned v ∧ (Q3 Z  h0 n0 (f3_0 v0)) v U'.heap L ∧ FrameEnd U o U' L R3.cells R3.slots) := by
  refine MetFree.of_bodySF (plainFor_of_name pn_3) hisR ?_
  intro p e s m args below meth c s₁ Bd hml0 hP hK
  obtain ⟨rfl, hZ, hh⟩ := hP
  have B : Ctx p Z s a0 m meth c "java/lang/StringLatin1" "toBytes" jdk_43_method_46_code 1 (some (.array .byte)) := ⟨Bd.exec, hZ, hw, Bd.bytes, hml0, Bd.returns, findClass_of_methodNamed Bd.named, (name_of_methodNamed Bd.named Bd.method).1, Bd.notSynchronized⟩
  have X0 : Stand p l e R3 s m #[(.int v0)] below meth c s₁ [] 0 0 := Stand.of_body Bd
  have e0 : s₁.heap = h0 := by rw [← hh, Bd.state]; rfl
  have K := Keep.refl h0 []
  show Fin p e below s R3.cells R3.slots (Q3 Z  h0 n0 (f3_0 v0)) (s₁.setTop (entryFrame m #[(.int v0)] 1))
  refine Fin.by (fun t k => castTop (ef_3 m v0) k) ?_
  exact b3_0 B h0 n0 v0 X0 e0 (Fr.nil n0) Z0 K _ rfl
theorem pd_1 : parseMethodDescriptor "(C)[B" = some ⟨[.char], some (.array .byte)⟩ := by decide +kernel
theorem d4_0 : decode jdk_42_method_151_code 0 = .ok (.aload_n 0, 1) := by decide +kernel
theorem d4_1 : decode jdk_42_method_151_code 1 = .ok (.invokespecial 1, 3) := by decide +kernel
theorem d4_4 : decode jdk_42_method_151_code 4 = .ok (.aload_n 0, 1) := by decide +kernel
theorem d4_5 : decode jdk_42_method_151_code 5 = .ok (.aload_n 1, 1) := by decide +kernel
theorem d4_6 : decode jdk_42_method_151_code 6 = .ok (.putfield 9, 3) := by decide +kernel
theorem d4_9 : decode jdk_42_method_151_code 9 = .ok (.aload_n 0, 1) := by decide +kernel
theorem d4_10 : decode jdk_42_method_151_code 10 = .ok (.iload_n 2, 1) := by decide +kernel
theorem d4_11 : decode jdk_42_method_151_code 11 = .ok (.putfield 15, 3) := by decide +kernel
theorem d4_14 : decode jdk_42_method_151_code 14 = .ok (.return_, 1) := by decide +kernel
theorem pn_4 : plainName "java/lang/String" = true := by first | (simp [plainName, overriddenIn]; done) | decide +kernel
def R4 : Room := { frames := 1, cells := 0, slots := 0, locals := 12 }
def Q4 (Z : State) (o0 : Addr) (o1 : Addr) (h0 : Heap) (n0 : Nat) (r : Int32) (v : Option Value) (h : Heap) (L : List Loc) : Prop := v = none ∧ Fr n0 L ∧ Keep h0 h [o0] ∧ Exa Z h o0 "java/lang/String" ∧ Fld Z h o0 "java/lang/String" "value" "[B" (.ref o1) ∧ Fld Z h o0 "java/lang/String" "coder" "B" (.int r)
def f4_0 (v2 : Int32) (o0_coder : Int32) : Int32 := (nar .byte v2)
set_option maxRecDepth 65536 in
set_option maxHeartbeats 40000000 in
theorem b4_0 {p : Program} {l : Launch} {e : Env} {s : State} {m : MethodId} {args : Array Value} {below : List Frame} {meth : Method} {c : Code} {Z : State} {a0 : Array Value} (B : Ctx p Z s a0 m meth c "java/lang/String" "<init>" jdk_42_method_151_code 3 none) {T0 : State} {locs : List Loc} {h : Heap} (h0 : Heap) (n0 : Nat) (o0 : Addr) (o1 : Addr) (v2 : Int32) (o0_value : Value) (o0_coder : Int32) (X0 : Stand p l e R4 s m args below meth c T0 locs 0 0) (e0 : T0.heap = h) (N0 : Fr n0 locs) (Z0 : n0 ≤ h.size) (K : Keep h0 h [o0]) (E_o0 : Exa Z h o0 "java/lang/String") (F_o0_value : Fld Z h o0 "java/lang/String" "value" "[B" o0_value) (F_o0_coder : Fld Z h o0 "java/lang/String" "coder" "B" (.int o0_coder)) (g_o0 : n0 ≤ o0) (r : Int32) (hr : f4_0 v2 o0_coder = r) :
    Fin p e below s R4.cells R4.slots (Q4 Z o0 o1 h0 n0 r) (T0.setTop (mkF m 0 #[.val (.ref o0), .val (.ref o1), .val (.int v2)] [])) := by
  obtain ⟨hx, hZ, hw, hby, hml, hret, hown, hnm, hlk⟩ := B
  unfold f4_0 at hr
  refine Fin.by (B := T0.setTop (mkF m 1 #[.val (.ref o0), .val (.ref o1), .val (.int v2)] [(.ref o0)])) (fun t k => ?_) ?_
  · show Steps p.tables e below (T0.setTop (mkF m 0 #[.val (.ref o0), .val (.ref o1), .val (.int v2)] [])) _
    refine XS.aloadN X0.here hx rfl (hb hby d4_0) rfl rfl ?_
    exact k
  obtain ⟨T1, X1, e1, st1⟩ := initO X0 hx hZ hown (hw _ (List.mem_of_getElem? (i := 20) rfl)) (hw _ (List.mem_of_getElem? (i := 21) rfl)) (hw _ (List.mem_of_getElem? (i := 22) rfl)) e0 (g := (mkF m 1 #[.val (.ref o0), .val (.ref o1), .val (.int v2)] [(.ref o0)])) rfl (by rw [hml]; rfl) rfl (hb hby d4_1) (by decide) (W := 0) (by show 2 * 0 + _ ≤ _; exact Nat.le_of_eq rfl) (by decide)
  refine Fin.by (B := T1.setTop (mkF m 4 #[.val (.ref o0), .val (.ref o1), .val (.int v2)] [])) (fun t k => st1 t k) ?_
  refine Fin.by (B := T1.setTop (mkF m 6 #[.val (.ref o0), .val (.ref o1), .val (.int v2)] [(.ref o1), (.ref o0)])) (fun t k => ?_) ?_
  · show Steps p.tables e below (T1.setTop (mkF m 4 #[.val (.ref o0), .val (.ref o1), .val (.int v2)] [])) _
    refine XS.aloadN X1.here hx rfl (hb hby d4_4) rfl rfl ?_
    show Steps p.tables e below (T1.setTop (mkF m 5 #[.val (.ref o0), .val (.ref o1), .val (.int v2)] [(.ref o0)])) _
    refine XS.aloadN X1.here hx rfl (hb hby d4_5) rfl rfl ?_
    exact k
  obtain ⟨T2, h2, X2, e2, W2, st2⟩ := putF X1 hx hZ hown (host := "") (Or.inl (hw _ (List.mem_of_getElem? (i := 23) rfl))) Via.refl e1 F_o0_value E_o0 (Or.inr ⟨(hw _ (List.mem_of_getElem? (i := 24) rfl)), rfl, hnm⟩) (hw _ (List.mem_of_getElem? (i := 11) rfl)) (ty := (.array .byte)) (by decide) rfl rfl (g := (mkF m 6 #[.val (.ref o0), .val (.ref o1), .val (.int v2)] [(.ref o1), (.ref o0)])) rfl rfl (hb hby d4_6)
  have E_o0_2 := E_o0.wr W2
  have F_o0_value_2 := F_o0_value.same W2
  have F_o0_coder_2 := F_o0_coder.other W2 (Or.inr (slot_ne (Or.inr (hw _ (List.mem_of_getElem? (i := 26) rfl))) (Or.inr (hw _ (List.mem_of_getElem? (i := 24) rfl))) (by decide) (t := .byte) (t' := (.array .byte)) (by decide) (by decide)))
  have N2 := Fr.snoc X2 N0 g_o0
  have Z2 : n0 ≤ h2.size := Nat.le_trans Z0 (Nat.le_of_eq W2.size.symm)
  have K2 := K.wr W2 (Or.inl (by simp))
  refine Fin.by (B := T2.setTop (mkF m 9 #[.val (.ref o0), .val (.ref o1), .val (.int v2)] [])) (fun t k => st2 t k) ?_
  refine Fin.by (B := T2.setTop (mkF m 11 #[.val (.ref o0), .val (.ref o1), .val (.int v2)] [(.int v2), (.ref o0)])) (fun t k => ?_) ?_
  · show Steps p.tables e below (T2.setTop (mkF m 9 #[.val (.ref o0), .val (.ref o1), .val (.int v2)] [])) _
    refine XS.aloadN X2.here hx rfl (hb hby d4_9) rfl rfl ?_
    show Steps p.tables e below (T2.setTop (mkF m 10 #[.val (.ref o0), .val (.ref o1), .val (.int v2)] [(.ref o0)])) _
    refine XS.iloadN X2.here hx rfl (hb hby d4_10) rfl  ?_
    exact k
  obtain ⟨T3, h3, X3, e3, W3, st3⟩ := putFN X2 hx hZ hown (hw _ (List.mem_of_getElem? (i := 25) rfl)) Via.refl e2 F_o0_coder_2 E_o0_2 (Or.inr ⟨(hw _ (List.mem_of_getElem? (i := 26) rfl)), rfl, hnm⟩) (hw _ (List.mem_of_getElem? (i := 11) rfl)) (ty := .byte) (v' := (.int (nar .byte v2))) (by decide) rfl (fits_nar_byte _) (g := (mkF m 11 #[.val (.ref o0), .val (.ref o1), .val (.int v2)] [(.int v2), (.ref o0)])) rfl rfl (hb hby d4_11)
  have E_o0_3 := E_o0_2.wr W3
  have F_o0_value_3 := F_o0_value_2.other W3 (Or.inr (slot_ne (Or.inr (hw _ (List.mem_of_getElem? (i := 24) rfl))) (Or.inr (hw _ (List.mem_of_getElem? (i := 26) rfl))) (by decide) (t := (.array .byte)) (t' := .byte) (by decide) (by decide)))
  have F_o0_coder_3 := F_o0_coder_2.same W3
  have N3 := Fr.snoc X3 N2 g_o0
  have Z3 : n0 ≤ h3.size := Nat.le_trans Z2 (Nat.le_of_eq W3.size.symm)
  have K3 := K2.wr W3 (Or.inl (by simp))
  refine Fin.by (B := T3.setTop (mkF m 14 #[.val (.ref o0), .val (.ref o1), .val (.int v2)] [])) (fun t k => st3 t k) ?_
  subst hr
  exact own_ret0 X3 hx hlk hret (hb hby d4_14) (by decide) (by decide) ⟨rfl, N3, (by rw [e3]; exact K3), (by rw [e3]; exact E_o0_3), (by rw [e3]; exact F_o0_value_3), (by rw [e3]; exact F_o0_coder_3)⟩
theorem ef_4 (m : MethodId) (o0 : Addr) (o1 : Addr) (v2 : Int32) : entryFrame m #[(.ref o0), (.ref o1), (.int v2)] 3 = (mkF m 0 #[.val (.ref o0), .val (.ref o1), .val (.int v2)] []) := by first | (simp [entryFrame, mkF, argsToLocals, Value.category]; done) | rfl
set_option maxRecDepth 65536 in
set_option maxHeartbeats 40000000 in
theorem rm4 (l : Launch) (Z : State) (a0 : Array Value) (hw : ∀ d ∈ tables_1, d.before a0 Z = true) (ws : List Jvm.Cond) (o0 : Addr) (o1 : Addr) (v2 : Int32) (o0_value : Value) (o0_coder : Int32) (h0 : Heap) (n0 : Nat) (Z0 : n0 ≤ h0.size) (E_o0 : Exa Z h0 o0 "java/lang/String") (F_o0_value : Fld Z h0 o0 "java/lang/String" "value" "[B" o0_value) (F_o0_coder : Fld Z h0 o0 "java/lang/String" "coder" "B" (.int o0_coder)) (g_o0 : n0 ≤ o0) :
    MetFree l (⟨"java/lang/String", "<init>", "([BB)V"⟩ : MethodName) (head1 (Jvm.Cond.code (⟨"java/lang/String", "<init>", "([BB)V"⟩ : MethodName) jdk_42_method_151_code 3 none :: ws) R4) (fun a U => a = #[(.ref o0), (.ref o1), (.int v2)] ∧ Z.Warmed39 U.vm ∧ U.heap = h0) (fun _ _ _ _ _ => True) (fun _ U o U' => ∃ v L, o = .returned v ∧ (Q4 Z o0 o1 h0 n0 (f4_0 v2 o0_coder)) v U'.heap L ∧ FrameEnd U o U' L R4.cells R4.slots) := by
  refine MetFree.of_bodySF (plainFor_of_name pn_4) hisR ?_
  intro p e s m args below meth c s₁ Bd hml0 hP hK
  obtain ⟨rfl, hZ, hh⟩ := hP
  have B : Ctx p Z s a0 m meth c "java/lang/String" "<init>" jdk_42_method_151_code 3 none := ⟨Bd.exec, hZ, hw, Bd.bytes, hml0, Bd.returns, findClass_of_methodNamed Bd.named, (name_of_methodNamed Bd.named Bd.method).1, Bd.notSynchronized⟩
  have X0 : Stand p l e R4 s m #[(.ref o0), (.ref o1), (.int v2)] below meth c s₁ [] 0 0 := Stand.of_body Bd
  have e0 : s₁.heap = h0 := by rw [← hh, Bd.state]; rfl
  have K := Keep.refl h0 [o0]
  show Fin p e below s R4.cells R4.slots (Q4 Z o0 o1 h0 n0 (f4_0 v2 o0_coder)) (s₁.setTop (entryFrame m #[(.ref o0), (.ref o1), (.int v2)] 3))
  refine Fin.by (fun t k => castTop (ef_4 m o0 o1 v2) k) ?_
  exact b4_0 B h0 n0 o0 o1 v2 o0_value o0_coder X0 e0 (Fr.nil n0) Z0 K E_o0 F_o0_value F_o0_coder g_o0 _ rfl
theorem pd_2 : parseMethodDescriptor "([BB)V" = some ⟨[(.array .byte), .byte], none⟩ := by decide +kernel
theorem d1_0 : decode jdk_42_method_139_code 0 = .ok (.getstatic 38, 3) := by decide +kernel
theorem d1_3 : decode jdk_42_method_139_code 3 = .ok (.ifCond .eq 23, 3) := by decide +kernel
theorem d1_6 : decode jdk_42_method_139_code 6 = .ok (.iload_n 0, 1) := by decide +kernel
theorem d1_7 : decode jdk_42_method_139_code 7 = .ok (.invokestatic 1015, 3) := by decide +kernel
theorem d1_10 : decode jdk_42_method_139_code 10 = .ok (.ifCond .eq 16, 3) := by decide +kernel
theorem d1_13 : decode jdk_42_method_139_code 13 = .ok (.new 10, 3) := by decide +kernel
theorem d1_16 : decode jdk_42_method_139_code 16 = .ok (.dup, 1) := by decide +kernel
theorem d1_17 : decode jdk_42_method_139_code 17 = .ok (.iload_n 0, 1) := by decide +kernel
theorem d1_18 : decode jdk_42_method_139_code 18 = .ok (.invokestatic 1018, 3) := by decide +kernel
theorem d1_21 : decode jdk_42_method_139_code 21 = .ok (.iconst 0, 1) := by decide +kernel
theorem d1_22 : decode jdk_42_method_139_code 22 = .ok (.invokespecial 209, 3) := by decide +kernel
theorem d1_25 : decode jdk_42_method_139_code 25 = .ok (.areturn, 1) := by decide +kernel
theorem pn_1 : plainName "java/lang/String" = true := by first | (simp [plainName, overriddenIn]; done) | decide +kernel
def R1 : Room := { frames := 2, cells := 2, slots := 5, locals := 27 }
def Q1 (Z : State)  (h0 : Heap) (n0 : Nat) (r : Unit) (v : Option Value) (h : Heap) (L : List Loc) : Prop := ∃ (b : Addr) , v = some (.ref b) ∧ Fr n0 L ∧ n0 ≤ b ∧ h0.size ≤ b ∧ Keep h0 h []
def f1_0 (v0 : Int32) : Unit := ()
set_option maxRecDepth 65536 in
set_option maxHeartbeats 40000000 in
theorem b1_0 {p : Program} {l : Launch} {e : Env} {s : State} {m : MethodId} {args : Array Value} {below : List Frame} {meth : Method} {c : Code} {Z : State} {a0 : Array Value} (B : Ctx p Z s a0 m meth c "java/lang/String" "valueOf" jdk_42_method_139_code 1 (some (.object "java/lang/String"))) {T0 : State} {locs : List Loc} {h : Heap} (h0 : Heap) (n0 : Nat) (v0 : Int32) (cs : Int32) (X0 : Stand p l e R1 s m args below meth c T0 locs 0 0) (e0 : T0.heap = h) (N0 : Fr n0 locs) (Z0 : n0 ≤ h.size) (K : Keep h0 h []) (O : Old Z n0 h) (S_cs : Sta Z Z.heap "java/lang/String" "COMPACT_STRINGS" "Z" (.int cs)) (P5 : ¬ (cs = (0 : Int32))) (hv : ¬ ((255 : Int32) < v0)) (r : Unit) (hr : f1_0 v0 = r) :
    Fin p e below s R1.cells R1.slots (Q1 Z  h0 n0 r) (T0.setTop (mkF m 0 #[.val (.int v0)] [])) := by
  obtain ⟨hx, hZ, hw, hby, hml, hret, hown, hnm, hlk⟩ := B
  unfold f1_0 at hr
  obtain ⟨T1, X1, e1, st1⟩ := getS2 X0 hx hZ hown (host := "") (Or.inl (hw _ (List.mem_of_getElem? (i := 5) rfl))) Via.refl e0 (S_cs.ext O.2) (g := (mkF m 0 #[.val (.int v0)] [])) rfl (hb hby d1_0)
  refine Fin.by (B := T1.setTop (mkF m 3 #[.val (.int v0)] [(.int cs)])) (fun t k => st1 t k) ?_
  have hc3 : ¬ (cs = (0 : Int32)) := P5
  refine Fin.by (B := T1.setTop (mkF m 6 #[.val (.int v0)] [])) (fun t k => ?_) ?_
  · show Steps p.tables e below (T1.setTop (mkF m 3 #[.val (.int v0)] [(.int cs)])) _
    exact XS.ifNo X1.here hx rfl (hb hby d1_3) rfl ((if0 _ _).trans (feq hc3).1) k
  refine Fin.by (B := T1.setTop (mkF m 7 #[.val (.int v0)] [(.int v0)])) (fun t k => ?_) ?_
  · show Steps p.tables e below (T1.setTop (mkF m 6 #[.val (.int v0)] [])) _
    refine XS.iloadN X1.here hx rfl (hb hby d1_6) rfl  ?_
    exact k
  -- pc 7: java/lang/StringLatin1.canEncode
  obtain ⟨_, _, ⟨T2, L2, k2, n2⟩, -, X2, ⟨Lc2, hQ2, l2, y2, z2⟩, st2⟩ := Jvm.LawKit.callS X1 hx (y := (⟨"java/lang/StringLatin1", "canEncode", "(C)Z"⟩ : MethodName)) hown (mvT hZ (hw _ (List.mem_of_getElem? (i := 6) rfl))) (mvT hZ (hw _ (List.mem_of_getElem? (i := 7) rfl))) (mvT hZ (hw _ (List.mem_of_getElem? (i := 8) rfl))) (mvT hZ (hw _ (List.mem_of_getElem? (i := 9) rfl))) (by decide) (backOf (W := 0) (rm2 l Z a0 hw [] v0 h n0 Z0 ) hZ (hw _ (List.mem_of_getElem? (i := 9) rfl)) (hw _ (List.mem_of_getElem? (i := 8) rfl)) (by decide) (by decide)) (g := (mkF m 7 #[.val (.int v0)] [(.int v0)])) rfl (by rw [hml]; rfl) (argsL := [(.int v0)]) (rest := []) (lenOf pd_0 rfl) rfl (by show 2 * 0 + _ ≤ _; exact Nat.le_of_eq rfl) (hb hby d1_7) (fun _ _ => ⟨rfl, e1, (by decide : 0 + R2.cells ≤ _), (by decide : 0 + R2.slots ≤ _)⟩)
  dsimp only [Pt.U, Pt.locs, Pt.cells, Pt.slots] at X2 l2 y2 z2 st2 hQ2
  subst l2 y2 z2
  obtain ⟨rfl, Nq2, e2⟩ := hQ2
  have N2 := Fr.app N0 Nq2
  refine Fin.by (B := T2.setTop (mkF m 10 #[.val (.int v0)] [(.int (f2_0 v0))])) (fun t k => st2 t k) ?_
  have hc10 : ¬ ((f2_0 v0) = (0 : Int32)) := by unfold f2_0; rw [if_neg hv]; decide
  refine Fin.by (B := T2.setTop (mkF m 13 #[.val (.int v0)] [])) (fun t k => ?_) ?_
  · show Steps p.tables e below (T2.setTop (mkF m 10 #[.val (.int v0)] [(.int (f2_0 v0))])) _
    exact XS.ifNo X2.here hx rfl (hb hby d1_10) rfl ((if0 _ _).trans (feq hc10).1) k
  obtain ⟨T3, h3, X3, e3, X3e, A3, D3, -, st3⟩ := newO X2 hx hZ hown (hw _ (List.mem_of_getElem? (i := 10) rfl)) (hw _ (List.mem_of_getElem? (i := 11) rfl)) (hw _ (List.mem_of_getElem? (i := 3) rfl)) e2 (g := (mkF m 13 #[.val (.int v0)] [])) rfl (hb hby d1_13) (by decide) (by decide)
  obtain ⟨b13, g3⟩ : ∃ z, z = h.size := ⟨_, rfl⟩
  rw [← g3] at A3 D3 st3
  have g_b13 : n0 ≤ b13 := Nat.le_trans Z0 (Nat.le_of_eq g3.symm)
  have sz_b13 : h0.size ≤ b13 := Nat.le_trans K.1 (Nat.le_of_eq g3.symm)
  have Z3 : n0 ≤ h3.size := Nat.le_trans Z0 X3e.1
  have K3 := K.ext X3e
  have O3 := O.ext X3e
  have E_b13_3 := A3
  have F_b13_value_3 : Fld Z h3 b13 "java/lang/String" "value" "[B" .null := D3 (Or.inr (hw _ (List.mem_of_getElem? (i := 24) rfl))) (ty := (.array .byte)) (by decide)
  have F_b13_coder_3 : Fld Z h3 b13 "java/lang/String" "coder" "B" (.int (0 : Int32)) := D3 (Or.inr (hw _ (List.mem_of_getElem? (i := 26) rfl))) (ty := .byte) (by decide)
  refine Fin.by (B := T3.setTop (mkF m 16 #[.val (.int v0)] [(.ref b13)])) (fun t k => st3 t k) ?_
  refine Fin.by (B := T3.setTop (mkF m 18 #[.val (.int v0)] [(.int v0), (.ref b13), (.ref b13)])) (fun t k => ?_) ?_
  · show Steps p.tables e below (T3.setTop (mkF m 16 #[.val (.int v0)] [(.ref b13)])) _
    refine XS.dup X3.here hx rfl (hb hby d1_16) rfl rfl ?_
    show Steps p.tables e below (T3.setTop (mkF m 17 #[.val (.int v0)] [(.ref b13), (.ref b13)])) _
    refine XS.iloadN X3.here hx rfl (hb hby d1_17) rfl  ?_
    exact k
  -- pc 18: java/lang/StringLatin1.toBytes
  obtain ⟨_, _, ⟨T4, L4, k4, n4⟩, -, X4, ⟨Lc4, hQ4, l4, y4, z4⟩, st4⟩ := Jvm.LawKit.callS X3 hx (y := (⟨"java/lang/StringLatin1", "toBytes", "(C)[B"⟩ : MethodName)) hown (mvT hZ (hw _ (List.mem_of_getElem? (i := 12) rfl))) (mvT hZ (hw _ (List.mem_of_getElem? (i := 13) rfl))) (mvT hZ (hw _ (List.mem_of_getElem? (i := 8) rfl))) (mvT hZ (hw _ (List.mem_of_getElem? (i := 14) rfl))) (by decide) (backOf (W := 2) (rm3 l Z a0 hw [] v0 h3 n0 Z3 ) hZ (hw _ (List.mem_of_getElem? (i := 14) rfl)) (hw _ (List.mem_of_getElem? (i := 8) rfl)) (by decide) (by decide)) (g := (mkF m 18 #[.val (.int v0)] [(.int v0), (.ref b13), (.ref b13)])) rfl (by rw [hml]; rfl) (argsL := [(.int v0)]) (rest := [(.ref b13), (.ref b13)]) (lenOf pd_1 rfl) rfl (by show 2 * 0 + _ ≤ _; exact Nat.le_of_eq rfl) (hb hby d1_18) (fun _ _ => ⟨rfl, e3, (by decide : 1 + R3.cells ≤ _), (by decide : 4 + R3.slots ≤ _)⟩)
  dsimp only [Pt.U, Pt.locs, Pt.cells, Pt.slots] at X4 l4 y4 z4 st4 hQ4
  subst l4 y4 z4
  obtain ⟨c18, kb_4, rfl, Nq4, g_c18, szq4, Kq4, Vb_4, lnb_4⟩ := hQ4
  obtain ⟨h4, e4⟩ : ∃ z, T4.heap = z := ⟨_, rfl⟩
  rw [e4] at Kq4 Vb_4
  have N4 := Fr.app N2 Nq4
  have Z4 : n0 ≤ h4.size := Nat.le_trans Z3 Kq4.1
  have ne_b13_c18 : b13 ≠ c18 := Nat.ne_of_lt (Nat.lt_of_lt_of_le E_b13_3.lt szq4)
  have E_b13_4 := E_b13_3.keep Kq4
  have F_b13_value_4 := F_b13_value_3.keep Kq4 (by simp)
  have F_b13_coder_4 := F_b13_coder_3.keep Kq4 (by simp)
  have K4 := K3.trans Kq4 (fun _ q => nomatch q)
  have O4 := O3.keep Kq4 all0
  have sz_c18 : h0.size ≤ c18 := Nat.le_trans K3.1 szq4
  refine Fin.by (B := T4.setTop (mkF m 21 #[.val (.int v0)] [(.ref c18), (.ref b13), (.ref b13)])) (fun t k => st4 t k) ?_
  refine Fin.by (B := T4.setTop (mkF m 22 #[.val (.int v0)] [(.int (0 : Int32)), (.ref c18), (.ref b13), (.ref b13)])) (fun t k => ?_) ?_
  · show Steps p.tables e below (T4.setTop (mkF m 21 #[.val (.int v0)] [(.ref c18), (.ref b13), (.ref b13)])) _
    refine XS.iconst X4.here hx rfl (hb hby d1_21) ?_
    exact k
  -- pc 22: java/lang/String.<init>
  obtain ⟨_, _, ⟨T5, L5, k5, n5⟩, -, X5, ⟨Lc5, hQ5, l5, y5, z5⟩, st5⟩ := X4.specialBack hx (y := (⟨"java/lang/String", "<init>", "([BB)V"⟩ : MethodName)) rfl hown (mvT hZ (hw _ (List.mem_of_getElem? (i := 16) rfl))) (mvT hZ (hw _ (List.mem_of_getElem? (i := 17) rfl))) (mvT hZ (hw _ (List.mem_of_getElem? (i := 19) rfl))) (by decide) (backOf (W := 1) (rm4 l Z a0 hw [] b13 c18 (0 : Int32) .null (0 : Int32) h4 n0 Z4 E_b13_4 F_b13_value_4 F_b13_coder_4 g_b13) hZ (hw _ (List.mem_of_getElem? (i := 19) rfl)) (hw _ (List.mem_of_getElem? (i := 3) rfl)) (by decide) (by decide)) (g := (mkF m 22 #[.val (.int v0)] [(.int (0 : Int32)), (.ref c18), (.ref b13), (.ref b13)])) rfl (by rw [hml]; rfl) (Steps.refl _) (a := b13) (argsL := [(.ref c18), (.int (0 : Int32))]) (rest := [(.ref b13)]) (lenOf pd_2 rfl) rfl (by show 2 * 0 + _ ≤ _; exact Nat.le_of_eq rfl) (hb hby d1_22) (fun _ _ => ⟨rfl, e4, (by decide : 2 + R4.cells ≤ _), (by decide : 5 + R4.slots ≤ _)⟩)
  dsimp only [Pt.U, Pt.locs, Pt.cells, Pt.slots] at X5 l5 y5 z5 st5 hQ5
  subst l5 y5 z5
  obtain ⟨rfl, Nq5, Kq5, E_b13_5, F_b13_value_5, F_b13_coder_5⟩ := hQ5
  obtain ⟨h5, e5⟩ : ∃ z, T5.heap = z := ⟨_, rfl⟩
  rw [e5] at Kq5 E_b13_5 F_b13_value_5 F_b13_coder_5
  have N5 := Fr.app N4 Nq5
  have Z5 : n0 ≤ h5.size := Nat.le_trans Z4 Kq5.1
  have V_c18_5 := Vb_4.keep Kq5 (ninS (Ne.symm ne_b13_c18) nin0)
  have K5 := K4.trans Kq5 (by intro z hz; simp only [List.mem_cons, List.not_mem_nil, or_false] at hz; first | exact absurd hz id | (rcases hz with rfl; exact Or.inr sz_b13))
  have O5 := O4.keep Kq5 (allS g_b13 all0)
  refine Fin.by (B := T5.setTop (mkF m 25 #[.val (.int v0)] [(.ref b13)])) (fun t k => st5.trans k) ?_
  subst hr
  exact own_retR X5 hx hlk hret rfl (hb hby d1_25) (by decide) (by decide) ⟨b13, rfl, N5, g_b13, sz_b13, (by rw [e5]; exact K5)⟩
theorem ef_1 (m : MethodId) (v0 : Int32) : entryFrame m #[(.int v0)] 1 = (mkF m 0 #[.val (.int v0)] []) := by first | (simp [entryFrame, mkF, argsToLocals, Value.category]; done) | rfl
set_option maxRecDepth 65536 in
set_option maxHeartbeats 40000000 in
theorem rm1 (l : Launch) (Z : State) (a0 : Array Value) (hw : ∀ d ∈ tables_1, d.before a0 Z = true) (ws : List Jvm.Cond) (v0 : Int32) (cs : Int32) (h0 : Heap) (n0 : Nat) (Z0 : n0 ≤ h0.size) (O : Old Z n0 h0) (S_cs : Sta Z Z.heap "java/lang/String" "COMPACT_STRINGS" "Z" (.int cs)) (P5 : ¬ (cs = (0 : Int32))) (hv : ¬ ((255 : Int32) < v0)) :
    MetFree l (⟨"java/lang/String", "valueOf", "(C)Ljava/lang/String;"⟩ : MethodName) (head1 (Jvm.Cond.code (⟨"java/lang/String", "valueOf", "(C)Ljava/lang/String;"⟩ : MethodName) jdk_42_method_139_code 1 (some (.object "java/lang/String")) :: ws) R1) (fun a U => a = #[(.int v0)] ∧ Z.Warmed39 U.vm ∧ U.heap = h0) (fun _ _ _ _ _ => True) (fun _ U o U' => ∃ v L, o = .returned v ∧ (Q1 Z  h0 n0 (f1_0 v0)) v U'.heap L ∧ FrameEnd U o U' L R1.cells R1.slots) := by
  refine MetFree.of_bodySF (plainFor_of_name pn_1) hisR ?_
  intro p e s m args below meth c s₁ Bd hml0 hP hK
  obtain ⟨rfl, hZ, hh⟩ := hP
  have B : Ctx p Z s a0 m meth c "java/lang/String" "valueOf" jdk_42_method_139_code 1 (some (.object "java/lang/String")) := ⟨Bd.exec, hZ, hw, Bd.bytes, hml0, Bd.returns, findClass_of_methodNamed Bd.named, (name_of_methodNamed Bd.named Bd.method).1, Bd.notSynchronized⟩
  have X0 : Stand p l e R1 s m #[(.int v0)] below meth c s₁ [] 0 0 := Stand.of_body Bd
  have e0 : s₁.heap = h0 := by rw [← hh, Bd.state]; rfl
  have K := Keep.refl h0 []
  show Fin p e below s R1.cells R1.slots (Q1 Z  h0 n0 (f1_0 v0)) (s₁.setTop (entryFrame m #[(.int v0)] 1))
  refine Fin.by (fun t k => castTop (ef_1 m v0) k) ?_
  exact b1_0 B h0 n0 v0 cs X0 e0 (Fr.nil n0) Z0 K O S_cs P5 hv _ rfl
theorem pd_3 : parseMethodDescriptor "(C)Ljava/lang/String;" = some ⟨[.char], some (.object "java/lang/String")⟩ := by decide +kernel
theorem d6_0 : decode prog_99_method_12_code 0 = .ok (.iload_n 1, 1) := by decide +kernel
theorem d6_1 : decode prog_99_method_12_code 1 = .ok (.iconst 1, 1) := by decide +kernel
theorem d6_2 : decode prog_99_method_12_code 2 = .ok (.if_icmp .lt 8, 3) := by decide +kernel
theorem d6_5 : decode prog_99_method_12_code 5 = .ok (.iload_n 1, 1) := by decide +kernel
theorem d6_6 : decode prog_99_method_12_code 6 = .ok (.iload_n 2, 1) := by decide +kernel
theorem d6_7 : decode prog_99_method_12_code 7 = .ok (.if_icmp .le 19, 3) := by decide +kernel
theorem d6_26 : decode prog_99_method_12_code 26 = .ok (.iload_n 1, 1) := by decide +kernel
theorem d6_27 : decode prog_99_method_12_code 27 = .ok (.ireturn, 1) := by decide +kernel
theorem pn_6 : plainName "com/example/vestwright/vestwright/model/Ranges" = true := by first | (simp [plainName, overriddenIn]; done) | decide +kernel
def R6 : Room := { frames := 0, cells := 0, slots := 0, locals := 0 }
def Q6 (Z : State)  (h0 : Heap) (n0 : Nat) (r : Int32) (v : Option Value) (h : Heap) (L : List Loc) : Prop := v = some (.int r) ∧ Fr n0 L ∧ h = h0
def f6_0 (v1 : Int32) (v2 : Int32) : Int32 := v1
set_option maxRecDepth 65536 in
set_option maxHeartbeats 40000000 in
theorem b6_0 {p : Program} {l : Launch} {e : Env} {s : State} {m : MethodId} {args : Array Value} {below : List Frame} {meth : Method} {c : Code} {Z : State} {a0 : Array Value} (B : Ctx p Z s a0 m meth c "com/example/vestwright/vestwright/model/Ranges" "count" prog_99_method_12_code 3 (some .int)) {T0 : State} {locs : List Loc} {h : Heap} (h0 : Heap) (n0 : Nat) (o0 : Addr) (v1 : Int32) (v2 : Int32) (X0 : Stand p l e R6 s m args below meth c T0 locs 0 0) (e0 : T0.heap = h) (N0 : Fr n0 locs) (Z0 : n0 ≤ h.size) (hh0 : h = h0) (c1 : ¬ (v1 < (1 : Int32))) (c2 : ¬ (v2 < v1)) (r : Int32) (hr : f6_0 v1 v2 = r) :
    Fin p e below s R6.cells R6.slots (Q6 Z  h0 n0 r) (T0.setTop (mkF m 0 #[.val (.ref o0), .val (.int v1), .val (.int v2)] [])) := by
  obtain ⟨hx, hZ, hw, hby, hml, hret, hown, hnm, hlk⟩ := B
  unfold f6_0 at hr
  refine Fin.by (B := T0.setTop (mkF m 2 #[.val (.ref o0), .val (.int v1), .val (.int v2)] [(.int (1 : Int32)), (.int v1)])) (fun t k => ?_) ?_
  · show Steps p.tables e below (T0.setTop (mkF m 0 #[.val (.ref o0), .val (.int v1), .val (.int v2)] [])) _
    refine XS.iloadN X0.here hx rfl (hb hby d6_0) rfl  ?_
    show Steps p.tables e below (T0.setTop (mkF m 1 #[.val (.ref o0), .val (.int v1), .val (.int v2)] [(.int v1)])) _
    refine XS.iconst X0.here hx rfl (hb hby d6_1) ?_
    exact k
  have hc2 : ¬ (v1 < (1 : Int32)) := c1
  refine Fin.by (B := T0.setTop (mkF m 5 #[.val (.ref o0), .val (.int v1), .val (.int v2)] [])) (fun t k => ?_) ?_
  · show Steps p.tables e below (T0.setTop (mkF m 2 #[.val (.ref o0), .val (.int v1), .val (.int v2)] [(.int (1 : Int32)), (.int v1)])) _
    exact XS.icmpNo X0.here hx rfl (hb hby d6_2) rfl (flt hc2).1 k
  refine Fin.by (B := T0.setTop (mkF m 7 #[.val (.ref o0), .val (.int v1), .val (.int v2)] [(.int v2), (.int v1)])) (fun t k => ?_) ?_
  · show Steps p.tables e below (T0.setTop (mkF m 5 #[.val (.ref o0), .val (.int v1), .val (.int v2)] [])) _
    refine XS.iloadN X0.here hx rfl (hb hby d6_5) rfl  ?_
    show Steps p.tables e below (T0.setTop (mkF m 6 #[.val (.ref o0), .val (.int v1), .val (.int v2)] [(.int v1)])) _
    refine XS.iloadN X0.here hx rfl (hb hby d6_6) rfl  ?_
    exact k
  have hc7 : ¬ (v2 < v1) := c2
  refine Fin.by (B := T0.setTop (mkF m 26 #[.val (.ref o0), .val (.int v1), .val (.int v2)] [])) (fun t k => ?_) ?_
  · show Steps p.tables e below (T0.setTop (mkF m 7 #[.val (.ref o0), .val (.int v1), .val (.int v2)] [(.int v2), (.int v1)])) _
    exact XS.icmpYes X0.here hx rfl (pc0 := 7) (pc' := 26) rfl (hb hby d6_7) rfl (flt hc7).2.2.2 (by decide) (by decide) k
  refine Fin.by (B := T0.setTop (mkF m 27 #[.val (.ref o0), .val (.int v1), .val (.int v2)] [(.int v1)])) (fun t k => ?_) ?_
  · show Steps p.tables e below (T0.setTop (mkF m 26 #[.val (.ref o0), .val (.int v1), .val (.int v2)] [])) _
    refine XS.iloadN X0.here hx rfl (hb hby d6_26) rfl  ?_
    exact k
  subst hr
  exact own_retI X0 hx hlk hret (hb hby d6_27) (by decide) (by decide) ⟨rfl, N0, (e0.trans hh0)⟩
theorem ef_6 (m : MethodId) (o0 : Addr) (v1 : Int32) (v2 : Int32) : entryFrame m #[(.ref o0), (.int v1), (.int v2)] 3 = (mkF m 0 #[.val (.ref o0), .val (.int v1), .val (.int v2)] []) := by first | (simp [entryFrame, mkF, argsToLocals, Value.category]; done) | rfl
set_option maxRecDepth 65536 in
set_option maxHeartbeats 40000000 in
theorem rm6 (l : Launch) (Z : State) (a0 : Array Value) (hw : ∀ d ∈ tables_1, d.before a0 Z = true) (ws : List Jvm.Cond) (o0 : Addr) (v1 : Int32) (v2 : Int32) (h0 : Heap) (n0 : Nat) (Z0 : n0 ≤ h0.size) (c1 : ¬ (v1 < (1 : Int32))) (c2 : ¬ (v2 < v1)) :
    MetFree l (⟨"com/example/vestwright/vestwright/model/Ranges", "count", "(Ljava/lang/String;II)I"⟩ : MethodName) (head1 (Jvm.Cond.code (⟨"com/example/vestwright/vestwright/model/Ranges", "count", "(Ljava/lang/String;II)I"⟩ : MethodName) prog_99_method_12_code 3 (some .int) :: ws) R6) (fun a U => a = #[(.ref o0), (.int v1), (.int v2)] ∧ Z.Warmed39 U.vm ∧ U.heap = h0) (fun _ _ _ _ _ => True) (fun _ U o U' => ∃ v L, o = .returned v ∧ (Q6 Z  h0 n0 (f6_0 v1 v2)) v U'.heap L ∧ FrameEnd U o U' L R6.cells R6.slots) := by
  refine MetFree.of_bodySF (plainFor_of_name pn_6) hisR ?_
  intro p e s m args below meth c s₁ Bd hml0 hP hK
  obtain ⟨rfl, hZ, hh⟩ := hP
  have B : Ctx p Z s a0 m meth c "com/example/vestwright/vestwright/model/Ranges" "count" prog_99_method_12_code 3 (some .int) := ⟨Bd.exec, hZ, hw, Bd.bytes, hml0, Bd.returns, findClass_of_methodNamed Bd.named, (name_of_methodNamed Bd.named Bd.method).1, Bd.notSynchronized⟩
  have X0 : Stand p l e R6 s m #[(.ref o0), (.int v1), (.int v2)] below meth c s₁ [] 0 0 := Stand.of_body Bd
  have e0 : s₁.heap = h0 := by rw [← hh, Bd.state]; rfl
  have K := Keep.refl h0 []
  show Fin p e below s R6.cells R6.slots (Q6 Z  h0 n0 (f6_0 v1 v2)) (s₁.setTop (entryFrame m #[(.ref o0), (.int v1), (.int v2)] 3))
  refine Fin.by (fun t k => castTop (ef_6 m o0 v1 v2) k) ?_
  exact b6_0 B h0 n0 o0 v1 v2 X0 e0 (Fr.nil n0) Z0 rfl c1 c2 _ rfl
theorem pd_4 : parseMethodDescriptor "(Ljava/lang/String;II)I" = some ⟨[(.object "java/lang/String"), .int, .int], some .int⟩ := by decide +kernel
theorem pn_0 : plainName "com/example/vestwright/vestwright/model/RangesCountPinLaw" = true := by first | (simp [plainName, overriddenIn]; done) | decide +kernel
def Q0 (n0 : Nat) (r : Int32) (v : Option Value) (h : Heap) (L : List Loc) : Prop := v = some (.int r) ∧ Fr n0 L
def f0_64 (v0 : Int32) (v1 : Int32) (v2 : Int32) (v3 : Int32) (v4 : Int32) (v5 : Int32) (v6 : Int32) : Int32 := (if (f6_0 v6 v4) = v6 then (1 : Int32) else (0 : Int32))
set_option maxRecDepth 65536 in
set_option maxHeartbeats 40000000 in
theorem b0_64 {p : Program} {l : Launch} {e : Env} {s : State} {m : MethodId} {args : Array Value} {below : List Frame} {meth : Method} {c : Code} {Z : State} {a0 : Array Value} (B : Ctx p Z s a0 m meth c "com/example/vestwright/vestwright/model/RangesCountPinLaw" "law" code 8 (some .boolean)) {T0 : State} {locs : List Loc} {h : Heap} (h0 : Heap) (n0 : Nat) (v0 : Int32) (v1 : Int32) (v2 : Int32) (v3 : Int32) (v4 : Int32) (v5 : Int32) (v6 : Int32) (c61 : Addr) (cs : Int32) (X0 : Stand p l e room_1 s m args below meth c T0 locs 2 5) (e0 : T0.heap = h) (N0 : Fr n0 locs) (Z0 : n0 ≤ h.size) (O : Old Z n0 h) (S_cs : Sta Z Z.heap "java/lang/String" "COMPACT_STRINGS" "Z" (.int cs)) (P5 : ¬ (cs = (0 : Int32))) (i1 : ¬ (v6 < (1 : Int32))) (i2 : ¬ (v4 < v6)) (r : Int32) (hr : f0_64 v0 v1 v2 v3 v4 v5 v6 = r) :
    Fin p e below s 2 5 (Q0 n0 r) (T0.setTop (mkF m 64 #[.val (.int v0), .val (.int v1), .val (.int v2), .val (.int v3), .val (.int v4), .val (.int v5), .val (.int v6), .unset] [(.ref c61)])) := by
  obtain ⟨hx, hZ, hw, hby, hml, hret, hown, hnm, hlk⟩ := B
  unfold f0_64 at hr
  refine Fin.by (B := T0.setTop (mkF m 72 #[.val (.int v0), .val (.int v1), .val (.int v2), .val (.int v3), .val (.int v4), .val (.int v5), .val (.int v6), .val (.ref c61)] [(.int v4), (.int v6), (.ref c61)])) (fun t k => ?_) ?_
  · show Steps p.tables e below (T0.setTop (mkF m 64 #[.val (.int v0), .val (.int v1), .val (.int v2), .val (.int v3), .val (.int v4), .val (.int v5), .val (.int v6), .unset] [(.ref c61)])) _
    refine XS.astore X0.here hx rfl (hb hby at_64) rfl rfl (l' := #[.val (.int v0), .val (.int v1), .val (.int v2), .val (.int v3), .val (.int v4), .val (.int v5), .val (.int v6), .val (.ref c61)]) rfl ?_
    show Steps p.tables e below (T0.setTop (mkF m 66 #[.val (.int v0), .val (.int v1), .val (.int v2), .val (.int v3), .val (.int v4), .val (.int v5), .val (.int v6), .val (.ref c61)] [])) _
    refine XS.aload X0.here hx rfl (hb hby at_66) rfl rfl ?_
    show Steps p.tables e below (T0.setTop (mkF m 68 #[.val (.int v0), .val (.int v1), .val (.int v2), .val (.int v3), .val (.int v4), .val (.int v5), .val (.int v6), .val (.ref c61)] [(.ref c61)])) _
    refine XS.iload X0.here hx rfl (hb hby at_68) rfl  ?_
    show Steps p.tables e below (T0.setTop (mkF m 70 #[.val (.int v0), .val (.int v1), .val (.int v2), .val (.int v3), .val (.int v4), .val (.int v5), .val (.int v6), .val (.ref c61)] [(.int v6), (.ref c61)])) _
    refine XS.iload X0.here hx rfl (hb hby at_70) rfl  ?_
    exact k
  have hp2_c1 : ¬ (v6 < (1 : Int32)) := by assumption
  have hp2_c2 : ¬ (v4 < v6) := by assumption
  -- pc 72: com/example/vestwright/vestwright/model/Ranges.count
  obtain ⟨_, _, ⟨T2, L2, k2, n2⟩, -, X2, ⟨Lc2, hQ2, l2, y2, z2⟩, st2⟩ := Jvm.LawKit.callS X0 hx (y := (⟨"com/example/vestwright/vestwright/model/Ranges", "count", "(Ljava/lang/String;II)I"⟩ : MethodName)) hown (mvT hZ (hw _ (List.mem_of_getElem? (i := 27) rfl))) (mvT hZ (hw _ (List.mem_of_getElem? (i := 28) rfl))) (mvT hZ (hw _ (List.mem_of_getElem? (i := 29) rfl))) (mvT hZ (hw _ (List.mem_of_getElem? (i := 30) rfl))) (by decide) (backOf (W := 0) (rm6 l Z a0 hw [] c61 v6 v4 h n0 Z0 hp2_c1 hp2_c2) hZ (hw _ (List.mem_of_getElem? (i := 30) rfl)) (hw _ (List.mem_of_getElem? (i := 29) rfl)) (by decide) (by decide)) (g := (mkF m 72 #[.val (.int v0), .val (.int v1), .val (.int v2), .val (.int v3), .val (.int v4), .val (.int v5), .val (.int v6), .val (.ref c61)] [(.int v4), (.int v6), (.ref c61)])) rfl (by rw [hml]; rfl) (argsL := [(.ref c61), (.int v6), (.int v4)]) (rest := []) (lenOf pd_4 rfl) rfl (by show 2 * 0 + _ ≤ _; exact Nat.le_of_eq rfl) (hb hby at_72) (fun _ _ => ⟨rfl, e0, (by decide : 2 + R6.cells ≤ _), (by decide : 5 + R6.slots ≤ _)⟩)
  dsimp only [Pt.U, Pt.locs, Pt.cells, Pt.slots] at X2 l2 y2 z2 st2 hQ2
  subst l2 y2 z2
  obtain ⟨rfl, Nq2, e2⟩ := hQ2
  have N2 := Fr.app N0 Nq2
  refine Fin.by (B := T2.setTop (mkF m 75 #[.val (.int v0), .val (.int v1), .val (.int v2), .val (.int v3), .val (.int v4), .val (.int v5), .val (.int v6), .val (.ref c61)] [(.int (f6_0 v6 v4))])) (fun t k => st2 t k) ?_
  refine Fin.by (B := T2.setTop (mkF m 77 #[.val (.int v0), .val (.int v1), .val (.int v2), .val (.int v3), .val (.int v4), .val (.int v5), .val (.int v6), .val (.ref c61)] [(.int v6), (.int (f6_0 v6 v4))])) (fun t k => ?_) ?_
  · show Steps p.tables e below (T2.setTop (mkF m 75 #[.val (.int v0), .val (.int v1), .val (.int v2), .val (.int v3), .val (.int v4), .val (.int v5), .val (.int v6), .val (.ref c61)] [(.int (f6_0 v6 v4))])) _
    refine XS.iload X2.here hx rfl (hb hby at_75) rfl  ?_
    exact k
  by_cases hc77 : (f6_0 v6 v4) = v6
  · rw [if_pos hc77] at hr
    refine Fin.by (B := T2.setTop (mkF m 80 #[.val (.int v0), .val (.int v1), .val (.int v2), .val (.int v3), .val (.int v4), .val (.int v5), .val (.int v6), .val (.ref c61)] [])) (fun t k => ?_) ?_
    · show Steps p.tables e below (T2.setTop (mkF m 77 #[.val (.int v0), .val (.int v1), .val (.int v2), .val (.int v3), .val (.int v4), .val (.int v5), .val (.int v6), .val (.ref c61)] [(.int v6), (.int (f6_0 v6 v4))])) _
      exact XS.icmpNo X2.here hx rfl (hb hby at_77) rfl (teq hc77).2 k
    refine Fin.by (B := T2.setTop (mkF m 85 #[.val (.int v0), .val (.int v1), .val (.int v2), .val (.int v3), .val (.int v4), .val (.int v5), .val (.int v6), .val (.ref c61)] [(.int (1 : Int32))])) (fun t k => ?_) ?_
    · show Steps p.tables e below (T2.setTop (mkF m 80 #[.val (.int v0), .val (.int v1), .val (.int v2), .val (.int v3), .val (.int v4), .val (.int v5), .val (.int v6), .val (.ref c61)] [])) _
      refine XS.iconst X2.here hx rfl (hb hby at_80) ?_
      show Steps p.tables e below (T2.setTop (mkF m 81 #[.val (.int v0), .val (.int v1), .val (.int v2), .val (.int v3), .val (.int v4), .val (.int v5), .val (.int v6), .val (.ref c61)] [(.int (1 : Int32))])) _
      refine XS.goto X2.here hx rfl (pc0 := 81) (pc' := 85) rfl (hb hby at_81) (by decide) (by decide) ?_
      exact k
    subst hr
    exact own_retN X2 hx hlk (t := .boolean) hret (by simp) (hb hby at_85) (by decide) (by decide) ⟨rfl, N2⟩
  · rw [if_neg hc77] at hr
    refine Fin.by (B := T2.setTop (mkF m 84 #[.val (.int v0), .val (.int v1), .val (.int v2), .val (.int v3), .val (.int v4), .val (.int v5), .val (.int v6), .val (.ref c61)] [])) (fun t k => ?_) ?_
    · show Steps p.tables e below (T2.setTop (mkF m 77 #[.val (.int v0), .val (.int v1), .val (.int v2), .val (.int v3), .val (.int v4), .val (.int v5), .val (.int v6), .val (.ref c61)] [(.int v6), (.int (f6_0 v6 v4))])) _
      exact XS.icmpYes X2.here hx rfl (pc0 := 77) (pc' := 84) rfl (hb hby at_77) rfl (feq hc77).2 (by decide) (by decide) k
    refine Fin.by (B := T2.setTop (mkF m 85 #[.val (.int v0), .val (.int v1), .val (.int v2), .val (.int v3), .val (.int v4), .val (.int v5), .val (.int v6), .val (.ref c61)] [(.int (0 : Int32))])) (fun t k => ?_) ?_
    · show Steps p.tables e below (T2.setTop (mkF m 84 #[.val (.int v0), .val (.int v1), .val (.int v2), .val (.int v3), .val (.int v4), .val (.int v5), .val (.int v6), .val (.ref c61)] [])) _
      refine XS.iconst X2.here hx rfl (hb hby at_84) ?_
      exact k
    subst hr
    exact own_retN X2 hx hlk (t := .boolean) hret (by simp) (hb hby at_85) (by decide) (by decide) ⟨rfl, N2⟩
def f0_55 (v0 : Int32) (v1 : Int32) (v2 : Int32) (v3 : Int32) (v4 : Int32) (v5 : Int32) (v6 : Int32) : Int32 := (f0_64 v0 v1 v2 v3 v4 v5 v6)
set_option maxRecDepth 65536 in
set_option maxHeartbeats 40000000 in
theorem b0_55 {p : Program} {l : Launch} {e : Env} {s : State} {m : MethodId} {args : Array Value} {below : List Frame} {meth : Method} {c : Code} {Z : State} {a0 : Array Value} (B : Ctx p Z s a0 m meth c "com/example/vestwright/vestwright/model/RangesCountPinLaw" "law" code 8 (some .boolean)) {T0 : State} {locs : List Loc} {h : Heap} (h0 : Heap) (n0 : Nat) (v0 : Int32) (v1 : Int32) (v2 : Int32) (v3 : Int32) (v4 : Int32) (v5 : Int32) (v6 : Int32) (cs : Int32) (X0 : Stand p l e room_1 s m args below meth c T0 locs 0 0) (e0 : T0.heap = h) (N0 : Fr n0 locs) (Z0 : n0 ≤ h.size) (O : Old Z n0 h) (S_cs : Sta Z Z.heap "java/lang/String" "COMPACT_STRINGS" "Z" (.int cs)) (P5 : ¬ (cs = (0 : Int32))) (i1 : ¬ (v6 < (1 : Int32))) (i2 : ¬ (v4 < v6)) (r : Int32) (hr : f0_55 v0 v1 v2 v3 v4 v5 v6 = r) :
    Fin p e below s 2 5 (Q0 n0 r) (T0.setTop (mkF m 55 #[.val (.int v0), .val (.int v1), .val (.int v2), .val (.int v3), .val (.int v4), .val (.int v5), .val (.int v6), .unset] [])) := by
  obtain ⟨hx, hZ, hw, hby, hml, hret, hown, hnm, hlk⟩ := B
  unfold f0_55 at hr
  refine Fin.by (B := T0.setTop (mkF m 61 #[.val (.int v0), .val (.int v1), .val (.int v2), .val (.int v3), .val (.int v4), .val (.int v5), .val (.int v6), .unset] [(.int ((v0 &&& (255 : Int32)).toUInt32.toUInt16.toUInt32.toInt32))])) (fun t k => ?_) ?_
  · show Steps p.tables e below (T0.setTop (mkF m 55 #[.val (.int v0), .val (.int v1), .val (.int v2), .val (.int v3), .val (.int v4), .val (.int v5), .val (.int v6), .unset] [])) _
    refine XS.iloadN X0.here hx rfl (hb hby at_55) rfl  ?_
    show Steps p.tables e below (T0.setTop (mkF m 56 #[.val (.int v0), .val (.int v1), .val (.int v2), .val (.int v3), .val (.int v4), .val (.int v5), .val (.int v6), .unset] [(.int v0)])) _
    refine XS.sipush X0.here hx rfl (hb hby at_56) ?_
    show Steps p.tables e below (T0.setTop (mkF m 59 #[.val (.int v0), .val (.int v1), .val (.int v2), .val (.int v3), .val (.int v4), .val (.int v5), .val (.int v6), .unset] [(.int (255 : Int32)), (.int v0)])) _
    refine XS.iand X0.here hx rfl (hb hby at_59) rfl ?_
    show Steps p.tables e below (T0.setTop (mkF m 60 #[.val (.int v0), .val (.int v1), .val (.int v2), .val (.int v3), .val (.int v4), .val (.int v5), .val (.int v6), .unset] [(.int (v0 &&& (255 : Int32)))])) _
    refine XS.i2c X0.here hx rfl (hb hby at_60) rfl ?_
    exact k
  have hp1_hv : ¬ ((255 : Int32) < ((v0 &&& (255 : Int32)).toUInt32.toUInt16.toUInt32.toInt32)) := own_ch _
  -- pc 61: java/lang/String.valueOf
  obtain ⟨_, _, ⟨T1, L1, k1, n1⟩, -, X1, ⟨Lc1, hQ1, l1, y1, z1⟩, st1⟩ := Jvm.LawKit.callS X0 hx (y := (⟨"java/lang/String", "valueOf", "(C)Ljava/lang/String;"⟩ : MethodName)) hown (mvT hZ (hw _ (List.mem_of_getElem? (i := 1) rfl))) (mvT hZ (hw _ (List.mem_of_getElem? (i := 2) rfl))) (mvT hZ (hw _ (List.mem_of_getElem? (i := 3) rfl))) (mvT hZ (hw _ (List.mem_of_getElem? (i := 4) rfl))) (by decide) (backOf (W := 0) (rm1 l Z a0 hw [] ((v0 &&& (255 : Int32)).toUInt32.toUInt16.toUInt32.toInt32) cs h n0 Z0 O S_cs P5 hp1_hv) hZ (hw _ (List.mem_of_getElem? (i := 4) rfl)) (hw _ (List.mem_of_getElem? (i := 3) rfl)) (by decide) (by decide)) (g := (mkF m 61 #[.val (.int v0), .val (.int v1), .val (.int v2), .val (.int v3), .val (.int v4), .val (.int v5), .val (.int v6), .unset] [(.int ((v0 &&& (255 : Int32)).toUInt32.toUInt16.toUInt32.toInt32))])) rfl (by rw [hml]; rfl) (argsL := [(.int ((v0 &&& (255 : Int32)).toUInt32.toUInt16.toUInt32.toInt32))]) (rest := []) (lenOf pd_3 rfl) rfl (by show 2 * 0 + _ ≤ _; exact Nat.le_of_eq rfl) (hb hby at_61) (fun _ _ => ⟨rfl, e0, (by decide : 0 + R1.cells ≤ _), (by decide : 0 + R1.slots ≤ _)⟩)
  dsimp only [Pt.U, Pt.locs, Pt.cells, Pt.slots] at X1 l1 y1 z1 st1 hQ1
  subst l1 y1 z1
  obtain ⟨c61, rfl, Nq1, g_c61, szq1, Kq1⟩ := hQ1
  obtain ⟨h1, e1⟩ : ∃ z, T1.heap = z := ⟨_, rfl⟩
  rw [e1] at Kq1
  have N1 := Fr.app N0 Nq1
  have Z1 : n0 ≤ h1.size := Nat.le_trans Z0 Kq1.1
  have O1 := O.keep Kq1 all0
  refine Fin.by (B := T1.setTop (mkF m 64 #[.val (.int v0), .val (.int v1), .val (.int v2), .val (.int v3), .val (.int v4), .val (.int v5), .val (.int v6), .unset] [(.ref c61)])) (fun t k => st1 t k) ?_
  have i1_j : ¬ (v6 < (1 : Int32)) := by assumption
  have i2_j : ¬ (v4 < v6) := by assumption
  exact b0_64 ⟨hx, hZ, hw, hby, hml, hret, hown, hnm, hlk⟩ h0 n0 v0 v1 v2 v3 v4 v5 v6 c61 cs X1 e1 N1 Z1 O1 S_cs P5 i1_j i2_j _ hr
def f0_15 (v0 : Int32) (v1 : Int32) (v2 : Int32) (v3 : Int32) (v4 : Int32) : Int32 := (if (v3 &&& (3 : Int32)) = (0 : Int32) then (f0_55 v0 v1 v2 v3 v4 (v3 &&& (3 : Int32)) (1 : Int32)) else (if (v3 &&& (3 : Int32)) = (1 : Int32) then (f0_55 v0 v1 v2 v3 v4 (v3 &&& (3 : Int32)) v4) else (f0_55 v0 v1 v2 v3 v4 (v3 &&& (3 : Int32)) ((1 : Int32) + ((v1 &&& (2147483647 : Int32)) % v4)))))
set_option maxRecDepth 65536 in
set_option maxHeartbeats 40000000 in
theorem b0_15 {p : Program} {l : Launch} {e : Env} {s : State} {m : MethodId} {args : Array Value} {below : List Frame} {meth : Method} {c : Code} {Z : State} {a0 : Array Value} (B : Ctx p Z s a0 m meth c "com/example/vestwright/vestwright/model/RangesCountPinLaw" "law" code 8 (some .boolean)) {T0 : State} {locs : List Loc} {h : Heap} (h0 : Heap) (n0 : Nat) (v0 : Int32) (v1 : Int32) (v2 : Int32) (v3 : Int32) (v4 : Int32) (cs : Int32) (X0 : Stand p l e room_1 s m args below meth c T0 locs 0 0) (e0 : T0.heap = h) (N0 : Fr n0 locs) (Z0 : n0 ≤ h.size) (O : Old Z n0 h) (S_cs : Sta Z Z.heap "java/lang/String" "COMPACT_STRINGS" "Z" (.int cs)) (P5 : ¬ (cs = (0 : Int32))) (i15 : ¬ (v4 < (1 : Int32))) (r : Int32) (hr : f0_15 v0 v1 v2 v3 v4 = r) :
    Fin p e below s 2 5 (Q0 n0 r) (T0.setTop (mkF m 15 #[.val (.int v0), .val (.int v1), .val (.int v2), .val (.int v3), .val (.int v4), .unset, .unset, .unset] [])) := by
  obtain ⟨hx, hZ, hw, hby, hml, hret, hown, hnm, hlk⟩ := B
  unfold f0_15 at hr
  refine Fin.by (B := T0.setTop (mkF m 22 #[.val (.int v0), .val (.int v1), .val (.int v2), .val (.int v3), .val (.int v4), .val (.int (v3 &&& (3 : Int32))), .unset, .unset] [(.int (v3 &&& (3 : Int32)))])) (fun t k => ?_) ?_
  · show Steps p.tables e below (T0.setTop (mkF m 15 #[.val (.int v0), .val (.int v1), .val (.int v2), .val (.int v3), .val (.int v4), .unset, .unset, .unset] [])) _
    refine XS.iloadN X0.here hx rfl (hb hby at_15) rfl  ?_
    show Steps p.tables e below (T0.setTop (mkF m 16 #[.val (.int v0), .val (.int v1), .val (.int v2), .val (.int v3), .val (.int v4), .unset, .unset, .unset] [(.int v3)])) _
    refine XS.iconst X0.here hx rfl (hb hby at_16) ?_
    show Steps p.tables e below (T0.setTop (mkF m 17 #[.val (.int v0), .val (.int v1), .val (.int v2), .val (.int v3), .val (.int v4), .unset, .unset, .unset] [(.int (3 : Int32)), (.int v3)])) _
    refine XS.iand X0.here hx rfl (hb hby at_17) rfl ?_
    show Steps p.tables e below (T0.setTop (mkF m 18 #[.val (.int v0), .val (.int v1), .val (.int v2), .val (.int v3), .val (.int v4), .unset, .unset, .unset] [(.int (v3 &&& (3 : Int32)))])) _
    refine XS.istore X0.here hx rfl (hb hby at_18) rfl (l' := #[.val (.int v0), .val (.int v1), .val (.int v2), .val (.int v3), .val (.int v4), .val (.int (v3 &&& (3 : Int32))), .unset, .unset]) rfl ?_
    show Steps p.tables e below (T0.setTop (mkF m 20 #[.val (.int v0), .val (.int v1), .val (.int v2), .val (.int v3), .val (.int v4), .val (.int (v3 &&& (3 : Int32))), .unset, .unset] [])) _
    refine XS.iload X0.here hx rfl (hb hby at_20) rfl  ?_
    exact k
  by_cases hc22 : (v3 &&& (3 : Int32)) = (0 : Int32)
  · rw [if_pos hc22] at hr
    refine Fin.by (B := T0.setTop (mkF m 25 #[.val (.int v0), .val (.int v1), .val (.int v2), .val (.int v3), .val (.int v4), .val (.int (v3 &&& (3 : Int32))), .unset, .unset] [])) (fun t k => ?_) ?_
    · show Steps p.tables e below (T0.setTop (mkF m 22 #[.val (.int v0), .val (.int v1), .val (.int v2), .val (.int v3), .val (.int v4), .val (.int (v3 &&& (3 : Int32))), .unset, .unset] [(.int (v3 &&& (3 : Int32)))])) _
      exact XS.ifNo X0.here hx rfl (hb hby at_22) rfl ((if0 _ _).trans (teq hc22).2) k
    refine Fin.by (B := T0.setTop (mkF m 55 #[.val (.int v0), .val (.int v1), .val (.int v2), .val (.int v3), .val (.int v4), .val (.int (v3 &&& (3 : Int32))), .val (.int (1 : Int32)), .unset] [])) (fun t k => ?_) ?_
    · show Steps p.tables e below (T0.setTop (mkF m 25 #[.val (.int v0), .val (.int v1), .val (.int v2), .val (.int v3), .val (.int v4), .val (.int (v3 &&& (3 : Int32))), .unset, .unset] [])) _
      refine XS.iconst X0.here hx rfl (hb hby at_25) ?_
      show Steps p.tables e below (T0.setTop (mkF m 26 #[.val (.int v0), .val (.int v1), .val (.int v2), .val (.int v3), .val (.int v4), .val (.int (v3 &&& (3 : Int32))), .unset, .unset] [(.int (1 : Int32))])) _
      refine XS.istore X0.here hx rfl (hb hby at_26) rfl (l' := #[.val (.int v0), .val (.int v1), .val (.int v2), .val (.int v3), .val (.int v4), .val (.int (v3 &&& (3 : Int32))), .val (.int (1 : Int32)), .unset]) rfl ?_
      show Steps p.tables e below (T0.setTop (mkF m 28 #[.val (.int v0), .val (.int v1), .val (.int v2), .val (.int v3), .val (.int v4), .val (.int (v3 &&& (3 : Int32))), .val (.int (1 : Int32)), .unset] [])) _
      refine XS.goto X0.here hx rfl (pc0 := 28) (pc' := 55) rfl (hb hby at_28) (by decide) (by decide) ?_
      exact k
    have i1_j : ¬ ((1 : Int32) < (1 : Int32)) := by first | assumption | decide | exact own_q1 _ _ (by assumption) | exact own_q2 _ _ (by assumption) | exact Int32.lt_irrefl
    have i2_j : ¬ (v4 < (1 : Int32)) := by first | assumption | decide | exact own_q1 _ _ (by assumption) | exact own_q2 _ _ (by assumption) | exact Int32.lt_irrefl
    exact b0_55 ⟨hx, hZ, hw, hby, hml, hret, hown, hnm, hlk⟩ h0 n0 v0 v1 v2 v3 v4 (v3 &&& (3 : Int32)) (1 : Int32) cs X0 e0 N0 Z0 O S_cs P5 i1_j i2_j _ hr
  · rw [if_neg hc22] at hr
    refine Fin.by (B := T0.setTop (mkF m 31 #[.val (.int v0), .val (.int v1), .val (.int v2), .val (.int v3), .val (.int v4), .val (.int (v3 &&& (3 : Int32))), .unset, .unset] [])) (fun t k => ?_) ?_
    · show Steps p.tables e below (T0.setTop (mkF m 22 #[.val (.int v0), .val (.int v1), .val (.int v2), .val (.int v3), .val (.int v4), .val (.int (v3 &&& (3 : Int32))), .unset, .unset] [(.int (v3 &&& (3 : Int32)))])) _
      exact XS.ifYes X0.here hx rfl (pc0 := 22) (pc' := 31) rfl (hb hby at_22) rfl ((if0 _ _).trans (feq hc22).2) (by decide) (by decide) k
    refine Fin.by (B := T0.setTop (mkF m 34 #[.val (.int v0), .val (.int v1), .val (.int v2), .val (.int v3), .val (.int v4), .val (.int (v3 &&& (3 : Int32))), .unset, .unset] [(.int (1 : Int32)), (.int (v3 &&& (3 : Int32)))])) (fun t k => ?_) ?_
    · show Steps p.tables e below (T0.setTop (mkF m 31 #[.val (.int v0), .val (.int v1), .val (.int v2), .val (.int v3), .val (.int v4), .val (.int (v3 &&& (3 : Int32))), .unset, .unset] [])) _
      refine XS.iload X0.here hx rfl (hb hby at_31) rfl  ?_
      show Steps p.tables e below (T0.setTop (mkF m 33 #[.val (.int v0), .val (.int v1), .val (.int v2), .val (.int v3), .val (.int v4), .val (.int (v3 &&& (3 : Int32))), .unset, .unset] [(.int (v3 &&& (3 : Int32)))])) _
      refine XS.iconst X0.here hx rfl (hb hby at_33) ?_
      exact k
    by_cases hc34 : (v3 &&& (3 : Int32)) = (1 : Int32)
    · rw [if_pos hc34] at hr
      refine Fin.by (B := T0.setTop (mkF m 37 #[.val (.int v0), .val (.int v1), .val (.int v2), .val (.int v3), .val (.int v4), .val (.int (v3 &&& (3 : Int32))), .unset, .unset] [])) (fun t k => ?_) ?_
      · show Steps p.tables e below (T0.setTop (mkF m 34 #[.val (.int v0), .val (.int v1), .val (.int v2), .val (.int v3), .val (.int v4), .val (.int (v3 &&& (3 : Int32))), .unset, .unset] [(.int (1 : Int32)), (.int (v3 &&& (3 : Int32)))])) _
        exact XS.icmpNo X0.here hx rfl (hb hby at_34) rfl (teq hc34).2 k
      refine Fin.by (B := T0.setTop (mkF m 55 #[.val (.int v0), .val (.int v1), .val (.int v2), .val (.int v3), .val (.int v4), .val (.int (v3 &&& (3 : Int32))), .val (.int v4), .unset] [])) (fun t k => ?_) ?_
      · show Steps p.tables e below (T0.setTop (mkF m 37 #[.val (.int v0), .val (.int v1), .val (.int v2), .val (.int v3), .val (.int v4), .val (.int (v3 &&& (3 : Int32))), .unset, .unset] [])) _
        refine XS.iload X0.here hx rfl (hb hby at_37) rfl  ?_
        show Steps p.tables e below (T0.setTop (mkF m 39 #[.val (.int v0), .val (.int v1), .val (.int v2), .val (.int v3), .val (.int v4), .val (.int (v3 &&& (3 : Int32))), .unset, .unset] [(.int v4)])) _
        refine XS.istore X0.here hx rfl (hb hby at_39) rfl (l' := #[.val (.int v0), .val (.int v1), .val (.int v2), .val (.int v3), .val (.int v4), .val (.int (v3 &&& (3 : Int32))), .val (.int v4), .unset]) rfl ?_
        show Steps p.tables e below (T0.setTop (mkF m 41 #[.val (.int v0), .val (.int v1), .val (.int v2), .val (.int v3), .val (.int v4), .val (.int (v3 &&& (3 : Int32))), .val (.int v4), .unset] [])) _
        refine XS.goto X0.here hx rfl (pc0 := 41) (pc' := 55) rfl (hb hby at_41) (by decide) (by decide) ?_
        exact k
      have i1_j : ¬ (v4 < (1 : Int32)) := by first | assumption | decide | exact own_q1 _ _ (by assumption) | exact own_q2 _ _ (by assumption) | exact Int32.lt_irrefl
      have i2_j : ¬ (v4 < v4) := by first | assumption | decide | exact own_q1 _ _ (by assumption) | exact own_q2 _ _ (by assumption) | exact Int32.lt_irrefl
      exact b0_55 ⟨hx, hZ, hw, hby, hml, hret, hown, hnm, hlk⟩ h0 n0 v0 v1 v2 v3 v4 (v3 &&& (3 : Int32)) v4 cs X0 e0 N0 Z0 O S_cs P5 i1_j i2_j _ hr
    · rw [if_neg hc34] at hr
      refine Fin.by (B := T0.setTop (mkF m 44 #[.val (.int v0), .val (.int v1), .val (.int v2), .val (.int v3), .val (.int v4), .val (.int (v3 &&& (3 : Int32))), .unset, .unset] [])) (fun t k => ?_) ?_
      · show Steps p.tables e below (T0.setTop (mkF m 34 #[.val (.int v0), .val (.int v1), .val (.int v2), .val (.int v3), .val (.int v4), .val (.int (v3 &&& (3 : Int32))), .unset, .unset] [(.int (1 : Int32)), (.int (v3 &&& (3 : Int32)))])) _
        exact XS.icmpYes X0.here hx rfl (pc0 := 34) (pc' := 44) rfl (hb hby at_34) rfl (feq hc34).2 (by decide) (by decide) k
      refine Fin.by (B := T0.setTop (mkF m 51 #[.val (.int v0), .val (.int v1), .val (.int v2), .val (.int v3), .val (.int v4), .val (.int (v3 &&& (3 : Int32))), .unset, .unset] [(.int v4), (.int (v1 &&& (2147483647 : Int32))), (.int (1 : Int32))])) (fun t k => ?_) ?_
      · show Steps p.tables e below (T0.setTop (mkF m 44 #[.val (.int v0), .val (.int v1), .val (.int v2), .val (.int v3), .val (.int v4), .val (.int (v3 &&& (3 : Int32))), .unset, .unset] [])) _
        refine XS.iconst X0.here hx rfl (hb hby at_44) ?_
        show Steps p.tables e below (T0.setTop (mkF m 45 #[.val (.int v0), .val (.int v1), .val (.int v2), .val (.int v3), .val (.int v4), .val (.int (v3 &&& (3 : Int32))), .unset, .unset] [(.int (1 : Int32))])) _
        refine XS.iloadN X0.here hx rfl (hb hby at_45) rfl  ?_
        show Steps p.tables e below (T0.setTop (mkF m 46 #[.val (.int v0), .val (.int v1), .val (.int v2), .val (.int v3), .val (.int v4), .val (.int (v3 &&& (3 : Int32))), .unset, .unset] [(.int v1), (.int (1 : Int32))])) _
        refine X0.ldcInt hx hown (mvT hZ (hw _ (List.mem_of_getElem? (i := 0) rfl))) (g := (mkF m 46 #[.val (.int v0), .val (.int v1), .val (.int v2), .val (.int v3), .val (.int v4), .val (.int (v3 &&& (3 : Int32))), .unset, .unset] [(.int v1), (.int (1 : Int32))])) rfl (hb hby at_46) _ ?_
        show Steps p.tables e below (T0.setTop (mkF m 48 #[.val (.int v0), .val (.int v1), .val (.int v2), .val (.int v3), .val (.int v4), .val (.int (v3 &&& (3 : Int32))), .unset, .unset] [(.int (2147483647 : Int32)), (.int v1), (.int (1 : Int32))])) _
        refine XS.iand X0.here hx rfl (hb hby at_48) rfl ?_
        show Steps p.tables e below (T0.setTop (mkF m 49 #[.val (.int v0), .val (.int v1), .val (.int v2), .val (.int v3), .val (.int v4), .val (.int (v3 &&& (3 : Int32))), .unset, .unset] [(.int (v1 &&& (2147483647 : Int32))), (.int (1 : Int32))])) _
        refine XS.iload X0.here hx rfl (hb hby at_49) rfl  ?_
        exact k
      have hnz51 : ¬ (v4 = (0 : Int32)) := own_nz _ i15
      refine Fin.by (B := T0.setTop (mkF m 55 #[.val (.int v0), .val (.int v1), .val (.int v2), .val (.int v3), .val (.int v4), .val (.int (v3 &&& (3 : Int32))), .val (.int ((1 : Int32) + ((v1 &&& (2147483647 : Int32)) % v4))), .unset] [])) (fun t k => ?_) ?_
      · show Steps p.tables e below (T0.setTop (mkF m 51 #[.val (.int v0), .val (.int v1), .val (.int v2), .val (.int v3), .val (.int v4), .val (.int (v3 &&& (3 : Int32))), .unset, .unset] [(.int v4), (.int (v1 &&& (2147483647 : Int32))), (.int (1 : Int32))])) _
        refine iremM X0 hx rfl (hb hby at_51) rfl hnz51 ?_
        show Steps p.tables e below (T0.setTop (mkF m 52 #[.val (.int v0), .val (.int v1), .val (.int v2), .val (.int v3), .val (.int v4), .val (.int (v3 &&& (3 : Int32))), .unset, .unset] [(.int ((v1 &&& (2147483647 : Int32)) % v4)), (.int (1 : Int32))])) _
        refine XS.iadd X0.here hx rfl (hb hby at_52) rfl ?_
        show Steps p.tables e below (T0.setTop (mkF m 53 #[.val (.int v0), .val (.int v1), .val (.int v2), .val (.int v3), .val (.int v4), .val (.int (v3 &&& (3 : Int32))), .unset, .unset] [(.int ((1 : Int32) + ((v1 &&& (2147483647 : Int32)) % v4)))])) _
        refine XS.istore X0.here hx rfl (hb hby at_53) rfl (l' := #[.val (.int v0), .val (.int v1), .val (.int v2), .val (.int v3), .val (.int v4), .val (.int (v3 &&& (3 : Int32))), .val (.int ((1 : Int32) + ((v1 &&& (2147483647 : Int32)) % v4))), .unset]) rfl ?_
        exact k
      have i1_j : ¬ (((1 : Int32) + ((v1 &&& (2147483647 : Int32)) % v4)) < (1 : Int32)) := by first | assumption | decide | exact own_q1 _ _ (by assumption) | exact own_q2 _ _ (by assumption) | exact Int32.lt_irrefl
      have i2_j : ¬ (v4 < ((1 : Int32) + ((v1 &&& (2147483647 : Int32)) % v4))) := by first | assumption | decide | exact own_q1 _ _ (by assumption) | exact own_q2 _ _ (by assumption) | exact Int32.lt_irrefl
      exact b0_55 ⟨hx, hZ, hw, hby, hml, hret, hown, hnm, hlk⟩ h0 n0 v0 v1 v2 v3 v4 (v3 &&& (3 : Int32)) ((1 : Int32) + ((v1 &&& (2147483647 : Int32)) % v4)) cs X0 e0 N0 Z0 O S_cs P5 i1_j i2_j _ hr
def f0_0 (v0 : Int32) (v1 : Int32) (v2 : Int32) (v3 : Int32) : Int32 := (if (v2 &&& (2147483647 : Int32)) = (0 : Int32) then (f0_15 v0 v1 v2 v3 (2147483647 : Int32)) else (f0_15 v0 v1 v2 v3 (v2 &&& (2147483647 : Int32))))
set_option maxRecDepth 65536 in
set_option maxHeartbeats 40000000 in
theorem b0_0 {p : Program} {l : Launch} {e : Env} {s : State} {m : MethodId} {args : Array Value} {below : List Frame} {meth : Method} {c : Code} {Z : State} {a0 : Array Value} (B : Ctx p Z s a0 m meth c "com/example/vestwright/vestwright/model/RangesCountPinLaw" "law" code 8 (some .boolean)) {T0 : State} {locs : List Loc} {h : Heap} (h0 : Heap) (n0 : Nat) (v0 : Int32) (v1 : Int32) (v2 : Int32) (v3 : Int32) (cs : Int32) (X0 : Stand p l e room_1 s m args below meth c T0 locs 0 0) (e0 : T0.heap = h) (N0 : Fr n0 locs) (Z0 : n0 ≤ h.size) (O : Old Z n0 h) (S_cs : Sta Z Z.heap "java/lang/String" "COMPACT_STRINGS" "Z" (.int cs)) (P5 : ¬ (cs = (0 : Int32))) (r : Int32) (hr : f0_0 v0 v1 v2 v3 = r) :
    Fin p e below s 2 5 (Q0 n0 r) (T0.setTop (mkF m 0 #[.val (.int v0), .val (.int v1), .val (.int v2), .val (.int v3), .unset, .unset, .unset, .unset] [])) := by
  obtain ⟨hx, hZ, hw, hby, hml, hret, hown, hnm, hlk⟩ := B
  unfold f0_0 at hr
  refine Fin.by (B := T0.setTop (mkF m 8 #[.val (.int v0), .val (.int v1), .val (.int v2), .val (.int v3), .val (.int (v2 &&& (2147483647 : Int32))), .unset, .unset, .unset] [(.int (v2 &&& (2147483647 : Int32)))])) (fun t k => ?_) ?_
  · show Steps p.tables e below (T0.setTop (mkF m 0 #[.val (.int v0), .val (.int v1), .val (.int v2), .val (.int v3), .unset, .unset, .unset, .unset] [])) _
    refine XS.iloadN X0.here hx rfl (hb hby at_0) rfl  ?_
    show Steps p.tables e below (T0.setTop (mkF m 1 #[.val (.int v0), .val (.int v1), .val (.int v2), .val (.int v3), .unset, .unset, .unset, .unset] [(.int v2)])) _
    refine X0.ldcInt hx hown (mvT hZ (hw _ (List.mem_of_getElem? (i := 0) rfl))) (g := (mkF m 1 #[.val (.int v0), .val (.int v1), .val (.int v2), .val (.int v3), .unset, .unset, .unset, .unset] [(.int v2)])) rfl (hb hby at_1) _ ?_
    show Steps p.tables e below (T0.setTop (mkF m 3 #[.val (.int v0), .val (.int v1), .val (.int v2), .val (.int v3), .unset, .unset, .unset, .unset] [(.int (2147483647 : Int32)), (.int v2)])) _
    refine XS.iand X0.here hx rfl (hb hby at_3) rfl ?_
    show Steps p.tables e below (T0.setTop (mkF m 4 #[.val (.int v0), .val (.int v1), .val (.int v2), .val (.int v3), .unset, .unset, .unset, .unset] [(.int (v2 &&& (2147483647 : Int32)))])) _
    refine XS.istore X0.here hx rfl (hb hby at_4) rfl (l' := #[.val (.int v0), .val (.int v1), .val (.int v2), .val (.int v3), .val (.int (v2 &&& (2147483647 : Int32))), .unset, .unset, .unset]) rfl ?_
    show Steps p.tables e below (T0.setTop (mkF m 6 #[.val (.int v0), .val (.int v1), .val (.int v2), .val (.int v3), .val (.int (v2 &&& (2147483647 : Int32))), .unset, .unset, .unset] [])) _
    refine XS.iload X0.here hx rfl (hb hby at_6) rfl  ?_
    exact k
  by_cases hc8 : (v2 &&& (2147483647 : Int32)) = (0 : Int32)
  · rw [if_pos hc8] at hr
    refine Fin.by (B := T0.setTop (mkF m 11 #[.val (.int v0), .val (.int v1), .val (.int v2), .val (.int v3), .val (.int (v2 &&& (2147483647 : Int32))), .unset, .unset, .unset] [])) (fun t k => ?_) ?_
    · show Steps p.tables e below (T0.setTop (mkF m 8 #[.val (.int v0), .val (.int v1), .val (.int v2), .val (.int v3), .val (.int (v2 &&& (2147483647 : Int32))), .unset, .unset, .unset] [(.int (v2 &&& (2147483647 : Int32)))])) _
      exact XS.ifNo X0.here hx rfl (hb hby at_8) rfl ((if0 _ _).trans (teq hc8).2) k
    refine Fin.by (B := T0.setTop (mkF m 15 #[.val (.int v0), .val (.int v1), .val (.int v2), .val (.int v3), .val (.int (2147483647 : Int32)), .unset, .unset, .unset] [])) (fun t k => ?_) ?_
    · show Steps p.tables e below (T0.setTop (mkF m 11 #[.val (.int v0), .val (.int v1), .val (.int v2), .val (.int v3), .val (.int (v2 &&& (2147483647 : Int32))), .unset, .unset, .unset] [])) _
      refine X0.ldcInt hx hown (mvT hZ (hw _ (List.mem_of_getElem? (i := 0) rfl))) (g := (mkF m 11 #[.val (.int v0), .val (.int v1), .val (.int v2), .val (.int v3), .val (.int (v2 &&& (2147483647 : Int32))), .unset, .unset, .unset] [])) rfl (hb hby at_11) _ ?_
      show Steps p.tables e below (T0.setTop (mkF m 13 #[.val (.int v0), .val (.int v1), .val (.int v2), .val (.int v3), .val (.int (v2 &&& (2147483647 : Int32))), .unset, .unset, .unset] [(.int (2147483647 : Int32))])) _
      refine XS.istore X0.here hx rfl (hb hby at_13) rfl (l' := #[.val (.int v0), .val (.int v1), .val (.int v2), .val (.int v3), .val (.int (2147483647 : Int32)), .unset, .unset, .unset]) rfl ?_
      exact k
    have i15_j : ¬ ((2147483647 : Int32) < (1 : Int32)) := by first | exact own_pos _ (by assumption) | decide
    exact b0_15 ⟨hx, hZ, hw, hby, hml, hret, hown, hnm, hlk⟩ h0 n0 v0 v1 v2 v3 (2147483647 : Int32) cs X0 e0 N0 Z0 O S_cs P5 i15_j _ hr
  · rw [if_neg hc8] at hr
    refine Fin.by (B := T0.setTop (mkF m 15 #[.val (.int v0), .val (.int v1), .val (.int v2), .val (.int v3), .val (.int (v2 &&& (2147483647 : Int32))), .unset, .unset, .unset] [])) (fun t k => ?_) ?_
    · show Steps p.tables e below (T0.setTop (mkF m 8 #[.val (.int v0), .val (.int v1), .val (.int v2), .val (.int v3), .val (.int (v2 &&& (2147483647 : Int32))), .unset, .unset, .unset] [(.int (v2 &&& (2147483647 : Int32)))])) _
      exact XS.ifYes X0.here hx rfl (pc0 := 8) (pc' := 15) rfl (hb hby at_8) rfl ((if0 _ _).trans (feq hc8).2) (by decide) (by decide) k
    have i15_j : ¬ ((v2 &&& (2147483647 : Int32)) < (1 : Int32)) := by first | exact own_pos _ (by assumption) | decide
    exact b0_15 ⟨hx, hZ, hw, hby, hml, hret, hown, hnm, hlk⟩ h0 n0 v0 v1 v2 v3 (v2 &&& (2147483647 : Int32)) cs X0 e0 N0 Z0 O S_cs P5 i15_j _ hr
theorem ef_0 (m : MethodId) (v0 : Int32) (v1 : Int32) (v2 : Int32) (v3 : Int32) : entryFrame m #[(.int v0), (.int v1), (.int v2), (.int v3)] maxLocals = (mkF m 0 #[.val (.int v0), .val (.int v1), .val (.int v2), .val (.int v3), .unset, .unset, .unset, .unset] []) := by first | (simp [entryFrame, mkF, argsToLocals, Value.category, maxLocals]; done) | rfl
set_option maxRecDepth 65536 in
set_option maxHeartbeats 40000000 in
theorem rm0 (l : Launch) (Z : State) (a0 : Array Value) (hw : ∀ d ∈ tables_1, d.before a0 Z = true) (ws : List Jvm.Cond) (v0 : Int32) (v1 : Int32) (v2 : Int32) (v3 : Int32) (cs : Int32) (h0 : Heap) (n0 : Nat) (Z0 : n0 ≤ h0.size) (O : Old Z n0 h0) (S_cs : Sta Z Z.heap "java/lang/String" "COMPACT_STRINGS" "Z" (.int cs)) (P5 : ¬ (cs = (0 : Int32))) :
    MetFree l x (head1 (Jvm.Cond.code x code maxLocals ret :: ws) room_1) (fun a U => a = #[(.int v0), (.int v1), (.int v2), (.int v3)] ∧ Z.Warmed39 U.vm ∧ U.heap = h0) (fun _ _ _ _ _ => True) (fun _ U o U' => ∃ v L, o = .returned v ∧ (Q0 n0 (f0_0 v0 v1 v2 v3)) v U'.heap L ∧ FrameEnd U o U' L 2 5) := by
  refine MetFree.of_bodySF (plainFor_of_name pn_0) hisR ?_
  intro p e s m args below meth c s₁ Bd hml0 hP hK
  obtain ⟨rfl, hZ, hh⟩ := hP
  have B : Ctx p Z s a0 m meth c "com/example/vestwright/vestwright/model/RangesCountPinLaw" "law" code 8 (some .boolean) := ⟨Bd.exec, hZ, hw, Bd.bytes, hml0, Bd.returns, findClass_of_methodNamed Bd.named, (name_of_methodNamed Bd.named Bd.method).1, Bd.notSynchronized⟩
  have X0 : Stand p l e room_1 s m #[(.int v0), (.int v1), (.int v2), (.int v3)] below meth c s₁ [] 0 0 := Stand.of_body Bd
  have e0 : s₁.heap = h0 := by rw [← hh, Bd.state]; rfl
  have K := Keep.refl h0 []
  show Fin p e below s 2 5 (Q0 n0 (f0_0 v0 v1 v2 v3)) (s₁.setTop (entryFrame m #[(.int v0), (.int v1), (.int v2), (.int v3)] maxLocals))
  refine Fin.by (fun t k => castTop (ef_0 m v0 v1 v2 v3) k) ?_
  exact b0_0 B h0 n0 v0 v1 v2 v3 cs X0 e0 (Fr.nil n0) Z0 O S_cs P5 _ rfl

theorem own_law (a b c d : Int32) : f0_0 a b c d = 1 := by
  unfold f0_0 f0_15 f0_55 f0_64 f6_0
  simp only [if_true, ite_self]

set_option maxRecDepth 65536 in
set_option maxHeartbeats 40000000 in
theorem comes_1 {Post : Tables → Env → Array Value → State → Outcome → State → Prop} (hpost : ∀ tb e args s v u, (limb_1_1.after args s (.returned v) u = true ∧ limb_1_2.after args s (.returned v) u = true ∧ True) → FrameEnd s (.returned v) u (Jvm.fieldLocs frame_1_writes args s ++ Jvm.arrayLocs frame_1_arrays args s ++ Jvm.staticLocs frame_1_statics s) 16 128 → Post tb e args s (.returned v) u) :
    ArmFor flags0 classFile x code maxLocals ret World_1 tables_1 room_1 Calls_1 rest_1 Pre_1 Post := by
  intro l hfl _ _ p e ha hc hk s m args below hf hA hF happ hP
  obtain ⟨hcalls, hrest, hpre⟩ := hP
  obtain ⟨-, -, -, hnamed, -, -, -, hat⟩ := (Spec.applies_iff hf).mp happ
  obtain ⟨hg, hn⟩ := and_e (Cond.before_iff.mp (show (Jvm.Cond.and given_1 narrow_1).before args s = true from hpre))
  obtain ⟨gg1, gg2⟩ := and_e hg
  obtain ⟨gg3, gg4⟩ := and_e gg2
  obtain ⟨gg5, gg6⟩ := and_e gg4
  obtain ⟨gg7, gg8⟩ := and_e gg6
  obtain ⟨w0, w1, w2, w3, rfl⟩ : ∃ w0 w1 w2 w3 : Value, args = #[w0, w1, w2, w3] := by
    have hs : args.size = 4 := by simpa [Cond.value, given_1] using gg1
    obtain ⟨L⟩ := args
    match L, hs with
    | [w0, w1, w2, w3], _ => exact ⟨w0, w1, w2, w3, rfl⟩
  have hw := fun d (hd : d ∈ tables_1) => atoms_spec (ws := Jvm.Cond.code x code maxLocals ret :: tables_1) hat d (List.mem_cons_of_mem _ hd)
  have hfit : Fit s := fun {y c} hc i hi => by
    obtain ⟨ha, rfl⟩ := Array.getElem?_eq_some_iff.mp hc
    have q := List.all_eq_true.mp ((Array.all_eq_true_iff_forall_mem.mp hF) _ (Array.getElem_mem ha)) i (List.mem_range.mpr hi)
    simpa [Array.getElem?_eq_getElem hi] using q
  obtain ⟨hsets, hown0⟩ := atoms_of _ (rest_1_c_eq ▸ (show rest_1_c.before _ s = true from hrest))
  obtain ⟨i0, ei0⟩ := is_v gg3
  obtain rfl : w0 = (.int i0) := Option.some.inj ei0
  obtain ⟨i1, ei1⟩ := is_v gg5
  obtain rfl : w1 = (.int i1) := Option.some.inj ei1
  obtain ⟨i2, ei2⟩ := is_v gg7
  obtain rfl : w2 = (.int i2) := Option.some.inj ei2
  obtain ⟨i3, ei3⟩ := is_v gg8
  obtain rfl : w3 = (.int i3) := Option.some.inj ei3
  have n5 := not_v (Cond.before_iff.mp (hsets _ (List.mem_of_getElem? (i := 2) rfl)))
  obtain ⟨cs, e10⟩ := is_v (Cond.before_iff.mp (hsets _ (List.mem_of_getElem? (i := 1) rfl)))
  have S12 : Sta s s.heap "java/lang/String" "COMPACT_STRINGS" "Z" (.int cs) := Sta.start e10 (Or.inl (hsets _ (List.mem_of_getElem? (i := 0) rfl)))
  have c17 : ¬ (cs = (0 : Int32)) := gotF (Cond.eq_ints e10 (Term.int_eval (0))) n5
  obtain ⟨n, o, h1, h2, h3, _, L, rfl, ⟨rfl, N⟩, hq⟩ := rm0 l s _ hw tables_1 i0 i1 i2 i3 cs s.heap s.heap.size (Nat.le_refl _) (Old.start s) S12 c17 p e ha hc hk s m _ below hf ((Spec.applies_iff_loose hf).mp happ).1 ⟨rfl, State.Warmed39.refl s, rfl⟩ trivial
  refine ⟨n, _, h1, h2, h3, hpost _ _ _ _ _ _ ⟨Cond.after_iff.mpr rfl, Cond.after_iff.mpr (eq_i res_at (Term.int_eval (1)) (congrArg Value.int (own_law i0 i1 i2 i3))), trivial⟩ ⟨hq.1, hq.2.1, (hq.2.2.sift fun y hy => Or.inr (N y hy)).mono (by decide) (by decide)⟩⟩
theorem main_1_1 : Claimed_1_1 := comes_1 fun _ _ _ _ _ _ h hF => ⟨h.1, hF⟩
theorem main_1_2 : Claimed_1_2 := comes_1 fun _ _ _ _ _ _ h hF => ⟨h.2.1, hF⟩
end Jvm.Pilot.@@N@@
namespace Jvm.Pilot.@@N@@
open Jvm Jvm.ClassFile Sem Op Lib Jvm.Free Jvm.Stand Jvm.Pilot.@@N@@.Jvm.D
/-! MADE BY PROGRAM (witnessworld.py) out of the Statement's table words and the real class files: 17 classes; the members and pool entries that the words name. The judged class is class 1, her method 1. -/
namespace start1
open Jvm.ClassFile
def u (s : String) : CpInfo := .utf8 (stringToUtf16 s)
/-- a pool by its gaps: so many unusable entries, then the entry; so many at the end -/
def gap : Nat → List CpInfo → List CpInfo
  | 0, r => r
  | n + 1, r => .unusable :: gap n r
def poolList (es : List (Nat × CpInfo)) (last : Nat) : List CpInfo := es.foldr (fun e r => gap e.1 (e.2 :: r)) (gap last [])
def pool (es : List (Nat × CpInfo)) (last : Nat) : Array CpInfo := ⟨poolList es last⟩
def fileOf (pool : Array CpInfo) (this : Nat) (attrs : Array Attribute := #[]) (ms : Array MethodInfo := #[]) (fl : Nat := 33) (sup : Nat := 0) (ifs : Array Nat := #[]) (fds : Array FieldInfo := #[]) : ClassFile where
  minorVersion := 0
  majorVersion := 65
  constantPool := pool
  accessFlags := fl
  thisClass := this
  superClass := sup
  interfaces := ifs
  fields := fds
  methods := ms
  attributes := attrs
def plain (name : String) (sup : Option ClassId) : Class where
  name := name
  kind := .ordinary
  loader := none
  accessFlags := 33
  super := sup
  interfaces := #[]
  cf := none
  fields := #[]
  methods := #[]
  instanceTypes := #[]
  staticTypes := #[]
  resolved := #[]
  callSites := []
  init := .initialized
  statics := none
  mirror := none

def pool0 : Array CpInfo := pool [(5, u "<init>"), (0, u "()V"), (1, .class_ 10), (1, u "java/lang/Object")] 113

def k0c0 : Code := { maxStack := 0, maxLocals := 1, code := object_method_1_code, exceptionTable := #[], attributes := #[] }
def k0m0 : Method := { name := "<init>", desc := "()V", sig := { parameters := [], returnType := none }, accessFlags := 1, code := some k0c0 }
/-- java/lang/Object -/
def k0 : Class := { plain "java/lang/Object" none with
  accessFlags := 33
  interfaces := #[]
  cf := some (fileOf pool0 8 #[] #[{ accessFlags := 1, nameIndex := 5, descriptorIndex := 6, attributes := #[] }] 33 0 #[] #[])
  fields := #[]
  methods := #[k0m0]
  instanceTypes := #[]
  staticTypes := #[]
  resolved := Array.replicate 124 none
  statics := none }

def pool1 : Array CpInfo := pool [(2, .class_ 4), (1, u "java/lang/Object"), (0, u "<init>"), (0, u "()V"), (0, .integer 2147483647), (2, .methodref 11 12), (0, .class_ 13), (0, .nameAndType 14 15), (0, u "java/lang/String"), (0, u "valueOf"), (0, u "(C)Ljava/lang/String;"), (0, .methodref 17 18), (0, .class_ 19), (0, .nameAndType 20 21), (0, u "com/example/vestwright/vestwright/model/Ranges"), (0, u "count"), (0, u "(Ljava/lang/String;II)I"), (0, .class_ 23), (0, u "com/example/vestwright/vestwright/model/RangesCountPinLaw"), (2, u "law"), (0, u "(IIII)Z")] 3

def k1m0 : Method := { name := "<init>", desc := "()V", sig := { parameters := [], returnType := none }, accessFlags := 2, code := none }
def k1c1 : Code := { maxStack := 3, maxLocals := 8, code := code, exceptionTable := #[], attributes := #[] }
def k1m1 : Method := { name := "law", desc := "(IIII)Z", sig := { parameters := [.int, .int, .int, .int], returnType := some .boolean }, accessFlags := 9, code := some k1c1 }
/-- com/example/vestwright/vestwright/model/RangesCountPinLaw -/
def k1 : Class := { plain "com/example/vestwright/vestwright/model/RangesCountPinLaw" (some 0) with
  accessFlags := 49
  interfaces := #[]
  cf := some (fileOf pool1 22 #[] #[{ accessFlags := 2, nameIndex := 5, descriptorIndex := 6, attributes := #[] }, { accessFlags := 9, nameIndex := 26, descriptorIndex := 27, attributes := #[] }] 49 2 #[] #[])
  fields := #[]
  methods := #[k1m0, k1m1]
  instanceTypes := #[]
  staticTypes := #[]
  resolved := Array.replicate 31 none
  statics := none }

def pool2 : Array CpInfo := pool [(1, .class_ 2), (0, u "java/io/Serializable"), (0, .class_ 4), (0, u "java/lang/Object")] 2

/-- java/io/Serializable -/
def k2 : Class := { plain "java/io/Serializable" (some 0) with
  accessFlags := 1537
  interfaces := #[]
  cf := some (fileOf pool2 1 #[] #[] 1537 3 #[] #[])
  fields := #[]
  methods := #[]
  instanceTypes := #[]
  staticTypes := #[]
  resolved := Array.replicate 7 none
  statics := none }

def pool3 : Array CpInfo := pool [(1, .class_ 2), (0, u "java/lang/Comparable"), (0, .class_ 4), (0, u "java/lang/Object")] 7

/-- java/lang/Comparable -/
def k3 : Class := { plain "java/lang/Comparable" (some 0) with
  accessFlags := 1537
  interfaces := #[]
  cf := some (fileOf pool3 1 #[] #[] 1537 3 #[] #[])
  fields := #[]
  methods := #[]
  instanceTypes := #[]
  staticTypes := #[]
  resolved := Array.replicate 12 none
  statics := none }

def pool4 : Array CpInfo := pool [(2, .class_ 4), (1, u "java/lang/CharSequence"), (42, .class_ 48), (0, u "java/lang/CharSequence$1CodePointIterator"), (10, .class_ 60), (0, u "java/lang/CharSequence$1CharIterator"), (5, .class_ 67), (0, u "java/lang/Object")] 63

/-- java/lang/CharSequence -/
def k4 : Class := { plain "java/lang/CharSequence" (some 0) with
  accessFlags := 1537
  interfaces := #[]
  cf := some (fileOf pool4 2 #[.nestMembers #[47, 59]] #[] 1537 66 #[] #[])
  fields := #[]
  methods := #[]
  instanceTypes := #[]
  staticTypes := #[]
  resolved := Array.replicate 131 none
  statics := none }

def pool5 : Array CpInfo := pool [(1, .class_ 2), (0, u "java/lang/constant/Constable"), (0, .class_ 4), (0, u "java/lang/Object")] 6

/-- java/lang/constant/Constable -/
def k5 : Class := { plain "java/lang/constant/Constable" (some 0) with
  accessFlags := 1537
  interfaces := #[]
  cf := some (fileOf pool5 1 #[] #[] 1537 3 #[] #[])
  fields := #[]
  methods := #[]
  instanceTypes := #[]
  staticTypes := #[]
  resolved := Array.replicate 11 none
  statics := none }

def pool6 : Array CpInfo := pool [(1, .class_ 2), (0, u "java/lang/constant/ConstantDesc"), (0, .class_ 4), (0, u "java/lang/Object")] 32

/-- java/lang/constant/ConstantDesc -/
def k6 : Class := { plain "java/lang/constant/ConstantDesc" (some 0) with
  accessFlags := 1537
  interfaces := #[]
  cf := some (fileOf pool6 1 #[] #[] 1537 3 #[] #[])
  fields := #[]
  methods := #[]
  instanceTypes := #[]
  staticTypes := #[]
  resolved := Array.replicate 37 none
  statics := none }

def pool7 : Array CpInfo := pool [(1, .methodref 2 3), (0, .class_ 4), (0, .nameAndType 5 6), (0, u "java/lang/Object"), (0, u "<init>"), (0, u "()V"), (2, .fieldref 10 11), (0, .class_ 12), (0, .nameAndType 13 14), (0, u "java/lang/String"), (0, u "value"), (0, u "[B"), (0, .fieldref 10 16), (0, .nameAndType 17 18), (0, u "coder"), (0, u "B"), (2, u "hash"), (0, u "I"), (2, u "hashIsZero"), (0, u "Z"), (11, .fieldref 10 39), (0, .nameAndType 40 26), (0, u "COMPACT_STRINGS"), (12, u "toBytes"), (53, .class_ 109), (1, u "java/lang/StringLatin1"), (99, .methodref 10 210), (0, .nameAndType 5 211), (0, u "([BB)V"), (157, u "(C)Z"), (205, .class_ 576), (0, u "java/lang/CharSequence"), (22, u "CASE_INSENSITIVE_ORDER"), (0, u "Ljava/util/Comparator;"), (181, u "valueOf"), (0, u "(C)Ljava/lang/String;"), (231, .methodref 107 1016), (0, .nameAndType 1017 369), (0, u "canEncode"), (0, .methodref 107 1019), (0, .nameAndType 53 1020), (0, u "(C)[B"), (80, u "serialPersistentFields"), (0, u "[Ljava/io/ObjectStreamField;"), (0, .class_ 1104), (0, u "java/lang/String$CaseInsensitiveComparator"), (1, .class_ 1107), (0, u "java/io/Serializable"), (0, .class_ 1109), (0, u "java/lang/Comparable"), (0, .class_ 1111), (0, u "java/lang/constant/Constable"), (0, .class_ 1113), (0, u "java/lang/constant/ConstantDesc"), (2, u "serialVersionUID"), (0, u "J"), (3, u "REPL"), (0, u "C"), (2, u "LATIN1"), (1, u "UTF16")] 323

def k7m0 : Method := { name := "<init>", desc := "()V", sig := { parameters := [], returnType := none }, accessFlags := 1, code := none }
def k7c1 : Code := { maxStack := 4, maxLocals := 1, code := jdk_42_method_139_code, exceptionTable := #[], attributes := #[] }
def k7m1 : Method := { name := "valueOf", desc := "(C)Ljava/lang/String;", sig := { parameters := [.char], returnType := some (.object "java/lang/String") }, accessFlags := 9, code := some k7c1 }
def k7c2 : Code := { maxStack := 2, maxLocals := 3, code := jdk_42_method_151_code, exceptionTable := #[], attributes := #[] }
def k7m2 : Method := { name := "<init>", desc := "([BB)V", sig := { parameters := [(.array .byte), .byte], returnType := none }, accessFlags := 0, code := some k7c2 }
/-- java/lang/String -/
def k7 : Class := { plain "java/lang/String" (some 0) with
  accessFlags := 49
  interfaces := #[2, 3, 4, 5, 6]
  cf := some (fileOf pool7 10 #[.nestMembers #[1103]] #[{ accessFlags := 1, nameIndex := 5, descriptorIndex := 6, attributes := #[] }, { accessFlags := 9, nameIndex := 782, descriptorIndex := 783, attributes := #[] }, { accessFlags := 0, nameIndex := 5, descriptorIndex := 211, attributes := #[] }] 49 2 #[1106, 1108, 575, 1110, 1112] #[{ accessFlags := 18, nameIndex := 13, descriptorIndex := 14, attributes := #[] }, { accessFlags := 18, nameIndex := 17, descriptorIndex := 18, attributes := #[] }, { accessFlags := 2, nameIndex := 21, descriptorIndex := 22, attributes := #[] }, { accessFlags := 2, nameIndex := 25, descriptorIndex := 26, attributes := #[] }, { accessFlags := 26, nameIndex := 1116, descriptorIndex := 1117, attributes := #[] }, { accessFlags := 24, nameIndex := 40, descriptorIndex := 26, attributes := #[] }, { accessFlags := 26, nameIndex := 1101, descriptorIndex := 1102, attributes := #[] }, { accessFlags := 26, nameIndex := 1121, descriptorIndex := 1122, attributes := #[] }, { accessFlags := 25, nameIndex := 599, descriptorIndex := 600, attributes := #[] }, { accessFlags := 24, nameIndex := 1125, descriptorIndex := 18, attributes := #[] }, { accessFlags := 24, nameIndex := 1127, descriptorIndex := 18, attributes := #[] }])
  fields := #[{ name := "value", type := (.array .byte), accessFlags := 18, slot := 0, constantValue := 0 }, { name := "coder", type := .byte, accessFlags := 18, slot := 1, constantValue := 0 }, { name := "hash", type := .int, accessFlags := 2, slot := 2, constantValue := 0 }, { name := "hashIsZero", type := .boolean, accessFlags := 2, slot := 3, constantValue := 0 }, { name := "serialVersionUID", type := .long, accessFlags := 26, slot := 0, constantValue := 0 }, { name := "COMPACT_STRINGS", type := .boolean, accessFlags := 24, slot := 1, constantValue := 0 }, { name := "serialPersistentFields", type := (.array (.object "java/io/ObjectStreamField")), accessFlags := 26, slot := 2, constantValue := 0 }, { name := "REPL", type := .char, accessFlags := 26, slot := 3, constantValue := 0 }, { name := "CASE_INSENSITIVE_ORDER", type := (.object "java/util/Comparator"), accessFlags := 25, slot := 4, constantValue := 0 }, { name := "LATIN1", type := .byte, accessFlags := 24, slot := 5, constantValue := 0 }, { name := "UTF16", type := .byte, accessFlags := 24, slot := 6, constantValue := 0 }]
  methods := #[k7m0, k7m1, k7m2]
  instanceTypes := #[(.array .byte), .byte, .int, .boolean]
  staticTypes := #[.long, .boolean, (.array (.object "java/io/ObjectStreamField")), .char, (.object "java/util/Comparator"), .byte, .byte]
  resolved := Array.replicate 1451 none
  statics := some 0 }

def pool8 : Array CpInfo := pool [(4, .class_ 6), (1, u "java/lang/Object"), (0, u "<init>"), (0, u "()V"), (5, .class_ 16), (1, u "java/lang/StringLatin1"), (73, u "canEncode"), (14, u "(C)Z"), (15, u "$assertionsDisabled"), (0, u "Z"), (98, .class_ 223), (1, u "java/lang/StringLatin1$LinesSpliterator"), (156, u "toBytes"), (1, u "(C)[B"), (7, .class_ 391), (0, u "java/lang/StringLatin1$CharsSpliterator")] 3

def k8m0 : Method := { name := "<init>", desc := "()V", sig := { parameters := [], returnType := none }, accessFlags := 0, code := none }
def k8c1 : Code := { maxStack := 2, maxLocals := 1, code := jdk_43_method_3_code, exceptionTable := #[], attributes := #[] }
def k8m1 : Method := { name := "canEncode", desc := "(C)Z", sig := { parameters := [.char], returnType := some .boolean }, accessFlags := 9, code := some k8c1 }
def k8c2 : Code := { maxStack := 4, maxLocals := 1, code := jdk_43_method_46_code, exceptionTable := #[], attributes := #[] }
def k8m2 : Method := { name := "toBytes", desc := "(C)[B", sig := { parameters := [.char], returnType := some (.array .byte) }, accessFlags := 9, code := some k8c2 }
/-- java/lang/StringLatin1 -/
def k8 : Class := { plain "java/lang/StringLatin1" (some 0) with
  accessFlags := 48
  interfaces := #[]
  cf := some (fileOf pool8 14 #[.nestMembers #[390, 221]] #[{ accessFlags := 0, nameIndex := 7, descriptorIndex := 8, attributes := #[] }, { accessFlags := 9, nameIndex := 90, descriptorIndex := 105, attributes := #[] }, { accessFlags := 9, nameIndex := 380, descriptorIndex := 382, attributes := #[] }] 48 4 #[] #[{ accessFlags := 4120, nameIndex := 121, descriptorIndex := 122, attributes := #[] }])
  fields := #[{ name := "$assertionsDisabled", type := .boolean, accessFlags := 4120, slot := 0, constantValue := 0 }]
  methods := #[k8m0, k8m1, k8m2]
  instanceTypes := #[]
  staticTypes := #[.boolean]
  resolved := Array.replicate 395 none
  statics := none }

def pool9 : Array CpInfo := pool [(1, .class_ 2), (0, u "com/example/vestwright/vestwright/model/Ranges"), (1, .class_ 6), (1, u "java/lang/Object"), (0, u "<init>"), (0, u "()V"), (5, u "Ljava/math/BigDecimal;"), (6, u "FULL_PERCENT"), (93, u "(Ljava/lang/String;II)I"), (8, u "ROUNDING_RULES"), (0, u "Ljava/util/List;"), (108, u "MOST_DECIMALS"), (0, u "I"), (2, u "MOST_PROBABILITY_DECIMALS"), (1, u "MOST_DOLLAR_DIGITS"), (1, u "OLDEST_AGE"), (1, u "MOST_DAYS_AFTER"), (1, u "MOST_ELECTION_PERIOD"), (1, u "MOST_MONTHS"), (1, u "MOST_YEARS"), (10, u "count")] 53

def k9m0 : Method := { name := "<init>", desc := "()V", sig := { parameters := [], returnType := none }, accessFlags := 2, code := none }
def k9c1 : Code := { maxStack := 5, maxLocals := 3, code := prog_99_method_12_code, exceptionTable := #[], attributes := #[] }
def k9m1 : Method := { name := "count", desc := "(Ljava/lang/String;II)I", sig := { parameters := [(.object "java/lang/String"), .int, .int], returnType := some .int }, accessFlags := 8, code := some k9c1 }
/-- com/example/vestwright/vestwright/model/Ranges -/
def k9 : Class := { plain "com/example/vestwright/vestwright/model/Ranges" (some 0) with
  accessFlags := 49
  interfaces := #[]
  cf := some (fileOf pool9 1 #[] #[{ accessFlags := 2, nameIndex := 7, descriptorIndex := 8, attributes := #[] }, { accessFlags := 8, nameIndex := 261, descriptorIndex := 115, attributes := #[] }] 49 4 #[] #[{ accessFlags := 25, nameIndex := 124, descriptorIndex := 125, attributes := #[] }, { accessFlags := 24, nameIndex := 21, descriptorIndex := 14, attributes := #[] }, { accessFlags := 26, nameIndex := 234, descriptorIndex := 235, attributes := #[] }, { accessFlags := 26, nameIndex := 238, descriptorIndex := 235, attributes := #[] }, { accessFlags := 26, nameIndex := 240, descriptorIndex := 235, attributes := #[] }, { accessFlags := 26, nameIndex := 242, descriptorIndex := 235, attributes := #[] }, { accessFlags := 26, nameIndex := 244, descriptorIndex := 235, attributes := #[] }, { accessFlags := 26, nameIndex := 246, descriptorIndex := 235, attributes := #[] }, { accessFlags := 24, nameIndex := 248, descriptorIndex := 235, attributes := #[] }, { accessFlags := 24, nameIndex := 250, descriptorIndex := 235, attributes := #[] }])
  fields := #[{ name := "ROUNDING_RULES", type := (.object "java/util/List"), accessFlags := 25, slot := 0, constantValue := 0 }, { name := "FULL_PERCENT", type := (.object "java/math/BigDecimal"), accessFlags := 24, slot := 1, constantValue := 0 }, { name := "MOST_DECIMALS", type := .int, accessFlags := 26, slot := 2, constantValue := 0 }, { name := "MOST_PROBABILITY_DECIMALS", type := .int, accessFlags := 26, slot := 3, constantValue := 0 }, { name := "MOST_DOLLAR_DIGITS", type := .int, accessFlags := 26, slot := 4, constantValue := 0 }, { name := "OLDEST_AGE", type := .int, accessFlags := 26, slot := 5, constantValue := 0 }, { name := "MOST_DAYS_AFTER", type := .int, accessFlags := 26, slot := 6, constantValue := 0 }, { name := "MOST_ELECTION_PERIOD", type := .int, accessFlags := 26, slot := 7, constantValue := 0 }, { name := "MOST_MONTHS", type := .int, accessFlags := 24, slot := 8, constantValue := 0 }, { name := "MOST_YEARS", type := .int, accessFlags := 24, slot := 9, constantValue := 0 }]
  methods := #[k9m0, k9m1]
  instanceTypes := #[]
  staticTypes := #[(.object "java/util/List"), (.object "java/math/BigDecimal"), .int, .int, .int, .int, .int, .int, .int, .int]
  resolved := Array.replicate 315 none
  statics := none }

def pool10 : Array CpInfo := pool [(2, .class_ 4), (1, u "java/lang/Object"), (0, u "<init>"), (0, u "()V"), (17, .class_ 26), (1, u "jdk/internal/util/Preconditions"), (28, .class_ 56), (0, u "jdk/internal/util/Preconditions$4"), (57, .class_ 115), (0, u "jdk/internal/util/Preconditions$1"), (7, u "SIOOBE_FORMATTER"), (0, u "Ljava/util/function/BiFunction;"), (0, .class_ 126), (0, u "jdk/internal/util/Preconditions$2"), (3, u "AIOOBE_FORMATTER"), (0, .class_ 132), (0, u "jdk/internal/util/Preconditions$3"), (3, u "IOOBE_FORMATTER")] 57

def k10m0 : Method := { name := "<init>", desc := "()V", sig := { parameters := [], returnType := none }, accessFlags := 1, code := none }
/-- jdk/internal/util/Preconditions -/
def k10 : Class := { plain "jdk/internal/util/Preconditions" (some 0) with
  accessFlags := 33
  interfaces := #[]
  cf := some (fileOf pool10 24 #[.nestMembers #[55, 131, 125, 114]] #[{ accessFlags := 1, nameIndex := 5, descriptorIndex := 6, attributes := #[] }] 33 2 #[] #[{ accessFlags := 25, nameIndex := 123, descriptorIndex := 124, attributes := #[] }, { accessFlags := 25, nameIndex := 130, descriptorIndex := 124, attributes := #[] }, { accessFlags := 25, nameIndex := 136, descriptorIndex := 124, attributes := #[] }])
  fields := #[{ name := "SIOOBE_FORMATTER", type := (.object "java/util/function/BiFunction"), accessFlags := 25, slot := 0, constantValue := 0 }, { name := "AIOOBE_FORMATTER", type := (.object "java/util/function/BiFunction"), accessFlags := 25, slot := 1, constantValue := 0 }, { name := "IOOBE_FORMATTER", type := (.object "java/util/function/BiFunction"), accessFlags := 25, slot := 2, constantValue := 0 }]
  methods := #[k10m0]
  instanceTypes := #[]
  staticTypes := #[(.object "java/util/function/BiFunction"), (.object "java/util/function/BiFunction"), (.object "java/util/function/BiFunction")]
  resolved := Array.replicate 194 none
  statics := some 1 }

def pool11 : Array CpInfo := pool [(9, u "<init>"), (6, .class_ 18), (1, u "java/lang/Object"), (0, u "()V"), (1, .class_ 23), (1, u "jdk/internal/util/ArraysSupport"), (0, u "LOG2_ARRAY_LONG_INDEX_SCALE"), (0, u "I"), (2, u "U"), (0, u "Ljdk/internal/misc/Unsafe;"), (8, u "BIG_ENDIAN"), (0, u "Z"), (8, u "LOG2_BYTE_BIT_SIZE"), (4, u "LOG2_ARRAY_INT_INDEX_SCALE"), (54, u "JLA"), (0, u "Ljdk/internal/access/JavaLangAccess;"), (11, u "LOG2_ARRAY_BOOLEAN_INDEX_SCALE"), (9, u "LOG2_ARRAY_BYTE_INDEX_SCALE"), (5, u "LOG2_ARRAY_CHAR_INDEX_SCALE"), (5, u "LOG2_ARRAY_SHORT_INDEX_SCALE"), (18, u "LOG2_ARRAY_FLOAT_INDEX_SCALE"), (24, u "LOG2_ARRAY_DOUBLE_INDEX_SCALE"), (89, u "T_BOOLEAN"), (2, u "T_CHAR"), (1, u "T_FLOAT"), (1, u "T_DOUBLE"), (1, u "T_BYTE"), (1, u "T_SHORT"), (1, u "T_INT"), (1, u "T_LONG"), (1, u "SOFT_MAX_ARRAY_LENGTH")] 83

def k11m0 : Method := { name := "<init>", desc := "()V", sig := { parameters := [], returnType := none }, accessFlags := 2, code := none }
/-- jdk/internal/util/ArraysSupport -/
def k11 : Class := { plain "jdk/internal/util/ArraysSupport" (some 0) with
  accessFlags := 33
  interfaces := #[]
  cf := some (fileOf pool11 21 #[] #[{ accessFlags := 2, nameIndex := 9, descriptorIndex := 19, attributes := #[] }] 33 16 #[] #[{ accessFlags := 24, nameIndex := 28, descriptorIndex := 29, attributes := #[] }, { accessFlags := 26, nameIndex := 38, descriptorIndex := 39, attributes := #[] }, { accessFlags := 25, nameIndex := 121, descriptorIndex := 25, attributes := #[] }, { accessFlags := 25, nameIndex := 131, descriptorIndex := 25, attributes := #[] }, { accessFlags := 25, nameIndex := 137, descriptorIndex := 25, attributes := #[] }, { accessFlags := 25, nameIndex := 143, descriptorIndex := 25, attributes := #[] }, { accessFlags := 25, nameIndex := 53, descriptorIndex := 25, attributes := #[] }, { accessFlags := 25, nameIndex := 24, descriptorIndex := 25, attributes := #[] }, { accessFlags := 25, nameIndex := 162, descriptorIndex := 25, attributes := #[] }, { accessFlags := 25, nameIndex := 187, descriptorIndex := 25, attributes := #[] }, { accessFlags := 26, nameIndex := 48, descriptorIndex := 25, attributes := #[] }, { accessFlags := 25, nameIndex := 277, descriptorIndex := 25, attributes := #[] }, { accessFlags := 25, nameIndex := 280, descriptorIndex := 25, attributes := #[] }, { accessFlags := 25, nameIndex := 282, descriptorIndex := 25, attributes := #[] }, { accessFlags := 25, nameIndex := 284, descriptorIndex := 25, attributes := #[] }, { accessFlags := 25, nameIndex := 286, descriptorIndex := 25, attributes := #[] }, { accessFlags := 25, nameIndex := 288, descriptorIndex := 25, attributes := #[] }, { accessFlags := 25, nameIndex := 290, descriptorIndex := 25, attributes := #[] }, { accessFlags := 25, nameIndex := 292, descriptorIndex := 25, attributes := #[] }, { accessFlags := 26, nameIndex := 108, descriptorIndex := 109, attributes := #[] }, { accessFlags := 25, nameIndex := 294, descriptorIndex := 25, attributes := #[] }])
  fields := #[{ name := "U", type := (.object "jdk/internal/misc/Unsafe"), accessFlags := 24, slot := 0, constantValue := 0 }, { name := "BIG_ENDIAN", type := .boolean, accessFlags := 26, slot := 1, constantValue := 0 }, { name := "LOG2_ARRAY_BOOLEAN_INDEX_SCALE", type := .int, accessFlags := 25, slot := 2, constantValue := 0 }, { name := "LOG2_ARRAY_BYTE_INDEX_SCALE", type := .int, accessFlags := 25, slot := 3, constantValue := 0 }, { name := "LOG2_ARRAY_CHAR_INDEX_SCALE", type := .int, accessFlags := 25, slot := 4, constantValue := 0 }, { name := "LOG2_ARRAY_SHORT_INDEX_SCALE", type := .int, accessFlags := 25, slot := 5, constantValue := 0 }, { name := "LOG2_ARRAY_INT_INDEX_SCALE", type := .int, accessFlags := 25, slot := 6, constantValue := 0 }, { name := "LOG2_ARRAY_LONG_INDEX_SCALE", type := .int, accessFlags := 25, slot := 7, constantValue := 0 }, { name := "LOG2_ARRAY_FLOAT_INDEX_SCALE", type := .int, accessFlags := 25, slot := 8, constantValue := 0 }, { name := "LOG2_ARRAY_DOUBLE_INDEX_SCALE", type := .int, accessFlags := 25, slot := 9, constantValue := 0 }, { name := "LOG2_BYTE_BIT_SIZE", type := .int, accessFlags := 26, slot := 10, constantValue := 0 }, { name := "T_BOOLEAN", type := .int, accessFlags := 25, slot := 11, constantValue := 0 }, { name := "T_CHAR", type := .int, accessFlags := 25, slot := 12, constantValue := 0 }, { name := "T_FLOAT", type := .int, accessFlags := 25, slot := 13, constantValue := 0 }, { name := "T_DOUBLE", type := .int, accessFlags := 25, slot := 14, constantValue := 0 }, { name := "T_BYTE", type := .int, accessFlags := 25, slot := 15, constantValue := 0 }, { name := "T_SHORT", type := .int, accessFlags := 25, slot := 16, constantValue := 0 }, { name := "T_INT", type := .int, accessFlags := 25, slot := 17, constantValue := 0 }, { name := "T_LONG", type := .int, accessFlags := 25, slot := 18, constantValue := 0 }, { name := "JLA", type := (.object "jdk/internal/access/JavaLangAccess"), accessFlags := 26, slot := 19, constantValue := 0 }, { name := "SOFT_MAX_ARRAY_LENGTH", type := .int, accessFlags := 25, slot := 20, constantValue := 0 }]
  methods := #[k11m0]
  instanceTypes := #[]
  staticTypes := #[(.object "jdk/internal/misc/Unsafe"), .boolean, .int, .int, .int, .int, .int, .int, .int, .int, .int, .int, .int, .int, .int, .int, .int, .int, .int, (.object "jdk/internal/access/JavaLangAccess"), .int]
  resolved := Array.replicate 378 none
  statics := none }

def pool12 : Array CpInfo := pool [(1, u "java/lang/Cloneable"), (0, .class_ 1), (0, u "java/lang/Object"), (0, .class_ 3)] 3

/-- java/lang/Cloneable -/
def k12 : Class := { plain "java/lang/Cloneable" (some 0) with
  accessFlags := 1537
  interfaces := #[]
  cf := some (fileOf pool12 2 #[] #[] 1537 4 #[] #[])
  fields := #[]
  methods := #[]
  instanceTypes := #[]
  staticTypes := #[]
  resolved := Array.replicate 8 none
  statics := none }

/-- the primitive byte -/
def k13 : Class := { plain "byte" none with kind := .primitive 'B', accessFlags := 0x411 }
/-- [B -/
def k14 : Class := { plain "[B" (some 0) with kind := .array 13 .byte, interfaces := #[12, 2], accessFlags := 1041 }

/-- the primitive int -/
def k15 : Class := { plain "int" none with kind := .primitive 'I', accessFlags := 0x411 }
/-- [I -/
def k16 : Class := { plain "[I" (some 0) with kind := .array 15 .int, interfaces := #[12, 2], accessFlags := 1041 }

def heap : Heap := #[{ cls := 7, slots := #[.long 0, .int 1, .null, .int 0, .null, .int 0, .int 0], vm := .statics 7 },
  { cls := 10, slots := #[.null, .null, .null], vm := .statics 10 }]
def classes : Array Class := #[k0, k1, k2, k3, k4, k5, k6, k7, k8, k9, k10, k11, k12, k13, k14, k15, k16]
def interned : List (Array UInt16 × Addr) := []
def slotsUsed : Nat := 10
def theMethod : MethodId := ⟨1, 1⟩
def args0 : Array Value := #[.int 65, .int 5, .int 7, .int 2]
def aboutOver (below : List Frame) : State where
  vm := { classes := classes, interned := interned.toArray }
  heap := heap
  slotsUsed := slotsUsed
  threads := #[{ frames := .invoking theMethod args0 :: below }]
def below0 : List Frame := [.native { method := ⟨0, 0⟩, args := #[] }]
def about1 : State := aboutOver below0
def p0 : Program := .bare "" "" ""
def e0 : Env := launch0.env 0 0 0
theorem w_frames : about1.frames = Frame.invoking theMethod args0 :: below0 := rfl
set_option maxRecDepth 65536 in
theorem w_args : argsFit about1.vm theMethod args0 = true := by decide +kernel
set_option maxRecDepth 65536 in
theorem w_heap : heapFits about1 = true := by decide +kernel
set_option maxRecDepth 65536 in
theorem w_runnable : about1.curStatus? = some .runnable := by decide +kernel
set_option maxRecDepth 65536 in
theorem w_alone : about1.alone = true := by decide +kernel
set_option maxRecDepth 65536 in
theorem w_named : about1.methodNamed? x = some theMethod := by decide +kernel
set_option maxRecDepth 65536 in
theorem w_hears : about1.hears theMethod below0 = true := by decide +kernel
set_option maxRecDepth 65536 in
theorem w_ripe : about1.ripe theMethod args0 below0 = true := by decide +kernel
theorem w_running : about1.status = .running := rfl
set_option maxRecDepth 65536 in
theorem w_room : about1.hasRoom e0.platform room_1 = true :=
  launch0.hasRoom_least _ room_1 (by decide +kernel) (by decide +kernel) (by decide +kernel) (by decide +kernel) (by decide +kernel) (by decide +kernel)
theorem allAtoms_all (ts : List Jvm.Cond) (a : Array Jvm.Value) (st : Jvm.State) : (allAtoms ts).before a st = ts.all (fun c => c.before a st) := by
  induction ts with
  | nil => rfl
  | cons c t ih =>
    show (Jvm.Cond.and c (allAtoms t)).before a st = _
    rw [Jvm.Cond.before_and, ih, List.all_cons]
def words1 : List Jvm.Cond := Jvm.Cond.code x code maxLocals ret :: tables_1
/-- a 'code' word, met by the world's own term for the bytes: nothing is compared byte by byte -/
theorem code_word {y : MethodName} {bytes : ByteArray} {mx : Nat} {rt : Option FieldType} {a : Array Value} {s : State} {m : MethodId} {meth : Method} {c : Code} (h1 : s.methodNamed? y = some m) (h2 : s.vm.method? m = some meth) (h3 : meth.code = some c) (h4 : c.code = bytes)
    (h5 : (c.maxLocals == mx && c.exceptionTable.isEmpty && decide (c.maxStack ≤ mostOperands) && decide (meth.sig.returnType = rt) && !meth.locks && decide (parseMethodDescriptor y.desc = some meth.sig)) = true) : (Jvm.Cond.code y bytes mx rt).before a s = true := by
  simp only [Bool.and_eq_true, beq_iff_eq, Bool.not_eq_true', decide_eq_true_eq] at h5
  obtain ⟨⟨⟨⟨⟨g1, g2⟩, g3⟩, g4⟩, g5⟩, g6⟩ := h5
  simp [Cond.before, Cond.holds, Cond.value, h1, h2, h3, h4, g1, g2, g3, g4, g5, g6]
def isCode : Jvm.Cond → Bool
  | .code _ _ _ _ => true
  | _ => false
theorem all_split {L : List Jvm.Cond} {P : Jvm.Cond → Bool} (h1 : L.all (fun c => isCode c || P c) = true) (h2 : ∀ c ∈ L.filter isCode, P c = true) : L.all P = true := by
  refine List.all_eq_true.mpr fun c hc => ?_
  have h := List.all_eq_true.mp h1 c hc
  rcases Bool.eq_false_or_eq_true (isCode c) with hi | hi
  · exact h2 c (List.mem_filter.mpr ⟨hc, hi⟩)
  · simpa [hi] using h
set_option maxRecDepth 65536 in
theorem w_c0 : (Jvm.Cond.code x code maxLocals ret).before args0 about1 = true := code_word (m := ⟨1, 1⟩) (meth := k1m1) (c := k1c1) (by decide +kernel) rfl rfl rfl (by decide +kernel)
set_option maxRecDepth 65536 in
theorem w_c1 : (Jvm.Cond.code ({ cls := "java/lang/String", name := "valueOf", desc := "(C)Ljava/lang/String;" } : Jvm.MethodName) jdk_42_method_139_code (1 : Nat) (Option.some (Jvm.ClassFile.FieldType.object "java/lang/String"))).before args0 about1 = true := code_word (m := ⟨7, 1⟩) (meth := k7m1) (c := k7c1) (by decide +kernel) rfl rfl rfl (by decide +kernel)
set_option maxRecDepth 65536 in
theorem w_c2 : (Jvm.Cond.code ({ cls := "java/lang/StringLatin1", name := "canEncode", desc := "(C)Z" } : Jvm.MethodName) jdk_43_method_3_code (1 : Nat) (Option.some Jvm.ClassFile.FieldType.boolean)).before args0 about1 = true := code_word (m := ⟨8, 1⟩) (meth := k8m1) (c := k8c1) (by decide +kernel) rfl rfl rfl (by decide +kernel)
set_option maxRecDepth 65536 in
theorem w_c3 : (Jvm.Cond.code ({ cls := "java/lang/StringLatin1", name := "toBytes", desc := "(C)[B" } : Jvm.MethodName) jdk_43_method_46_code (1 : Nat) (Option.some (Jvm.ClassFile.FieldType.array Jvm.ClassFile.FieldType.byte))).before args0 about1 = true := code_word (m := ⟨8, 2⟩) (meth := k8m2) (c := k8c2) (by decide +kernel) rfl rfl rfl (by decide +kernel)
set_option maxRecDepth 65536 in
theorem w_c4 : (Jvm.Cond.code ({ cls := "java/lang/String", name := "<init>", desc := "([BB)V" } : Jvm.MethodName) jdk_42_method_151_code (3 : Nat) (Option.none : Option Jvm.ClassFile.FieldType)).before args0 about1 = true := code_word (m := ⟨7, 2⟩) (meth := k7m2) (c := k7c2) (by decide +kernel) rfl rfl rfl (by decide +kernel)
set_option maxRecDepth 65536 in
theorem w_c5 : (Jvm.Cond.code ({ cls := "java/lang/Object", name := "<init>", desc := "()V" } : Jvm.MethodName) object_method_1_code (1 : Nat) (Option.none : Option Jvm.ClassFile.FieldType)).before args0 about1 = true := code_word (m := ⟨0, 0⟩) (meth := k0m0) (c := k0c0) (by decide +kernel) rfl rfl rfl (by decide +kernel)
set_option maxRecDepth 65536 in
theorem w_c6 : (Jvm.Cond.code ({ cls := "com/example/vestwright/vestwright/model/Ranges", name := "count", desc := "(Ljava/lang/String;II)I" } : Jvm.MethodName) prog_99_method_12_code (3 : Nat) (Option.some Jvm.ClassFile.FieldType.int)).before args0 about1 = true := code_word (m := ⟨9, 1⟩) (meth := k9m1) (c := k9c1) (by decide +kernel) rfl rfl rfl (by decide +kernel)
def codes1 : List Jvm.Cond := [Jvm.Cond.code x code maxLocals ret, Jvm.Cond.code ({ cls := "java/lang/String", name := "valueOf", desc := "(C)Ljava/lang/String;" } : Jvm.MethodName) jdk_42_method_139_code (1 : Nat) (Option.some (Jvm.ClassFile.FieldType.object "java/lang/String")), Jvm.Cond.code ({ cls := "java/lang/StringLatin1", name := "canEncode", desc := "(C)Z" } : Jvm.MethodName) jdk_43_method_3_code (1 : Nat) (Option.some Jvm.ClassFile.FieldType.boolean), Jvm.Cond.code ({ cls := "java/lang/StringLatin1", name := "toBytes", desc := "(C)[B" } : Jvm.MethodName) jdk_43_method_46_code (1 : Nat) (Option.some (Jvm.ClassFile.FieldType.array Jvm.ClassFile.FieldType.byte)), Jvm.Cond.code ({ cls := "java/lang/String", name := "<init>", desc := "([BB)V" } : Jvm.MethodName) jdk_42_method_151_code (3 : Nat) (Option.none : Option Jvm.ClassFile.FieldType), Jvm.Cond.code ({ cls := "java/lang/Object", name := "<init>", desc := "()V" } : Jvm.MethodName) object_method_1_code (1 : Nat) (Option.none : Option Jvm.ClassFile.FieldType), Jvm.Cond.code ({ cls := "com/example/vestwright/vestwright/model/Ranges", name := "count", desc := "(Ljava/lang/String;II)I" } : Jvm.MethodName) prog_99_method_12_code (3 : Nat) (Option.some Jvm.ClassFile.FieldType.int)]
set_option maxRecDepth 65536 in
theorem codes_eq : words1.filter isCode = codes1 := rfl
theorem w_codes : ∀ c ∈ words1.filter isCode, c.before args0 about1 = true := by
  rw [codes_eq]
  intro c hc
  simp only [codes1, List.mem_cons, List.not_mem_nil, or_false] at hc
  rcases hc with rfl | rfl | rfl | rfl | rfl | rfl | rfl
  · exact w_c0
  · exact w_c1
  · exact w_c2
  · exact w_c3
  · exact w_c4
  · exact w_c5
  · exact w_c6
set_option maxRecDepth 65536 in
theorem w_t1 : (words1.take 24).all (fun c => isCode c || c.before args0 about1) = true := by decide +kernel
set_option maxRecDepth 65536 in
theorem w_t2 : (words1.drop 24).all (fun c => isCode c || c.before args0 about1) = true := by decide +kernel
theorem w_tables : (allAtoms (Jvm.Cond.code x code maxLocals ret :: tables_1)).before args0 about1 = true := by
  rw [allAtoms_all]
  show words1.all (fun c => c.before args0 about1) = true
  refine all_split ?_ w_codes
  rw [← List.take_append_drop 24 words1, List.all_append, w_t1, w_t2]
  rfl
set_option maxRecDepth 65536 in
theorem w_rest : rest_1_c.before args0 about1 = true := by decide +kernel
set_option maxRecDepth 65536 in
theorem w_case : (Jvm.Cond.and given_1 narrow_1).before args0 about1 = true := by decide +kernel
theorem w_applies : (headSpec (Jvm.Cond.code x code maxLocals ret :: tables_1) room_1).applies x e0.platform about1 = true :=
  (Spec.applies_iff w_frames).mpr ⟨w_running, w_runnable, w_alone, w_named, w_hears, w_ripe, w_room, w_tables⟩
theorem atStart : AtStart classFile x code maxLocals ret World_1 tables_1 room_1 Calls_1 rest_1 Pre_1 launch0 p0 e0 about1 theMethod args0 below0 :=
  ⟨lists_1, trivial, launch0.admits_env _ _ _, launch0.least_env, fairChoices_fair.cas, fairChoices_fair.clock, w_frames, w_args, w_heap, w_applies, trivial, w_rest, w_case⟩
end start1
theorem witness_1 : WitnessClaimed_1 := ⟨start1.p0, start1.e0, start1.about1, start1.theMethod, start1.args0, start1.below0, start1.atStart⟩
end Jvm.Pilot.@@N@@
