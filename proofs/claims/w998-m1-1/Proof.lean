import JvmDerived
import JvmDerived.Pilot.@@N@@Statement
import JvmDerived.Pilot.@@N@@Code
set_option linter.unusedVariables false
set_option linter.unusedSimpArgs false
namespace Jvm.RoadKit
open Sem ClassFile Op Lib Jvm.Stand Jvm.Free Jvm.LawKit
section New
variable {p : Program} {l : Launch} {e : Env} {R : Room} {s : State} {m : MethodId} {args : Array Value} {below : List Frame} {meth : Method} {c : Code} {T : State} {locs : List Loc} {cells slots : Nat}
theorem retI (X : Stand p l e R s m args below meth c T locs cells slots) (hx : p.tables.exec = Jvm.exec) {pc : Nat} {Ls : Array Slot} {z : Int32} {rest : List Value} (hret : meth.sig.returnType = some .int) (hd : decode c.code pc = .ok (.ireturn, 1)) {fs : List Frame}
    (hl : ∀ (f : JFrame) (acts : List Action), f.method = m → f.locked = none → f.entered = [] → (doReturn e (T.setTop f) acts (some (.int z))).1 = T.setFrames fs) : Steps p.tables e below (T.setTop (mkF m pc Ls (.int z :: rest))) (T.setFrames fs) := by
  have hm' : T.vm.method? m = some meth := X.method'
  have hn : narrow .int (.int z) = .int z := rfl
  show Steps p.tables e below (T.setTop { method := m, pc := pc, locals := Ls, stack := _ :: rest, locked := none }) _
  jvm_step X.here [X.here.top, hx, hd, hm', hret, hn]
  first | (intro acts; rw [hl _ acts rfl rfl rfl]) | rw [hl _ _ rfl rfl rfl]
  exact Steps.refl _
end New
end Jvm.RoadKit
namespace Jvm.Pilot.@@N@@
open Jvm Jvm.ClassFile Sem Op Lib Jvm.Free Jvm.Stand Jvm.LawKit Jvm.RoadKit Bundle Jvm.Pilot.@@N@@.Jvm.D
/-! what every block of a body's walk is given -/
def Ctx (p : Program) (Z s : State) (a0 : Array Value) (m : MethodId) (meth : Method) (c : Code) (own nm : String) (bytes : ByteArray) (maxl : Nat) (rt : Option FieldType) : Prop :=
  p.tables.exec = Jvm.exec ∧ Z.Warmed39 s.vm ∧ (∀ d ∈ tables_1, d.before a0 Z = true) ∧ c.code = bytes ∧ c.maxLocals = maxl ∧ meth.sig.returnType = rt ∧ s.vm.findClass own = some m.cls ∧ meth.name = nm ∧ meth.locks = false
/-- from the state A the body's run ends, returns, and leaves what Q says -/
def EndsIn (p : Program) (e : Env) (below : List Frame) (s : State) (cells slots : Nat) (Q : Option Value → Heap → List Loc → Prop) (A : State) : Prop :=
  ∃ s₂ o, Steps p.tables e below A s₂ ∧ s₂.status = .running ∧ Ended s₂ below o ∧ ∃ v L, o = .returned v ∧ Q v s₂.heap L ∧ FrameEnd s o s₂ L cells slots
section Ends
variable {p : Program} {l : Launch} {e : Env} {R : Room} {s : State} {m : MethodId} {args : Array Value} {below : List Frame} {meth : Method} {c : Code} {T : State} {locs : List Loc} {cells slots : Nat} {C S : Nat} {Q : Option Value → Heap → List Loc → Prop}
theorem EndsIn.by {A B : State} (h : ∀ t, Steps p.tables e below B t → Steps p.tables e below A t) (k : EndsIn p e below s C S Q B) : EndsIn p e below s C S Q A := by
  obtain ⟨s₂, o, h1, r⟩ := k
  exact ⟨s₂, o, h _ h1, r⟩
theorem own_retI (X : Stand p l e R s m args below meth c T locs cells slots) (hx : p.tables.exec = Jvm.exec) (hlk : meth.locks = false) {pc : Nat} {Ls : Array Slot} {z : Int32} {rest : List Value} (hret : meth.sig.returnType = some .int) (hd : decode c.code pc = .ok (.ireturn, 1)) (hc : cells ≤ C) (hs : slots ≤ S)
    (hq : Q (some (.int z)) T.heap locs) : EndsIn p e below s C S Q (T.setTop (mkF m pc Ls (.int z :: rest))) := by
  obtain ⟨fs, hr, hrun, hended, hW, hsame⟩ := X.leave (v := some (.int z)) (fun h => by rw [hret] at h; cases h) hlk
  exact ⟨_, _, retI X hx hret hd hr, hrun, hended, _, _, rfl, hq, ⟨_, rfl⟩, hW, hsame.mono hc hs⟩
theorem own_retN (X : Stand p l e R s m args below meth c T locs cells slots) (hx : p.tables.exec = Jvm.exec) (hlk : meth.locks = false) {pc : Nat} {Ls : Array Slot} {z : Int32} {rest : List Value} {t : FieldType} (hret : meth.sig.returnType = some t) (ht : t = .boolean ∨ t = .byte ∨ t = .char ∨ t = .short) (hd : decode c.code pc = .ok (.ireturn, 1)) (hc : cells ≤ C) (hs : slots ≤ S)
    (hq : Q (some (.int (nar t z))) T.heap locs) : EndsIn p e below s C S Q (T.setTop (mkF m pc Ls (.int z :: rest))) := by
  obtain ⟨fs, hr, hrun, hended, hW, hsame⟩ := X.leave (v := some (.int (nar t z))) (fun h => by rw [hret] at h; cases h) hlk
  exact ⟨_, _, retN X hx hret ht hd hr, hrun, hended, _, _, rfl, hq, ⟨_, rfl⟩, hW, hsame.mono hc hs⟩
theorem own_retJ (X : Stand p l e R s m args below meth c T locs cells slots) (hx : p.tables.exec = Jvm.exec) (hlk : meth.locks = false) {pc : Nat} {Ls : Array Slot} {z : Int64} (hret : meth.sig.returnType = some .long) (hd : decode c.code pc = .ok (.lreturn, 1)) (hc : cells ≤ C) (hs : slots ≤ S)
    (hq : Q (some (.long z)) T.heap locs) : EndsIn p e below s C S Q (T.setTop (mkF m pc Ls [.long z])) := by
  obtain ⟨fs, hr, hrun, hended, hW, hsame⟩ := X.leave (v := some (.long z)) (fun h => by rw [hret] at h; cases h) hlk
  exact ⟨_, _, X.lreturnOut hx hret hd hr, hrun, hended, _, _, rfl, hq, ⟨_, rfl⟩, hW, hsame.mono hc hs⟩
theorem own_retR (X : Stand p l e R s m args below meth c T locs cells slots) (hx : p.tables.exec = Jvm.exec) (hlk : meth.locks = false) {pc : Nat} {Ls : Array Slot} {z : Addr} {t : FieldType} (hret : meth.sig.returnType = some t) (ht : t.isReference = true) (hd : decode c.code pc = .ok (.areturn, 1)) (hc : cells ≤ C) (hs : slots ≤ S)
    (hq : Q (some (.ref z)) T.heap locs) : EndsIn p e below s C S Q (T.setTop (mkF m pc Ls [.ref z])) := by
  obtain ⟨fs, hr, hrun, hended, hW, hsame⟩ := X.leave (v := some (.ref z)) (fun h => by rw [hret] at h; cases h) hlk
  exact ⟨_, _, X.areturnOut hx rfl hret ht hd hr, hrun, hended, _, _, rfl, hq, ⟨_, rfl⟩, hW, hsame.mono hc hs⟩
theorem own_ret0 (X : Stand p l e R s m args below meth c T locs cells slots) (hx : p.tables.exec = Jvm.exec) (hlk : meth.locks = false) {pc : Nat} {Ls : Array Slot} (hret : meth.sig.returnType = none) (hd : decode c.code pc = .ok (.return_, 1)) (hc : cells ≤ C) (hs : slots ≤ S)
    (hq : Q none T.heap locs) : EndsIn p e below s C S Q (T.setTop (mkF m pc Ls [])) := by
  obtain ⟨fs, hr, hrun, hended, hW, hsame⟩ := X.leave (v := none) (fun _ => rfl) hlk
  exact ⟨_, _, X.returnOut hx hret hd hr, hrun, hended, _, _, rfl, hq, ⟨_, rfl⟩, hW, hsame.mono hc hs⟩
end Ends
section Arrays
variable {Z : State} {h h' : Heap} {a : Addr} {k : ClassId} {ty : FieldType} {n j : Int32} {vs : List Value} {d : Value}
/-- what an array of ints holds at the place j -/
def own_at (xs : List Int32) (j : Int32) : Int32 := xs.getD j.toNatClampNeg 0
def own_atJ (xs : List Int64) (j : Int32) : Int64 := xs.getD j.toNatClampNeg 0
theorem own_mapD (xs : List Int32) (i : Nat) : (xs.map Value.int).getD i (.int 0) = .int (xs.getD i 0) := by
  rw [List.getD_eq_getElem?_getD, List.getD_eq_getElem?_getD, List.getElem?_map]; cases xs[i]? <;> rfl
theorem own_mapDJ (xs : List Int64) (i : Nat) : (xs.map Value.long).getD i (.long 0) = .long (xs.getD i 0) := by
  rw [List.getD_eq_getElem?_getD, List.getD_eq_getElem?_getD, List.getElem?_map]; cases xs[i]? <;> rfl
theorem own_open (V : Arv Z h a k ty n vs d) (hj : ¬ (j < 0) ∧ j < n) : ∃ cl, Arr Z h a cl ty ∧ ¬ (j < 0 ∨ cl.slots.size ≤ j.toNatClampNeg) ∧ True := by
  obtain ⟨cl, Ar, -, S, -, -, -⟩ := V
  exact ⟨cl, Ar, inb_of S hj, trivial⟩
theorem own_readI {xs : List Int32} (V : Arv Z h a k ty n (xs.map Value.int) (.int 0)) (hj : ¬ (j < 0) ∧ j < n) (i : Nat) (hi : j.toNatClampNeg = i) : ∃ cl, Arr Z h a cl ty ∧ ¬ (j < 0 ∨ cl.slots.size ≤ j.toNatClampNeg) ∧ cl.slots[j.toNatClampNeg]? = some (.int (xs.getD i 0)) := by
  obtain ⟨cl, Ar, -, S, -, H, -⟩ := V
  have q := inb_of S hj
  refine ⟨cl, Ar, q, ?_⟩
  rw [H _ (Nat.lt_of_not_le fun y => q (Or.inr y)), own_mapD, hi]
theorem own_readJ {xs : List Int64} (V : Arv Z h a k ty n (xs.map Value.long) (.long 0)) (hj : ¬ (j < 0) ∧ j < n) (i : Nat) (hi : j.toNatClampNeg = i) : ∃ cl, Arr Z h a cl ty ∧ ¬ (j < 0 ∨ cl.slots.size ≤ j.toNatClampNeg) ∧ cl.slots[j.toNatClampNeg]? = some (.long (xs.getD i 0)) := by
  obtain ⟨cl, Ar, -, S, -, H, -⟩ := V
  have q := inb_of S hj
  refine ⟨cl, Ar, q, ?_⟩
  rw [H _ (Nat.lt_of_not_le fun y => q (Or.inr y)), own_mapDJ, hi]
theorem own_setI {xs : List Int32} {v : Int32} (V : Arv Z h a k ty n (xs.map Value.int) (.int 0)) (ln : xs.length = n.toNatClampNeg) (hj : ¬ (j < 0) ∧ j < n) (W : Wr h h' a j.toNatClampNeg (.int v)) (hf : fits ty (.int v) = true) (i : Nat) (hi : j.toNatClampNeg = i) :
    Arv Z h' a k ty n ((xs.set i v).map Value.int) (.int 0) ∧ (xs.set i v).length = n.toNatClampNeg := by
  subst hi
  obtain ⟨cl, Ar, q1, S, q3, H, G⟩ := V
  have q := inb_of S hj
  have W2 := Arv.set Ar q1 S q3 H G hf W j.toNatClampNeg rfl (by rw [List.length_map, ln, ← S]; exact Nat.lt_of_not_le fun y => q (Or.inr y))
  rw [List.map_set]
  exact ⟨W2, by rw [List.length_set]; exact ln⟩
theorem own_setJ {xs : List Int64} {v : Int64} (V : Arv Z h a k ty n (xs.map Value.long) (.long 0)) (ln : xs.length = n.toNatClampNeg) (hj : ¬ (j < 0) ∧ j < n) (W : Wr h h' a j.toNatClampNeg (.long v)) (hf : fits ty (.long v) = true) (i : Nat) (hi : j.toNatClampNeg = i) :
    Arv Z h' a k ty n ((xs.set i v).map Value.long) (.long 0) ∧ (xs.set i v).length = n.toNatClampNeg := by
  subst hi
  obtain ⟨cl, Ar, q1, S, q3, H, G⟩ := V
  have q := inb_of S hj
  have W2 := Arv.set Ar q1 S q3 H G hf W j.toNatClampNeg rfl (by rw [List.length_map, ln, ← S]; exact Nat.lt_of_not_le fun y => q (Or.inr y))
  rw [List.map_set]
  exact ⟨W2, by rw [List.length_set]; exact ln⟩
theorem own_newI (A : Arr Z h a (newA k ty n) ty) (hd : defaultValue ty = .int 0) (q : ¬ n < 0) {xs : List Int32} (hxs : xs = List.replicate n.toNatClampNeg 0) : Arv Z h a k ty n (xs.map Value.int) (.int 0) ∧ xs.length = n.toNatClampNeg := by
  subst hxs
  have V := Arv.new A q
  rw [hd] at V
  have V2 := V.pad (pad_rep [] (.int 0) n.toNatClampNeg)
  rw [List.map_replicate]
  exact ⟨V2, by rw [List.length_replicate]⟩
theorem own_newJ (A : Arr Z h a (newA k ty n) ty) (hd : defaultValue ty = .long 0) (q : ¬ n < 0) {xs : List Int64} (hxs : xs = List.replicate n.toNatClampNeg 0) : Arv Z h a k ty n (xs.map Value.long) (.long 0) ∧ xs.length = n.toNatClampNeg := by
  subst hxs
  have V := Arv.new A q
  rw [hd] at V
  have V2 := V.pad (pad_rep [] (.long 0) n.toNatClampNeg)
  rw [List.map_replicate]
  exact ⟨V2, by rw [List.length_replicate]⟩
end Arrays

section Words
variable {args : Array Value} {s : State}
theorem own_eqI {t : Term} {n : Int32} (h : (Jvm.Cond.eq t (.int n)).value args s none s [] = some true) : t.eval args s none [] s = some (.int n) := by
  obtain ⟨x, y, ex, ey, -, -⟩ := cmp_v (Or.inl h)
  cases x <;> simp [Cond.value, ex, Term.eval] at h
  rw [ex, h]
theorem own_lenI {t : Term} {n : Int32} {a : Addr} {cl : Cell} (h : (Jvm.Cond.eq (.length t) (.int n)).value args s none s [] = some true) (ht : t.eval args s none [] s = some (.ref a)) (hc : s.arrayAt? a = some cl) : cl.slots.size < 2 ^ 31 ∧ cl.slots.size.toInt32 = n := by
  have e := own_eqI h
  by_cases q : cl.slots.size < 2 ^ 31
  · rw [len_f ht hc q] at e
    cases e
    exact ⟨q, rfl⟩
  · simp [Term.eval, ht, hc, q] at e
theorem own_elI {t : Term} {i n : Int32} {a : Addr} {cl : Cell} (h : (Jvm.Cond.eq (.elem t (.int i)) (.int n)).value args s none s [] = some true) (ht : t.eval args s none [] s = some (.ref a)) (hc : s.heap[a]? = some cl) : cl.slots[i.toNatClampNeg]? = some (.int n) := by
  obtain ⟨c', e1, -, e2⟩ := elem_at (own_eqI h) ht (Term.int_eval i)
  cases hc.symm.trans e1
  exact e2
end Words

theorem own_ltI {x y : Int32} : x < y ↔ x.toInt < y.toInt := Int32.lt_iff_toInt_lt
theorem d1_0 : decode prog_13_method_3_code 0 = .ok (.iload_n 0, 1) := by decide +kernel
theorem d1_1 : decode prog_13_method_3_code 1 = .ok (.bipush 48, 2) := by decide +kernel
theorem d1_3 : decode prog_13_method_3_code 3 = .ok (.if_icmp .lt 9, 3) := by decide +kernel
theorem d1_6 : decode prog_13_method_3_code 6 = .ok (.iload_n 0, 1) := by decide +kernel
theorem d1_7 : decode prog_13_method_3_code 7 = .ok (.bipush 57, 2) := by decide +kernel
theorem d1_9 : decode prog_13_method_3_code 9 = .ok (.if_icmp .le 21, 3) := by decide +kernel
theorem d1_12 : decode prog_13_method_3_code 12 = .ok (.iload_n 0, 1) := by decide +kernel
theorem d1_13 : decode prog_13_method_3_code 13 = .ok (.bipush 65, 2) := by decide +kernel
theorem d1_15 : decode prog_13_method_3_code 15 = .ok (.if_icmp .lt 9, 3) := by decide +kernel
theorem d1_18 : decode prog_13_method_3_code 18 = .ok (.iload_n 0, 1) := by decide +kernel
theorem d1_19 : decode prog_13_method_3_code 19 = .ok (.bipush 90, 2) := by decide +kernel
theorem d1_21 : decode prog_13_method_3_code 21 = .ok (.if_icmp .le 9, 3) := by decide +kernel
theorem d1_24 : decode prog_13_method_3_code 24 = .ok (.iload_n 0, 1) := by decide +kernel
theorem d1_25 : decode prog_13_method_3_code 25 = .ok (.bipush 60, 2) := by decide +kernel
theorem d1_27 : decode prog_13_method_3_code 27 = .ok (.if_icmp .ne 7, 3) := by decide +kernel
theorem d1_30 : decode prog_13_method_3_code 30 = .ok (.iconst 1, 1) := by decide +kernel
theorem d1_31 : decode prog_13_method_3_code 31 = .ok (.goto 4, 3) := by decide +kernel
theorem d1_34 : decode prog_13_method_3_code 34 = .ok (.iconst 0, 1) := by decide +kernel
theorem d1_35 : decode prog_13_method_3_code 35 = .ok (.ireturn, 1) := by decide +kernel
theorem pn_1 : plainName "com/example/pure_mrtd/puremrtd/format/CheckDigit" = true := by first | (simp [plainName, overriddenIn]; done) | decide +kernel
def R1 : Room := { frames := 0, cells := 0, slots := 0, locals := 0 }
def Q1 (Z : State)  (h0 : Heap) (n0 : Nat) (r : Int32) (v : Option Value) (h : Heap) (L : List Loc) : Prop := v = some (.int r) ∧ Fr n0 L ∧ h = h0
def f1_30 (v0 : Int32) : Int32 := (1 : Int32)
set_option maxRecDepth 65536 in
set_option maxHeartbeats 40000000 in
theorem b1_30 {p : Program} {l : Launch} {e : Env} {s : State} {m : MethodId} {args : Array Value} {below : List Frame} {meth : Method} {c : Code} {Z : State} {a0 : Array Value} (B : Ctx p Z s a0 m meth c "com/example/pure_mrtd/puremrtd/format/CheckDigit" "isMrzCharacter" prog_13_method_3_code 1 (some .boolean)) {T0 : State} {locs : List Loc} {h : Heap} (h0 : Heap) (n0 : Nat) (v0 : Int32) (X0 : Stand p l e R1 s m args below meth c T0 locs 0 0) (e0 : T0.heap = h) (N0 : Fr n0 locs) (Z0 : n0 ≤ h.size) (hh0 : h = h0) (r : Int32) (hr : f1_30 v0 = r) :
    EndsIn p e below s R1.cells R1.slots (Q1 Z  h0 n0 r) (T0.setTop (mkF m 30 #[.val (.int v0)] [])) := by
  obtain ⟨hx, hZ, hw, hby, hml, hret, hown, hnm, hlk⟩ := B
  unfold f1_30 at hr
  refine EndsIn.by (B := T0.setTop (mkF m 35 #[.val (.int v0)] [(.int (1 : Int32))])) (fun t k => ?_) ?_
  · show Steps p.tables e below (T0.setTop (mkF m 30 #[.val (.int v0)] [])) _
    refine XS.iconst X0.here hx rfl (hb hby d1_30) ?_
    show Steps p.tables e below (T0.setTop (mkF m 31 #[.val (.int v0)] [(.int (1 : Int32))])) _
    refine XS.goto X0.here hx rfl (pc0 := 31) (pc' := 35) rfl (hb hby d1_31) (by decide) (by decide) ?_
    exact k
  subst hr
  exact own_retN X0 hx hlk (t := .boolean) hret (by simp) (hb hby d1_35) (by decide) (by decide) ⟨rfl, N0, (e0.trans hh0)⟩
def f1_24 (v0 : Int32) : Int32 := (if v0 = (60 : Int32) then (f1_30 v0) else (0 : Int32))
set_option maxRecDepth 65536 in
set_option maxHeartbeats 40000000 in
theorem b1_24 {p : Program} {l : Launch} {e : Env} {s : State} {m : MethodId} {args : Array Value} {below : List Frame} {meth : Method} {c : Code} {Z : State} {a0 : Array Value} (B : Ctx p Z s a0 m meth c "com/example/pure_mrtd/puremrtd/format/CheckDigit" "isMrzCharacter" prog_13_method_3_code 1 (some .boolean)) {T0 : State} {locs : List Loc} {h : Heap} (h0 : Heap) (n0 : Nat) (v0 : Int32) (X0 : Stand p l e R1 s m args below meth c T0 locs 0 0) (e0 : T0.heap = h) (N0 : Fr n0 locs) (Z0 : n0 ≤ h.size) (hh0 : h = h0) (r : Int32) (hr : f1_24 v0 = r) :
    EndsIn p e below s R1.cells R1.slots (Q1 Z  h0 n0 r) (T0.setTop (mkF m 24 #[.val (.int v0)] [])) := by
  obtain ⟨hx, hZ, hw, hby, hml, hret, hown, hnm, hlk⟩ := B
  unfold f1_24 at hr
  refine EndsIn.by (B := T0.setTop (mkF m 27 #[.val (.int v0)] [(.int (60 : Int32)), (.int v0)])) (fun t k => ?_) ?_
  · show Steps p.tables e below (T0.setTop (mkF m 24 #[.val (.int v0)] [])) _
    refine XS.iloadN X0.here hx rfl (hb hby d1_24) rfl  ?_
    show Steps p.tables e below (T0.setTop (mkF m 25 #[.val (.int v0)] [(.int v0)])) _
    refine XS.bipush X0.here hx rfl (hb hby d1_25) ?_
    exact k
  by_cases hc27 : v0 = (60 : Int32)
  · rw [if_pos hc27] at hr
    refine EndsIn.by (B := T0.setTop (mkF m 30 #[.val (.int v0)] [])) (fun t k => ?_) ?_
    · show Steps p.tables e below (T0.setTop (mkF m 27 #[.val (.int v0)] [(.int (60 : Int32)), (.int v0)])) _
      exact XS.icmpNo X0.here hx rfl (hb hby d1_27) rfl (teq hc27).2 k
    exact b1_30 ⟨hx, hZ, hw, hby, hml, hret, hown, hnm, hlk⟩ h0 n0 v0 X0 e0 N0 Z0 hh0  _ hr
  · rw [if_neg hc27] at hr
    refine EndsIn.by (B := T0.setTop (mkF m 34 #[.val (.int v0)] [])) (fun t k => ?_) ?_
    · show Steps p.tables e below (T0.setTop (mkF m 27 #[.val (.int v0)] [(.int (60 : Int32)), (.int v0)])) _
      exact XS.icmpYes X0.here hx rfl (pc0 := 27) (pc' := 34) rfl (hb hby d1_27) rfl (feq hc27).2 (by decide) (by decide) k
    refine EndsIn.by (B := T0.setTop (mkF m 35 #[.val (.int v0)] [(.int (0 : Int32))])) (fun t k => ?_) ?_
    · show Steps p.tables e below (T0.setTop (mkF m 34 #[.val (.int v0)] [])) _
      refine XS.iconst X0.here hx rfl (hb hby d1_34) ?_
      exact k
    subst hr
    exact own_retN X0 hx hlk (t := .boolean) hret (by simp) (hb hby d1_35) (by decide) (by decide) ⟨rfl, N0, (e0.trans hh0)⟩
def f1_12 (v0 : Int32) : Int32 := (if v0 < (65 : Int32) then (f1_24 v0) else (if (90 : Int32) < v0 then (f1_24 v0) else (f1_30 v0)))
set_option maxRecDepth 65536 in
set_option maxHeartbeats 40000000 in
theorem b1_12 {p : Program} {l : Launch} {e : Env} {s : State} {m : MethodId} {args : Array Value} {below : List Frame} {meth : Method} {c : Code} {Z : State} {a0 : Array Value} (B : Ctx p Z s a0 m meth c "com/example/pure_mrtd/puremrtd/format/CheckDigit" "isMrzCharacter" prog_13_method_3_code 1 (some .boolean)) {T0 : State} {locs : List Loc} {h : Heap} (h0 : Heap) (n0 : Nat) (v0 : Int32) (X0 : Stand p l e R1 s m args below meth c T0 locs 0 0) (e0 : T0.heap = h) (N0 : Fr n0 locs) (Z0 : n0 ≤ h.size) (hh0 : h = h0) (r : Int32) (hr : f1_12 v0 = r) :
    EndsIn p e below s R1.cells R1.slots (Q1 Z  h0 n0 r) (T0.setTop (mkF m 12 #[.val (.int v0)] [])) := by
  obtain ⟨hx, hZ, hw, hby, hml, hret, hown, hnm, hlk⟩ := B
  unfold f1_12 at hr
  refine EndsIn.by (B := T0.setTop (mkF m 15 #[.val (.int v0)] [(.int (65 : Int32)), (.int v0)])) (fun t k => ?_) ?_
  · show Steps p.tables e below (T0.setTop (mkF m 12 #[.val (.int v0)] [])) _
    refine XS.iloadN X0.here hx rfl (hb hby d1_12) rfl  ?_
    show Steps p.tables e below (T0.setTop (mkF m 13 #[.val (.int v0)] [(.int v0)])) _
    refine XS.bipush X0.here hx rfl (hb hby d1_13) ?_
    exact k
  by_cases hc15 : v0 < (65 : Int32)
  · rw [if_pos hc15] at hr
    refine EndsIn.by (B := T0.setTop (mkF m 24 #[.val (.int v0)] [])) (fun t k => ?_) ?_
    · show Steps p.tables e below (T0.setTop (mkF m 15 #[.val (.int v0)] [(.int (65 : Int32)), (.int v0)])) _
      exact XS.icmpYes X0.here hx rfl (pc0 := 15) (pc' := 24) rfl (hb hby d1_15) rfl (tlt hc15).1 (by decide) (by decide) k
    exact b1_24 ⟨hx, hZ, hw, hby, hml, hret, hown, hnm, hlk⟩ h0 n0 v0 X0 e0 N0 Z0 hh0  _ hr
  · rw [if_neg hc15] at hr
    refine EndsIn.by (B := T0.setTop (mkF m 18 #[.val (.int v0)] [])) (fun t k => ?_) ?_
    · show Steps p.tables e below (T0.setTop (mkF m 15 #[.val (.int v0)] [(.int (65 : Int32)), (.int v0)])) _
      exact XS.icmpNo X0.here hx rfl (hb hby d1_15) rfl (flt hc15).1 k
    refine EndsIn.by (B := T0.setTop (mkF m 21 #[.val (.int v0)] [(.int (90 : Int32)), (.int v0)])) (fun t k => ?_) ?_
    · show Steps p.tables e below (T0.setTop (mkF m 18 #[.val (.int v0)] [])) _
      refine XS.iloadN X0.here hx rfl (hb hby d1_18) rfl  ?_
      show Steps p.tables e below (T0.setTop (mkF m 19 #[.val (.int v0)] [(.int v0)])) _
      refine XS.bipush X0.here hx rfl (hb hby d1_19) ?_
      exact k
    by_cases hc21 : (90 : Int32) < v0
    · rw [if_pos hc21] at hr
      refine EndsIn.by (B := T0.setTop (mkF m 24 #[.val (.int v0)] [])) (fun t k => ?_) ?_
      · show Steps p.tables e below (T0.setTop (mkF m 21 #[.val (.int v0)] [(.int (90 : Int32)), (.int v0)])) _
        exact XS.icmpNo X0.here hx rfl (hb hby d1_21) rfl (tlt hc21).2.2.2 k
      exact b1_24 ⟨hx, hZ, hw, hby, hml, hret, hown, hnm, hlk⟩ h0 n0 v0 X0 e0 N0 Z0 hh0  _ hr
    · rw [if_neg hc21] at hr
      refine EndsIn.by (B := T0.setTop (mkF m 30 #[.val (.int v0)] [])) (fun t k => ?_) ?_
      · show Steps p.tables e below (T0.setTop (mkF m 21 #[.val (.int v0)] [(.int (90 : Int32)), (.int v0)])) _
        exact XS.icmpYes X0.here hx rfl (pc0 := 21) (pc' := 30) rfl (hb hby d1_21) rfl (flt hc21).2.2.2 (by decide) (by decide) k
      exact b1_30 ⟨hx, hZ, hw, hby, hml, hret, hown, hnm, hlk⟩ h0 n0 v0 X0 e0 N0 Z0 hh0  _ hr
def f1_0 (v0 : Int32) : Int32 := (if v0 < (48 : Int32) then (f1_12 v0) else (if (57 : Int32) < v0 then (f1_12 v0) else (f1_30 v0)))
set_option maxRecDepth 65536 in
set_option maxHeartbeats 40000000 in
theorem b1_0 {p : Program} {l : Launch} {e : Env} {s : State} {m : MethodId} {args : Array Value} {below : List Frame} {meth : Method} {c : Code} {Z : State} {a0 : Array Value} (B : Ctx p Z s a0 m meth c "com/example/pure_mrtd/puremrtd/format/CheckDigit" "isMrzCharacter" prog_13_method_3_code 1 (some .boolean)) {T0 : State} {locs : List Loc} {h : Heap} (h0 : Heap) (n0 : Nat) (v0 : Int32) (X0 : Stand p l e R1 s m args below meth c T0 locs 0 0) (e0 : T0.heap = h) (N0 : Fr n0 locs) (Z0 : n0 ≤ h.size) (hh0 : h = h0) (r : Int32) (hr : f1_0 v0 = r) :
    EndsIn p e below s R1.cells R1.slots (Q1 Z  h0 n0 r) (T0.setTop (mkF m 0 #[.val (.int v0)] [])) := by
  obtain ⟨hx, hZ, hw, hby, hml, hret, hown, hnm, hlk⟩ := B
  unfold f1_0 at hr
  refine EndsIn.by (B := T0.setTop (mkF m 3 #[.val (.int v0)] [(.int (48 : Int32)), (.int v0)])) (fun t k => ?_) ?_
  · show Steps p.tables e below (T0.setTop (mkF m 0 #[.val (.int v0)] [])) _
    refine XS.iloadN X0.here hx rfl (hb hby d1_0) rfl  ?_
    show Steps p.tables e below (T0.setTop (mkF m 1 #[.val (.int v0)] [(.int v0)])) _
    refine XS.bipush X0.here hx rfl (hb hby d1_1) ?_
    exact k
  by_cases hc3 : v0 < (48 : Int32)
  · rw [if_pos hc3] at hr
    refine EndsIn.by (B := T0.setTop (mkF m 12 #[.val (.int v0)] [])) (fun t k => ?_) ?_
    · show Steps p.tables e below (T0.setTop (mkF m 3 #[.val (.int v0)] [(.int (48 : Int32)), (.int v0)])) _
      exact XS.icmpYes X0.here hx rfl (pc0 := 3) (pc' := 12) rfl (hb hby d1_3) rfl (tlt hc3).1 (by decide) (by decide) k
    exact b1_12 ⟨hx, hZ, hw, hby, hml, hret, hown, hnm, hlk⟩ h0 n0 v0 X0 e0 N0 Z0 hh0  _ hr
  · rw [if_neg hc3] at hr
    refine EndsIn.by (B := T0.setTop (mkF m 6 #[.val (.int v0)] [])) (fun t k => ?_) ?_
    · show Steps p.tables e below (T0.setTop (mkF m 3 #[.val (.int v0)] [(.int (48 : Int32)), (.int v0)])) _
      exact XS.icmpNo X0.here hx rfl (hb hby d1_3) rfl (flt hc3).1 k
    refine EndsIn.by (B := T0.setTop (mkF m 9 #[.val (.int v0)] [(.int (57 : Int32)), (.int v0)])) (fun t k => ?_) ?_
    · show Steps p.tables e below (T0.setTop (mkF m 6 #[.val (.int v0)] [])) _
      refine XS.iloadN X0.here hx rfl (hb hby d1_6) rfl  ?_
      show Steps p.tables e below (T0.setTop (mkF m 7 #[.val (.int v0)] [(.int v0)])) _
      refine XS.bipush X0.here hx rfl (hb hby d1_7) ?_
      exact k
    by_cases hc9 : (57 : Int32) < v0
    · rw [if_pos hc9] at hr
      refine EndsIn.by (B := T0.setTop (mkF m 12 #[.val (.int v0)] [])) (fun t k => ?_) ?_
      · show Steps p.tables e below (T0.setTop (mkF m 9 #[.val (.int v0)] [(.int (57 : Int32)), (.int v0)])) _
        exact XS.icmpNo X0.here hx rfl (hb hby d1_9) rfl (tlt hc9).2.2.2 k
      exact b1_12 ⟨hx, hZ, hw, hby, hml, hret, hown, hnm, hlk⟩ h0 n0 v0 X0 e0 N0 Z0 hh0  _ hr
    · rw [if_neg hc9] at hr
      refine EndsIn.by (B := T0.setTop (mkF m 30 #[.val (.int v0)] [])) (fun t k => ?_) ?_
      · show Steps p.tables e below (T0.setTop (mkF m 9 #[.val (.int v0)] [(.int (57 : Int32)), (.int v0)])) _
        exact XS.icmpYes X0.here hx rfl (pc0 := 9) (pc' := 30) rfl (hb hby d1_9) rfl (flt hc9).2.2.2 (by decide) (by decide) k
      exact b1_30 ⟨hx, hZ, hw, hby, hml, hret, hown, hnm, hlk⟩ h0 n0 v0 X0 e0 N0 Z0 hh0  _ hr
theorem ef_1 (m : MethodId) (v0 : Int32) : entryFrame m #[(.int v0)] 1 = (mkF m 0 #[.val (.int v0)] []) := by first | (simp [entryFrame, mkF, argsToLocals, Value.category]; done) | rfl
set_option maxRecDepth 65536 in
set_option maxHeartbeats 40000000 in
theorem rm1 (l : Launch) (Z : State) (a0 : Array Value) (hw : ∀ d ∈ tables_1, d.before a0 Z = true) (ws : List Jvm.Cond) (v0 : Int32) (h0 : Heap) (n0 : Nat) (Z0 : n0 ≤ h0.size) :
    MetFree l (⟨"com/example/pure_mrtd/puremrtd/format/CheckDigit", "isMrzCharacter", "(C)Z"⟩ : MethodName) (head1 (Jvm.Cond.code (⟨"com/example/pure_mrtd/puremrtd/format/CheckDigit", "isMrzCharacter", "(C)Z"⟩ : MethodName) prog_13_method_3_code 1 (some .boolean) :: ws) R1) (fun a U => a = #[(.int v0)] ∧ Z.Warmed39 U.vm ∧ U.heap = h0) (fun _ _ _ _ _ => True) (fun _ U o U' => ∃ v L, o = .returned v ∧ (Q1 Z  h0 n0 (f1_0 v0)) v U'.heap L ∧ FrameEnd U o U' L R1.cells R1.slots) := by
  refine MetFree.of_bodySF (plainFor_of_name pn_1) hisR ?_
  intro p e s m args below meth c s₁ Bd hml0 hP hK
  obtain ⟨rfl, hZ, hh⟩ := hP
  have B : Ctx p Z s a0 m meth c "com/example/pure_mrtd/puremrtd/format/CheckDigit" "isMrzCharacter" prog_13_method_3_code 1 (some .boolean) := ⟨Bd.exec, hZ, hw, Bd.bytes, hml0, Bd.returns, findClass_of_methodNamed Bd.named, (name_of_methodNamed Bd.named Bd.method).1, Bd.notSynchronized⟩
  have X0 : Stand p l e R1 s m #[(.int v0)] below meth c s₁ [] 0 0 := Stand.of_body Bd
  have e0 : s₁.heap = h0 := by rw [← hh, Bd.state]; rfl
  have K := Keep.refl h0 []
  show EndsIn p e below s R1.cells R1.slots (Q1 Z  h0 n0 (f1_0 v0)) (s₁.setTop (entryFrame m #[(.int v0)] 1))
  refine EndsIn.by (fun t k => castTop (ef_1 m v0) k) ?_
  exact b1_0 B h0 n0 v0 X0 e0 (Fr.nil n0) Z0 rfl  _ rfl
theorem pd_0 : parseMethodDescriptor "(C)Z" = some ⟨[.char], some .boolean⟩ := by decide +kernel
theorem d3_0 : decode jdk_43_method_3_code 0 = .ok (.iload_n 0, 1) := by decide +kernel
theorem d3_1 : decode jdk_43_method_3_code 1 = .ok (.sipush 255, 3) := by decide +kernel
theorem d3_4 : decode jdk_43_method_3_code 4 = .ok (.if_icmp .gt 7, 3) := by decide +kernel
theorem d3_7 : decode jdk_43_method_3_code 7 = .ok (.iconst 1, 1) := by decide +kernel
theorem d3_8 : decode jdk_43_method_3_code 8 = .ok (.goto 4, 3) := by decide +kernel
theorem d3_11 : decode jdk_43_method_3_code 11 = .ok (.iconst 0, 1) := by decide +kernel
theorem d3_12 : decode jdk_43_method_3_code 12 = .ok (.ireturn, 1) := by decide +kernel
theorem pn_3 : plainName "java/lang/StringLatin1" = true := by first | (simp [plainName, overriddenIn]; done) | decide +kernel
def R3 : Room := { frames := 0, cells := 0, slots := 0, locals := 0 }
def Q3 (Z : State)  (h0 : Heap) (n0 : Nat) (r : Int32) (v : Option Value) (h : Heap) (L : List Loc) : Prop := v = some (.int r) ∧ Fr n0 L ∧ h = h0
def f3_0 (v0 : Int32) : Int32 := (if (255 : Int32) < v0 then (0 : Int32) else (1 : Int32))
set_option maxRecDepth 65536 in
set_option maxHeartbeats 40000000 in
theorem b3_0 {p : Program} {l : Launch} {e : Env} {s : State} {m : MethodId} {args : Array Value} {below : List Frame} {meth : Method} {c : Code} {Z : State} {a0 : Array Value} (B : Ctx p Z s a0 m meth c "java/lang/StringLatin1" "canEncode" jdk_43_method_3_code 1 (some .boolean)) {T0 : State} {locs : List Loc} {h : Heap} (h0 : Heap) (n0 : Nat) (v0 : Int32) (X0 : Stand p l e R3 s m args below meth c T0 locs 0 0) (e0 : T0.heap = h) (N0 : Fr n0 locs) (Z0 : n0 ≤ h.size) (hh0 : h = h0) (r : Int32) (hr : f3_0 v0 = r) :
    EndsIn p e below s R3.cells R3.slots (Q3 Z  h0 n0 r) (T0.setTop (mkF m 0 #[.val (.int v0)] [])) := by
  obtain ⟨hx, hZ, hw, hby, hml, hret, hown, hnm, hlk⟩ := B
  unfold f3_0 at hr
  refine EndsIn.by (B := T0.setTop (mkF m 4 #[.val (.int v0)] [(.int (255 : Int32)), (.int v0)])) (fun t k => ?_) ?_
  · show Steps p.tables e below (T0.setTop (mkF m 0 #[.val (.int v0)] [])) _
    refine XS.iloadN X0.here hx rfl (hb hby d3_0) rfl  ?_
    show Steps p.tables e below (T0.setTop (mkF m 1 #[.val (.int v0)] [(.int v0)])) _
    refine XS.sipush X0.here hx rfl (hb hby d3_1) ?_
    exact k
  by_cases hc4 : (255 : Int32) < v0
  · rw [if_pos hc4] at hr
    refine EndsIn.by (B := T0.setTop (mkF m 11 #[.val (.int v0)] [])) (fun t k => ?_) ?_
    · show Steps p.tables e below (T0.setTop (mkF m 4 #[.val (.int v0)] [(.int (255 : Int32)), (.int v0)])) _
      exact XS.icmpYes X0.here hx rfl (pc0 := 4) (pc' := 11) rfl (hb hby d3_4) rfl (tlt hc4).2.2.1 (by decide) (by decide) k
    refine EndsIn.by (B := T0.setTop (mkF m 12 #[.val (.int v0)] [(.int (0 : Int32))])) (fun t k => ?_) ?_
    · show Steps p.tables e below (T0.setTop (mkF m 11 #[.val (.int v0)] [])) _
      refine XS.iconst X0.here hx rfl (hb hby d3_11) ?_
      exact k
    subst hr
    exact own_retN X0 hx hlk (t := .boolean) hret (by simp) (hb hby d3_12) (by decide) (by decide) ⟨rfl, N0, (e0.trans hh0)⟩
  · rw [if_neg hc4] at hr
    refine EndsIn.by (B := T0.setTop (mkF m 7 #[.val (.int v0)] [])) (fun t k => ?_) ?_
    · show Steps p.tables e below (T0.setTop (mkF m 4 #[.val (.int v0)] [(.int (255 : Int32)), (.int v0)])) _
      exact XS.icmpNo X0.here hx rfl (hb hby d3_4) rfl (flt hc4).2.2.1 k
    refine EndsIn.by (B := T0.setTop (mkF m 12 #[.val (.int v0)] [(.int (1 : Int32))])) (fun t k => ?_) ?_
    · show Steps p.tables e below (T0.setTop (mkF m 7 #[.val (.int v0)] [])) _
      refine XS.iconst X0.here hx rfl (hb hby d3_7) ?_
      show Steps p.tables e below (T0.setTop (mkF m 8 #[.val (.int v0)] [(.int (1 : Int32))])) _
      refine XS.goto X0.here hx rfl (pc0 := 8) (pc' := 12) rfl (hb hby d3_8) (by decide) (by decide) ?_
      exact k
    subst hr
    exact own_retN X0 hx hlk (t := .boolean) hret (by simp) (hb hby d3_12) (by decide) (by decide) ⟨rfl, N0, (e0.trans hh0)⟩
theorem ef_3 (m : MethodId) (v0 : Int32) : entryFrame m #[(.int v0)] 1 = (mkF m 0 #[.val (.int v0)] []) := by first | (simp [entryFrame, mkF, argsToLocals, Value.category]; done) | rfl
set_option maxRecDepth 65536 in
set_option maxHeartbeats 40000000 in
theorem rm3 (l : Launch) (Z : State) (a0 : Array Value) (hw : ∀ d ∈ tables_1, d.before a0 Z = true) (ws : List Jvm.Cond) (v0 : Int32) (h0 : Heap) (n0 : Nat) (Z0 : n0 ≤ h0.size) :
    MetFree l (⟨"java/lang/StringLatin1", "canEncode", "(C)Z"⟩ : MethodName) (head1 (Jvm.Cond.code (⟨"java/lang/StringLatin1", "canEncode", "(C)Z"⟩ : MethodName) jdk_43_method_3_code 1 (some .boolean) :: ws) R3) (fun a U => a = #[(.int v0)] ∧ Z.Warmed39 U.vm ∧ U.heap = h0) (fun _ _ _ _ _ => True) (fun _ U o U' => ∃ v L, o = .returned v ∧ (Q3 Z  h0 n0 (f3_0 v0)) v U'.heap L ∧ FrameEnd U o U' L R3.cells R3.slots) := by
  refine MetFree.of_bodySF (plainFor_of_name pn_3) hisR ?_
  intro p e s m args below meth c s₁ Bd hml0 hP hK
  obtain ⟨rfl, hZ, hh⟩ := hP
  have B : Ctx p Z s a0 m meth c "java/lang/StringLatin1" "canEncode" jdk_43_method_3_code 1 (some .boolean) := ⟨Bd.exec, hZ, hw, Bd.bytes, hml0, Bd.returns, findClass_of_methodNamed Bd.named, (name_of_methodNamed Bd.named Bd.method).1, Bd.notSynchronized⟩
  have X0 : Stand p l e R3 s m #[(.int v0)] below meth c s₁ [] 0 0 := Stand.of_body Bd
  have e0 : s₁.heap = h0 := by rw [← hh, Bd.state]; rfl
  have K := Keep.refl h0 []
  show EndsIn p e below s R3.cells R3.slots (Q3 Z  h0 n0 (f3_0 v0)) (s₁.setTop (entryFrame m #[(.int v0)] 1))
  refine EndsIn.by (fun t k => castTop (ef_3 m v0) k) ?_
  exact b3_0 B h0 n0 v0 X0 e0 (Fr.nil n0) Z0 rfl  _ rfl
theorem d4_0 : decode jdk_43_method_46_code 0 = .ok (.iconst 1, 1) := by decide +kernel
theorem d4_1 : decode jdk_43_method_46_code 1 = .ok (.newarray .byte, 2) := by decide +kernel
theorem d4_3 : decode jdk_43_method_46_code 3 = .ok (.dup, 1) := by decide +kernel
theorem d4_4 : decode jdk_43_method_46_code 4 = .ok (.iconst 0, 1) := by decide +kernel
theorem d4_5 : decode jdk_43_method_46_code 5 = .ok (.iload_n 0, 1) := by decide +kernel
theorem d4_6 : decode jdk_43_method_46_code 6 = .ok (.i2b, 1) := by decide +kernel
theorem d4_7 : decode jdk_43_method_46_code 7 = .ok (.bastore, 1) := by decide +kernel
theorem d4_8 : decode jdk_43_method_46_code 8 = .ok (.areturn, 1) := by decide +kernel
theorem pn_4 : plainName "java/lang/StringLatin1" = true := by first | (simp [plainName, overriddenIn]; done) | decide +kernel
def R4 : Room := { frames := 0, cells := 1, slots := 1, locals := 0 }
def Q4 (Z : State)  (h0 : Heap) (n0 : Nat) (r : List Int32) (v : Option Value) (h : Heap) (L : List Loc) : Prop := ∃ (b : Addr) (kb : ClassId), v = some (.ref b) ∧ Fr n0 L ∧ n0 ≤ b ∧ h0.size ≤ b ∧ Keep h0 h [] ∧ Arv Z h b kb .byte (1 : Int32) (r.map Value.int) (.int 0) ∧ r.length = (1 : Int32).toNatClampNeg
def f4_0 (v0 : Int32) : List Int32 := ([((v0.toInt8.toInt32).toInt8.toInt32)] : List Int32)
set_option maxRecDepth 65536 in
set_option maxHeartbeats 40000000 in
theorem b4_0 {p : Program} {l : Launch} {e : Env} {s : State} {m : MethodId} {args : Array Value} {below : List Frame} {meth : Method} {c : Code} {Z : State} {a0 : Array Value} (B : Ctx p Z s a0 m meth c "java/lang/StringLatin1" "toBytes" jdk_43_method_46_code 1 (some (.array .byte))) {T0 : State} {locs : List Loc} {h : Heap} (h0 : Heap) (n0 : Nat) (v0 : Int32) (X0 : Stand p l e R4 s m args below meth c T0 locs 0 0) (e0 : T0.heap = h) (N0 : Fr n0 locs) (Z0 : n0 ≤ h.size) (K : Keep h0 h []) (r : List Int32) (hr : f4_0 v0 = r) :
    EndsIn p e below s R4.cells R4.slots (Q4 Z  h0 n0 r) (T0.setTop (mkF m 0 #[.val (.int v0)] [])) := by
  obtain ⟨hx, hZ, hw, hby, hml, hret, hown, hnm, hlk⟩ := B
  unfold f4_0 at hr
  refine EndsIn.by (B := T0.setTop (mkF m 1 #[.val (.int v0)] [(.int (1 : Int32))])) (fun t k => ?_) ?_
  · show Steps p.tables e below (T0.setTop (mkF m 0 #[.val (.int v0)] [])) _
    refine XS.iconst X0.here hx rfl (hb hby d4_0) ?_
    exact k
  obtain ⟨T1, h1, k1, X1, e1, X1e, A1, st1⟩ := newP X0 hx hZ (hw _ (List.mem_of_getElem? (i := 19) rfl)) e0 (g := (mkF m 1 #[.val (.int v0)] [(.int (1 : Int32))])) rfl (hb hby d4_1) rfl (by decide) (cap := 1) (by decide) (by decide) (by decide) (by decide)
  obtain ⟨b1, g1⟩ : ∃ z, z = h.size := ⟨_, rfl⟩
  rw [← g1] at A1 st1
  have g_b1 : n0 ≤ b1 := Nat.le_trans Z0 (Nat.le_of_eq g1.symm)
  have sz_b1 : h0.size ≤ b1 := Nat.le_trans K.1 (Nat.le_of_eq g1.symm)
  have Z1 : n0 ≤ h1.size := Nat.le_trans Z0 X1e.1
  have K1 := K.ext X1e
  obtain ⟨V_b1_1, ln_b1_1⟩ : Arv Z h1 b1 k1 .byte (1 : Int32) (([0] : List Int32).map Value.int) (.int 0) ∧ ([0] : List Int32).length = (1 : Int32).toNatClampNeg := own_newI A1 rfl (by decide) (xs := ([0] : List Int32)) (by decide)
  refine EndsIn.by (B := T1.setTop (mkF m 3 #[.val (.int v0)] [(.ref b1)])) (fun t k => st1 t k) ?_
  refine EndsIn.by (B := T1.setTop (mkF m 7 #[.val (.int v0)] [(.int (v0.toInt8.toInt32)), (.int (0 : Int32)), (.ref b1), (.ref b1)])) (fun t k => ?_) ?_
  · show Steps p.tables e below (T1.setTop (mkF m 3 #[.val (.int v0)] [(.ref b1)])) _
    refine XS.dup X1.here hx rfl (hb hby d4_3) rfl rfl ?_
    show Steps p.tables e below (T1.setTop (mkF m 4 #[.val (.int v0)] [(.ref b1), (.ref b1)])) _
    refine XS.iconst X1.here hx rfl (hb hby d4_4) ?_
    show Steps p.tables e below (T1.setTop (mkF m 5 #[.val (.int v0)] [(.int (0 : Int32)), (.ref b1), (.ref b1)])) _
    refine XS.iloadN X1.here hx rfl (hb hby d4_5) rfl  ?_
    show Steps p.tables e below (T1.setTop (mkF m 6 #[.val (.int v0)] [(.int v0), (.int (0 : Int32)), (.ref b1), (.ref b1)])) _
    refine XS.i2b X1.here hx rfl (hb hby d4_6) rfl ?_
    exact k
  have hin2 : ¬ ((0 : Int32) < 0) ∧ (0 : Int32) < (1 : Int32) := by decide
  obtain ⟨cl2, Ar2, hi2, q2⟩ := own_open V_b1_1 hin2
  obtain ⟨T2, h2, X2, e2, W2, st2⟩ := stB X1 hx hZ e1 Ar2 (j := (0 : Int32)) hi2 (g := (mkF m 7 #[.val (.int v0)] [(.int (v0.toInt8.toInt32)), (.int (0 : Int32)), (.ref b1), (.ref b1)])) rfl rfl (hb hby d4_7)
  obtain ⟨V_b1_2, ln_b1_2⟩ : Arv Z h2 b1 k1 .byte (1 : Int32) (([((v0.toInt8.toInt32).toInt8.toInt32)] : List Int32).map Value.int) (.int 0) ∧ ([((v0.toInt8.toInt32).toInt8.toInt32)] : List Int32).length = (1 : Int32).toNatClampNeg := own_setI V_b1_1 ln_b1_1 hin2 W2 (fits_nar_byte _) 0 (by decide)
  have N2 := Fr.snoc X2 N0 g_b1
  have Z2 : n0 ≤ h2.size := Nat.le_trans Z1 (Nat.le_of_eq W2.size.symm)
  have K2 := K1.wr W2 (Or.inr sz_b1)
  refine EndsIn.by (B := T2.setTop (mkF m 8 #[.val (.int v0)] [(.ref b1)])) (fun t k => st2 t k) ?_
  subst hr
  exact own_retR X2 hx hlk hret rfl (hb hby d4_8) (by decide) (by decide) ⟨b1, k1, rfl, N2, g_b1, sz_b1, (by rw [e2]; exact K2), (by rw [e2]; exact V_b1_2), ln_b1_2⟩
theorem ef_4 (m : MethodId) (v0 : Int32) : entryFrame m #[(.int v0)] 1 = (mkF m 0 #[.val (.int v0)] []) := by first | (simp [entryFrame, mkF, argsToLocals, Value.category]; done) | rfl
set_option maxRecDepth 65536 in
set_option maxHeartbeats 40000000 in
theorem rm4 (l : Launch) (Z : State) (a0 : Array Value) (hw : ∀ d ∈ tables_1, d.before a0 Z = true) (ws : List Jvm.Cond) (v0 : Int32) (h0 : Heap) (n0 : Nat) (Z0 : n0 ≤ h0.size) :
    MetFree l (⟨"java/lang/StringLatin1", "toBytes", "(C)[B"⟩ : MethodName) (head1 (Jvm.Cond.code (⟨"java/lang/StringLatin1", "toBytes", "(C)[B"⟩ : MethodName) jdk_43_method_46_code 1 (some (.array .byte)) :: ws) R4) (fun a U => a = #[(.int v0)] ∧ Z.Warmed39 U.vm ∧ U.heap = h0) (fun _ _ _ _ _ => True) (fun _ U o U' => ∃ v L, o = .returned v ∧ (Q4 Z  h0 n0 (f4_0 v0)) v U'.heap L ∧ FrameEnd U o U' L R4.cells R4.slots) := by
  refine MetFree.of_bodySF (plainFor_of_name pn_4) hisR ?_
  intro p e s m args below meth c s₁ Bd hml0 hP hK
  obtain ⟨rfl, hZ, hh⟩ := hP
  have B : Ctx p Z s a0 m meth c "java/lang/StringLatin1" "toBytes" jdk_43_method_46_code 1 (some (.array .byte)) := ⟨Bd.exec, hZ, hw, Bd.bytes, hml0, Bd.returns, findClass_of_methodNamed Bd.named, (name_of_methodNamed Bd.named Bd.method).1, Bd.notSynchronized⟩
  have X0 : Stand p l e R4 s m #[(.int v0)] below meth c s₁ [] 0 0 := Stand.of_body Bd
  have e0 : s₁.heap = h0 := by rw [← hh, Bd.state]; rfl
  have K := Keep.refl h0 []
  show EndsIn p e below s R4.cells R4.slots (Q4 Z  h0 n0 (f4_0 v0)) (s₁.setTop (entryFrame m #[(.int v0)] 1))
  refine EndsIn.by (fun t k => castTop (ef_4 m v0) k) ?_
  exact b4_0 B h0 n0 v0 X0 e0 (Fr.nil n0) Z0 K _ rfl
theorem pd_1 : parseMethodDescriptor "(C)[B" = some ⟨[.char], some (.array .byte)⟩ := by decide +kernel
theorem d5_0 : decode jdk_42_method_151_code 0 = .ok (.aload_n 0, 1) := by decide +kernel
theorem d5_1 : decode jdk_42_method_151_code 1 = .ok (.invokespecial 1, 3) := by decide +kernel
theorem d5_4 : decode jdk_42_method_151_code 4 = .ok (.aload_n 0, 1) := by decide +kernel
theorem d5_5 : decode jdk_42_method_151_code 5 = .ok (.aload_n 1, 1) := by decide +kernel
theorem d5_6 : decode jdk_42_method_151_code 6 = .ok (.putfield 9, 3) := by decide +kernel
theorem d5_9 : decode jdk_42_method_151_code 9 = .ok (.aload_n 0, 1) := by decide +kernel
theorem d5_10 : decode jdk_42_method_151_code 10 = .ok (.iload_n 2, 1) := by decide +kernel
theorem d5_11 : decode jdk_42_method_151_code 11 = .ok (.putfield 15, 3) := by decide +kernel
theorem d5_14 : decode jdk_42_method_151_code 14 = .ok (.return_, 1) := by decide +kernel
theorem pn_5 : plainName "java/lang/String" = true := by first | (simp [plainName, overriddenIn]; done) | decide +kernel
def R5 : Room := { frames := 1, cells := 0, slots := 0, locals := 12 }
def Q5 (Z : State) (o0 : Addr) (o1 : Addr) (h0 : Heap) (n0 : Nat) (r : Int32) (v : Option Value) (h : Heap) (L : List Loc) : Prop := v = none ∧ Fr n0 L ∧ Keep h0 h [o0] ∧ Exa Z h o0 "java/lang/String" ∧ Fld Z h o0 "java/lang/String" "value" "[B" (.ref o1) ∧ Fld Z h o0 "java/lang/String" "coder" "B" (.int r)
def f5_0 (v2 : Int32) (o0_coder : Int32) : Int32 := (nar .byte v2)
set_option maxRecDepth 65536 in
set_option maxHeartbeats 40000000 in
theorem b5_0 {p : Program} {l : Launch} {e : Env} {s : State} {m : MethodId} {args : Array Value} {below : List Frame} {meth : Method} {c : Code} {Z : State} {a0 : Array Value} (B : Ctx p Z s a0 m meth c "java/lang/String" "<init>" jdk_42_method_151_code 3 none) {T0 : State} {locs : List Loc} {h : Heap} (h0 : Heap) (n0 : Nat) (o0 : Addr) (o1 : Addr) (v2 : Int32) (o0_value : Value) (o0_coder : Int32) (X0 : Stand p l e R5 s m args below meth c T0 locs 0 0) (e0 : T0.heap = h) (N0 : Fr n0 locs) (Z0 : n0 ≤ h.size) (K : Keep h0 h [o0]) (E_o0 : Exa Z h o0 "java/lang/String") (F_o0_value : Fld Z h o0 "java/lang/String" "value" "[B" o0_value) (F_o0_coder : Fld Z h o0 "java/lang/String" "coder" "B" (.int o0_coder)) (g_o0 : n0 ≤ o0) (r : Int32) (hr : f5_0 v2 o0_coder = r) :
    EndsIn p e below s R5.cells R5.slots (Q5 Z o0 o1 h0 n0 r) (T0.setTop (mkF m 0 #[.val (.ref o0), .val (.ref o1), .val (.int v2)] [])) := by
  obtain ⟨hx, hZ, hw, hby, hml, hret, hown, hnm, hlk⟩ := B
  unfold f5_0 at hr
  refine EndsIn.by (B := T0.setTop (mkF m 1 #[.val (.ref o0), .val (.ref o1), .val (.int v2)] [(.ref o0)])) (fun t k => ?_) ?_
  · show Steps p.tables e below (T0.setTop (mkF m 0 #[.val (.ref o0), .val (.ref o1), .val (.int v2)] [])) _
    refine XS.aloadN X0.here hx rfl (hb hby d5_0) rfl rfl ?_
    exact k
  obtain ⟨T1, X1, e1, st1⟩ := initO X0 hx hZ hown (hw _ (List.mem_of_getElem? (i := 24) rfl)) (hw _ (List.mem_of_getElem? (i := 25) rfl)) (hw _ (List.mem_of_getElem? (i := 26) rfl)) e0 (g := (mkF m 1 #[.val (.ref o0), .val (.ref o1), .val (.int v2)] [(.ref o0)])) rfl (by rw [hml]; rfl) rfl (hb hby d5_1) (by decide) (W := 0) (by show 2 * 0 + _ ≤ _; exact Nat.le_of_eq rfl) (by decide)
  refine EndsIn.by (B := T1.setTop (mkF m 4 #[.val (.ref o0), .val (.ref o1), .val (.int v2)] [])) (fun t k => st1 t k) ?_
  refine EndsIn.by (B := T1.setTop (mkF m 6 #[.val (.ref o0), .val (.ref o1), .val (.int v2)] [(.ref o1), (.ref o0)])) (fun t k => ?_) ?_
  · show Steps p.tables e below (T1.setTop (mkF m 4 #[.val (.ref o0), .val (.ref o1), .val (.int v2)] [])) _
    refine XS.aloadN X1.here hx rfl (hb hby d5_4) rfl rfl ?_
    show Steps p.tables e below (T1.setTop (mkF m 5 #[.val (.ref o0), .val (.ref o1), .val (.int v2)] [(.ref o0)])) _
    refine XS.aloadN X1.here hx rfl (hb hby d5_5) rfl rfl ?_
    exact k
  obtain ⟨T2, h2, X2, e2, W2, st2⟩ := putF X1 hx hZ hown (host := "") (Or.inl (hw _ (List.mem_of_getElem? (i := 27) rfl))) Via.refl e1 F_o0_value E_o0 (Or.inr ⟨(hw _ (List.mem_of_getElem? (i := 28) rfl)), rfl, hnm⟩) (hw _ (List.mem_of_getElem? (i := 15) rfl)) (ty := (.array .byte)) (by decide) rfl rfl (g := (mkF m 6 #[.val (.ref o0), .val (.ref o1), .val (.int v2)] [(.ref o1), (.ref o0)])) rfl rfl (hb hby d5_6)
  have E_o0_2 := E_o0.wr W2
  have F_o0_value_2 := F_o0_value.same W2
  have F_o0_coder_2 := F_o0_coder.other W2 (Or.inr (slot_ne (Or.inr (hw _ (List.mem_of_getElem? (i := 30) rfl))) (Or.inr (hw _ (List.mem_of_getElem? (i := 28) rfl))) (by decide) (t := .byte) (t' := (.array .byte)) (by decide) (by decide)))
  have N2 := Fr.snoc X2 N0 g_o0
  have Z2 : n0 ≤ h2.size := Nat.le_trans Z0 (Nat.le_of_eq W2.size.symm)
  have K2 := K.wr W2 (Or.inl (by simp))
  refine EndsIn.by (B := T2.setTop (mkF m 9 #[.val (.ref o0), .val (.ref o1), .val (.int v2)] [])) (fun t k => st2 t k) ?_
  refine EndsIn.by (B := T2.setTop (mkF m 11 #[.val (.ref o0), .val (.ref o1), .val (.int v2)] [(.int v2), (.ref o0)])) (fun t k => ?_) ?_
  · show Steps p.tables e below (T2.setTop (mkF m 9 #[.val (.ref o0), .val (.ref o1), .val (.int v2)] [])) _
    refine XS.aloadN X2.here hx rfl (hb hby d5_9) rfl rfl ?_
    show Steps p.tables e below (T2.setTop (mkF m 10 #[.val (.ref o0), .val (.ref o1), .val (.int v2)] [(.ref o0)])) _
    refine XS.iloadN X2.here hx rfl (hb hby d5_10) rfl  ?_
    exact k
  obtain ⟨T3, h3, X3, e3, W3, st3⟩ := putFN X2 hx hZ hown (hw _ (List.mem_of_getElem? (i := 29) rfl)) Via.refl e2 F_o0_coder_2 E_o0_2 (Or.inr ⟨(hw _ (List.mem_of_getElem? (i := 30) rfl)), rfl, hnm⟩) (hw _ (List.mem_of_getElem? (i := 15) rfl)) (ty := .byte) (v' := (.int (nar .byte v2))) (by decide) rfl (fits_nar_byte _) (g := (mkF m 11 #[.val (.ref o0), .val (.ref o1), .val (.int v2)] [(.int v2), (.ref o0)])) rfl rfl (hb hby d5_11)
  have E_o0_3 := E_o0_2.wr W3
  have F_o0_value_3 := F_o0_value_2.other W3 (Or.inr (slot_ne (Or.inr (hw _ (List.mem_of_getElem? (i := 28) rfl))) (Or.inr (hw _ (List.mem_of_getElem? (i := 30) rfl))) (by decide) (t := (.array .byte)) (t' := .byte) (by decide) (by decide)))
  have F_o0_coder_3 := F_o0_coder_2.same W3
  have N3 := Fr.snoc X3 N2 g_o0
  have Z3 : n0 ≤ h3.size := Nat.le_trans Z2 (Nat.le_of_eq W3.size.symm)
  have K3 := K2.wr W3 (Or.inl (by simp))
  refine EndsIn.by (B := T3.setTop (mkF m 14 #[.val (.ref o0), .val (.ref o1), .val (.int v2)] [])) (fun t k => st3 t k) ?_
  subst hr
  exact own_ret0 X3 hx hlk hret (hb hby d5_14) (by decide) (by decide) ⟨rfl, N3, (by rw [e3]; exact K3), (by rw [e3]; exact E_o0_3), (by rw [e3]; exact F_o0_value_3), (by rw [e3]; exact F_o0_coder_3)⟩
theorem ef_5 (m : MethodId) (o0 : Addr) (o1 : Addr) (v2 : Int32) : entryFrame m #[(.ref o0), (.ref o1), (.int v2)] 3 = (mkF m 0 #[.val (.ref o0), .val (.ref o1), .val (.int v2)] []) := by first | (simp [entryFrame, mkF, argsToLocals, Value.category]; done) | rfl
set_option maxRecDepth 65536 in
set_option maxHeartbeats 40000000 in
theorem rm5 (l : Launch) (Z : State) (a0 : Array Value) (hw : ∀ d ∈ tables_1, d.before a0 Z = true) (ws : List Jvm.Cond) (o0 : Addr) (o1 : Addr) (v2 : Int32) (o0_value : Value) (o0_coder : Int32) (h0 : Heap) (n0 : Nat) (Z0 : n0 ≤ h0.size) (E_o0 : Exa Z h0 o0 "java/lang/String") (F_o0_value : Fld Z h0 o0 "java/lang/String" "value" "[B" o0_value) (F_o0_coder : Fld Z h0 o0 "java/lang/String" "coder" "B" (.int o0_coder)) (g_o0 : n0 ≤ o0) :
    MetFree l (⟨"java/lang/String", "<init>", "([BB)V"⟩ : MethodName) (head1 (Jvm.Cond.code (⟨"java/lang/String", "<init>", "([BB)V"⟩ : MethodName) jdk_42_method_151_code 3 none :: ws) R5) (fun a U => a = #[(.ref o0), (.ref o1), (.int v2)] ∧ Z.Warmed39 U.vm ∧ U.heap = h0) (fun _ _ _ _ _ => True) (fun _ U o U' => ∃ v L, o = .returned v ∧ (Q5 Z o0 o1 h0 n0 (f5_0 v2 o0_coder)) v U'.heap L ∧ FrameEnd U o U' L R5.cells R5.slots) := by
  refine MetFree.of_bodySF (plainFor_of_name pn_5) hisR ?_
  intro p e s m args below meth c s₁ Bd hml0 hP hK
  obtain ⟨rfl, hZ, hh⟩ := hP
  have B : Ctx p Z s a0 m meth c "java/lang/String" "<init>" jdk_42_method_151_code 3 none := ⟨Bd.exec, hZ, hw, Bd.bytes, hml0, Bd.returns, findClass_of_methodNamed Bd.named, (name_of_methodNamed Bd.named Bd.method).1, Bd.notSynchronized⟩
  have X0 : Stand p l e R5 s m #[(.ref o0), (.ref o1), (.int v2)] below meth c s₁ [] 0 0 := Stand.of_body Bd
  have e0 : s₁.heap = h0 := by rw [← hh, Bd.state]; rfl
  have K := Keep.refl h0 [o0]
  show EndsIn p e below s R5.cells R5.slots (Q5 Z o0 o1 h0 n0 (f5_0 v2 o0_coder)) (s₁.setTop (entryFrame m #[(.ref o0), (.ref o1), (.int v2)] 3))
  refine EndsIn.by (fun t k => castTop (ef_5 m o0 o1 v2) k) ?_
  exact b5_0 B h0 n0 o0 o1 v2 o0_value o0_coder X0 e0 (Fr.nil n0) Z0 K E_o0 F_o0_value F_o0_coder g_o0 _ rfl
theorem pd_2 : parseMethodDescriptor "([BB)V" = some ⟨[(.array .byte), .byte], none⟩ := by decide +kernel
theorem d2_0 : decode jdk_42_method_139_code 0 = .ok (.getstatic 38, 3) := by decide +kernel
theorem d2_3 : decode jdk_42_method_139_code 3 = .ok (.ifCond .eq 23, 3) := by decide +kernel
theorem d2_6 : decode jdk_42_method_139_code 6 = .ok (.iload_n 0, 1) := by decide +kernel
theorem d2_7 : decode jdk_42_method_139_code 7 = .ok (.invokestatic 1015, 3) := by decide +kernel
theorem d2_10 : decode jdk_42_method_139_code 10 = .ok (.ifCond .eq 16, 3) := by decide +kernel
theorem d2_13 : decode jdk_42_method_139_code 13 = .ok (.new 10, 3) := by decide +kernel
theorem d2_16 : decode jdk_42_method_139_code 16 = .ok (.dup, 1) := by decide +kernel
theorem d2_17 : decode jdk_42_method_139_code 17 = .ok (.iload_n 0, 1) := by decide +kernel
theorem d2_18 : decode jdk_42_method_139_code 18 = .ok (.invokestatic 1018, 3) := by decide +kernel
theorem d2_21 : decode jdk_42_method_139_code 21 = .ok (.iconst 0, 1) := by decide +kernel
theorem d2_22 : decode jdk_42_method_139_code 22 = .ok (.invokespecial 209, 3) := by decide +kernel
theorem d2_25 : decode jdk_42_method_139_code 25 = .ok (.areturn, 1) := by decide +kernel
theorem pn_2 : plainName "java/lang/String" = true := by first | (simp [plainName, overriddenIn]; done) | decide +kernel
def R2 : Room := { frames := 2, cells := 2, slots := 5, locals := 27 }
def Q2 (Z : State)  (h0 : Heap) (n0 : Nat) (r : List Int32 × Int32) (v : Option Value) (h : Heap) (L : List Loc) : Prop := ∃ (b : Addr) (sv : Addr) (kb : ClassId), v = some (.ref b) ∧ Fr n0 L ∧ n0 ≤ b ∧ h0.size ≤ b ∧ Keep h0 h [] ∧ Exa Z h b "java/lang/String" ∧ Fld Z h b "java/lang/String" "value" "[B" (.ref sv) ∧ Fld Z h b "java/lang/String" "coder" "B" (.int r.2) ∧ Arv Z h sv kb .byte (1 : Int32) (r.1.map Value.int) (.int 0) ∧ r.1.length = (1 : Int32).toNatClampNeg
def f2_0 (v0 : Int32) : List Int32 × Int32 := ((f4_0 v0), (f5_0 (0 : Int32) (0 : Int32)))
set_option maxRecDepth 65536 in
set_option maxHeartbeats 40000000 in
theorem b2_0 {p : Program} {l : Launch} {e : Env} {s : State} {m : MethodId} {args : Array Value} {below : List Frame} {meth : Method} {c : Code} {Z : State} {a0 : Array Value} (B : Ctx p Z s a0 m meth c "java/lang/String" "valueOf" jdk_42_method_139_code 1 (some (.object "java/lang/String"))) {T0 : State} {locs : List Loc} {h : Heap} (h0 : Heap) (n0 : Nat) (v0 : Int32) (cs : Int32) (X0 : Stand p l e R2 s m args below meth c T0 locs 0 0) (e0 : T0.heap = h) (N0 : Fr n0 locs) (Z0 : n0 ≤ h.size) (K : Keep h0 h []) (O : Old Z n0 h) (S_cs : Sta Z Z.heap "java/lang/String" "COMPACT_STRINGS" "Z" (.int cs)) (P5 : ¬ (cs = (0 : Int32))) (hv : ¬ ((255 : Int32) < v0)) (r : List Int32 × Int32) (hr : f2_0 v0 = r) :
    EndsIn p e below s R2.cells R2.slots (Q2 Z  h0 n0 r) (T0.setTop (mkF m 0 #[.val (.int v0)] [])) := by
  obtain ⟨hx, hZ, hw, hby, hml, hret, hown, hnm, hlk⟩ := B
  unfold f2_0 at hr
  obtain ⟨T1, X1, e1, st1⟩ := getS2 X0 hx hZ hown (host := "") (Or.inl (hw _ (List.mem_of_getElem? (i := 9) rfl))) Via.refl e0 (S_cs.ext O.2) (g := (mkF m 0 #[.val (.int v0)] [])) rfl (hb hby d2_0)
  refine EndsIn.by (B := T1.setTop (mkF m 3 #[.val (.int v0)] [(.int cs)])) (fun t k => st1 t k) ?_
  have hc3 : ¬ (cs = (0 : Int32)) := P5
  refine EndsIn.by (B := T1.setTop (mkF m 6 #[.val (.int v0)] [])) (fun t k => ?_) ?_
  · show Steps p.tables e below (T1.setTop (mkF m 3 #[.val (.int v0)] [(.int cs)])) _
    exact XS.ifNo X1.here hx rfl (hb hby d2_3) rfl ((if0 _ _).trans (feq hc3).1) k
  refine EndsIn.by (B := T1.setTop (mkF m 7 #[.val (.int v0)] [(.int v0)])) (fun t k => ?_) ?_
  · show Steps p.tables e below (T1.setTop (mkF m 6 #[.val (.int v0)] [])) _
    refine XS.iloadN X1.here hx rfl (hb hby d2_6) rfl  ?_
    exact k
  -- pc 7: java/lang/StringLatin1.canEncode
  obtain ⟨_, _, ⟨T2, L2, k2, n2⟩, -, X2, ⟨Lc2, hQ2, l2, y2, z2⟩, st2⟩ := Jvm.LawKit.callS X1 hx (y := (⟨"java/lang/StringLatin1", "canEncode", "(C)Z"⟩ : MethodName)) hown (mvT hZ (hw _ (List.mem_of_getElem? (i := 10) rfl))) (mvT hZ (hw _ (List.mem_of_getElem? (i := 11) rfl))) (mvT hZ (hw _ (List.mem_of_getElem? (i := 12) rfl))) (mvT hZ (hw _ (List.mem_of_getElem? (i := 13) rfl))) (by decide) (backOf (W := 0) (rm3 l Z a0 hw [] v0 h n0 Z0 ) hZ (hw _ (List.mem_of_getElem? (i := 13) rfl)) (hw _ (List.mem_of_getElem? (i := 12) rfl)) (by decide) (by decide)) (g := (mkF m 7 #[.val (.int v0)] [(.int v0)])) rfl (by rw [hml]; rfl) (argsL := [(.int v0)]) (rest := []) (lenOf pd_0 rfl) rfl (by show 2 * 0 + _ ≤ _; exact Nat.le_of_eq rfl) (hb hby d2_7) (fun _ _ => ⟨rfl, e1, (by decide : 0 + R3.cells ≤ _), (by decide : 0 + R3.slots ≤ _)⟩)
  dsimp only [Pt.U, Pt.locs, Pt.cells, Pt.slots] at X2 l2 y2 z2 st2 hQ2
  subst l2 y2 z2
  obtain ⟨rfl, Nq2, e2⟩ := hQ2
  have N2 := Fr.app N0 Nq2
  refine EndsIn.by (B := T2.setTop (mkF m 10 #[.val (.int v0)] [(.int (f3_0 v0))])) (fun t k => st2 t k) ?_
  have hc10 : ¬ ((f3_0 v0) = (0 : Int32)) := by unfold f3_0; rw [if_neg hv]; decide
  refine EndsIn.by (B := T2.setTop (mkF m 13 #[.val (.int v0)] [])) (fun t k => ?_) ?_
  · show Steps p.tables e below (T2.setTop (mkF m 10 #[.val (.int v0)] [(.int (f3_0 v0))])) _
    exact XS.ifNo X2.here hx rfl (hb hby d2_10) rfl ((if0 _ _).trans (feq hc10).1) k
  obtain ⟨T3, h3, X3, e3, X3e, A3, D3, -, st3⟩ := newO X2 hx hZ hown (hw _ (List.mem_of_getElem? (i := 14) rfl)) (hw _ (List.mem_of_getElem? (i := 15) rfl)) (hw _ (List.mem_of_getElem? (i := 7) rfl)) e2 (g := (mkF m 13 #[.val (.int v0)] [])) rfl (hb hby d2_13) (by decide) (by decide)
  obtain ⟨b13, g3⟩ : ∃ z, z = h.size := ⟨_, rfl⟩
  rw [← g3] at A3 D3 st3
  have g_b13 : n0 ≤ b13 := Nat.le_trans Z0 (Nat.le_of_eq g3.symm)
  have sz_b13 : h0.size ≤ b13 := Nat.le_trans K.1 (Nat.le_of_eq g3.symm)
  have Z3 : n0 ≤ h3.size := Nat.le_trans Z0 X3e.1
  have K3 := K.ext X3e
  have O3 := O.ext X3e
  have E_b13_3 := A3
  have F_b13_value_3 : Fld Z h3 b13 "java/lang/String" "value" "[B" .null := D3 (Or.inr (hw _ (List.mem_of_getElem? (i := 28) rfl))) (ty := (.array .byte)) (by decide)
  have F_b13_coder_3 : Fld Z h3 b13 "java/lang/String" "coder" "B" (.int (0 : Int32)) := D3 (Or.inr (hw _ (List.mem_of_getElem? (i := 30) rfl))) (ty := .byte) (by decide)
  refine EndsIn.by (B := T3.setTop (mkF m 16 #[.val (.int v0)] [(.ref b13)])) (fun t k => st3 t k) ?_
  refine EndsIn.by (B := T3.setTop (mkF m 18 #[.val (.int v0)] [(.int v0), (.ref b13), (.ref b13)])) (fun t k => ?_) ?_
  · show Steps p.tables e below (T3.setTop (mkF m 16 #[.val (.int v0)] [(.ref b13)])) _
    refine XS.dup X3.here hx rfl (hb hby d2_16) rfl rfl ?_
    show Steps p.tables e below (T3.setTop (mkF m 17 #[.val (.int v0)] [(.ref b13), (.ref b13)])) _
    refine XS.iloadN X3.here hx rfl (hb hby d2_17) rfl  ?_
    exact k
  -- pc 18: java/lang/StringLatin1.toBytes
  obtain ⟨_, _, ⟨T4, L4, k4, n4⟩, -, X4, ⟨Lc4, hQ4, l4, y4, z4⟩, st4⟩ := Jvm.LawKit.callS X3 hx (y := (⟨"java/lang/StringLatin1", "toBytes", "(C)[B"⟩ : MethodName)) hown (mvT hZ (hw _ (List.mem_of_getElem? (i := 16) rfl))) (mvT hZ (hw _ (List.mem_of_getElem? (i := 17) rfl))) (mvT hZ (hw _ (List.mem_of_getElem? (i := 12) rfl))) (mvT hZ (hw _ (List.mem_of_getElem? (i := 18) rfl))) (by decide) (backOf (W := 2) (rm4 l Z a0 hw [] v0 h3 n0 Z3 ) hZ (hw _ (List.mem_of_getElem? (i := 18) rfl)) (hw _ (List.mem_of_getElem? (i := 12) rfl)) (by decide) (by decide)) (g := (mkF m 18 #[.val (.int v0)] [(.int v0), (.ref b13), (.ref b13)])) rfl (by rw [hml]; rfl) (argsL := [(.int v0)]) (rest := [(.ref b13), (.ref b13)]) (lenOf pd_1 rfl) rfl (by show 2 * 0 + _ ≤ _; exact Nat.le_of_eq rfl) (hb hby d2_18) (fun _ _ => ⟨rfl, e3, (by decide : 1 + R4.cells ≤ _), (by decide : 4 + R4.slots ≤ _)⟩)
  dsimp only [Pt.U, Pt.locs, Pt.cells, Pt.slots] at X4 l4 y4 z4 st4 hQ4
  subst l4 y4 z4
  obtain ⟨c18, kb_4, rfl, Nq4, g_c18, szq4, Kq4, Vb_4, lnb_4⟩ := hQ4
  obtain ⟨h4, e4⟩ : ∃ z, T4.heap = z := ⟨_, rfl⟩
  rw [e4] at Kq4 Vb_4
  have N4 := Fr.app N2 Nq4
  have Z4 : n0 ≤ h4.size := Nat.le_trans Z3 Kq4.1
  have ne_b13_c18 : b13 ≠ c18 := Nat.ne_of_lt (Nat.lt_of_lt_of_le E_b13_3.lt szq4)
  have E_b13_4 := E_b13_3.keep Kq4
  have F_b13_value_4 := F_b13_value_3.keep Kq4 (by simp)
  have F_b13_coder_4 := F_b13_coder_3.keep Kq4 (by simp)
  have K4 := K3.trans Kq4 (fun _ q => nomatch q)
  have O4 := O3.keep Kq4 all0
  have sz_c18 : h0.size ≤ c18 := Nat.le_trans K3.1 szq4
  refine EndsIn.by (B := T4.setTop (mkF m 21 #[.val (.int v0)] [(.ref c18), (.ref b13), (.ref b13)])) (fun t k => st4 t k) ?_
  refine EndsIn.by (B := T4.setTop (mkF m 22 #[.val (.int v0)] [(.int (0 : Int32)), (.ref c18), (.ref b13), (.ref b13)])) (fun t k => ?_) ?_
  · show Steps p.tables e below (T4.setTop (mkF m 21 #[.val (.int v0)] [(.ref c18), (.ref b13), (.ref b13)])) _
    refine XS.iconst X4.here hx rfl (hb hby d2_21) ?_
    exact k
  -- pc 22: java/lang/String.<init>
  obtain ⟨_, _, ⟨T5, L5, k5, n5⟩, -, X5, ⟨Lc5, hQ5, l5, y5, z5⟩, st5⟩ := X4.specialBack hx (y := (⟨"java/lang/String", "<init>", "([BB)V"⟩ : MethodName)) rfl hown (mvT hZ (hw _ (List.mem_of_getElem? (i := 20) rfl))) (mvT hZ (hw _ (List.mem_of_getElem? (i := 21) rfl))) (mvT hZ (hw _ (List.mem_of_getElem? (i := 23) rfl))) (by decide) (backOf (W := 1) (rm5 l Z a0 hw [] b13 c18 (0 : Int32) .null (0 : Int32) h4 n0 Z4 E_b13_4 F_b13_value_4 F_b13_coder_4 g_b13) hZ (hw _ (List.mem_of_getElem? (i := 23) rfl)) (hw _ (List.mem_of_getElem? (i := 7) rfl)) (by decide) (by decide)) (g := (mkF m 22 #[.val (.int v0)] [(.int (0 : Int32)), (.ref c18), (.ref b13), (.ref b13)])) rfl (by rw [hml]; rfl) (Steps.refl _) (a := b13) (argsL := [(.ref c18), (.int (0 : Int32))]) (rest := [(.ref b13)]) (lenOf pd_2 rfl) rfl (by show 2 * 0 + _ ≤ _; exact Nat.le_of_eq rfl) (hb hby d2_22) (fun _ _ => ⟨rfl, e4, (by decide : 2 + R5.cells ≤ _), (by decide : 5 + R5.slots ≤ _)⟩)
  dsimp only [Pt.U, Pt.locs, Pt.cells, Pt.slots] at X5 l5 y5 z5 st5 hQ5
  subst l5 y5 z5
  obtain ⟨rfl, Nq5, Kq5, E_b13_5, F_b13_value_5, F_b13_coder_5⟩ := hQ5
  obtain ⟨h5, e5⟩ : ∃ z, T5.heap = z := ⟨_, rfl⟩
  rw [e5] at Kq5 E_b13_5 F_b13_value_5 F_b13_coder_5
  have N5 := Fr.app N4 Nq5
  have Z5 : n0 ≤ h5.size := Nat.le_trans Z4 Kq5.1
  have V_c18_5 := Vb_4.keep Kq5 (ninS (Ne.symm ne_b13_c18) nin0)
  have K5 := K4.trans Kq5 (by intro z hz; simp only [List.mem_cons, List.not_mem_nil, or_false] at hz; first | exact absurd hz id | (rcases hz with rfl; exact Or.inr sz_b13))
  have O5 := O4.keep Kq5 (allS g_b13 all0)
  refine EndsIn.by (B := T5.setTop (mkF m 25 #[.val (.int v0)] [(.ref b13)])) (fun t k => st5.trans k) ?_
  subst hr
  exact own_retR X5 hx hlk hret rfl (hb hby d2_25) (by decide) (by decide) ⟨b13, c18, kb_4, rfl, N5, g_b13, sz_b13, (by rw [e5]; exact K5), (by rw [e5]; exact E_b13_5), (by rw [e5]; exact F_b13_value_5), (by rw [e5]; exact F_b13_coder_5), (by rw [e5]; exact V_c18_5), lnb_4⟩
theorem ef_2 (m : MethodId) (v0 : Int32) : entryFrame m #[(.int v0)] 1 = (mkF m 0 #[.val (.int v0)] []) := by first | (simp [entryFrame, mkF, argsToLocals, Value.category]; done) | rfl
set_option maxRecDepth 65536 in
set_option maxHeartbeats 40000000 in
theorem rm2 (l : Launch) (Z : State) (a0 : Array Value) (hw : ∀ d ∈ tables_1, d.before a0 Z = true) (ws : List Jvm.Cond) (v0 : Int32) (cs : Int32) (h0 : Heap) (n0 : Nat) (Z0 : n0 ≤ h0.size) (O : Old Z n0 h0) (S_cs : Sta Z Z.heap "java/lang/String" "COMPACT_STRINGS" "Z" (.int cs)) (P5 : ¬ (cs = (0 : Int32))) (hv : ¬ ((255 : Int32) < v0)) :
    MetFree l (⟨"java/lang/String", "valueOf", "(C)Ljava/lang/String;"⟩ : MethodName) (head1 (Jvm.Cond.code (⟨"java/lang/String", "valueOf", "(C)Ljava/lang/String;"⟩ : MethodName) jdk_42_method_139_code 1 (some (.object "java/lang/String")) :: ws) R2) (fun a U => a = #[(.int v0)] ∧ Z.Warmed39 U.vm ∧ U.heap = h0) (fun _ _ _ _ _ => True) (fun _ U o U' => ∃ v L, o = .returned v ∧ (Q2 Z  h0 n0 (f2_0 v0)) v U'.heap L ∧ FrameEnd U o U' L R2.cells R2.slots) := by
  refine MetFree.of_bodySF (plainFor_of_name pn_2) hisR ?_
  intro p e s m args below meth c s₁ Bd hml0 hP hK
  obtain ⟨rfl, hZ, hh⟩ := hP
  have B : Ctx p Z s a0 m meth c "java/lang/String" "valueOf" jdk_42_method_139_code 1 (some (.object "java/lang/String")) := ⟨Bd.exec, hZ, hw, Bd.bytes, hml0, Bd.returns, findClass_of_methodNamed Bd.named, (name_of_methodNamed Bd.named Bd.method).1, Bd.notSynchronized⟩
  have X0 : Stand p l e R2 s m #[(.int v0)] below meth c s₁ [] 0 0 := Stand.of_body Bd
  have e0 : s₁.heap = h0 := by rw [← hh, Bd.state]; rfl
  have K := Keep.refl h0 []
  show EndsIn p e below s R2.cells R2.slots (Q2 Z  h0 n0 (f2_0 v0)) (s₁.setTop (entryFrame m #[(.int v0)] 1))
  refine EndsIn.by (fun t k => castTop (ef_2 m v0) k) ?_
  exact b2_0 B h0 n0 v0 cs X0 e0 (Fr.nil n0) Z0 K O S_cs P5 hv _ rfl
theorem pd_3 : parseMethodDescriptor "(C)Ljava/lang/String;" = some ⟨[.char], some (.object "java/lang/String")⟩ := by decide +kernel
theorem d9_0 : decode jdk_42_method_152_code 0 = .ok (.getstatic 38, 3) := by decide +kernel
theorem d9_3 : decode jdk_42_method_152_code 3 = .ok (.ifCond .eq 10, 3) := by decide +kernel
theorem d9_6 : decode jdk_42_method_152_code 6 = .ok (.aload_n 0, 1) := by decide +kernel
theorem d9_7 : decode jdk_42_method_152_code 7 = .ok (.getfield 15, 3) := by decide +kernel
theorem d9_10 : decode jdk_42_method_152_code 10 = .ok (.goto 4, 3) := by decide +kernel
theorem d9_14 : decode jdk_42_method_152_code 14 = .ok (.ireturn, 1) := by decide +kernel
theorem pn_9 : plainName "java/lang/String" = true := by first | (simp [plainName, overriddenIn]; done) | decide +kernel
def R9 : Room := { frames := 0, cells := 0, slots := 0, locals := 0 }
def Q9 (Z : State)  (h0 : Heap) (n0 : Nat) (r : Int32) (v : Option Value) (h : Heap) (L : List Loc) : Prop := v = some (.int r) ∧ Fr n0 L ∧ h = h0
def f9_0 (o0_coder : Int32) (sv_xs : List Int32) : Int32 := (nar .byte o0_coder)
set_option maxRecDepth 65536 in
set_option maxHeartbeats 40000000 in
theorem b9_0 {p : Program} {l : Launch} {e : Env} {s : State} {m : MethodId} {args : Array Value} {below : List Frame} {meth : Method} {c : Code} {Z : State} {a0 : Array Value} (B : Ctx p Z s a0 m meth c "java/lang/String" "coder" jdk_42_method_152_code 1 (some .byte)) {T0 : State} {locs : List Loc} {h : Heap} (h0 : Heap) (n0 : Nat) (o0 : Addr) (sv : Addr) (o0_coder : Int32) (sv_k : ClassId) (sv_xs : List Int32) (cs : Int32) (sf : Value) (X0 : Stand p l e R9 s m args below meth c T0 locs 0 0) (e0 : T0.heap = h) (N0 : Fr n0 locs) (Z0 : n0 ≤ h.size) (hh0 : h = h0) (E_o0 : Exa Z h o0 "java/lang/String") (F_o0_value : Fld Z h o0 "java/lang/String" "value" "[B" (.ref sv)) (F_o0_coder : Fld Z h o0 "java/lang/String" "coder" "B" (.int o0_coder)) (V_sv : Arv Z h sv sv_k .byte (1 : Int32) (sv_xs.map Value.int) (.int 0)) (ln_sv : sv_xs.length = (1 : Int32).toNatClampNeg) (O : Old Z n0 h) (S_cs : Sta Z Z.heap "java/lang/String" "COMPACT_STRINGS" "Z" (.int cs)) (P5 : ¬ (cs = (0 : Int32))) (S_f : Sta Z Z.heap "jdk/internal/util/Preconditions" "SIOOBE_FORMATTER" "Ljava/util/function/BiFunction;" sf) (h_sf : sf.isRef = true) (r : Int32) (hr : f9_0 o0_coder sv_xs = r) :
    EndsIn p e below s R9.cells R9.slots (Q9 Z  h0 n0 r) (T0.setTop (mkF m 0 #[.val (.ref o0)] [])) := by
  obtain ⟨hx, hZ, hw, hby, hml, hret, hown, hnm, hlk⟩ := B
  unfold f9_0 at hr
  obtain ⟨T1, X1, e1, st1⟩ := getS2 X0 hx hZ hown (host := "") (Or.inl (hw _ (List.mem_of_getElem? (i := 9) rfl))) Via.refl e0 (S_cs.ext O.2) (g := (mkF m 0 #[.val (.ref o0)] [])) rfl (hb hby d9_0)
  refine EndsIn.by (B := T1.setTop (mkF m 3 #[.val (.ref o0)] [(.int cs)])) (fun t k => st1 t k) ?_
  have hc3 : ¬ (cs = (0 : Int32)) := P5
  refine EndsIn.by (B := T1.setTop (mkF m 6 #[.val (.ref o0)] [])) (fun t k => ?_) ?_
  · show Steps p.tables e below (T1.setTop (mkF m 3 #[.val (.ref o0)] [(.int cs)])) _
    exact XS.ifNo X1.here hx rfl (hb hby d9_3) rfl ((if0 _ _).trans (feq hc3).1) k
  refine EndsIn.by (B := T1.setTop (mkF m 7 #[.val (.ref o0)] [(.ref o0)])) (fun t k => ?_) ?_
  · show Steps p.tables e below (T1.setTop (mkF m 6 #[.val (.ref o0)] [])) _
    refine XS.aloadN X1.here hx rfl (hb hby d9_6) rfl rfl ?_
    exact k
  obtain ⟨T2, X2, e2, st2⟩ := getF X1 hx hZ hown (host := "") (Or.inl (hw _ (List.mem_of_getElem? (i := 29) rfl))) Via.refl e1 F_o0_coder (g := (mkF m 7 #[.val (.ref o0)] [(.ref o0)])) rfl rfl (hb hby d9_7)
  refine EndsIn.by (B := T2.setTop (mkF m 10 #[.val (.ref o0)] [(.int o0_coder)])) (fun t k => st2 t k) ?_
  refine EndsIn.by (B := T2.setTop (mkF m 14 #[.val (.ref o0)] [(.int o0_coder)])) (fun t k => ?_) ?_
  · show Steps p.tables e below (T2.setTop (mkF m 10 #[.val (.ref o0)] [(.int o0_coder)])) _
    refine XS.goto X2.here hx rfl (pc0 := 10) (pc' := 14) rfl (hb hby d9_10) (by decide) (by decide) ?_
    exact k
  subst hr
  exact own_retN X2 hx hlk (t := .byte) hret (by simp) (hb hby d9_14) (by decide) (by decide) ⟨rfl, N0, (e2.trans hh0)⟩
theorem ef_9 (m : MethodId) (o0 : Addr) : entryFrame m #[(.ref o0)] 1 = (mkF m 0 #[.val (.ref o0)] []) := by first | (simp [entryFrame, mkF, argsToLocals, Value.category]; done) | rfl
set_option maxRecDepth 65536 in
set_option maxHeartbeats 40000000 in
theorem rm9 (l : Launch) (Z : State) (a0 : Array Value) (hw : ∀ d ∈ tables_1, d.before a0 Z = true) (ws : List Jvm.Cond) (o0 : Addr) (sv : Addr) (o0_coder : Int32) (sv_k : ClassId) (sv_xs : List Int32) (cs : Int32) (sf : Value) (h0 : Heap) (n0 : Nat) (Z0 : n0 ≤ h0.size) (E_o0 : Exa Z h0 o0 "java/lang/String") (F_o0_value : Fld Z h0 o0 "java/lang/String" "value" "[B" (.ref sv)) (F_o0_coder : Fld Z h0 o0 "java/lang/String" "coder" "B" (.int o0_coder)) (V_sv : Arv Z h0 sv sv_k .byte (1 : Int32) (sv_xs.map Value.int) (.int 0)) (ln_sv : sv_xs.length = (1 : Int32).toNatClampNeg) (O : Old Z n0 h0) (S_cs : Sta Z Z.heap "java/lang/String" "COMPACT_STRINGS" "Z" (.int cs)) (P5 : ¬ (cs = (0 : Int32))) (S_f : Sta Z Z.heap "jdk/internal/util/Preconditions" "SIOOBE_FORMATTER" "Ljava/util/function/BiFunction;" sf) (h_sf : sf.isRef = true) :
    MetFree l (⟨"java/lang/String", "coder", "()B"⟩ : MethodName) (head1 (Jvm.Cond.code (⟨"java/lang/String", "coder", "()B"⟩ : MethodName) jdk_42_method_152_code 1 (some .byte) :: ws) R9) (fun a U => a = #[(.ref o0)] ∧ Z.Warmed39 U.vm ∧ U.heap = h0) (fun _ _ _ _ _ => True) (fun _ U o U' => ∃ v L, o = .returned v ∧ (Q9 Z  h0 n0 (f9_0 o0_coder sv_xs)) v U'.heap L ∧ FrameEnd U o U' L R9.cells R9.slots) := by
  refine MetFree.of_bodySF (plainFor_of_name pn_9) hisR ?_
  intro p e s m args below meth c s₁ Bd hml0 hP hK
  obtain ⟨rfl, hZ, hh⟩ := hP
  have B : Ctx p Z s a0 m meth c "java/lang/String" "coder" jdk_42_method_152_code 1 (some .byte) := ⟨Bd.exec, hZ, hw, Bd.bytes, hml0, Bd.returns, findClass_of_methodNamed Bd.named, (name_of_methodNamed Bd.named Bd.method).1, Bd.notSynchronized⟩
  have X0 : Stand p l e R9 s m #[(.ref o0)] below meth c s₁ [] 0 0 := Stand.of_body Bd
  have e0 : s₁.heap = h0 := by rw [← hh, Bd.state]; rfl
  have K := Keep.refl h0 []
  show EndsIn p e below s R9.cells R9.slots (Q9 Z  h0 n0 (f9_0 o0_coder sv_xs)) (s₁.setTop (entryFrame m #[(.ref o0)] 1))
  refine EndsIn.by (fun t k => castTop (ef_9 m o0) k) ?_
  exact b9_0 B h0 n0 o0 sv o0_coder sv_k sv_xs cs sf X0 e0 (Fr.nil n0) Z0 rfl E_o0 F_o0_value F_o0_coder V_sv ln_sv O S_cs P5 S_f h_sf _ rfl
theorem pd_4 : parseMethodDescriptor "()B" = some ⟨[], some .byte⟩ := by decide +kernel
theorem d8_0 : decode jdk_42_method_54_code 0 = .ok (.aload_n 0, 1) := by decide +kernel
theorem d8_1 : decode jdk_42_method_54_code 1 = .ok (.getfield 9, 3) := by decide +kernel
theorem d8_4 : decode jdk_42_method_54_code 4 = .ok (.arraylength, 1) := by decide +kernel
theorem d8_5 : decode jdk_42_method_54_code 5 = .ok (.aload_n 0, 1) := by decide +kernel
theorem d8_6 : decode jdk_42_method_54_code 6 = .ok (.invokevirtual 335, 3) := by decide +kernel
theorem d8_9 : decode jdk_42_method_54_code 9 = .ok (.ishr, 1) := by decide +kernel
theorem d8_10 : decode jdk_42_method_54_code 10 = .ok (.ireturn, 1) := by decide +kernel
theorem pn_8 : plainName "java/lang/String" = true := by first | (simp [plainName, overriddenIn]; done) | decide +kernel
def R8 : Room := { frames := 1, cells := 0, slots := 0, locals := 13 }
def Q8 (Z : State)  (h0 : Heap) (n0 : Nat) (r : Int32) (v : Option Value) (h : Heap) (L : List Loc) : Prop := v = some (.int r) ∧ Fr n0 L ∧ h = h0
def f8_0 (o0_coder : Int32) (sv_xs : List Int32) : Int32 := ((1 : Int32) >>> ((f9_0 o0_coder sv_xs) &&& 31))
set_option maxRecDepth 65536 in
set_option maxHeartbeats 40000000 in
theorem b8_0 {p : Program} {l : Launch} {e : Env} {s : State} {m : MethodId} {args : Array Value} {below : List Frame} {meth : Method} {c : Code} {Z : State} {a0 : Array Value} (B : Ctx p Z s a0 m meth c "java/lang/String" "length" jdk_42_method_54_code 1 (some .int)) {T0 : State} {locs : List Loc} {h : Heap} (h0 : Heap) (n0 : Nat) (o0 : Addr) (sv : Addr) (o0_coder : Int32) (sv_k : ClassId) (sv_xs : List Int32) (cs : Int32) (sf : Value) (X0 : Stand p l e R8 s m args below meth c T0 locs 0 0) (e0 : T0.heap = h) (N0 : Fr n0 locs) (Z0 : n0 ≤ h.size) (hh0 : h = h0) (E_o0 : Exa Z h o0 "java/lang/String") (F_o0_value : Fld Z h o0 "java/lang/String" "value" "[B" (.ref sv)) (F_o0_coder : Fld Z h o0 "java/lang/String" "coder" "B" (.int o0_coder)) (V_sv : Arv Z h sv sv_k .byte (1 : Int32) (sv_xs.map Value.int) (.int 0)) (ln_sv : sv_xs.length = (1 : Int32).toNatClampNeg) (O : Old Z n0 h) (S_cs : Sta Z Z.heap "java/lang/String" "COMPACT_STRINGS" "Z" (.int cs)) (P5 : ¬ (cs = (0 : Int32))) (S_f : Sta Z Z.heap "jdk/internal/util/Preconditions" "SIOOBE_FORMATTER" "Ljava/util/function/BiFunction;" sf) (h_sf : sf.isRef = true) (r : Int32) (hr : f8_0 o0_coder sv_xs = r) :
    EndsIn p e below s R8.cells R8.slots (Q8 Z  h0 n0 r) (T0.setTop (mkF m 0 #[.val (.ref o0)] [])) := by
  obtain ⟨hx, hZ, hw, hby, hml, hret, hown, hnm, hlk⟩ := B
  unfold f8_0 at hr
  refine EndsIn.by (B := T0.setTop (mkF m 1 #[.val (.ref o0)] [(.ref o0)])) (fun t k => ?_) ?_
  · show Steps p.tables e below (T0.setTop (mkF m 0 #[.val (.ref o0)] [])) _
    refine XS.aloadN X0.here hx rfl (hb hby d8_0) rfl rfl ?_
    exact k
  obtain ⟨T1, X1, e1, st1⟩ := getF X0 hx hZ hown (host := "") (Or.inl (hw _ (List.mem_of_getElem? (i := 27) rfl))) Via.refl e0 F_o0_value (g := (mkF m 1 #[.val (.ref o0)] [(.ref o0)])) rfl rfl (hb hby d8_1)
  refine EndsIn.by (B := T1.setTop (mkF m 4 #[.val (.ref o0)] [(.ref sv)])) (fun t k => st1 t k) ?_
  have V2 := V_sv
  obtain ⟨cl2, Ar2, -, S2, M2, -, -⟩ := V2
  refine EndsIn.by (B := T1.setTop (mkF m 5 #[.val (.ref o0)] [(.int (1 : Int32))])) (fun t k => ?_) ?_
  · show Steps p.tables e below (T1.setTop (mkF m 4 #[.val (.ref o0)] [(.ref sv)])) _
    refine X1.arraylength hx (by rw [e1]; exact Ar2.1) (State.isArrayOf_alike hZ.alike Ar2.2.1) (g := (mkF m 4 #[.val (.ref o0)] [(.ref sv)])) rfl rfl (hb hby d8_4) _ ?_
    rw [len_of S2 M2]
    exact k
  refine EndsIn.by (B := T1.setTop (mkF m 6 #[.val (.ref o0)] [(.ref o0), (.int (1 : Int32))])) (fun t k => ?_) ?_
  · show Steps p.tables e below (T1.setTop (mkF m 5 #[.val (.ref o0)] [(.int (1 : Int32))])) _
    refine XS.aloadN X1.here hx rfl (hb hby d8_5) rfl rfl ?_
    exact k
  -- pc 6: java/lang/String.coder
  obtain ⟨cq3, kq3, q3a, q3b, q3c⟩ := isOf hZ e1 E_o0
  obtain ⟨_, _, ⟨T3, L3, k3, n3⟩, -, X3, ⟨Lc3, hQ3, l3, y3, z3⟩, st3⟩ := X1.virtualBack hx (y := (⟨"java/lang/String", "coder", "()B"⟩ : MethodName)) (z := (⟨"java/lang/String", "coder", "()B"⟩ : MethodName)) hown (mvT hZ (hw _ (List.mem_of_getElem? (i := 43) rfl))) (mvT hZ (hw _ (List.mem_of_getElem? (i := 44) rfl))) (notFace_of_selects (args := #[]) (mvT hZ (hw _ (List.mem_of_getElem? (i := 46) rfl)))) (mvT hZ (hw _ (List.mem_of_getElem? (i := 46) rfl))) (mvT hZ (hw _ (List.mem_of_getElem? (i := 45) rfl))) (by decide) (backOf (W := 1) (rm9 l Z a0 hw [] o0 sv o0_coder sv_k sv_xs cs sf h n0 Z0 E_o0 F_o0_value F_o0_coder V_sv ln_sv O S_cs P5 S_f h_sf) hZ (hw _ (List.mem_of_getElem? (i := 47) rfl)) (hw _ (List.mem_of_getElem? (i := 7) rfl)) (by decide) (by decide)) q3a q3c (g := (mkF m 6 #[.val (.ref o0)] [(.ref o0), (.int (1 : Int32))])) rfl (by rw [hml]; rfl) (Steps.refl _) (argsL := []) (rest := [(.int (1 : Int32))]) (lenOf pd_4 rfl) rfl (by show 2 * 0 + _ ≤ _; exact Nat.le_of_eq rfl) (hb hby d8_6) (fun _ _ => ⟨rfl, e1, (by decide : 0 + R9.cells ≤ _), (by decide : 0 + R9.slots ≤ _)⟩)
  dsimp only [Pt.U, Pt.locs, Pt.cells, Pt.slots] at X3 l3 y3 z3 st3 hQ3
  subst l3 y3 z3
  obtain ⟨rfl, Nq3, e3⟩ := hQ3
  have N3 := Fr.app N0 Nq3
  refine EndsIn.by (B := T3.setTop (mkF m 9 #[.val (.ref o0)] [(.int (f9_0 o0_coder sv_xs)), (.int (1 : Int32))])) (fun t k => st3.trans k) ?_
  refine EndsIn.by (B := T3.setTop (mkF m 10 #[.val (.ref o0)] [(.int ((1 : Int32) >>> ((f9_0 o0_coder sv_xs) &&& 31)))])) (fun t k => ?_) ?_
  · show Steps p.tables e below (T3.setTop (mkF m 9 #[.val (.ref o0)] [(.int (f9_0 o0_coder sv_xs)), (.int (1 : Int32))])) _
    refine XS.ishr X3.here hx rfl (hb hby d8_9) rfl ?_
    exact k
  subst hr
  exact own_retI X3 hx hlk hret (hb hby d8_10) (by decide) (by decide) ⟨rfl, N3, (e3.trans hh0)⟩
theorem ef_8 (m : MethodId) (o0 : Addr) : entryFrame m #[(.ref o0)] 1 = (mkF m 0 #[.val (.ref o0)] []) := by first | (simp [entryFrame, mkF, argsToLocals, Value.category]; done) | rfl
set_option maxRecDepth 65536 in
set_option maxHeartbeats 40000000 in
theorem rm8 (l : Launch) (Z : State) (a0 : Array Value) (hw : ∀ d ∈ tables_1, d.before a0 Z = true) (ws : List Jvm.Cond) (o0 : Addr) (sv : Addr) (o0_coder : Int32) (sv_k : ClassId) (sv_xs : List Int32) (cs : Int32) (sf : Value) (h0 : Heap) (n0 : Nat) (Z0 : n0 ≤ h0.size) (E_o0 : Exa Z h0 o0 "java/lang/String") (F_o0_value : Fld Z h0 o0 "java/lang/String" "value" "[B" (.ref sv)) (F_o0_coder : Fld Z h0 o0 "java/lang/String" "coder" "B" (.int o0_coder)) (V_sv : Arv Z h0 sv sv_k .byte (1 : Int32) (sv_xs.map Value.int) (.int 0)) (ln_sv : sv_xs.length = (1 : Int32).toNatClampNeg) (O : Old Z n0 h0) (S_cs : Sta Z Z.heap "java/lang/String" "COMPACT_STRINGS" "Z" (.int cs)) (P5 : ¬ (cs = (0 : Int32))) (S_f : Sta Z Z.heap "jdk/internal/util/Preconditions" "SIOOBE_FORMATTER" "Ljava/util/function/BiFunction;" sf) (h_sf : sf.isRef = true) :
    MetFree l (⟨"java/lang/String", "length", "()I"⟩ : MethodName) (head1 (Jvm.Cond.code (⟨"java/lang/String", "length", "()I"⟩ : MethodName) jdk_42_method_54_code 1 (some .int) :: ws) R8) (fun a U => a = #[(.ref o0)] ∧ Z.Warmed39 U.vm ∧ U.heap = h0) (fun _ _ _ _ _ => True) (fun _ U o U' => ∃ v L, o = .returned v ∧ (Q8 Z  h0 n0 (f8_0 o0_coder sv_xs)) v U'.heap L ∧ FrameEnd U o U' L R8.cells R8.slots) := by
  refine MetFree.of_bodySF (plainFor_of_name pn_8) hisR ?_
  intro p e s m args below meth c s₁ Bd hml0 hP hK
  obtain ⟨rfl, hZ, hh⟩ := hP
  have B : Ctx p Z s a0 m meth c "java/lang/String" "length" jdk_42_method_54_code 1 (some .int) := ⟨Bd.exec, hZ, hw, Bd.bytes, hml0, Bd.returns, findClass_of_methodNamed Bd.named, (name_of_methodNamed Bd.named Bd.method).1, Bd.notSynchronized⟩
  have X0 : Stand p l e R8 s m #[(.ref o0)] below meth c s₁ [] 0 0 := Stand.of_body Bd
  have e0 : s₁.heap = h0 := by rw [← hh, Bd.state]; rfl
  have K := Keep.refl h0 []
  show EndsIn p e below s R8.cells R8.slots (Q8 Z  h0 n0 (f8_0 o0_coder sv_xs)) (s₁.setTop (entryFrame m #[(.ref o0)] 1))
  refine EndsIn.by (fun t k => castTop (ef_8 m o0) k) ?_
  exact b8_0 B h0 n0 o0 sv o0_coder sv_k sv_xs cs sf X0 e0 (Fr.nil n0) Z0 rfl E_o0 F_o0_value F_o0_coder V_sv ln_sv O S_cs P5 S_f h_sf _ rfl
theorem pd_5 : parseMethodDescriptor "()I" = some ⟨[], some .int⟩ := by decide +kernel
theorem d11_0 : decode jdk_42_method_154_code 0 = .ok (.getstatic 38, 3) := by decide +kernel
theorem d11_3 : decode jdk_42_method_154_code 3 = .ok (.ifCond .eq 14, 3) := by decide +kernel
theorem d11_6 : decode jdk_42_method_154_code 6 = .ok (.aload_n 0, 1) := by decide +kernel
theorem d11_7 : decode jdk_42_method_154_code 7 = .ok (.getfield 15, 3) := by decide +kernel
theorem d11_10 : decode jdk_42_method_154_code 10 = .ok (.ifCond .ne 7, 3) := by decide +kernel
theorem d11_13 : decode jdk_42_method_154_code 13 = .ok (.iconst 1, 1) := by decide +kernel
theorem d11_14 : decode jdk_42_method_154_code 14 = .ok (.goto 4, 3) := by decide +kernel
theorem d11_17 : decode jdk_42_method_154_code 17 = .ok (.iconst 0, 1) := by decide +kernel
theorem d11_18 : decode jdk_42_method_154_code 18 = .ok (.ireturn, 1) := by decide +kernel
theorem pn_11 : plainName "java/lang/String" = true := by first | (simp [plainName, overriddenIn]; done) | decide +kernel
def R11 : Room := { frames := 0, cells := 0, slots := 0, locals := 0 }
def Q11 (Z : State)  (h0 : Heap) (n0 : Nat) (r : Int32) (v : Option Value) (h : Heap) (L : List Loc) : Prop := v = some (.int r) ∧ Fr n0 L ∧ h = h0
def f11_0 (o0_coder : Int32) (sv_xs : List Int32) : Int32 := (if o0_coder = (0 : Int32) then (1 : Int32) else (0 : Int32))
set_option maxRecDepth 65536 in
set_option maxHeartbeats 40000000 in
theorem b11_0 {p : Program} {l : Launch} {e : Env} {s : State} {m : MethodId} {args : Array Value} {below : List Frame} {meth : Method} {c : Code} {Z : State} {a0 : Array Value} (B : Ctx p Z s a0 m meth c "java/lang/String" "isLatin1" jdk_42_method_154_code 1 (some .boolean)) {T0 : State} {locs : List Loc} {h : Heap} (h0 : Heap) (n0 : Nat) (o0 : Addr) (sv : Addr) (o0_coder : Int32) (sv_k : ClassId) (sv_xs : List Int32) (cs : Int32) (sf : Value) (X0 : Stand p l e R11 s m args below meth c T0 locs 0 0) (e0 : T0.heap = h) (N0 : Fr n0 locs) (Z0 : n0 ≤ h.size) (hh0 : h = h0) (E_o0 : Exa Z h o0 "java/lang/String") (F_o0_value : Fld Z h o0 "java/lang/String" "value" "[B" (.ref sv)) (F_o0_coder : Fld Z h o0 "java/lang/String" "coder" "B" (.int o0_coder)) (V_sv : Arv Z h sv sv_k .byte (1 : Int32) (sv_xs.map Value.int) (.int 0)) (ln_sv : sv_xs.length = (1 : Int32).toNatClampNeg) (O : Old Z n0 h) (S_cs : Sta Z Z.heap "java/lang/String" "COMPACT_STRINGS" "Z" (.int cs)) (P5 : ¬ (cs = (0 : Int32))) (S_f : Sta Z Z.heap "jdk/internal/util/Preconditions" "SIOOBE_FORMATTER" "Ljava/util/function/BiFunction;" sf) (h_sf : sf.isRef = true) (r : Int32) (hr : f11_0 o0_coder sv_xs = r) :
    EndsIn p e below s R11.cells R11.slots (Q11 Z  h0 n0 r) (T0.setTop (mkF m 0 #[.val (.ref o0)] [])) := by
  obtain ⟨hx, hZ, hw, hby, hml, hret, hown, hnm, hlk⟩ := B
  unfold f11_0 at hr
  obtain ⟨T1, X1, e1, st1⟩ := getS2 X0 hx hZ hown (host := "") (Or.inl (hw _ (List.mem_of_getElem? (i := 9) rfl))) Via.refl e0 (S_cs.ext O.2) (g := (mkF m 0 #[.val (.ref o0)] [])) rfl (hb hby d11_0)
  refine EndsIn.by (B := T1.setTop (mkF m 3 #[.val (.ref o0)] [(.int cs)])) (fun t k => st1 t k) ?_
  have hc3 : ¬ (cs = (0 : Int32)) := P5
  refine EndsIn.by (B := T1.setTop (mkF m 6 #[.val (.ref o0)] [])) (fun t k => ?_) ?_
  · show Steps p.tables e below (T1.setTop (mkF m 3 #[.val (.ref o0)] [(.int cs)])) _
    exact XS.ifNo X1.here hx rfl (hb hby d11_3) rfl ((if0 _ _).trans (feq hc3).1) k
  refine EndsIn.by (B := T1.setTop (mkF m 7 #[.val (.ref o0)] [(.ref o0)])) (fun t k => ?_) ?_
  · show Steps p.tables e below (T1.setTop (mkF m 6 #[.val (.ref o0)] [])) _
    refine XS.aloadN X1.here hx rfl (hb hby d11_6) rfl rfl ?_
    exact k
  obtain ⟨T2, X2, e2, st2⟩ := getF X1 hx hZ hown (host := "") (Or.inl (hw _ (List.mem_of_getElem? (i := 29) rfl))) Via.refl e1 F_o0_coder (g := (mkF m 7 #[.val (.ref o0)] [(.ref o0)])) rfl rfl (hb hby d11_7)
  refine EndsIn.by (B := T2.setTop (mkF m 10 #[.val (.ref o0)] [(.int o0_coder)])) (fun t k => st2 t k) ?_
  by_cases hc10 : o0_coder = (0 : Int32)
  · rw [if_pos hc10] at hr
    refine EndsIn.by (B := T2.setTop (mkF m 13 #[.val (.ref o0)] [])) (fun t k => ?_) ?_
    · show Steps p.tables e below (T2.setTop (mkF m 10 #[.val (.ref o0)] [(.int o0_coder)])) _
      exact XS.ifNo X2.here hx rfl (hb hby d11_10) rfl ((if0 _ _).trans (teq hc10).2) k
    refine EndsIn.by (B := T2.setTop (mkF m 18 #[.val (.ref o0)] [(.int (1 : Int32))])) (fun t k => ?_) ?_
    · show Steps p.tables e below (T2.setTop (mkF m 13 #[.val (.ref o0)] [])) _
      refine XS.iconst X2.here hx rfl (hb hby d11_13) ?_
      show Steps p.tables e below (T2.setTop (mkF m 14 #[.val (.ref o0)] [(.int (1 : Int32))])) _
      refine XS.goto X2.here hx rfl (pc0 := 14) (pc' := 18) rfl (hb hby d11_14) (by decide) (by decide) ?_
      exact k
    subst hr
    exact own_retN X2 hx hlk (t := .boolean) hret (by simp) (hb hby d11_18) (by decide) (by decide) ⟨rfl, N0, (e2.trans hh0)⟩
  · rw [if_neg hc10] at hr
    refine EndsIn.by (B := T2.setTop (mkF m 17 #[.val (.ref o0)] [])) (fun t k => ?_) ?_
    · show Steps p.tables e below (T2.setTop (mkF m 10 #[.val (.ref o0)] [(.int o0_coder)])) _
      exact XS.ifYes X2.here hx rfl (pc0 := 10) (pc' := 17) rfl (hb hby d11_10) rfl ((if0 _ _).trans (feq hc10).2) (by decide) (by decide) k
    refine EndsIn.by (B := T2.setTop (mkF m 18 #[.val (.ref o0)] [(.int (0 : Int32))])) (fun t k => ?_) ?_
    · show Steps p.tables e below (T2.setTop (mkF m 17 #[.val (.ref o0)] [])) _
      refine XS.iconst X2.here hx rfl (hb hby d11_17) ?_
      exact k
    subst hr
    exact own_retN X2 hx hlk (t := .boolean) hret (by simp) (hb hby d11_18) (by decide) (by decide) ⟨rfl, N0, (e2.trans hh0)⟩
theorem ef_11 (m : MethodId) (o0 : Addr) : entryFrame m #[(.ref o0)] 1 = (mkF m 0 #[.val (.ref o0)] []) := by first | (simp [entryFrame, mkF, argsToLocals, Value.category]; done) | rfl
set_option maxRecDepth 65536 in
set_option maxHeartbeats 40000000 in
theorem rm11 (l : Launch) (Z : State) (a0 : Array Value) (hw : ∀ d ∈ tables_1, d.before a0 Z = true) (ws : List Jvm.Cond) (o0 : Addr) (sv : Addr) (o0_coder : Int32) (sv_k : ClassId) (sv_xs : List Int32) (cs : Int32) (sf : Value) (h0 : Heap) (n0 : Nat) (Z0 : n0 ≤ h0.size) (E_o0 : Exa Z h0 o0 "java/lang/String") (F_o0_value : Fld Z h0 o0 "java/lang/String" "value" "[B" (.ref sv)) (F_o0_coder : Fld Z h0 o0 "java/lang/String" "coder" "B" (.int o0_coder)) (V_sv : Arv Z h0 sv sv_k .byte (1 : Int32) (sv_xs.map Value.int) (.int 0)) (ln_sv : sv_xs.length = (1 : Int32).toNatClampNeg) (O : Old Z n0 h0) (S_cs : Sta Z Z.heap "java/lang/String" "COMPACT_STRINGS" "Z" (.int cs)) (P5 : ¬ (cs = (0 : Int32))) (S_f : Sta Z Z.heap "jdk/internal/util/Preconditions" "SIOOBE_FORMATTER" "Ljava/util/function/BiFunction;" sf) (h_sf : sf.isRef = true) :
    MetFree l (⟨"java/lang/String", "isLatin1", "()Z"⟩ : MethodName) (head1 (Jvm.Cond.code (⟨"java/lang/String", "isLatin1", "()Z"⟩ : MethodName) jdk_42_method_154_code 1 (some .boolean) :: ws) R11) (fun a U => a = #[(.ref o0)] ∧ Z.Warmed39 U.vm ∧ U.heap = h0) (fun _ _ _ _ _ => True) (fun _ U o U' => ∃ v L, o = .returned v ∧ (Q11 Z  h0 n0 (f11_0 o0_coder sv_xs)) v U'.heap L ∧ FrameEnd U o U' L R11.cells R11.slots) := by
  refine MetFree.of_bodySF (plainFor_of_name pn_11) hisR ?_
  intro p e s m args below meth c s₁ Bd hml0 hP hK
  obtain ⟨rfl, hZ, hh⟩ := hP
  have B : Ctx p Z s a0 m meth c "java/lang/String" "isLatin1" jdk_42_method_154_code 1 (some .boolean) := ⟨Bd.exec, hZ, hw, Bd.bytes, hml0, Bd.returns, findClass_of_methodNamed Bd.named, (name_of_methodNamed Bd.named Bd.method).1, Bd.notSynchronized⟩
  have X0 : Stand p l e R11 s m #[(.ref o0)] below meth c s₁ [] 0 0 := Stand.of_body Bd
  have e0 : s₁.heap = h0 := by rw [← hh, Bd.state]; rfl
  have K := Keep.refl h0 []
  show EndsIn p e below s R11.cells R11.slots (Q11 Z  h0 n0 (f11_0 o0_coder sv_xs)) (s₁.setTop (entryFrame m #[(.ref o0)] 1))
  refine EndsIn.by (fun t k => castTop (ef_11 m o0) k) ?_
  exact b11_0 B h0 n0 o0 sv o0_coder sv_k sv_xs cs sf X0 e0 (Fr.nil n0) Z0 rfl E_o0 F_o0_value F_o0_coder V_sv ln_sv O S_cs P5 S_f h_sf _ rfl
theorem pd_6 : parseMethodDescriptor "()Z" = some ⟨[], some .boolean⟩ := by decide +kernel
theorem d14_0 : decode jdk_41_method_11_code 0 = .ok (.iload_n 0, 1) := by decide +kernel
theorem d14_1 : decode jdk_41_method_11_code 1 = .ok (.ifCond .lt 8, 3) := by decide +kernel
theorem d14_4 : decode jdk_41_method_11_code 4 = .ok (.iload_n 0, 1) := by decide +kernel
theorem d14_5 : decode jdk_41_method_11_code 5 = .ok (.iload_n 1, 1) := by decide +kernel
theorem d14_6 : decode jdk_41_method_11_code 6 = .ok (.if_icmp .lt 10, 3) := by decide +kernel
theorem d14_16 : decode jdk_41_method_11_code 16 = .ok (.iload_n 0, 1) := by decide +kernel
theorem d14_17 : decode jdk_41_method_11_code 17 = .ok (.ireturn, 1) := by decide +kernel
theorem pn_14 : plainName "jdk/internal/util/Preconditions" = true := by first | (simp [plainName, overriddenIn]; done) | decide +kernel
def R14 : Room := { frames := 0, cells := 0, slots := 0, locals := 0 }
def Q14 (Z : State)  (h0 : Heap) (n0 : Nat) (r : Int32) (v : Option Value) (h : Heap) (L : List Loc) : Prop := v = some (.int r) ∧ Fr n0 L ∧ h = h0
def f14_0 (v0 : Int32) (v1 : Int32) : Int32 := v0
set_option maxRecDepth 65536 in
set_option maxHeartbeats 40000000 in
theorem b14_0 {p : Program} {l : Launch} {e : Env} {s : State} {m : MethodId} {args : Array Value} {below : List Frame} {meth : Method} {c : Code} {Z : State} {a0 : Array Value} (B : Ctx p Z s a0 m meth c "jdk/internal/util/Preconditions" "checkIndex" jdk_41_method_11_code 3 (some .int)) {T0 : State} {locs : List Loc} {h : Heap} (h0 : Heap) (n0 : Nat) (v0 : Int32) (v1 : Int32) (o2 : Value) (X0 : Stand p l e R14 s m args below meth c T0 locs 0 0) (e0 : T0.heap = h) (N0 : Fr n0 locs) (Z0 : n0 ≤ h.size) (hh0 : h = h0) (h_o2 : o2.isRef = true) (hi : ¬ (v0 < (0 : Int32)) ∧ v0 < v1) (r : Int32) (hr : f14_0 v0 v1 = r) :
    EndsIn p e below s R14.cells R14.slots (Q14 Z  h0 n0 r) (T0.setTop (mkF m 0 #[.val (.int v0), .val (.int v1), .val o2] [])) := by
  obtain ⟨hx, hZ, hw, hby, hml, hret, hown, hnm, hlk⟩ := B
  unfold f14_0 at hr
  refine EndsIn.by (B := T0.setTop (mkF m 1 #[.val (.int v0), .val (.int v1), .val o2] [(.int v0)])) (fun t k => ?_) ?_
  · show Steps p.tables e below (T0.setTop (mkF m 0 #[.val (.int v0), .val (.int v1), .val o2] [])) _
    refine XS.iloadN X0.here hx rfl (hb hby d14_0) rfl  ?_
    exact k
  have hc1 : ¬ (v0 < (0 : Int32)) := hi.1
  refine EndsIn.by (B := T0.setTop (mkF m 4 #[.val (.int v0), .val (.int v1), .val o2] [])) (fun t k => ?_) ?_
  · show Steps p.tables e below (T0.setTop (mkF m 1 #[.val (.int v0), .val (.int v1), .val o2] [(.int v0)])) _
    exact XS.ifNo X0.here hx rfl (hb hby d14_1) rfl ((if0 _ _).trans (flt hc1).1) k
  refine EndsIn.by (B := T0.setTop (mkF m 6 #[.val (.int v0), .val (.int v1), .val o2] [(.int v1), (.int v0)])) (fun t k => ?_) ?_
  · show Steps p.tables e below (T0.setTop (mkF m 4 #[.val (.int v0), .val (.int v1), .val o2] [])) _
    refine XS.iloadN X0.here hx rfl (hb hby d14_4) rfl  ?_
    show Steps p.tables e below (T0.setTop (mkF m 5 #[.val (.int v0), .val (.int v1), .val o2] [(.int v0)])) _
    refine XS.iloadN X0.here hx rfl (hb hby d14_5) rfl  ?_
    exact k
  have hc6 : v0 < v1 := hi.2
  refine EndsIn.by (B := T0.setTop (mkF m 16 #[.val (.int v0), .val (.int v1), .val o2] [])) (fun t k => ?_) ?_
  · show Steps p.tables e below (T0.setTop (mkF m 6 #[.val (.int v0), .val (.int v1), .val o2] [(.int v1), (.int v0)])) _
    exact XS.icmpYes X0.here hx rfl (pc0 := 6) (pc' := 16) rfl (hb hby d14_6) rfl (tlt hc6).1 (by decide) (by decide) k
  refine EndsIn.by (B := T0.setTop (mkF m 17 #[.val (.int v0), .val (.int v1), .val o2] [(.int v0)])) (fun t k => ?_) ?_
  · show Steps p.tables e below (T0.setTop (mkF m 16 #[.val (.int v0), .val (.int v1), .val o2] [])) _
    refine XS.iloadN X0.here hx rfl (hb hby d14_16) rfl  ?_
    exact k
  subst hr
  exact own_retI X0 hx hlk hret (hb hby d14_17) (by decide) (by decide) ⟨rfl, N0, (e0.trans hh0)⟩
theorem ef_14 (m : MethodId) (v0 : Int32) (v1 : Int32) (o2 : Value) (h_o2 : o2.isRef = true) : entryFrame m #[(.int v0), (.int v1), o2] 3 = (mkF m 0 #[.val (.int v0), .val (.int v1), .val o2] []) := by rcases ref_cases h_o2 with rfl | ⟨_, rfl⟩ <;> first | (simp [entryFrame, mkF, argsToLocals, Value.category]; done) | rfl
set_option maxRecDepth 65536 in
set_option maxHeartbeats 40000000 in
theorem rm14 (l : Launch) (Z : State) (a0 : Array Value) (hw : ∀ d ∈ tables_1, d.before a0 Z = true) (ws : List Jvm.Cond) (v0 : Int32) (v1 : Int32) (o2 : Value) (h0 : Heap) (n0 : Nat) (Z0 : n0 ≤ h0.size) (h_o2 : o2.isRef = true) (hi : ¬ (v0 < (0 : Int32)) ∧ v0 < v1) :
    MetFree l (⟨"jdk/internal/util/Preconditions", "checkIndex", "(IILjava/util/function/BiFunction;)I"⟩ : MethodName) (head1 (Jvm.Cond.code (⟨"jdk/internal/util/Preconditions", "checkIndex", "(IILjava/util/function/BiFunction;)I"⟩ : MethodName) jdk_41_method_11_code 3 (some .int) :: ws) R14) (fun a U => a = #[(.int v0), (.int v1), o2] ∧ Z.Warmed39 U.vm ∧ U.heap = h0) (fun _ _ _ _ _ => True) (fun _ U o U' => ∃ v L, o = .returned v ∧ (Q14 Z  h0 n0 (f14_0 v0 v1)) v U'.heap L ∧ FrameEnd U o U' L R14.cells R14.slots) := by
  refine MetFree.of_bodySF (plainFor_of_name pn_14) hisR ?_
  intro p e s m args below meth c s₁ Bd hml0 hP hK
  obtain ⟨rfl, hZ, hh⟩ := hP
  have B : Ctx p Z s a0 m meth c "jdk/internal/util/Preconditions" "checkIndex" jdk_41_method_11_code 3 (some .int) := ⟨Bd.exec, hZ, hw, Bd.bytes, hml0, Bd.returns, findClass_of_methodNamed Bd.named, (name_of_methodNamed Bd.named Bd.method).1, Bd.notSynchronized⟩
  have X0 : Stand p l e R14 s m #[(.int v0), (.int v1), o2] below meth c s₁ [] 0 0 := Stand.of_body Bd
  have e0 : s₁.heap = h0 := by rw [← hh, Bd.state]; rfl
  have K := Keep.refl h0 []
  show EndsIn p e below s R14.cells R14.slots (Q14 Z  h0 n0 (f14_0 v0 v1)) (s₁.setTop (entryFrame m #[(.int v0), (.int v1), o2] 3))
  refine EndsIn.by (fun t k => castTop (ef_14 m v0 v1 o2 h_o2) k) ?_
  exact b14_0 B h0 n0 v0 v1 o2 X0 e0 (Fr.nil n0) Z0 rfl h_o2 hi _ rfl
theorem pd_7 : parseMethodDescriptor "(IILjava/util/function/BiFunction;)I" = some ⟨[.int, .int, (.object "java/util/function/BiFunction")], some .int⟩ := by decide +kernel
theorem d13_0 : decode jdk_42_method_155_code 0 = .ok (.iload_n 0, 1) := by decide +kernel
theorem d13_1 : decode jdk_42_method_155_code 1 = .ok (.iload_n 1, 1) := by decide +kernel
theorem d13_2 : decode jdk_42_method_155_code 2 = .ok (.getstatic 1053, 3) := by decide +kernel
theorem d13_5 : decode jdk_42_method_155_code 5 = .ok (.invokestatic 1059, 3) := by decide +kernel
theorem d13_8 : decode jdk_42_method_155_code 8 = .ok (.pop, 1) := by decide +kernel
theorem d13_9 : decode jdk_42_method_155_code 9 = .ok (.return_, 1) := by decide +kernel
theorem pn_13 : plainName "java/lang/String" = true := by first | (simp [plainName, overriddenIn]; done) | decide +kernel
def R13 : Room := { frames := 1, cells := 0, slots := 0, locals := 14 }
def Q13 (Z : State)  (h0 : Heap) (n0 : Nat) (r : Unit) (v : Option Value) (h : Heap) (L : List Loc) : Prop := v = none ∧ Fr n0 L ∧ h = h0
def f13_0 (v0 : Int32) (v1 : Int32) : Unit := ()
set_option maxRecDepth 65536 in
set_option maxHeartbeats 40000000 in
theorem b13_0 {p : Program} {l : Launch} {e : Env} {s : State} {m : MethodId} {args : Array Value} {below : List Frame} {meth : Method} {c : Code} {Z : State} {a0 : Array Value} (B : Ctx p Z s a0 m meth c "java/lang/String" "checkIndex" jdk_42_method_155_code 2 none) {T0 : State} {locs : List Loc} {h : Heap} (h0 : Heap) (n0 : Nat) (v0 : Int32) (v1 : Int32) (cs : Int32) (sf : Value) (X0 : Stand p l e R13 s m args below meth c T0 locs 0 0) (e0 : T0.heap = h) (N0 : Fr n0 locs) (Z0 : n0 ≤ h.size) (hh0 : h = h0) (O : Old Z n0 h) (S_cs : Sta Z Z.heap "java/lang/String" "COMPACT_STRINGS" "Z" (.int cs)) (P5 : ¬ (cs = (0 : Int32))) (S_f : Sta Z Z.heap "jdk/internal/util/Preconditions" "SIOOBE_FORMATTER" "Ljava/util/function/BiFunction;" sf) (h_sf : sf.isRef = true) (hi : ¬ (v0 < (0 : Int32)) ∧ v0 < v1) (r : Unit) (hr : f13_0 v0 v1 = r) :
    EndsIn p e below s R13.cells R13.slots (Q13 Z  h0 n0 r) (T0.setTop (mkF m 0 #[.val (.int v0), .val (.int v1)] [])) := by
  obtain ⟨hx, hZ, hw, hby, hml, hret, hown, hnm, hlk⟩ := B
  unfold f13_0 at hr
  refine EndsIn.by (B := T0.setTop (mkF m 2 #[.val (.int v0), .val (.int v1)] [(.int v1), (.int v0)])) (fun t k => ?_) ?_
  · show Steps p.tables e below (T0.setTop (mkF m 0 #[.val (.int v0), .val (.int v1)] [])) _
    refine XS.iloadN X0.here hx rfl (hb hby d13_0) rfl  ?_
    show Steps p.tables e below (T0.setTop (mkF m 1 #[.val (.int v0), .val (.int v1)] [(.int v0)])) _
    refine XS.iloadN X0.here hx rfl (hb hby d13_1) rfl  ?_
    exact k
  obtain ⟨T1, X1, e1, st1⟩ := getS2 X0 hx hZ hown (host := "") (Or.inl (hw _ (List.mem_of_getElem? (i := 67) rfl))) Via.refl e0 (S_f.ext O.2) (g := (mkF m 2 #[.val (.int v0), .val (.int v1)] [(.int v1), (.int v0)])) rfl (hb hby d13_2)
  refine EndsIn.by (B := T1.setTop (mkF m 5 #[.val (.int v0), .val (.int v1)] [sf, (.int v1), (.int v0)])) (fun t k => st1 t k) ?_
  have hp2_h_o2 : sf.isRef = true := h_sf
  have hp2_hi : ¬ (v0 < (0 : Int32)) ∧ v0 < v1 := hi
  -- pc 5: jdk/internal/util/Preconditions.checkIndex
  obtain ⟨_, _, ⟨T2, L2, k2, n2⟩, -, X2, ⟨Lc2, hQ2, l2, y2, z2⟩, st2⟩ := Jvm.LawKit.callS X1 hx (y := (⟨"jdk/internal/util/Preconditions", "checkIndex", "(IILjava/util/function/BiFunction;)I"⟩ : MethodName)) hown (mvT hZ (hw _ (List.mem_of_getElem? (i := 69) rfl))) (mvT hZ (hw _ (List.mem_of_getElem? (i := 70) rfl))) (mvT hZ (hw _ (List.mem_of_getElem? (i := 68) rfl))) (mvT hZ (hw _ (List.mem_of_getElem? (i := 71) rfl))) (by decide) (backOf (W := 0) (rm14 l Z a0 hw [] v0 v1 sf h n0 Z0 hp2_h_o2 hp2_hi) hZ (hw _ (List.mem_of_getElem? (i := 71) rfl)) (hw _ (List.mem_of_getElem? (i := 68) rfl)) (by decide) (by decide)) (g := (mkF m 5 #[.val (.int v0), .val (.int v1)] [sf, (.int v1), (.int v0)])) rfl (by rw [hml]; rfl) (argsL := [(.int v0), (.int v1), sf]) (rest := []) (lenOf pd_7 rfl) rfl (by show 2 * 0 + _ ≤ _; exact Nat.le_of_eq rfl) (hb hby d13_5) (fun _ _ => ⟨rfl, e1, (by decide : 0 + R14.cells ≤ _), (by decide : 0 + R14.slots ≤ _)⟩)
  dsimp only [Pt.U, Pt.locs, Pt.cells, Pt.slots] at X2 l2 y2 z2 st2 hQ2
  subst l2 y2 z2
  obtain ⟨rfl, Nq2, e2⟩ := hQ2
  have N2 := Fr.app N0 Nq2
  refine EndsIn.by (B := T2.setTop (mkF m 8 #[.val (.int v0), .val (.int v1)] [(.int (f14_0 v0 v1))])) (fun t k => st2 t k) ?_
  refine EndsIn.by (B := T2.setTop (mkF m 9 #[.val (.int v0), .val (.int v1)] [])) (fun t k => ?_) ?_
  · show Steps p.tables e below (T2.setTop (mkF m 8 #[.val (.int v0), .val (.int v1)] [(.int (f14_0 v0 v1))])) _
    refine XS.pop X2.here hx rfl (hb hby d13_8) rfl rfl ?_
    exact k
  subst hr
  exact own_ret0 X2 hx hlk hret (hb hby d13_9) (by decide) (by decide) ⟨rfl, N2, (e2.trans hh0)⟩
theorem ef_13 (m : MethodId) (v0 : Int32) (v1 : Int32) : entryFrame m #[(.int v0), (.int v1)] 2 = (mkF m 0 #[.val (.int v0), .val (.int v1)] []) := by first | (simp [entryFrame, mkF, argsToLocals, Value.category]; done) | rfl
set_option maxRecDepth 65536 in
set_option maxHeartbeats 40000000 in
theorem rm13 (l : Launch) (Z : State) (a0 : Array Value) (hw : ∀ d ∈ tables_1, d.before a0 Z = true) (ws : List Jvm.Cond) (v0 : Int32) (v1 : Int32) (cs : Int32) (sf : Value) (h0 : Heap) (n0 : Nat) (Z0 : n0 ≤ h0.size) (O : Old Z n0 h0) (S_cs : Sta Z Z.heap "java/lang/String" "COMPACT_STRINGS" "Z" (.int cs)) (P5 : ¬ (cs = (0 : Int32))) (S_f : Sta Z Z.heap "jdk/internal/util/Preconditions" "SIOOBE_FORMATTER" "Ljava/util/function/BiFunction;" sf) (h_sf : sf.isRef = true) (hi : ¬ (v0 < (0 : Int32)) ∧ v0 < v1) :
    MetFree l (⟨"java/lang/String", "checkIndex", "(II)V"⟩ : MethodName) (head1 (Jvm.Cond.code (⟨"java/lang/String", "checkIndex", "(II)V"⟩ : MethodName) jdk_42_method_155_code 2 none :: ws) R13) (fun a U => a = #[(.int v0), (.int v1)] ∧ Z.Warmed39 U.vm ∧ U.heap = h0) (fun _ _ _ _ _ => True) (fun _ U o U' => ∃ v L, o = .returned v ∧ (Q13 Z  h0 n0 (f13_0 v0 v1)) v U'.heap L ∧ FrameEnd U o U' L R13.cells R13.slots) := by
  refine MetFree.of_bodySF (plainFor_of_name pn_13) hisR ?_
  intro p e s m args below meth c s₁ Bd hml0 hP hK
  obtain ⟨rfl, hZ, hh⟩ := hP
  have B : Ctx p Z s a0 m meth c "java/lang/String" "checkIndex" jdk_42_method_155_code 2 none := ⟨Bd.exec, hZ, hw, Bd.bytes, hml0, Bd.returns, findClass_of_methodNamed Bd.named, (name_of_methodNamed Bd.named Bd.method).1, Bd.notSynchronized⟩
  have X0 : Stand p l e R13 s m #[(.int v0), (.int v1)] below meth c s₁ [] 0 0 := Stand.of_body Bd
  have e0 : s₁.heap = h0 := by rw [← hh, Bd.state]; rfl
  have K := Keep.refl h0 []
  show EndsIn p e below s R13.cells R13.slots (Q13 Z  h0 n0 (f13_0 v0 v1)) (s₁.setTop (entryFrame m #[(.int v0), (.int v1)] 2))
  refine EndsIn.by (fun t k => castTop (ef_13 m v0 v1) k) ?_
  exact b13_0 B h0 n0 v0 v1 cs sf X0 e0 (Fr.nil n0) Z0 rfl O S_cs P5 S_f h_sf hi _ rfl
theorem pd_8 : parseMethodDescriptor "(II)V" = some ⟨[.int, .int], none⟩ := by decide +kernel
theorem d12_0 : decode jdk_43_method_2_code 0 = .ok (.iload_n 1, 1) := by decide +kernel
theorem d12_1 : decode jdk_43_method_2_code 1 = .ok (.aload_n 0, 1) := by decide +kernel
theorem d12_2 : decode jdk_43_method_2_code 2 = .ok (.arraylength, 1) := by decide +kernel
theorem d12_3 : decode jdk_43_method_2_code 3 = .ok (.invokestatic 9, 3) := by decide +kernel
theorem d12_6 : decode jdk_43_method_2_code 6 = .ok (.aload_n 0, 1) := by decide +kernel
theorem d12_7 : decode jdk_43_method_2_code 7 = .ok (.iload_n 1, 1) := by decide +kernel
theorem d12_8 : decode jdk_43_method_2_code 8 = .ok (.baload, 1) := by decide +kernel
theorem d12_9 : decode jdk_43_method_2_code 9 = .ok (.sipush 255, 3) := by decide +kernel
theorem d12_12 : decode jdk_43_method_2_code 12 = .ok (.iand, 1) := by decide +kernel
theorem d12_13 : decode jdk_43_method_2_code 13 = .ok (.i2c, 1) := by decide +kernel
theorem d12_14 : decode jdk_43_method_2_code 14 = .ok (.ireturn, 1) := by decide +kernel
theorem pn_12 : plainName "java/lang/StringLatin1" = true := by first | (simp [plainName, overriddenIn]; done) | decide +kernel
def R12 : Room := { frames := 2, cells := 0, slots := 0, locals := 27 }
def Q12 (Z : State)  (h0 : Heap) (n0 : Nat) (r : Int32) (v : Option Value) (h : Heap) (L : List Loc) : Prop := v = some (.int r) ∧ Fr n0 L ∧ h = h0
def f12_0 (v1 : Int32) (o0_xs : List Int32) : Int32 := (nar .char (((own_at o0_xs v1) &&& (255 : Int32)).toUInt32.toUInt16.toUInt32.toInt32))
set_option maxRecDepth 65536 in
set_option maxHeartbeats 40000000 in
theorem b12_0 {p : Program} {l : Launch} {e : Env} {s : State} {m : MethodId} {args : Array Value} {below : List Frame} {meth : Method} {c : Code} {Z : State} {a0 : Array Value} (B : Ctx p Z s a0 m meth c "java/lang/StringLatin1" "charAt" jdk_43_method_2_code 2 (some .char)) {T0 : State} {locs : List Loc} {h : Heap} (h0 : Heap) (n0 : Nat) (o0 : Addr) (v1 : Int32) (o0_k : ClassId) (o0_xs : List Int32) (cs : Int32) (sf : Value) (X0 : Stand p l e R12 s m args below meth c T0 locs 0 0) (e0 : T0.heap = h) (N0 : Fr n0 locs) (Z0 : n0 ≤ h.size) (hh0 : h = h0) (V_o0 : Arv Z h o0 o0_k .byte (1 : Int32) (o0_xs.map Value.int) (.int 0)) (ln_o0 : o0_xs.length = (1 : Int32).toNatClampNeg) (O : Old Z n0 h) (S_cs : Sta Z Z.heap "java/lang/String" "COMPACT_STRINGS" "Z" (.int cs)) (P5 : ¬ (cs = (0 : Int32))) (S_f : Sta Z Z.heap "jdk/internal/util/Preconditions" "SIOOBE_FORMATTER" "Ljava/util/function/BiFunction;" sf) (h_sf : sf.isRef = true) (hi : ¬ (v1 < (0 : Int32)) ∧ v1 < (1 : Int32)) (r : Int32) (hr : f12_0 v1 o0_xs = r) :
    EndsIn p e below s R12.cells R12.slots (Q12 Z  h0 n0 r) (T0.setTop (mkF m 0 #[.val (.ref o0), .val (.int v1)] [])) := by
  obtain ⟨hx, hZ, hw, hby, hml, hret, hown, hnm, hlk⟩ := B
  unfold f12_0 at hr
  refine EndsIn.by (B := T0.setTop (mkF m 2 #[.val (.ref o0), .val (.int v1)] [(.ref o0), (.int v1)])) (fun t k => ?_) ?_
  · show Steps p.tables e below (T0.setTop (mkF m 0 #[.val (.ref o0), .val (.int v1)] [])) _
    refine XS.iloadN X0.here hx rfl (hb hby d12_0) rfl  ?_
    show Steps p.tables e below (T0.setTop (mkF m 1 #[.val (.ref o0), .val (.int v1)] [(.int v1)])) _
    refine XS.aloadN X0.here hx rfl (hb hby d12_1) rfl rfl ?_
    exact k
  have V1 := V_o0
  obtain ⟨cl1, Ar1, -, S1, M1, -, -⟩ := V1
  refine EndsIn.by (B := T0.setTop (mkF m 3 #[.val (.ref o0), .val (.int v1)] [(.int (1 : Int32)), (.int v1)])) (fun t k => ?_) ?_
  · show Steps p.tables e below (T0.setTop (mkF m 2 #[.val (.ref o0), .val (.int v1)] [(.ref o0), (.int v1)])) _
    refine X0.arraylength hx (by rw [e0]; exact Ar1.1) (State.isArrayOf_alike hZ.alike Ar1.2.1) (g := (mkF m 2 #[.val (.ref o0), .val (.int v1)] [(.ref o0), (.int v1)])) rfl rfl (hb hby d12_2) _ ?_
    rw [len_of S1 M1]
    exact k
  have hp2_hi : ¬ (v1 < (0 : Int32)) ∧ v1 < (1 : Int32) := hi
  -- pc 3: java/lang/String.checkIndex
  obtain ⟨_, _, ⟨T2, L2, k2, n2⟩, -, X2, ⟨Lc2, hQ2, l2, y2, z2⟩, st2⟩ := Jvm.LawKit.callS X0 hx (y := (⟨"java/lang/String", "checkIndex", "(II)V"⟩ : MethodName)) hown (mvT hZ (hw _ (List.mem_of_getElem? (i := 64) rfl))) (mvT hZ (hw _ (List.mem_of_getElem? (i := 65) rfl))) (mvT hZ (hw _ (List.mem_of_getElem? (i := 7) rfl))) (mvT hZ (hw _ (List.mem_of_getElem? (i := 66) rfl))) (by decide) (backOf (W := 0) (rm13 l Z a0 hw [] v1 (1 : Int32) cs sf h n0 Z0 O S_cs P5 S_f h_sf hp2_hi) hZ (hw _ (List.mem_of_getElem? (i := 66) rfl)) (hw _ (List.mem_of_getElem? (i := 7) rfl)) (by decide) (by decide)) (g := (mkF m 3 #[.val (.ref o0), .val (.int v1)] [(.int (1 : Int32)), (.int v1)])) rfl (by rw [hml]; rfl) (argsL := [(.int v1), (.int (1 : Int32))]) (rest := []) (lenOf pd_8 rfl) rfl (by show 2 * 0 + _ ≤ _; exact Nat.le_of_eq rfl) (hb hby d12_3) (fun _ _ => ⟨rfl, e0, (by decide : 0 + R13.cells ≤ _), (by decide : 0 + R13.slots ≤ _)⟩)
  dsimp only [Pt.U, Pt.locs, Pt.cells, Pt.slots] at X2 l2 y2 z2 st2 hQ2
  subst l2 y2 z2
  obtain ⟨rfl, Nq2, e2⟩ := hQ2
  have N2 := Fr.app N0 Nq2
  refine EndsIn.by (B := T2.setTop (mkF m 6 #[.val (.ref o0), .val (.int v1)] [])) (fun t k => st2 t k) ?_
  refine EndsIn.by (B := T2.setTop (mkF m 8 #[.val (.ref o0), .val (.int v1)] [(.int v1), (.ref o0)])) (fun t k => ?_) ?_
  · show Steps p.tables e below (T2.setTop (mkF m 6 #[.val (.ref o0), .val (.int v1)] [])) _
    refine XS.aloadN X2.here hx rfl (hb hby d12_6) rfl rfl ?_
    show Steps p.tables e below (T2.setTop (mkF m 7 #[.val (.ref o0), .val (.int v1)] [(.ref o0)])) _
    refine XS.iloadN X2.here hx rfl (hb hby d12_7) rfl  ?_
    exact k
  have hin3 : ¬ (v1 < 0) ∧ v1 < (1 : Int32) := hi
  obtain ⟨cl3, Ar3, hi3, q3⟩ := own_readI V_o0 hin3 _ rfl
  refine EndsIn.by (B := T2.setTop (mkF m 9 #[.val (.ref o0), .val (.int v1)] [(.int (own_at o0_xs v1))])) (fun t k => ?_) ?_
  · show Steps p.tables e below (T2.setTop (mkF m 8 #[.val (.ref o0), .val (.int v1)] [(.int v1), (.ref o0)])) _
    exact X2.baloadBytes hx (j := v1) (v := (.int (own_at o0_xs v1))) (by rw [e2]; exact Ar3.1) (State.isArrayOf_alike hZ.alike Ar3.2.1) Ar3.2.2 hi3 q3 (g := (mkF m 8 #[.val (.ref o0), .val (.int v1)] [(.int v1), (.ref o0)])) rfl rfl (hb hby d12_8) _ k
  refine EndsIn.by (B := T2.setTop (mkF m 14 #[.val (.ref o0), .val (.int v1)] [(.int (((own_at o0_xs v1) &&& (255 : Int32)).toUInt32.toUInt16.toUInt32.toInt32))])) (fun t k => ?_) ?_
  · show Steps p.tables e below (T2.setTop (mkF m 9 #[.val (.ref o0), .val (.int v1)] [(.int (own_at o0_xs v1))])) _
    refine XS.sipush X2.here hx rfl (hb hby d12_9) ?_
    show Steps p.tables e below (T2.setTop (mkF m 12 #[.val (.ref o0), .val (.int v1)] [(.int (255 : Int32)), (.int (own_at o0_xs v1))])) _
    refine XS.iand X2.here hx rfl (hb hby d12_12) rfl ?_
    show Steps p.tables e below (T2.setTop (mkF m 13 #[.val (.ref o0), .val (.int v1)] [(.int ((own_at o0_xs v1) &&& (255 : Int32)))])) _
    refine XS.i2c X2.here hx rfl (hb hby d12_13) rfl ?_
    exact k
  subst hr
  exact own_retN X2 hx hlk (t := .char) hret (by simp) (hb hby d12_14) (by decide) (by decide) ⟨rfl, N2, (e2.trans hh0)⟩
theorem ef_12 (m : MethodId) (o0 : Addr) (v1 : Int32) : entryFrame m #[(.ref o0), (.int v1)] 2 = (mkF m 0 #[.val (.ref o0), .val (.int v1)] []) := by first | (simp [entryFrame, mkF, argsToLocals, Value.category]; done) | rfl
set_option maxRecDepth 65536 in
set_option maxHeartbeats 40000000 in
theorem rm12 (l : Launch) (Z : State) (a0 : Array Value) (hw : ∀ d ∈ tables_1, d.before a0 Z = true) (ws : List Jvm.Cond) (o0 : Addr) (v1 : Int32) (o0_k : ClassId) (o0_xs : List Int32) (cs : Int32) (sf : Value) (h0 : Heap) (n0 : Nat) (Z0 : n0 ≤ h0.size) (V_o0 : Arv Z h0 o0 o0_k .byte (1 : Int32) (o0_xs.map Value.int) (.int 0)) (ln_o0 : o0_xs.length = (1 : Int32).toNatClampNeg) (O : Old Z n0 h0) (S_cs : Sta Z Z.heap "java/lang/String" "COMPACT_STRINGS" "Z" (.int cs)) (P5 : ¬ (cs = (0 : Int32))) (S_f : Sta Z Z.heap "jdk/internal/util/Preconditions" "SIOOBE_FORMATTER" "Ljava/util/function/BiFunction;" sf) (h_sf : sf.isRef = true) (hi : ¬ (v1 < (0 : Int32)) ∧ v1 < (1 : Int32)) :
    MetFree l (⟨"java/lang/StringLatin1", "charAt", "([BI)C"⟩ : MethodName) (head1 (Jvm.Cond.code (⟨"java/lang/StringLatin1", "charAt", "([BI)C"⟩ : MethodName) jdk_43_method_2_code 2 (some .char) :: ws) R12) (fun a U => a = #[(.ref o0), (.int v1)] ∧ Z.Warmed39 U.vm ∧ U.heap = h0) (fun _ _ _ _ _ => True) (fun _ U o U' => ∃ v L, o = .returned v ∧ (Q12 Z  h0 n0 (f12_0 v1 o0_xs)) v U'.heap L ∧ FrameEnd U o U' L R12.cells R12.slots) := by
  refine MetFree.of_bodySF (plainFor_of_name pn_12) hisR ?_
  intro p e s m args below meth c s₁ Bd hml0 hP hK
  obtain ⟨rfl, hZ, hh⟩ := hP
  have B : Ctx p Z s a0 m meth c "java/lang/StringLatin1" "charAt" jdk_43_method_2_code 2 (some .char) := ⟨Bd.exec, hZ, hw, Bd.bytes, hml0, Bd.returns, findClass_of_methodNamed Bd.named, (name_of_methodNamed Bd.named Bd.method).1, Bd.notSynchronized⟩
  have X0 : Stand p l e R12 s m #[(.ref o0), (.int v1)] below meth c s₁ [] 0 0 := Stand.of_body Bd
  have e0 : s₁.heap = h0 := by rw [← hh, Bd.state]; rfl
  have K := Keep.refl h0 []
  show EndsIn p e below s R12.cells R12.slots (Q12 Z  h0 n0 (f12_0 v1 o0_xs)) (s₁.setTop (entryFrame m #[(.ref o0), (.int v1)] 2))
  refine EndsIn.by (fun t k => castTop (ef_12 m o0 v1) k) ?_
  exact b12_0 B h0 n0 o0 v1 o0_k o0_xs cs sf X0 e0 (Fr.nil n0) Z0 rfl V_o0 ln_o0 O S_cs P5 S_f h_sf hi _ rfl
theorem pd_9 : parseMethodDescriptor "([BI)C" = some ⟨[(.array .byte), .int], some .char⟩ := by decide +kernel
theorem d10_0 : decode jdk_42_method_56_code 0 = .ok (.aload_n 0, 1) := by decide +kernel
theorem d10_1 : decode jdk_42_method_56_code 1 = .ok (.invokevirtual 492, 3) := by decide +kernel
theorem d10_4 : decode jdk_42_method_56_code 4 = .ok (.ifCond .eq 12, 3) := by decide +kernel
theorem d10_7 : decode jdk_42_method_56_code 7 = .ok (.aload_n 0, 1) := by decide +kernel
theorem d10_8 : decode jdk_42_method_56_code 8 = .ok (.getfield 9, 3) := by decide +kernel
theorem d10_11 : decode jdk_42_method_56_code 11 = .ok (.iload_n 1, 1) := by decide +kernel
theorem d10_12 : decode jdk_42_method_56_code 12 = .ok (.invokestatic 495, 3) := by decide +kernel
theorem d10_15 : decode jdk_42_method_56_code 15 = .ok (.ireturn, 1) := by decide +kernel
theorem pn_10 : plainName "java/lang/String" = true := by first | (simp [plainName, overriddenIn]; done) | decide +kernel
def R10 : Room := { frames := 3, cells := 0, slots := 0, locals := 40 }
def Q10 (Z : State)  (h0 : Heap) (n0 : Nat) (r : Int32) (v : Option Value) (h : Heap) (L : List Loc) : Prop := v = some (.int r) ∧ Fr n0 L ∧ h = h0
def f10_0 (v1 : Int32) (o0_coder : Int32) (sv_xs : List Int32) : Int32 := (nar .char (f12_0 v1 sv_xs))
set_option maxRecDepth 65536 in
set_option maxHeartbeats 40000000 in
theorem b10_0 {p : Program} {l : Launch} {e : Env} {s : State} {m : MethodId} {args : Array Value} {below : List Frame} {meth : Method} {c : Code} {Z : State} {a0 : Array Value} (B : Ctx p Z s a0 m meth c "java/lang/String" "charAt" jdk_42_method_56_code 2 (some .char)) {T0 : State} {locs : List Loc} {h : Heap} (h0 : Heap) (n0 : Nat) (o0 : Addr) (v1 : Int32) (sv : Addr) (o0_coder : Int32) (sv_k : ClassId) (sv_xs : List Int32) (cs : Int32) (sf : Value) (X0 : Stand p l e R10 s m args below meth c T0 locs 0 0) (e0 : T0.heap = h) (N0 : Fr n0 locs) (Z0 : n0 ≤ h.size) (hh0 : h = h0) (E_o0 : Exa Z h o0 "java/lang/String") (F_o0_value : Fld Z h o0 "java/lang/String" "value" "[B" (.ref sv)) (F_o0_coder : Fld Z h o0 "java/lang/String" "coder" "B" (.int o0_coder)) (V_sv : Arv Z h sv sv_k .byte (1 : Int32) (sv_xs.map Value.int) (.int 0)) (ln_sv : sv_xs.length = (1 : Int32).toNatClampNeg) (O : Old Z n0 h) (S_cs : Sta Z Z.heap "java/lang/String" "COMPACT_STRINGS" "Z" (.int cs)) (P5 : ¬ (cs = (0 : Int32))) (S_f : Sta Z Z.heap "jdk/internal/util/Preconditions" "SIOOBE_FORMATTER" "Ljava/util/function/BiFunction;" sf) (h_sf : sf.isRef = true) (hc0 : o0_coder = (0 : Int32)) (hi : ¬ (v1 < (0 : Int32)) ∧ v1 < (1 : Int32)) (r : Int32) (hr : f10_0 v1 o0_coder sv_xs = r) :
    EndsIn p e below s R10.cells R10.slots (Q10 Z  h0 n0 r) (T0.setTop (mkF m 0 #[.val (.ref o0), .val (.int v1)] [])) := by
  obtain ⟨hx, hZ, hw, hby, hml, hret, hown, hnm, hlk⟩ := B
  unfold f10_0 at hr
  refine EndsIn.by (B := T0.setTop (mkF m 1 #[.val (.ref o0), .val (.int v1)] [(.ref o0)])) (fun t k => ?_) ?_
  · show Steps p.tables e below (T0.setTop (mkF m 0 #[.val (.ref o0), .val (.int v1)] [])) _
    refine XS.aloadN X0.here hx rfl (hb hby d10_0) rfl rfl ?_
    exact k
  -- pc 1: java/lang/String.isLatin1
  obtain ⟨cq1, kq1, q1a, q1b, q1c⟩ := isOf hZ e0 E_o0
  obtain ⟨_, _, ⟨T1, L1, k1, n1⟩, -, X1, ⟨Lc1, hQ1, l1, y1, z1⟩, st1⟩ := X0.virtualBack hx (y := (⟨"java/lang/String", "isLatin1", "()Z"⟩ : MethodName)) (z := (⟨"java/lang/String", "isLatin1", "()Z"⟩ : MethodName)) hown (mvT hZ (hw _ (List.mem_of_getElem? (i := 56) rfl))) (mvT hZ (hw _ (List.mem_of_getElem? (i := 57) rfl))) (notFace_of_selects (args := #[]) (mvT hZ (hw _ (List.mem_of_getElem? (i := 59) rfl)))) (mvT hZ (hw _ (List.mem_of_getElem? (i := 59) rfl))) (mvT hZ (hw _ (List.mem_of_getElem? (i := 58) rfl))) (by decide) (backOf (W := 0) (rm11 l Z a0 hw [] o0 sv o0_coder sv_k sv_xs cs sf h n0 Z0 E_o0 F_o0_value F_o0_coder V_sv ln_sv O S_cs P5 S_f h_sf) hZ (hw _ (List.mem_of_getElem? (i := 60) rfl)) (hw _ (List.mem_of_getElem? (i := 7) rfl)) (by decide) (by decide)) q1a q1c (g := (mkF m 1 #[.val (.ref o0), .val (.int v1)] [(.ref o0)])) rfl (by rw [hml]; rfl) (Steps.refl _) (argsL := []) (rest := []) (lenOf pd_6 rfl) rfl (by show 2 * 0 + _ ≤ _; exact Nat.le_of_eq rfl) (hb hby d10_1) (fun _ _ => ⟨rfl, e0, (by decide : 0 + R11.cells ≤ _), (by decide : 0 + R11.slots ≤ _)⟩)
  dsimp only [Pt.U, Pt.locs, Pt.cells, Pt.slots] at X1 l1 y1 z1 st1 hQ1
  subst l1 y1 z1
  obtain ⟨rfl, Nq1, e1⟩ := hQ1
  have N1 := Fr.app N0 Nq1
  refine EndsIn.by (B := T1.setTop (mkF m 4 #[.val (.ref o0), .val (.int v1)] [(.int (f11_0 o0_coder sv_xs))])) (fun t k => st1.trans k) ?_
  have hc4 : ¬ ((f11_0 o0_coder sv_xs) = (0 : Int32)) := by unfold f11_0; rw [if_pos hc0]; decide
  refine EndsIn.by (B := T1.setTop (mkF m 7 #[.val (.ref o0), .val (.int v1)] [])) (fun t k => ?_) ?_
  · show Steps p.tables e below (T1.setTop (mkF m 4 #[.val (.ref o0), .val (.int v1)] [(.int (f11_0 o0_coder sv_xs))])) _
    exact XS.ifNo X1.here hx rfl (hb hby d10_4) rfl ((if0 _ _).trans (feq hc4).1) k
  refine EndsIn.by (B := T1.setTop (mkF m 8 #[.val (.ref o0), .val (.int v1)] [(.ref o0)])) (fun t k => ?_) ?_
  · show Steps p.tables e below (T1.setTop (mkF m 7 #[.val (.ref o0), .val (.int v1)] [])) _
    refine XS.aloadN X1.here hx rfl (hb hby d10_7) rfl rfl ?_
    exact k
  obtain ⟨T2, X2, e2, st2⟩ := getF X1 hx hZ hown (host := "") (Or.inl (hw _ (List.mem_of_getElem? (i := 27) rfl))) Via.refl e1 F_o0_value (g := (mkF m 8 #[.val (.ref o0), .val (.int v1)] [(.ref o0)])) rfl rfl (hb hby d10_8)
  refine EndsIn.by (B := T2.setTop (mkF m 11 #[.val (.ref o0), .val (.int v1)] [(.ref sv)])) (fun t k => st2 t k) ?_
  refine EndsIn.by (B := T2.setTop (mkF m 12 #[.val (.ref o0), .val (.int v1)] [(.int v1), (.ref sv)])) (fun t k => ?_) ?_
  · show Steps p.tables e below (T2.setTop (mkF m 11 #[.val (.ref o0), .val (.int v1)] [(.ref sv)])) _
    refine XS.iloadN X2.here hx rfl (hb hby d10_11) rfl  ?_
    exact k
  have hp3_hi : ¬ (v1 < (0 : Int32)) ∧ v1 < (1 : Int32) := hi
  -- pc 12: java/lang/StringLatin1.charAt
  obtain ⟨_, _, ⟨T3, L3, k3, n3⟩, -, X3, ⟨Lc3, hQ3, l3, y3, z3⟩, st3⟩ := Jvm.LawKit.callS X2 hx (y := (⟨"java/lang/StringLatin1", "charAt", "([BI)C"⟩ : MethodName)) hown (mvT hZ (hw _ (List.mem_of_getElem? (i := 61) rfl))) (mvT hZ (hw _ (List.mem_of_getElem? (i := 62) rfl))) (mvT hZ (hw _ (List.mem_of_getElem? (i := 12) rfl))) (mvT hZ (hw _ (List.mem_of_getElem? (i := 63) rfl))) (by decide) (backOf (W := 0) (rm12 l Z a0 hw [] sv v1 sv_k sv_xs cs sf h n0 Z0 V_sv ln_sv O S_cs P5 S_f h_sf hp3_hi) hZ (hw _ (List.mem_of_getElem? (i := 63) rfl)) (hw _ (List.mem_of_getElem? (i := 12) rfl)) (by decide) (by decide)) (g := (mkF m 12 #[.val (.ref o0), .val (.int v1)] [(.int v1), (.ref sv)])) rfl (by rw [hml]; rfl) (argsL := [(.ref sv), (.int v1)]) (rest := []) (lenOf pd_9 rfl) rfl (by show 2 * 0 + _ ≤ _; exact Nat.le_of_eq rfl) (hb hby d10_12) (fun _ _ => ⟨rfl, e2, (by decide : 0 + R12.cells ≤ _), (by decide : 0 + R12.slots ≤ _)⟩)
  dsimp only [Pt.U, Pt.locs, Pt.cells, Pt.slots] at X3 l3 y3 z3 st3 hQ3
  subst l3 y3 z3
  obtain ⟨rfl, Nq3, e3⟩ := hQ3
  have N3 := Fr.app N1 Nq3
  refine EndsIn.by (B := T3.setTop (mkF m 15 #[.val (.ref o0), .val (.int v1)] [(.int (f12_0 v1 sv_xs))])) (fun t k => st3 t k) ?_
  subst hr
  exact own_retN X3 hx hlk (t := .char) hret (by simp) (hb hby d10_15) (by decide) (by decide) ⟨rfl, N3, (e3.trans hh0)⟩
theorem ef_10 (m : MethodId) (o0 : Addr) (v1 : Int32) : entryFrame m #[(.ref o0), (.int v1)] 2 = (mkF m 0 #[.val (.ref o0), .val (.int v1)] []) := by first | (simp [entryFrame, mkF, argsToLocals, Value.category]; done) | rfl
set_option maxRecDepth 65536 in
set_option maxHeartbeats 40000000 in
theorem rm10 (l : Launch) (Z : State) (a0 : Array Value) (hw : ∀ d ∈ tables_1, d.before a0 Z = true) (ws : List Jvm.Cond) (o0 : Addr) (v1 : Int32) (sv : Addr) (o0_coder : Int32) (sv_k : ClassId) (sv_xs : List Int32) (cs : Int32) (sf : Value) (h0 : Heap) (n0 : Nat) (Z0 : n0 ≤ h0.size) (E_o0 : Exa Z h0 o0 "java/lang/String") (F_o0_value : Fld Z h0 o0 "java/lang/String" "value" "[B" (.ref sv)) (F_o0_coder : Fld Z h0 o0 "java/lang/String" "coder" "B" (.int o0_coder)) (V_sv : Arv Z h0 sv sv_k .byte (1 : Int32) (sv_xs.map Value.int) (.int 0)) (ln_sv : sv_xs.length = (1 : Int32).toNatClampNeg) (O : Old Z n0 h0) (S_cs : Sta Z Z.heap "java/lang/String" "COMPACT_STRINGS" "Z" (.int cs)) (P5 : ¬ (cs = (0 : Int32))) (S_f : Sta Z Z.heap "jdk/internal/util/Preconditions" "SIOOBE_FORMATTER" "Ljava/util/function/BiFunction;" sf) (h_sf : sf.isRef = true) (hc0 : o0_coder = (0 : Int32)) (hi : ¬ (v1 < (0 : Int32)) ∧ v1 < (1 : Int32)) :
    MetFree l (⟨"java/lang/String", "charAt", "(I)C"⟩ : MethodName) (head1 (Jvm.Cond.code (⟨"java/lang/String", "charAt", "(I)C"⟩ : MethodName) jdk_42_method_56_code 2 (some .char) :: ws) R10) (fun a U => a = #[(.ref o0), (.int v1)] ∧ Z.Warmed39 U.vm ∧ U.heap = h0) (fun _ _ _ _ _ => True) (fun _ U o U' => ∃ v L, o = .returned v ∧ (Q10 Z  h0 n0 (f10_0 v1 o0_coder sv_xs)) v U'.heap L ∧ FrameEnd U o U' L R10.cells R10.slots) := by
  refine MetFree.of_bodySF (plainFor_of_name pn_10) hisR ?_
  intro p e s m args below meth c s₁ Bd hml0 hP hK
  obtain ⟨rfl, hZ, hh⟩ := hP
  have B : Ctx p Z s a0 m meth c "java/lang/String" "charAt" jdk_42_method_56_code 2 (some .char) := ⟨Bd.exec, hZ, hw, Bd.bytes, hml0, Bd.returns, findClass_of_methodNamed Bd.named, (name_of_methodNamed Bd.named Bd.method).1, Bd.notSynchronized⟩
  have X0 : Stand p l e R10 s m #[(.ref o0), (.int v1)] below meth c s₁ [] 0 0 := Stand.of_body Bd
  have e0 : s₁.heap = h0 := by rw [← hh, Bd.state]; rfl
  have K := Keep.refl h0 []
  show EndsIn p e below s R10.cells R10.slots (Q10 Z  h0 n0 (f10_0 v1 o0_coder sv_xs)) (s₁.setTop (entryFrame m #[(.ref o0), (.int v1)] 2))
  refine EndsIn.by (fun t k => castTop (ef_10 m o0 v1) k) ?_
  exact b10_0 B h0 n0 o0 v1 sv o0_coder sv_k sv_xs cs sf X0 e0 (Fr.nil n0) Z0 rfl E_o0 F_o0_value F_o0_coder V_sv ln_sv O S_cs P5 S_f h_sf hc0 hi _ rfl
theorem pd_10 : parseMethodDescriptor "(I)C" = some ⟨[.int], some .char⟩ := by decide +kernel
theorem d15_0 : decode prog_13_method_4_code 0 = .ok (.iload_n 0, 1) := by decide +kernel
theorem d15_1 : decode prog_13_method_4_code 1 = .ok (.invokestatic 27, 3) := by decide +kernel
theorem d15_4 : decode prog_13_method_4_code 4 = .ok (.ifCond .ne 34, 3) := by decide +kernel
theorem d15_38 : decode prog_13_method_4_code 38 = .ok (.iload_n 0, 1) := by decide +kernel
theorem d15_39 : decode prog_13_method_4_code 39 = .ok (.bipush 57, 2) := by decide +kernel
theorem d15_41 : decode prog_13_method_4_code 41 = .ok (.if_icmp .gt 8, 3) := by decide +kernel
theorem d15_44 : decode prog_13_method_4_code 44 = .ok (.iload_n 0, 1) := by decide +kernel
theorem d15_45 : decode prog_13_method_4_code 45 = .ok (.bipush 48, 2) := by decide +kernel
theorem d15_47 : decode prog_13_method_4_code 47 = .ok (.isub, 1) := by decide +kernel
theorem d15_48 : decode prog_13_method_4_code 48 = .ok (.ireturn, 1) := by decide +kernel
theorem d15_49 : decode prog_13_method_4_code 49 = .ok (.iload_n 0, 1) := by decide +kernel
theorem d15_50 : decode prog_13_method_4_code 50 = .ok (.bipush 60, 2) := by decide +kernel
theorem d15_52 : decode prog_13_method_4_code 52 = .ok (.if_icmp .ne 7, 3) := by decide +kernel
theorem d15_55 : decode prog_13_method_4_code 55 = .ok (.iconst 0, 1) := by decide +kernel
theorem d15_56 : decode prog_13_method_4_code 56 = .ok (.goto 10, 3) := by decide +kernel
theorem d15_59 : decode prog_13_method_4_code 59 = .ok (.iload_n 0, 1) := by decide +kernel
theorem d15_60 : decode prog_13_method_4_code 60 = .ok (.bipush 65, 2) := by decide +kernel
theorem d15_62 : decode prog_13_method_4_code 62 = .ok (.isub, 1) := by decide +kernel
theorem d15_63 : decode prog_13_method_4_code 63 = .ok (.bipush 10, 2) := by decide +kernel
theorem d15_65 : decode prog_13_method_4_code 65 = .ok (.iadd, 1) := by decide +kernel
theorem d15_66 : decode prog_13_method_4_code 66 = .ok (.ireturn, 1) := by decide +kernel
theorem pn_15 : plainName "com/example/pure_mrtd/puremrtd/format/CheckDigit" = true := by first | (simp [plainName, overriddenIn]; done) | decide +kernel
def R15 : Room := { frames := 1, cells := 0, slots := 0, locals := 12 }
def Q15 (Z : State)  (h0 : Heap) (n0 : Nat) (r : Int32) (v : Option Value) (h : Heap) (L : List Loc) : Prop := v = some (.int r) ∧ Fr n0 L ∧ h = h0
def f15_0 (v0 : Int32) (v1 : Int32) : Int32 := (if (57 : Int32) < v0 then (if v0 = (60 : Int32) then (0 : Int32) else ((v0 - (65 : Int32)) + (10 : Int32))) else (v0 - (48 : Int32)))
set_option maxRecDepth 65536 in
set_option maxHeartbeats 40000000 in
theorem b15_0 {p : Program} {l : Launch} {e : Env} {s : State} {m : MethodId} {args : Array Value} {below : List Frame} {meth : Method} {c : Code} {Z : State} {a0 : Array Value} (B : Ctx p Z s a0 m meth c "com/example/pure_mrtd/puremrtd/format/CheckDigit" "valueOf" prog_13_method_4_code 2 (some .int)) {T0 : State} {locs : List Loc} {h : Heap} (h0 : Heap) (n0 : Nat) (v0 : Int32) (v1 : Int32) (X0 : Stand p l e R15 s m args below meth c T0 locs 0 0) (e0 : T0.heap = h) (N0 : Fr n0 locs) (Z0 : n0 ≤ h.size) (hh0 : h = h0) (hm : ¬ (f1_0 v0 = (0 : Int32))) (r : Int32) (hr : f15_0 v0 v1 = r) :
    EndsIn p e below s R15.cells R15.slots (Q15 Z  h0 n0 r) (T0.setTop (mkF m 0 #[.val (.int v0), .val (.int v1)] [])) := by
  obtain ⟨hx, hZ, hw, hby, hml, hret, hown, hnm, hlk⟩ := B
  unfold f15_0 at hr
  refine EndsIn.by (B := T0.setTop (mkF m 1 #[.val (.int v0), .val (.int v1)] [(.int v0)])) (fun t k => ?_) ?_
  · show Steps p.tables e below (T0.setTop (mkF m 0 #[.val (.int v0), .val (.int v1)] [])) _
    refine XS.iloadN X0.here hx rfl (hb hby d15_0) rfl  ?_
    exact k
  -- pc 1: com/example/pure_mrtd/puremrtd/format/CheckDigit.isMrzCharacter
  obtain ⟨_, _, ⟨T1, L1, k1, n1⟩, -, X1, ⟨Lc1, hQ1, l1, y1, z1⟩, st1⟩ := Jvm.LawKit.callS X0 hx (y := (⟨"com/example/pure_mrtd/puremrtd/format/CheckDigit", "isMrzCharacter", "(C)Z"⟩ : MethodName)) hown (mvT hZ (hw _ (List.mem_of_getElem? (i := 75) rfl))) (mvT hZ (hw _ (List.mem_of_getElem? (i := 2) rfl))) (mvT hZ (hw _ (List.mem_of_getElem? (i := 3) rfl))) (mvT hZ (hw _ (List.mem_of_getElem? (i := 4) rfl))) (by decide) (backOf (W := 0) (rm1 l Z a0 hw [] v0 h n0 Z0 ) hZ (hw _ (List.mem_of_getElem? (i := 4) rfl)) (hw _ (List.mem_of_getElem? (i := 3) rfl)) (by decide) (by decide)) (g := (mkF m 1 #[.val (.int v0), .val (.int v1)] [(.int v0)])) rfl (by rw [hml]; rfl) (argsL := [(.int v0)]) (rest := []) (lenOf pd_0 rfl) rfl (by show 2 * 0 + _ ≤ _; exact Nat.le_of_eq rfl) (hb hby d15_1) (fun _ _ => ⟨rfl, e0, (by decide : 0 + R1.cells ≤ _), (by decide : 0 + R1.slots ≤ _)⟩)
  dsimp only [Pt.U, Pt.locs, Pt.cells, Pt.slots] at X1 l1 y1 z1 st1 hQ1
  subst l1 y1 z1
  obtain ⟨rfl, Nq1, e1⟩ := hQ1
  have N1 := Fr.app N0 Nq1
  refine EndsIn.by (B := T1.setTop (mkF m 4 #[.val (.int v0), .val (.int v1)] [(.int (f1_0 v0))])) (fun t k => st1 t k) ?_
  have hc4 : ¬ ((f1_0 v0) = (0 : Int32)) := hm
  refine EndsIn.by (B := T1.setTop (mkF m 38 #[.val (.int v0), .val (.int v1)] [])) (fun t k => ?_) ?_
  · show Steps p.tables e below (T1.setTop (mkF m 4 #[.val (.int v0), .val (.int v1)] [(.int (f1_0 v0))])) _
    exact XS.ifYes X1.here hx rfl (pc0 := 4) (pc' := 38) rfl (hb hby d15_4) rfl ((if0 _ _).trans (feq hc4).2) (by decide) (by decide) k
  refine EndsIn.by (B := T1.setTop (mkF m 41 #[.val (.int v0), .val (.int v1)] [(.int (57 : Int32)), (.int v0)])) (fun t k => ?_) ?_
  · show Steps p.tables e below (T1.setTop (mkF m 38 #[.val (.int v0), .val (.int v1)] [])) _
    refine XS.iloadN X1.here hx rfl (hb hby d15_38) rfl  ?_
    show Steps p.tables e below (T1.setTop (mkF m 39 #[.val (.int v0), .val (.int v1)] [(.int v0)])) _
    refine XS.bipush X1.here hx rfl (hb hby d15_39) ?_
    exact k
  by_cases hc41 : (57 : Int32) < v0
  · rw [if_pos hc41] at hr
    refine EndsIn.by (B := T1.setTop (mkF m 49 #[.val (.int v0), .val (.int v1)] [])) (fun t k => ?_) ?_
    · show Steps p.tables e below (T1.setTop (mkF m 41 #[.val (.int v0), .val (.int v1)] [(.int (57 : Int32)), (.int v0)])) _
      exact XS.icmpYes X1.here hx rfl (pc0 := 41) (pc' := 49) rfl (hb hby d15_41) rfl (tlt hc41).2.2.1 (by decide) (by decide) k
    refine EndsIn.by (B := T1.setTop (mkF m 52 #[.val (.int v0), .val (.int v1)] [(.int (60 : Int32)), (.int v0)])) (fun t k => ?_) ?_
    · show Steps p.tables e below (T1.setTop (mkF m 49 #[.val (.int v0), .val (.int v1)] [])) _
      refine XS.iloadN X1.here hx rfl (hb hby d15_49) rfl  ?_
      show Steps p.tables e below (T1.setTop (mkF m 50 #[.val (.int v0), .val (.int v1)] [(.int v0)])) _
      refine XS.bipush X1.here hx rfl (hb hby d15_50) ?_
      exact k
    by_cases hc52 : v0 = (60 : Int32)
    · rw [if_pos hc52] at hr
      refine EndsIn.by (B := T1.setTop (mkF m 55 #[.val (.int v0), .val (.int v1)] [])) (fun t k => ?_) ?_
      · show Steps p.tables e below (T1.setTop (mkF m 52 #[.val (.int v0), .val (.int v1)] [(.int (60 : Int32)), (.int v0)])) _
        exact XS.icmpNo X1.here hx rfl (hb hby d15_52) rfl (teq hc52).2 k
      refine EndsIn.by (B := T1.setTop (mkF m 66 #[.val (.int v0), .val (.int v1)] [(.int (0 : Int32))])) (fun t k => ?_) ?_
      · show Steps p.tables e below (T1.setTop (mkF m 55 #[.val (.int v0), .val (.int v1)] [])) _
        refine XS.iconst X1.here hx rfl (hb hby d15_55) ?_
        show Steps p.tables e below (T1.setTop (mkF m 56 #[.val (.int v0), .val (.int v1)] [(.int (0 : Int32))])) _
        refine XS.goto X1.here hx rfl (pc0 := 56) (pc' := 66) rfl (hb hby d15_56) (by decide) (by decide) ?_
        exact k
      subst hr
      exact own_retI X1 hx hlk hret (hb hby d15_66) (by decide) (by decide) ⟨rfl, N1, (e1.trans hh0)⟩
    · rw [if_neg hc52] at hr
      refine EndsIn.by (B := T1.setTop (mkF m 59 #[.val (.int v0), .val (.int v1)] [])) (fun t k => ?_) ?_
      · show Steps p.tables e below (T1.setTop (mkF m 52 #[.val (.int v0), .val (.int v1)] [(.int (60 : Int32)), (.int v0)])) _
        exact XS.icmpYes X1.here hx rfl (pc0 := 52) (pc' := 59) rfl (hb hby d15_52) rfl (feq hc52).2 (by decide) (by decide) k
      refine EndsIn.by (B := T1.setTop (mkF m 66 #[.val (.int v0), .val (.int v1)] [(.int ((v0 - (65 : Int32)) + (10 : Int32)))])) (fun t k => ?_) ?_
      · show Steps p.tables e below (T1.setTop (mkF m 59 #[.val (.int v0), .val (.int v1)] [])) _
        refine XS.iloadN X1.here hx rfl (hb hby d15_59) rfl  ?_
        show Steps p.tables e below (T1.setTop (mkF m 60 #[.val (.int v0), .val (.int v1)] [(.int v0)])) _
        refine XS.bipush X1.here hx rfl (hb hby d15_60) ?_
        show Steps p.tables e below (T1.setTop (mkF m 62 #[.val (.int v0), .val (.int v1)] [(.int (65 : Int32)), (.int v0)])) _
        refine XS.isub X1.here hx rfl (hb hby d15_62) rfl ?_
        show Steps p.tables e below (T1.setTop (mkF m 63 #[.val (.int v0), .val (.int v1)] [(.int (v0 - (65 : Int32)))])) _
        refine XS.bipush X1.here hx rfl (hb hby d15_63) ?_
        show Steps p.tables e below (T1.setTop (mkF m 65 #[.val (.int v0), .val (.int v1)] [(.int (10 : Int32)), (.int (v0 - (65 : Int32)))])) _
        refine XS.iadd X1.here hx rfl (hb hby d15_65) rfl ?_
        exact k
      subst hr
      exact own_retI X1 hx hlk hret (hb hby d15_66) (by decide) (by decide) ⟨rfl, N1, (e1.trans hh0)⟩
  · rw [if_neg hc41] at hr
    refine EndsIn.by (B := T1.setTop (mkF m 44 #[.val (.int v0), .val (.int v1)] [])) (fun t k => ?_) ?_
    · show Steps p.tables e below (T1.setTop (mkF m 41 #[.val (.int v0), .val (.int v1)] [(.int (57 : Int32)), (.int v0)])) _
      exact XS.icmpNo X1.here hx rfl (hb hby d15_41) rfl (flt hc41).2.2.1 k
    refine EndsIn.by (B := T1.setTop (mkF m 48 #[.val (.int v0), .val (.int v1)] [(.int (v0 - (48 : Int32)))])) (fun t k => ?_) ?_
    · show Steps p.tables e below (T1.setTop (mkF m 44 #[.val (.int v0), .val (.int v1)] [])) _
      refine XS.iloadN X1.here hx rfl (hb hby d15_44) rfl  ?_
      show Steps p.tables e below (T1.setTop (mkF m 45 #[.val (.int v0), .val (.int v1)] [(.int v0)])) _
      refine XS.bipush X1.here hx rfl (hb hby d15_45) ?_
      show Steps p.tables e below (T1.setTop (mkF m 47 #[.val (.int v0), .val (.int v1)] [(.int (48 : Int32)), (.int v0)])) _
      refine XS.isub X1.here hx rfl (hb hby d15_47) rfl ?_
      exact k
    subst hr
    exact own_retI X1 hx hlk hret (hb hby d15_48) (by decide) (by decide) ⟨rfl, N1, (e1.trans hh0)⟩
theorem ef_15 (m : MethodId) (v0 : Int32) (v1 : Int32) : entryFrame m #[(.int v0), (.int v1)] 2 = (mkF m 0 #[.val (.int v0), .val (.int v1)] []) := by first | (simp [entryFrame, mkF, argsToLocals, Value.category]; done) | rfl
set_option maxRecDepth 65536 in
set_option maxHeartbeats 40000000 in
theorem rm15 (l : Launch) (Z : State) (a0 : Array Value) (hw : ∀ d ∈ tables_1, d.before a0 Z = true) (ws : List Jvm.Cond) (v0 : Int32) (v1 : Int32) (h0 : Heap) (n0 : Nat) (Z0 : n0 ≤ h0.size) (hm : ¬ (f1_0 v0 = (0 : Int32))) :
    MetFree l (⟨"com/example/pure_mrtd/puremrtd/format/CheckDigit", "valueOf", "(CI)I"⟩ : MethodName) (head1 (Jvm.Cond.code (⟨"com/example/pure_mrtd/puremrtd/format/CheckDigit", "valueOf", "(CI)I"⟩ : MethodName) prog_13_method_4_code 2 (some .int) :: ws) R15) (fun a U => a = #[(.int v0), (.int v1)] ∧ Z.Warmed39 U.vm ∧ U.heap = h0) (fun _ _ _ _ _ => True) (fun _ U o U' => ∃ v L, o = .returned v ∧ (Q15 Z  h0 n0 (f15_0 v0 v1)) v U'.heap L ∧ FrameEnd U o U' L R15.cells R15.slots) := by
  refine MetFree.of_bodySF (plainFor_of_name pn_15) hisR ?_
  intro p e s m args below meth c s₁ Bd hml0 hP hK
  obtain ⟨rfl, hZ, hh⟩ := hP
  have B : Ctx p Z s a0 m meth c "com/example/pure_mrtd/puremrtd/format/CheckDigit" "valueOf" prog_13_method_4_code 2 (some .int) := ⟨Bd.exec, hZ, hw, Bd.bytes, hml0, Bd.returns, findClass_of_methodNamed Bd.named, (name_of_methodNamed Bd.named Bd.method).1, Bd.notSynchronized⟩
  have X0 : Stand p l e R15 s m #[(.int v0), (.int v1)] below meth c s₁ [] 0 0 := Stand.of_body Bd
  have e0 : s₁.heap = h0 := by rw [← hh, Bd.state]; rfl
  have K := Keep.refl h0 []
  show EndsIn p e below s R15.cells R15.slots (Q15 Z  h0 n0 (f15_0 v0 v1)) (s₁.setTop (entryFrame m #[(.int v0), (.int v1)] 2))
  refine EndsIn.by (fun t k => castTop (ef_15 m v0 v1) k) ?_
  exact b15_0 B h0 n0 v0 v1 X0 e0 (Fr.nil n0) Z0 rfl hm _ rfl
theorem pd_11 : parseMethodDescriptor "(CI)I" = some ⟨[.char, .int], some .int⟩ := by decide +kernel

theorem own_len (xs : List Int32) : f8_0 0 xs = 1 := by unfold f8_0 f9_0; decide
theorem own_one {xs : List Int32} (v : Int32) (hj : v = (0 : Int32) ∨ v = (1 : Int32)) (h : v < f8_0 0 xs) : v = 0 := by
  rw [own_len] at h
  rcases hj with q | q
  · exact q
  · subst q; exact absurd h (by decide)

theorem d7_0 : decode prog_13_method_2_code 0 = .ok (.iconst 0, 1) := by decide +kernel
theorem d7_1 : decode prog_13_method_2_code 1 = .ok (.istore_n 1, 1) := by decide +kernel
theorem d7_2 : decode prog_13_method_2_code 2 = .ok (.iconst 0, 1) := by decide +kernel
theorem d7_3 : decode prog_13_method_2_code 3 = .ok (.istore_n 2, 1) := by decide +kernel
theorem d7_4 : decode prog_13_method_2_code 4 = .ok (.iload_n 2, 1) := by decide +kernel
theorem d7_5 : decode prog_13_method_2_code 5 = .ok (.aload_n 0, 1) := by decide +kernel
theorem d7_6 : decode prog_13_method_2_code 6 = .ok (.invokeinterface 7 1, 5) := by decide +kernel
theorem d7_11 : decode prog_13_method_2_code 11 = .ok (.if_icmp .ge 37, 3) := by decide +kernel
theorem d7_14 : decode prog_13_method_2_code 14 = .ok (.iload_n 1, 1) := by decide +kernel
theorem d7_15 : decode prog_13_method_2_code 15 = .ok (.aload_n 0, 1) := by decide +kernel
theorem d7_16 : decode prog_13_method_2_code 16 = .ok (.iload_n 2, 1) := by decide +kernel
theorem d7_17 : decode prog_13_method_2_code 17 = .ok (.invokeinterface 13 2, 5) := by decide +kernel
theorem d7_22 : decode prog_13_method_2_code 22 = .ok (.iload_n 2, 1) := by decide +kernel
theorem d7_23 : decode prog_13_method_2_code 23 = .ok (.invokestatic 17, 3) := by decide +kernel
theorem d7_26 : decode prog_13_method_2_code 26 = .ok (.getstatic 23, 3) := by decide +kernel
theorem d7_29 : decode prog_13_method_2_code 29 = .ok (.iload_n 2, 1) := by decide +kernel
theorem d7_30 : decode prog_13_method_2_code 30 = .ok (.getstatic 23, 3) := by decide +kernel
theorem d7_33 : decode prog_13_method_2_code 33 = .ok (.arraylength, 1) := by decide +kernel
theorem d7_34 : decode prog_13_method_2_code 34 = .ok (.irem, 1) := by decide +kernel
theorem d7_35 : decode prog_13_method_2_code 35 = .ok (.iaload, 1) := by decide +kernel
theorem d7_36 : decode prog_13_method_2_code 36 = .ok (.imul, 1) := by decide +kernel
theorem d7_37 : decode prog_13_method_2_code 37 = .ok (.iadd, 1) := by decide +kernel
theorem d7_38 : decode prog_13_method_2_code 38 = .ok (.bipush 10, 2) := by decide +kernel
theorem d7_40 : decode prog_13_method_2_code 40 = .ok (.irem, 1) := by decide +kernel
theorem d7_41 : decode prog_13_method_2_code 41 = .ok (.istore_n 1, 1) := by decide +kernel
theorem d7_42 : decode prog_13_method_2_code 42 = .ok (.iinc 2 1, 3) := by decide +kernel
theorem d7_45 : decode prog_13_method_2_code 45 = .ok (.goto (-41), 3) := by decide +kernel
theorem d7_48 : decode prog_13_method_2_code 48 = .ok (.bipush 48, 2) := by decide +kernel
theorem d7_50 : decode prog_13_method_2_code 50 = .ok (.iload_n 1, 1) := by decide +kernel
theorem d7_51 : decode prog_13_method_2_code 51 = .ok (.iadd, 1) := by decide +kernel
theorem d7_52 : decode prog_13_method_2_code 52 = .ok (.i2c, 1) := by decide +kernel
theorem d7_53 : decode prog_13_method_2_code 53 = .ok (.ireturn, 1) := by decide +kernel
theorem pn_7 : plainName "com/example/pure_mrtd/puremrtd/format/CheckDigit" = true := by first | (simp [plainName, overriddenIn]; done) | decide +kernel
def R7 : Room := { frames := 4, cells := 0, slots := 0, locals := 54 }
def Q7 (Z : State)  (h0 : Heap) (n0 : Nat) (r : Int32) (v : Option Value) (h : Heap) (L : List Loc) : Prop := v = some (.int r) ∧ Fr n0 L ∧ h = h0
def f7_4 : Nat → Int32 → Int32 → Int32 → List Int32 → List Int32 → Int32
  | 0, _, _, _, _, _ => ((0 : Int32))
  | k + 1, v1, v2, o0_coder, sv_xs, wts_xs => (if v2 < (f8_0 o0_coder sv_xs) then (f7_4 k ((v1 + ((f15_0 (f10_0 v2 o0_coder sv_xs) v2) * (own_at wts_xs (v2 % (3 : Int32))))) % (10 : Int32)) (v2 + (1 : Int32)) o0_coder sv_xs wts_xs) else (nar .char (((48 : Int32) + v1).toUInt32.toUInt16.toUInt32.toInt32)))
set_option maxRecDepth 65536 in
set_option maxHeartbeats 40000000 in
theorem b7_4 {p : Program} {l : Launch} {e : Env} {s : State} {m : MethodId} {args : Array Value} {below : List Frame} {meth : Method} {c : Code} {Z : State} {a0 : Array Value} (B : Ctx p Z s a0 m meth c "com/example/pure_mrtd/puremrtd/format/CheckDigit" "compute" prog_13_method_2_code 3 (some .char)) (h0 : Heap) (n0 : Nat)  : ∀ (k : Nat) {T0 : State} {locs : List Loc} {h : Heap} (o0 : Addr) (v1 : Int32) (v2 : Int32) (sv : Addr) (wts : Addr) (o0_coder : Int32) (sv_k : ClassId) (sv_xs : List Int32) (wts_k : ClassId) (wts_xs : List Int32) (cs : Int32) (sf : Value) (X0 : Stand p l e R7 s m args below meth c T0 locs 0 0) (e0 : T0.heap = h) (N0 : Fr n0 locs) (Z0 : n0 ≤ h.size) (hh0 : h = h0) (E_o0 : Exa Z h o0 "java/lang/String") (F_o0_value : Fld Z h o0 "java/lang/String" "value" "[B" (.ref sv)) (F_o0_coder : Fld Z h o0 "java/lang/String" "coder" "B" (.int o0_coder)) (V_sv : Arv Z h sv sv_k .byte (1 : Int32) (sv_xs.map Value.int) (.int 0)) (ln_sv : sv_xs.length = (1 : Int32).toNatClampNeg) (V_wts : Arv Z h wts wts_k .int (3 : Int32) (wts_xs.map Value.int) (.int 0)) (ln_wts : wts_xs.length = (3 : Int32).toNatClampNeg) (O : Old Z n0 h) (S_cs : Sta Z Z.heap "java/lang/String" "COMPACT_STRINGS" "Z" (.int cs)) (P5 : ¬ (cs = (0 : Int32))) (S_f : Sta Z Z.heap "jdk/internal/util/Preconditions" "SIOOBE_FORMATTER" "Ljava/util/function/BiFunction;" sf) (h_sf : sf.isRef = true) (S_w : Sta Z Z.heap "com/example/pure_mrtd/puremrtd/format/CheckDigit" "WEIGHTS" "[I" (.ref wts)) (hc0 : o0_coder = (0 : Int32)) (hm : ¬ (f1_0 (f10_0 (0 : Int32) o0_coder sv_xs) = (0 : Int32))) (hj : v2 = (0 : Int32) ∨ v2 = (1 : Int32)) (hmu : (1 - v2.toInt).toNat < k) (r : Int32) (hr : f7_4 k v1 v2 o0_coder sv_xs wts_xs = r),
    EndsIn p e below s R7.cells R7.slots (Q7 Z  h0 n0 r) (T0.setTop (mkF m 4 #[.val (.ref o0), .val (.int v1), .val (.int v2)] [])) := by
  obtain ⟨hx, hZ, hw, hby, hml, hret, hown, hnm, hlk⟩ := B
  intro k
  induction k with
  | zero => intro T0 locs h o0 v1 v2 sv wts o0_coder sv_k sv_xs wts_k wts_xs cs sf X0 e0 N0 Z0 hh0 E_o0 F_o0_value F_o0_coder V_sv ln_sv V_wts ln_wts O S_cs P5 S_f h_sf S_w hc0 hm hj hmu r hr; exact absurd hmu (Nat.not_lt_zero _)
  | succ k ih =>
    intro T0 locs h o0 v1 v2 sv wts o0_coder sv_k sv_xs wts_k wts_xs cs sf X0 e0 N0 Z0 hh0 E_o0 F_o0_value F_o0_coder V_sv ln_sv V_wts ln_wts O S_cs P5 S_f h_sf S_w hc0 hm hj hmu r hr
    unfold f7_4 at hr
    refine EndsIn.by (B := T0.setTop (mkF m 6 #[.val (.ref o0), .val (.int v1), .val (.int v2)] [(.ref o0), (.int v2)])) (fun t k => ?_) ?_
    · show Steps p.tables e below (T0.setTop (mkF m 4 #[.val (.ref o0), .val (.int v1), .val (.int v2)] [])) _
      refine XS.iloadN X0.here hx rfl (hb hby d7_4) rfl  ?_
      show Steps p.tables e below (T0.setTop (mkF m 5 #[.val (.ref o0), .val (.int v1), .val (.int v2)] [(.int v2)])) _
      refine XS.aloadN X0.here hx rfl (hb hby d7_5) rfl rfl ?_
      exact k
    -- pc 6: java/lang/CharSequence.length
    obtain ⟨cq1, kq1, q1a, q1b, q1c⟩ := isOf hZ e0 E_o0
    obtain ⟨_, _, ⟨T1, L1, k1, n1⟩, -, X1, ⟨Lc1, hQ1, l1, y1, z1⟩, st1⟩ := X0.interfaceBack hx (xi := (⟨"java/lang/CharSequence", "length", "()I"⟩ : MethodName)) (y := (⟨"java/lang/String", "length", "()I"⟩ : MethodName)) hown (mvT hZ (hw _ (List.mem_of_getElem? (i := 34) rfl))) (mvT hZ (hw _ (List.mem_of_getElem? (i := 35) rfl))) (mvT hZ (hw _ (List.mem_of_getElem? (i := 36) rfl))) (mvT hZ (hw _ (List.mem_of_getElem? (i := 37) rfl))) (mvT hZ (hw _ (List.mem_of_getElem? (i := 38) rfl))) (mvT hZ (hw _ (List.mem_of_getElem? (i := 39) rfl))) (mvT hZ (hw _ (List.mem_of_getElem? (i := 40) rfl))) (mvT hZ (hw _ (List.mem_of_getElem? (i := 41) rfl))) (by decide) (backOf (W := 1) (rm8 l Z a0 hw [] o0 sv o0_coder sv_k sv_xs cs sf h n0 Z0 E_o0 F_o0_value F_o0_coder V_sv ln_sv O S_cs P5 S_f h_sf) hZ (hw _ (List.mem_of_getElem? (i := 42) rfl)) (hw _ (List.mem_of_getElem? (i := 7) rfl)) (by decide) (by decide)) q1a q1b q1c (g := (mkF m 6 #[.val (.ref o0), .val (.int v1), .val (.int v2)] [(.ref o0), (.int v2)])) rfl (by rw [hml]; rfl) (Steps.refl _) (argsL := []) (rest := [(.int v2)]) (lenOf pd_5 rfl) rfl (by show 2 * 0 + _ ≤ _; exact Nat.le_of_eq rfl) (hb hby d7_6) (fun _ _ => ⟨rfl, e0, (by decide : 0 + R8.cells ≤ _), (by decide : 0 + R8.slots ≤ _)⟩)
    dsimp only [Pt.U, Pt.locs, Pt.cells, Pt.slots] at X1 l1 y1 z1 st1 hQ1
    subst l1 y1 z1
    obtain ⟨rfl, Nq1, e1⟩ := hQ1
    have N1 := Fr.app N0 Nq1
    refine EndsIn.by (B := T1.setTop (mkF m 11 #[.val (.ref o0), .val (.int v1), .val (.int v2)] [(.int (f8_0 o0_coder sv_xs)), (.int v2)])) (fun t k => st1.trans k) ?_
    by_cases hc11 : v2 < (f8_0 o0_coder sv_xs)
    · rw [if_pos hc11] at hr
      refine EndsIn.by (B := T1.setTop (mkF m 14 #[.val (.ref o0), .val (.int v1), .val (.int v2)] [])) (fun t k => ?_) ?_
      · show Steps p.tables e below (T1.setTop (mkF m 11 #[.val (.ref o0), .val (.int v1), .val (.int v2)] [(.int (f8_0 o0_coder sv_xs)), (.int v2)])) _
        exact XS.icmpNo X1.here hx rfl (hb hby d7_11) rfl (tlt hc11).2.1 k
      refine EndsIn.by (B := T1.setTop (mkF m 17 #[.val (.ref o0), .val (.int v1), .val (.int v2)] [(.int v2), (.ref o0), (.int v1)])) (fun t k => ?_) ?_
      · show Steps p.tables e below (T1.setTop (mkF m 14 #[.val (.ref o0), .val (.int v1), .val (.int v2)] [])) _
        refine XS.iloadN X1.here hx rfl (hb hby d7_14) rfl  ?_
        show Steps p.tables e below (T1.setTop (mkF m 15 #[.val (.ref o0), .val (.int v1), .val (.int v2)] [(.int v1)])) _
        refine XS.aloadN X1.here hx rfl (hb hby d7_15) rfl rfl ?_
        show Steps p.tables e below (T1.setTop (mkF m 16 #[.val (.ref o0), .val (.int v1), .val (.int v2)] [(.ref o0), (.int v1)])) _
        refine XS.iloadN X1.here hx rfl (hb hby d7_16) rfl  ?_
        exact k
      have hp2_hc0 : o0_coder = (0 : Int32) := hc0
      have hp2_hi : ¬ (v2 < (0 : Int32)) ∧ v2 < (1 : Int32) := by have q := own_one v2 hj (by rw [hc0] at hc11; exact hc11); subst q; decide
      -- pc 17: java/lang/CharSequence.charAt
      obtain ⟨cq2, kq2, q2a, q2b, q2c⟩ := isOf hZ e1 E_o0
      obtain ⟨_, _, ⟨T2, L2, k2, n2⟩, -, X2, ⟨Lc2, hQ2, l2, y2, z2⟩, st2⟩ := X1.interfaceBack hx (xi := (⟨"java/lang/CharSequence", "charAt", "(I)C"⟩ : MethodName)) (y := (⟨"java/lang/String", "charAt", "(I)C"⟩ : MethodName)) hown (mvT hZ (hw _ (List.mem_of_getElem? (i := 48) rfl))) (mvT hZ (hw _ (List.mem_of_getElem? (i := 49) rfl))) (mvT hZ (hw _ (List.mem_of_getElem? (i := 50) rfl))) (mvT hZ (hw _ (List.mem_of_getElem? (i := 51) rfl))) (mvT hZ (hw _ (List.mem_of_getElem? (i := 52) rfl))) (mvT hZ (hw _ (List.mem_of_getElem? (i := 53) rfl))) (mvT hZ (hw _ (List.mem_of_getElem? (i := 54) rfl))) (mvT hZ (hw _ (List.mem_of_getElem? (i := 41) rfl))) (by decide) (backOf (W := 1) (rm10 l Z a0 hw [] o0 v2 sv o0_coder sv_k sv_xs cs sf h n0 Z0 E_o0 F_o0_value F_o0_coder V_sv ln_sv O S_cs P5 S_f h_sf hp2_hc0 hp2_hi) hZ (hw _ (List.mem_of_getElem? (i := 55) rfl)) (hw _ (List.mem_of_getElem? (i := 7) rfl)) (by decide) (by decide)) q2a q2b q2c (g := (mkF m 17 #[.val (.ref o0), .val (.int v1), .val (.int v2)] [(.int v2), (.ref o0), (.int v1)])) rfl (by rw [hml]; rfl) (Steps.refl _) (argsL := [(.int v2)]) (rest := [(.int v1)]) (lenOf pd_10 rfl) rfl (by show 2 * 0 + _ ≤ _; exact Nat.le_of_eq rfl) (hb hby d7_17) (fun _ _ => ⟨rfl, e1, (by decide : 0 + R10.cells ≤ _), (by decide : 0 + R10.slots ≤ _)⟩)
      dsimp only [Pt.U, Pt.locs, Pt.cells, Pt.slots] at X2 l2 y2 z2 st2 hQ2
      subst l2 y2 z2
      obtain ⟨rfl, Nq2, e2⟩ := hQ2
      have N2 := Fr.app N1 Nq2
      refine EndsIn.by (B := T2.setTop (mkF m 22 #[.val (.ref o0), .val (.int v1), .val (.int v2)] [(.int (f10_0 v2 o0_coder sv_xs)), (.int v1)])) (fun t k => st2.trans k) ?_
      refine EndsIn.by (B := T2.setTop (mkF m 23 #[.val (.ref o0), .val (.int v1), .val (.int v2)] [(.int v2), (.int (f10_0 v2 o0_coder sv_xs)), (.int v1)])) (fun t k => ?_) ?_
      · show Steps p.tables e below (T2.setTop (mkF m 22 #[.val (.ref o0), .val (.int v1), .val (.int v2)] [(.int (f10_0 v2 o0_coder sv_xs)), (.int v1)])) _
        refine XS.iloadN X2.here hx rfl (hb hby d7_22) rfl  ?_
        exact k
      have hp3_hm : ¬ (f1_0 (f10_0 v2 o0_coder sv_xs) = (0 : Int32)) := by have q := own_one v2 hj (by rw [hc0] at hc11; exact hc11); subst q; exact hm
      -- pc 23: com/example/pure_mrtd/puremrtd/format/CheckDigit.valueOf
      obtain ⟨_, _, ⟨T3, L3, k3, n3⟩, -, X3, ⟨Lc3, hQ3, l3, y3, z3⟩, st3⟩ := Jvm.LawKit.callS X2 hx (y := (⟨"com/example/pure_mrtd/puremrtd/format/CheckDigit", "valueOf", "(CI)I"⟩ : MethodName)) hown (mvT hZ (hw _ (List.mem_of_getElem? (i := 72) rfl))) (mvT hZ (hw _ (List.mem_of_getElem? (i := 73) rfl))) (mvT hZ (hw _ (List.mem_of_getElem? (i := 3) rfl))) (mvT hZ (hw _ (List.mem_of_getElem? (i := 74) rfl))) (by decide) (backOf (W := 1) (rm15 l Z a0 hw [] (f10_0 v2 o0_coder sv_xs) v2 h n0 Z0 hp3_hm) hZ (hw _ (List.mem_of_getElem? (i := 74) rfl)) (hw _ (List.mem_of_getElem? (i := 3) rfl)) (by decide) (by decide)) (g := (mkF m 23 #[.val (.ref o0), .val (.int v1), .val (.int v2)] [(.int v2), (.int (f10_0 v2 o0_coder sv_xs)), (.int v1)])) rfl (by rw [hml]; rfl) (argsL := [(.int (f10_0 v2 o0_coder sv_xs)), (.int v2)]) (rest := [(.int v1)]) (lenOf pd_11 rfl) rfl (by show 2 * 0 + _ ≤ _; exact Nat.le_of_eq rfl) (hb hby d7_23) (fun _ _ => ⟨rfl, e2, (by decide : 0 + R15.cells ≤ _), (by decide : 0 + R15.slots ≤ _)⟩)
      dsimp only [Pt.U, Pt.locs, Pt.cells, Pt.slots] at X3 l3 y3 z3 st3 hQ3
      subst l3 y3 z3
      obtain ⟨rfl, Nq3, e3⟩ := hQ3
      have N3 := Fr.app N2 Nq3
      refine EndsIn.by (B := T3.setTop (mkF m 26 #[.val (.ref o0), .val (.int v1), .val (.int v2)] [(.int (f15_0 (f10_0 v2 o0_coder sv_xs) v2)), (.int v1)])) (fun t k => st3 t k) ?_
      obtain ⟨T4, X4, e4, st4⟩ := getS2 X3 hx hZ hown (host := "") (Or.inl (hw _ (List.mem_of_getElem? (i := 76) rfl))) Via.refl e3 (S_w.ext O.2) (g := (mkF m 26 #[.val (.ref o0), .val (.int v1), .val (.int v2)] [(.int (f15_0 (f10_0 v2 o0_coder sv_xs) v2)), (.int v1)])) rfl (hb hby d7_26)
      refine EndsIn.by (B := T4.setTop (mkF m 29 #[.val (.ref o0), .val (.int v1), .val (.int v2)] [(.ref wts), (.int (f15_0 (f10_0 v2 o0_coder sv_xs) v2)), (.int v1)])) (fun t k => st4 t k) ?_
      refine EndsIn.by (B := T4.setTop (mkF m 30 #[.val (.ref o0), .val (.int v1), .val (.int v2)] [(.int v2), (.ref wts), (.int (f15_0 (f10_0 v2 o0_coder sv_xs) v2)), (.int v1)])) (fun t k => ?_) ?_
      · show Steps p.tables e below (T4.setTop (mkF m 29 #[.val (.ref o0), .val (.int v1), .val (.int v2)] [(.ref wts), (.int (f15_0 (f10_0 v2 o0_coder sv_xs) v2)), (.int v1)])) _
        refine XS.iloadN X4.here hx rfl (hb hby d7_29) rfl  ?_
        exact k
      obtain ⟨T5, X5, e5, st5⟩ := getS2 X4 hx hZ hown (host := "") (Or.inl (hw _ (List.mem_of_getElem? (i := 76) rfl))) Via.refl e4 (S_w.ext O.2) (g := (mkF m 30 #[.val (.ref o0), .val (.int v1), .val (.int v2)] [(.int v2), (.ref wts), (.int (f15_0 (f10_0 v2 o0_coder sv_xs) v2)), (.int v1)])) rfl (hb hby d7_30)
      refine EndsIn.by (B := T5.setTop (mkF m 33 #[.val (.ref o0), .val (.int v1), .val (.int v2)] [(.ref wts), (.int v2), (.ref wts), (.int (f15_0 (f10_0 v2 o0_coder sv_xs) v2)), (.int v1)])) (fun t k => st5 t k) ?_
      have V6 := V_wts
      obtain ⟨cl6, Ar6, -, S6, M6, -, -⟩ := V6
      refine EndsIn.by (B := T5.setTop (mkF m 34 #[.val (.ref o0), .val (.int v1), .val (.int v2)] [(.int (3 : Int32)), (.int v2), (.ref wts), (.int (f15_0 (f10_0 v2 o0_coder sv_xs) v2)), (.int v1)])) (fun t k => ?_) ?_
      · show Steps p.tables e below (T5.setTop (mkF m 33 #[.val (.ref o0), .val (.int v1), .val (.int v2)] [(.ref wts), (.int v2), (.ref wts), (.int (f15_0 (f10_0 v2 o0_coder sv_xs) v2)), (.int v1)])) _
        refine X5.arraylength hx (by rw [e5]; exact Ar6.1) (State.isArrayOf_alike hZ.alike Ar6.2.1) (g := (mkF m 33 #[.val (.ref o0), .val (.int v1), .val (.int v2)] [(.ref wts), (.int v2), (.ref wts), (.int (f15_0 (f10_0 v2 o0_coder sv_xs) v2)), (.int v1)])) rfl rfl (hb hby d7_33) _ ?_
        rw [len_of S6 M6]
        exact k
      have hnz34 : ¬ ((3 : Int32) = (0 : Int32)) := by decide
      refine EndsIn.by (B := T5.setTop (mkF m 35 #[.val (.ref o0), .val (.int v1), .val (.int v2)] [(.int (v2 % (3 : Int32))), (.ref wts), (.int (f15_0 (f10_0 v2 o0_coder sv_xs) v2)), (.int v1)])) (fun t k => ?_) ?_
      · show Steps p.tables e below (T5.setTop (mkF m 34 #[.val (.ref o0), .val (.int v1), .val (.int v2)] [(.int (3 : Int32)), (.int v2), (.ref wts), (.int (f15_0 (f10_0 v2 o0_coder sv_xs) v2)), (.int v1)])) _
        refine iremM X5 hx rfl (hb hby d7_34) rfl hnz34 ?_
        exact k
      have hin7 : ¬ ((v2 % (3 : Int32)) < 0) ∧ (v2 % (3 : Int32)) < (3 : Int32) := by have q := own_one v2 hj (by rw [hc0] at hc11; exact hc11); subst q; decide
      obtain ⟨cl7, Ar7, hi7, q7⟩ := own_readI V_wts hin7 _ rfl
      refine EndsIn.by (B := T5.setTop (mkF m 36 #[.val (.ref o0), .val (.int v1), .val (.int v2)] [(.int (own_at wts_xs (v2 % (3 : Int32)))), (.int (f15_0 (f10_0 v2 o0_coder sv_xs) v2)), (.int v1)])) (fun t k => ?_) ?_
      · show Steps p.tables e below (T5.setTop (mkF m 35 #[.val (.ref o0), .val (.int v1), .val (.int v2)] [(.int (v2 % (3 : Int32))), (.ref wts), (.int (f15_0 (f10_0 v2 o0_coder sv_xs) v2)), (.int v1)])) _
        exact X5.iaload hx (j := (v2 % (3 : Int32))) (v := (.int (own_at wts_xs (v2 % (3 : Int32))))) (by rw [e5]; exact Ar7.1) (State.isArrayOf_alike hZ.alike Ar7.2.1) Ar7.2.2 hi7 q7 (g := (mkF m 35 #[.val (.ref o0), .val (.int v1), .val (.int v2)] [(.int (v2 % (3 : Int32))), (.ref wts), (.int (f15_0 (f10_0 v2 o0_coder sv_xs) v2)), (.int v1)])) rfl rfl (hb hby d7_35) _ k
      refine EndsIn.by (B := T5.setTop (mkF m 40 #[.val (.ref o0), .val (.int v1), .val (.int v2)] [(.int (10 : Int32)), (.int (v1 + ((f15_0 (f10_0 v2 o0_coder sv_xs) v2) * (own_at wts_xs (v2 % (3 : Int32))))))])) (fun t k => ?_) ?_
      · show Steps p.tables e below (T5.setTop (mkF m 36 #[.val (.ref o0), .val (.int v1), .val (.int v2)] [(.int (own_at wts_xs (v2 % (3 : Int32)))), (.int (f15_0 (f10_0 v2 o0_coder sv_xs) v2)), (.int v1)])) _
        refine XS.imul X5.here hx rfl (hb hby d7_36) rfl ?_
        show Steps p.tables e below (T5.setTop (mkF m 37 #[.val (.ref o0), .val (.int v1), .val (.int v2)] [(.int ((f15_0 (f10_0 v2 o0_coder sv_xs) v2) * (own_at wts_xs (v2 % (3 : Int32))))), (.int v1)])) _
        refine XS.iadd X5.here hx rfl (hb hby d7_37) rfl ?_
        show Steps p.tables e below (T5.setTop (mkF m 38 #[.val (.ref o0), .val (.int v1), .val (.int v2)] [(.int (v1 + ((f15_0 (f10_0 v2 o0_coder sv_xs) v2) * (own_at wts_xs (v2 % (3 : Int32))))))])) _
        refine XS.bipush X5.here hx rfl (hb hby d7_38) ?_
        exact k
      have hnz40 : ¬ ((10 : Int32) = (0 : Int32)) := by decide
      refine EndsIn.by (B := T5.setTop (mkF m 4 #[.val (.ref o0), .val (.int ((v1 + ((f15_0 (f10_0 v2 o0_coder sv_xs) v2) * (own_at wts_xs (v2 % (3 : Int32))))) % (10 : Int32))), .val (.int (v2 + (1 : Int32)))] [])) (fun t k => ?_) ?_
      · show Steps p.tables e below (T5.setTop (mkF m 40 #[.val (.ref o0), .val (.int v1), .val (.int v2)] [(.int (10 : Int32)), (.int (v1 + ((f15_0 (f10_0 v2 o0_coder sv_xs) v2) * (own_at wts_xs (v2 % (3 : Int32))))))])) _
        refine iremM X5 hx rfl (hb hby d7_40) rfl hnz40 ?_
        show Steps p.tables e below (T5.setTop (mkF m 41 #[.val (.ref o0), .val (.int v1), .val (.int v2)] [(.int ((v1 + ((f15_0 (f10_0 v2 o0_coder sv_xs) v2) * (own_at wts_xs (v2 % (3 : Int32))))) % (10 : Int32)))])) _
        refine XS.istoreN X5.here hx rfl (hb hby d7_41) rfl (l' := #[.val (.ref o0), .val (.int ((v1 + ((f15_0 (f10_0 v2 o0_coder sv_xs) v2) * (own_at wts_xs (v2 % (3 : Int32))))) % (10 : Int32))), .val (.int v2)]) rfl ?_
        show Steps p.tables e below (T5.setTop (mkF m 42 #[.val (.ref o0), .val (.int ((v1 + ((f15_0 (f10_0 v2 o0_coder sv_xs) v2) * (own_at wts_xs (v2 % (3 : Int32))))) % (10 : Int32))), .val (.int v2)] [])) _
        refine XS.iinc X5.here hx rfl (hb hby d7_42) rfl (l' := #[.val (.ref o0), .val (.int ((v1 + ((f15_0 (f10_0 v2 o0_coder sv_xs) v2) * (own_at wts_xs (v2 % (3 : Int32))))) % (10 : Int32))), .val (.int (v2 + (1 : Int32)))]) rfl ?_
        show Steps p.tables e below (T5.setTop (mkF m 45 #[.val (.ref o0), .val (.int ((v1 + ((f15_0 (f10_0 v2 o0_coder sv_xs) v2) * (own_at wts_xs (v2 % (3 : Int32))))) % (10 : Int32))), .val (.int (v2 + (1 : Int32)))] [])) _
        refine XS.goto X5.here hx rfl (pc0 := 45) (pc' := 4) rfl (hb hby d7_45) (by decide) (by decide) ?_
        exact k
      have hc0_j : o0_coder = (0 : Int32) := hc0
      have hm_j : ¬ (f1_0 (f10_0 (0 : Int32) o0_coder sv_xs) = (0 : Int32)) := hm
      have hj_j : (v2 + (1 : Int32)) = (0 : Int32) ∨ (v2 + (1 : Int32)) = (1 : Int32) := by first | exact Or.inl rfl | (have q := own_one v2 hj (by rw [hc0] at hc11; exact hc11); subst q; exact Or.inr (by decide))
      have hmu_j : (1 - (v2 + (1 : Int32)).toInt).toNat < k := by have q := own_one v2 hj (by rw [hc0] at hc11; exact hc11); subst q; have qa : (1 - ((0 : Int32) + (1 : Int32)).toInt).toNat = 0 := (by decide); have qb : (1 - (0 : Int32).toInt).toNat = 1 := (by decide); omega
      exact ih o0 ((v1 + ((f15_0 (f10_0 v2 o0_coder sv_xs) v2) * (own_at wts_xs (v2 % (3 : Int32))))) % (10 : Int32)) (v2 + (1 : Int32)) sv wts o0_coder sv_k sv_xs wts_k wts_xs cs sf X5 e5 N3 Z0 hh0 E_o0 F_o0_value F_o0_coder V_sv ln_sv V_wts ln_wts O S_cs P5 S_f h_sf S_w hc0_j hm_j hj_j hmu_j _ hr
    · rw [if_neg hc11] at hr
      refine EndsIn.by (B := T1.setTop (mkF m 48 #[.val (.ref o0), .val (.int v1), .val (.int v2)] [])) (fun t k => ?_) ?_
      · show Steps p.tables e below (T1.setTop (mkF m 11 #[.val (.ref o0), .val (.int v1), .val (.int v2)] [(.int (f8_0 o0_coder sv_xs)), (.int v2)])) _
        exact XS.icmpYes X1.here hx rfl (pc0 := 11) (pc' := 48) rfl (hb hby d7_11) rfl (flt hc11).2.1 (by decide) (by decide) k
      refine EndsIn.by (B := T1.setTop (mkF m 53 #[.val (.ref o0), .val (.int v1), .val (.int v2)] [(.int (((48 : Int32) + v1).toUInt32.toUInt16.toUInt32.toInt32))])) (fun t k => ?_) ?_
      · show Steps p.tables e below (T1.setTop (mkF m 48 #[.val (.ref o0), .val (.int v1), .val (.int v2)] [])) _
        refine XS.bipush X1.here hx rfl (hb hby d7_48) ?_
        show Steps p.tables e below (T1.setTop (mkF m 50 #[.val (.ref o0), .val (.int v1), .val (.int v2)] [(.int (48 : Int32))])) _
        refine XS.iloadN X1.here hx rfl (hb hby d7_50) rfl  ?_
        show Steps p.tables e below (T1.setTop (mkF m 51 #[.val (.ref o0), .val (.int v1), .val (.int v2)] [(.int v1), (.int (48 : Int32))])) _
        refine XS.iadd X1.here hx rfl (hb hby d7_51) rfl ?_
        show Steps p.tables e below (T1.setTop (mkF m 52 #[.val (.ref o0), .val (.int v1), .val (.int v2)] [(.int ((48 : Int32) + v1))])) _
        refine XS.i2c X1.here hx rfl (hb hby d7_52) rfl ?_
        exact k
      subst hr
      exact own_retN X1 hx hlk (t := .char) hret (by simp) (hb hby d7_53) (by decide) (by decide) ⟨rfl, N1, (e1.trans hh0)⟩
def f7_0 (o0_coder : Int32) (sv_xs : List Int32) (wts_xs : List Int32) : Int32 := (f7_4 2 (0 : Int32) (0 : Int32) o0_coder sv_xs wts_xs)
set_option maxRecDepth 65536 in
set_option maxHeartbeats 40000000 in
theorem b7_0 {p : Program} {l : Launch} {e : Env} {s : State} {m : MethodId} {args : Array Value} {below : List Frame} {meth : Method} {c : Code} {Z : State} {a0 : Array Value} (B : Ctx p Z s a0 m meth c "com/example/pure_mrtd/puremrtd/format/CheckDigit" "compute" prog_13_method_2_code 3 (some .char)) {T0 : State} {locs : List Loc} {h : Heap} (h0 : Heap) (n0 : Nat) (o0 : Addr) (sv : Addr) (wts : Addr) (o0_coder : Int32) (sv_k : ClassId) (sv_xs : List Int32) (wts_k : ClassId) (wts_xs : List Int32) (cs : Int32) (sf : Value) (X0 : Stand p l e R7 s m args below meth c T0 locs 0 0) (e0 : T0.heap = h) (N0 : Fr n0 locs) (Z0 : n0 ≤ h.size) (hh0 : h = h0) (E_o0 : Exa Z h o0 "java/lang/String") (F_o0_value : Fld Z h o0 "java/lang/String" "value" "[B" (.ref sv)) (F_o0_coder : Fld Z h o0 "java/lang/String" "coder" "B" (.int o0_coder)) (V_sv : Arv Z h sv sv_k .byte (1 : Int32) (sv_xs.map Value.int) (.int 0)) (ln_sv : sv_xs.length = (1 : Int32).toNatClampNeg) (V_wts : Arv Z h wts wts_k .int (3 : Int32) (wts_xs.map Value.int) (.int 0)) (ln_wts : wts_xs.length = (3 : Int32).toNatClampNeg) (O : Old Z n0 h) (S_cs : Sta Z Z.heap "java/lang/String" "COMPACT_STRINGS" "Z" (.int cs)) (P5 : ¬ (cs = (0 : Int32))) (S_f : Sta Z Z.heap "jdk/internal/util/Preconditions" "SIOOBE_FORMATTER" "Ljava/util/function/BiFunction;" sf) (h_sf : sf.isRef = true) (S_w : Sta Z Z.heap "com/example/pure_mrtd/puremrtd/format/CheckDigit" "WEIGHTS" "[I" (.ref wts)) (hc0 : o0_coder = (0 : Int32)) (hm : ¬ (f1_0 (f10_0 (0 : Int32) o0_coder sv_xs) = (0 : Int32))) (r : Int32) (hr : f7_0 o0_coder sv_xs wts_xs = r) :
    EndsIn p e below s R7.cells R7.slots (Q7 Z  h0 n0 r) (T0.setTop (mkF m 0 #[.val (.ref o0), .unset, .unset] [])) := by
  obtain ⟨hx, hZ, hw, hby, hml, hret, hown, hnm, hlk⟩ := B
  unfold f7_0 at hr
  refine EndsIn.by (B := T0.setTop (mkF m 4 #[.val (.ref o0), .val (.int (0 : Int32)), .val (.int (0 : Int32))] [])) (fun t k => ?_) ?_
  · show Steps p.tables e below (T0.setTop (mkF m 0 #[.val (.ref o0), .unset, .unset] [])) _
    refine XS.iconst X0.here hx rfl (hb hby d7_0) ?_
    show Steps p.tables e below (T0.setTop (mkF m 1 #[.val (.ref o0), .unset, .unset] [(.int (0 : Int32))])) _
    refine XS.istoreN X0.here hx rfl (hb hby d7_1) rfl (l' := #[.val (.ref o0), .val (.int (0 : Int32)), .unset]) rfl ?_
    show Steps p.tables e below (T0.setTop (mkF m 2 #[.val (.ref o0), .val (.int (0 : Int32)), .unset] [])) _
    refine XS.iconst X0.here hx rfl (hb hby d7_2) ?_
    show Steps p.tables e below (T0.setTop (mkF m 3 #[.val (.ref o0), .val (.int (0 : Int32)), .unset] [(.int (0 : Int32))])) _
    refine XS.istoreN X0.here hx rfl (hb hby d7_3) rfl (l' := #[.val (.ref o0), .val (.int (0 : Int32)), .val (.int (0 : Int32))]) rfl ?_
    exact k
  have hc0_j : o0_coder = (0 : Int32) := hc0
  have hm_j : ¬ (f1_0 (f10_0 (0 : Int32) o0_coder sv_xs) = (0 : Int32)) := hm
  have hj_j : (0 : Int32) = (0 : Int32) ∨ (0 : Int32) = (1 : Int32) := by first | exact Or.inl rfl | (have q := own_one v2 hj (by rw [hc0] at hc11; exact hc11); subst q; exact Or.inr (by decide))
  have hmu_j : (1 - (0 : Int32).toInt).toNat < 2 := by decide
  exact b7_4 ⟨hx, hZ, hw, hby, hml, hret, hown, hnm, hlk⟩ h0 n0  2 o0 (0 : Int32) (0 : Int32) sv wts o0_coder sv_k sv_xs wts_k wts_xs cs sf X0 e0 N0 Z0 hh0 E_o0 F_o0_value F_o0_coder V_sv ln_sv V_wts ln_wts O S_cs P5 S_f h_sf S_w hc0_j hm_j hj_j hmu_j _ hr
theorem ef_7 (m : MethodId) (o0 : Addr) : entryFrame m #[(.ref o0)] 3 = (mkF m 0 #[.val (.ref o0), .unset, .unset] []) := by first | (simp [entryFrame, mkF, argsToLocals, Value.category]; done) | rfl
set_option maxRecDepth 65536 in
set_option maxHeartbeats 40000000 in
theorem rm7 (l : Launch) (Z : State) (a0 : Array Value) (hw : ∀ d ∈ tables_1, d.before a0 Z = true) (ws : List Jvm.Cond) (o0 : Addr) (sv : Addr) (wts : Addr) (o0_coder : Int32) (sv_k : ClassId) (sv_xs : List Int32) (wts_k : ClassId) (wts_xs : List Int32) (cs : Int32) (sf : Value) (h0 : Heap) (n0 : Nat) (Z0 : n0 ≤ h0.size) (E_o0 : Exa Z h0 o0 "java/lang/String") (F_o0_value : Fld Z h0 o0 "java/lang/String" "value" "[B" (.ref sv)) (F_o0_coder : Fld Z h0 o0 "java/lang/String" "coder" "B" (.int o0_coder)) (V_sv : Arv Z h0 sv sv_k .byte (1 : Int32) (sv_xs.map Value.int) (.int 0)) (ln_sv : sv_xs.length = (1 : Int32).toNatClampNeg) (V_wts : Arv Z h0 wts wts_k .int (3 : Int32) (wts_xs.map Value.int) (.int 0)) (ln_wts : wts_xs.length = (3 : Int32).toNatClampNeg) (O : Old Z n0 h0) (S_cs : Sta Z Z.heap "java/lang/String" "COMPACT_STRINGS" "Z" (.int cs)) (P5 : ¬ (cs = (0 : Int32))) (S_f : Sta Z Z.heap "jdk/internal/util/Preconditions" "SIOOBE_FORMATTER" "Ljava/util/function/BiFunction;" sf) (h_sf : sf.isRef = true) (S_w : Sta Z Z.heap "com/example/pure_mrtd/puremrtd/format/CheckDigit" "WEIGHTS" "[I" (.ref wts)) (hc0 : o0_coder = (0 : Int32)) (hm : ¬ (f1_0 (f10_0 (0 : Int32) o0_coder sv_xs) = (0 : Int32))) :
    MetFree l (⟨"com/example/pure_mrtd/puremrtd/format/CheckDigit", "compute", "(Ljava/lang/CharSequence;)C"⟩ : MethodName) (head1 (Jvm.Cond.code (⟨"com/example/pure_mrtd/puremrtd/format/CheckDigit", "compute", "(Ljava/lang/CharSequence;)C"⟩ : MethodName) prog_13_method_2_code 3 (some .char) :: ws) R7) (fun a U => a = #[(.ref o0)] ∧ Z.Warmed39 U.vm ∧ U.heap = h0) (fun _ _ _ _ _ => True) (fun _ U o U' => ∃ v L, o = .returned v ∧ (Q7 Z  h0 n0 (f7_0 o0_coder sv_xs wts_xs)) v U'.heap L ∧ FrameEnd U o U' L R7.cells R7.slots) := by
  refine MetFree.of_bodySF (plainFor_of_name pn_7) hisR ?_
  intro p e s m args below meth c s₁ Bd hml0 hP hK
  obtain ⟨rfl, hZ, hh⟩ := hP
  have B : Ctx p Z s a0 m meth c "com/example/pure_mrtd/puremrtd/format/CheckDigit" "compute" prog_13_method_2_code 3 (some .char) := ⟨Bd.exec, hZ, hw, Bd.bytes, hml0, Bd.returns, findClass_of_methodNamed Bd.named, (name_of_methodNamed Bd.named Bd.method).1, Bd.notSynchronized⟩
  have X0 : Stand p l e R7 s m #[(.ref o0)] below meth c s₁ [] 0 0 := Stand.of_body Bd
  have e0 : s₁.heap = h0 := by rw [← hh, Bd.state]; rfl
  have K := Keep.refl h0 []
  show EndsIn p e below s R7.cells R7.slots (Q7 Z  h0 n0 (f7_0 o0_coder sv_xs wts_xs)) (s₁.setTop (entryFrame m #[(.ref o0)] 3))
  refine EndsIn.by (fun t k => castTop (ef_7 m o0) k) ?_
  exact b7_0 B h0 n0 o0 sv wts o0_coder sv_k sv_xs wts_k wts_xs cs sf X0 e0 (Fr.nil n0) Z0 rfl E_o0 F_o0_value F_o0_coder V_sv ln_sv V_wts ln_wts O S_cs P5 S_f h_sf S_w hc0 hm _ rfl
theorem pd_12 : parseMethodDescriptor "(Ljava/lang/CharSequence;)C" = some ⟨[(.object "java/lang/CharSequence")], some .char⟩ := by decide +kernel
theorem own_hi0 (c : Int32) (h : 90 < c.toInt) : f1_0 c = 0 := by
  have z : ∀ n : Int32, n.toInt < 90 → ¬ (c < n) := fun n q => by rw [own_ltI]; omega
  have e : ¬ (c = 60) := fun q => by subst q; exact absurd h (by decide)
  unfold f1_0 f1_12 f1_24 f1_30
  rw [if_neg (z 48 (by decide)), if_pos (show (57 : Int32) < c from by rw [own_ltI]; exact Int.lt_trans (by decide) h), if_neg (z 65 (by decide)), if_pos (show (90 : Int32) < c from by rw [own_ltI]; exact h), if_neg e]
theorem own_rng (c : Int32) (h : ¬ (f1_0 c = (0 : Int32))) : 0 ≤ c.toInt ∧ c.toInt ≤ 90 := by
  refine ⟨Int.not_lt.mp fun q => h ?_, Int.not_lt.mp fun q => h (own_hi0 c q)⟩
  have z : ∀ n : Int32, 0 ≤ n.toInt → c < n := fun n w => by rw [own_ltI]; omega
  have e : ¬ (c = 60) := fun q2 => by subst q2; exact absurd q (by decide)
  unfold f1_0 f1_12 f1_24 f1_30
  rw [if_pos (z 48 (by decide)), if_pos (z 65 (by decide)), if_neg e]
theorem own_255 (c : Int32) (h : ¬ (f1_0 c = (0 : Int32))) : ¬ ((255 : Int32) < c) := by
  have := own_rng c h; have z : (255 : Int32).toInt = 255 := rfl
  rw [own_ltI]; omega
theorem own_nat (c : Int32) (h : 0 ≤ c.toInt ∧ c.toInt ≤ 90) : Int32.ofNat c.toInt.toNat = c := by
  apply Int32.toInt_inj.mp
  rw [Int32.toInt_ofNat_of_lt (by omega)]
  omega
theorem own_cd (c : Int32) : (f2_0 c).2 = (0 : Int32) := by
  show f5_0 0 0 = 0
  unfold f5_0; decide
theorem own_ca : ∀ n : Fin 91, f10_0 0 (f2_0 (Int32.ofNat n.val)).2 (f2_0 (Int32.ofNat n.val)).1 = Int32.ofNat n.val := by decide +kernel
theorem own_hm (c : Int32) (h : ¬ (f1_0 c = (0 : Int32))) : ¬ (f1_0 (f10_0 (0 : Int32) ((f2_0 c).2) ((f2_0 c).1)) = (0 : Int32)) := by
  have r := own_rng c h
  have k := own_ca ⟨c.toInt.toNat, by omega⟩
  rw [own_nat c r] at k
  rw [k]; exact h

theorem pn_0 : plainName "com/example/pure_mrtd/puremrtd/format/CheckDigitIsMrzCharacterPinLaw" = true := by first | (simp [plainName, overriddenIn]; done) | decide +kernel
def Q0 (n0 : Nat) (r : Int32) (v : Option Value) (h : Heap) (L : List Loc) : Prop := v = some (.int r) ∧ Fr n0 L
def f0_136 (v0 : Int32) (v1 : Int32) (v2 : Int32) (v3 : Int32) (v4 : Int32) (v5 : Int32) (v6 : Int32) (v7 : Int32) (v8 : Int32) (v9 : Int32) (wts_xs : List Int32) : Int32 := (if (f7_0 ((f2_0 v1).2) ((f2_0 v1).1) wts_xs) = (((48 : Int32) + ((v9 * (7 : Int32)) % (10 : Int32))).toUInt32.toUInt16.toUInt32.toInt32) then (1 : Int32) else (0 : Int32))
set_option maxRecDepth 65536 in
set_option maxHeartbeats 40000000 in
theorem b0_136 {p : Program} {l : Launch} {e : Env} {s : State} {m : MethodId} {args : Array Value} {below : List Frame} {meth : Method} {c : Code} {Z : State} {a0 : Array Value} (B : Ctx p Z s a0 m meth c "com/example/pure_mrtd/puremrtd/format/CheckDigitIsMrzCharacterPinLaw" "law" code 11 (some .boolean)) {T0 : State} {locs : List Loc} {h : Heap} (h0 : Heap) (n0 : Nat) (v0 : Int32) (v1 : Int32) (v2 : Int32) (v3 : Int32) (v4 : Int32) (v5 : Int32) (v6 : Int32) (v7 : Int32) (v8 : Int32) (v9 : Int32) (wts : Addr) (wts_k : ClassId) (wts_xs : List Int32) (cs : Int32) (sf : Value) (X0 : Stand p l e room_1 s m args below meth c T0 locs 0 0) (e0 : T0.heap = h) (N0 : Fr n0 locs) (Z0 : n0 ≤ h.size) (V_wts : Arv Z h wts wts_k .int (3 : Int32) (wts_xs.map Value.int) (.int 0)) (ln_wts : wts_xs.length = (3 : Int32).toNatClampNeg) (O : Old Z n0 h) (S_cs : Sta Z Z.heap "java/lang/String" "COMPACT_STRINGS" "Z" (.int cs)) (P5 : ¬ (cs = (0 : Int32))) (S_f : Sta Z Z.heap "jdk/internal/util/Preconditions" "SIOOBE_FORMATTER" "Ljava/util/function/BiFunction;" sf) (h_sf : sf.isRef = true) (S_w : Sta Z Z.heap "com/example/pure_mrtd/puremrtd/format/CheckDigit" "WEIGHTS" "[I" (.ref wts)) (im : ¬ (f1_0 v1 = (0 : Int32))) (r : Int32) (hr : f0_136 v0 v1 v2 v3 v4 v5 v6 v7 v8 v9 wts_xs = r) :
    EndsIn p e below s 2 5 (Q0 n0 r) (T0.setTop (mkF m 136 #[.val (.int v0), .val (.int v1), .val (.int v2), .val (.int v3), .val (.int v4), .val (.int v5), .val (.int v6), .val (.int v7), .val (.int v8), .val (.int v9), .unset] [])) := by
  obtain ⟨hx, hZ, hw, hby, hml, hret, hown, hnm, hlk⟩ := B
  unfold f0_136 at hr
  refine EndsIn.by (B := T0.setTop (mkF m 137 #[.val (.int v0), .val (.int v1), .val (.int v2), .val (.int v3), .val (.int v4), .val (.int v5), .val (.int v6), .val (.int v7), .val (.int v8), .val (.int v9), .unset] [(.int v1)])) (fun t k => ?_) ?_
  · show Steps p.tables e below (T0.setTop (mkF m 136 #[.val (.int v0), .val (.int v1), .val (.int v2), .val (.int v3), .val (.int v4), .val (.int v5), .val (.int v6), .val (.int v7), .val (.int v8), .val (.int v9), .unset] [])) _
    refine XS.iloadN X0.here hx rfl (hb hby at_136) rfl  ?_
    exact k
  have hp2_hv : ¬ ((255 : Int32) < v1) := own_255 _ im
  -- pc 137: java/lang/String.valueOf
  obtain ⟨_, _, ⟨T2, L2, k2, n2⟩, -, X2, ⟨Lc2, hQ2, l2, y2, z2⟩, st2⟩ := Jvm.LawKit.callS X0 hx (y := (⟨"java/lang/String", "valueOf", "(C)Ljava/lang/String;"⟩ : MethodName)) hown (mvT hZ (hw _ (List.mem_of_getElem? (i := 5) rfl))) (mvT hZ (hw _ (List.mem_of_getElem? (i := 6) rfl))) (mvT hZ (hw _ (List.mem_of_getElem? (i := 7) rfl))) (mvT hZ (hw _ (List.mem_of_getElem? (i := 8) rfl))) (by decide) (backOf (W := 0) (rm2 l Z a0 hw [] v1 cs h n0 Z0 O S_cs P5 hp2_hv) hZ (hw _ (List.mem_of_getElem? (i := 8) rfl)) (hw _ (List.mem_of_getElem? (i := 7) rfl)) (by decide) (by decide)) (g := (mkF m 137 #[.val (.int v0), .val (.int v1), .val (.int v2), .val (.int v3), .val (.int v4), .val (.int v5), .val (.int v6), .val (.int v7), .val (.int v8), .val (.int v9), .unset] [(.int v1)])) rfl (by rw [hml]; rfl) (argsL := [(.int v1)]) (rest := []) (lenOf pd_3 rfl) rfl (by show 2 * 0 + _ ≤ _; exact Nat.le_of_eq rfl) (hb hby at_137) (fun _ _ => ⟨rfl, e0, (by decide : 0 + R2.cells ≤ _), (by decide : 0 + R2.slots ≤ _)⟩)
  dsimp only [Pt.U, Pt.locs, Pt.cells, Pt.slots] at X2 l2 y2 z2 st2 hQ2
  subst l2 y2 z2
  obtain ⟨c137, sv_2, kb_2, rfl, Nq2, g_c137, szq2, Kq2, Eb_2, Fv_2, Fc_2, Vb_2, lnb_2⟩ := hQ2
  obtain ⟨h2, e2⟩ : ∃ z, T2.heap = z := ⟨_, rfl⟩
  rw [e2] at Kq2 Eb_2 Fv_2 Fc_2 Vb_2
  have N2 := Fr.app N0 Nq2
  have Z2 : n0 ≤ h2.size := Nat.le_trans Z0 Kq2.1
  have ne_wts_c137 : wts ≠ c137 := Nat.ne_of_lt (Nat.lt_of_lt_of_le V_wts.lt szq2)
  have V_wts_2 := V_wts.keep Kq2 (by simp)
  have O2 := O.keep Kq2 all0
  refine EndsIn.by (B := T2.setTop (mkF m 140 #[.val (.int v0), .val (.int v1), .val (.int v2), .val (.int v3), .val (.int v4), .val (.int v5), .val (.int v6), .val (.int v7), .val (.int v8), .val (.int v9), .unset] [(.ref c137)])) (fun t k => st2 t k) ?_
  have hp3_hc0 : (f2_0 v1).2 = (0 : Int32) := own_cd _
  have hp3_hm : ¬ (f1_0 (f10_0 (0 : Int32) (f2_0 v1).2 (f2_0 v1).1) = (0 : Int32)) := own_hm _ im
  -- pc 140: com/example/pure_mrtd/puremrtd/format/CheckDigit.compute
  obtain ⟨_, _, ⟨T3, L3, k3, n3⟩, -, X3, ⟨Lc3, hQ3, l3, y3, z3⟩, st3⟩ := Jvm.LawKit.callS X2 hx (y := (⟨"com/example/pure_mrtd/puremrtd/format/CheckDigit", "compute", "(Ljava/lang/CharSequence;)C"⟩ : MethodName)) hown (mvT hZ (hw _ (List.mem_of_getElem? (i := 31) rfl))) (mvT hZ (hw _ (List.mem_of_getElem? (i := 32) rfl))) (mvT hZ (hw _ (List.mem_of_getElem? (i := 3) rfl))) (mvT hZ (hw _ (List.mem_of_getElem? (i := 33) rfl))) (by decide) (backOf (W := 0) (rm7 l Z a0 hw [] c137 sv_2 wts ((f2_0 v1).2) kb_2 ((f2_0 v1).1) wts_k wts_xs cs sf h2 n0 Z2 Eb_2 Fv_2 Fc_2 Vb_2 lnb_2 V_wts_2 ln_wts O2 S_cs P5 S_f h_sf S_w hp3_hc0 hp3_hm) hZ (hw _ (List.mem_of_getElem? (i := 33) rfl)) (hw _ (List.mem_of_getElem? (i := 3) rfl)) (by decide) (by decide)) (g := (mkF m 140 #[.val (.int v0), .val (.int v1), .val (.int v2), .val (.int v3), .val (.int v4), .val (.int v5), .val (.int v6), .val (.int v7), .val (.int v8), .val (.int v9), .unset] [(.ref c137)])) rfl (by rw [hml]; rfl) (argsL := [(.ref c137)]) (rest := []) (lenOf pd_12 rfl) rfl (by show 2 * 0 + _ ≤ _; exact Nat.le_of_eq rfl) (hb hby at_140) (fun _ _ => ⟨rfl, e2, (by decide : 2 + R7.cells ≤ _), (by decide : 5 + R7.slots ≤ _)⟩)
  dsimp only [Pt.U, Pt.locs, Pt.cells, Pt.slots] at X3 l3 y3 z3 st3 hQ3
  subst l3 y3 z3
  obtain ⟨rfl, Nq3, e3⟩ := hQ3
  have N3 := Fr.app N2 Nq3
  refine EndsIn.by (B := T3.setTop (mkF m 143 #[.val (.int v0), .val (.int v1), .val (.int v2), .val (.int v3), .val (.int v4), .val (.int v5), .val (.int v6), .val (.int v7), .val (.int v8), .val (.int v9), .unset] [(.int (f7_0 ((f2_0 v1).2) ((f2_0 v1).1) wts_xs))])) (fun t k => st3 t k) ?_
  refine EndsIn.by (B := T3.setTop (mkF m 156 #[.val (.int v0), .val (.int v1), .val (.int v2), .val (.int v3), .val (.int v4), .val (.int v5), .val (.int v6), .val (.int v7), .val (.int v8), .val (.int v9), .val (.int (f7_0 ((f2_0 v1).2) ((f2_0 v1).1) wts_xs))] [(.int (10 : Int32)), (.int (v9 * (7 : Int32))), (.int (48 : Int32)), (.int (f7_0 ((f2_0 v1).2) ((f2_0 v1).1) wts_xs))])) (fun t k => ?_) ?_
  · show Steps p.tables e below (T3.setTop (mkF m 143 #[.val (.int v0), .val (.int v1), .val (.int v2), .val (.int v3), .val (.int v4), .val (.int v5), .val (.int v6), .val (.int v7), .val (.int v8), .val (.int v9), .unset] [(.int (f7_0 ((f2_0 v1).2) ((f2_0 v1).1) wts_xs))])) _
    refine XS.istore X3.here hx rfl (hb hby at_143) rfl (l' := #[.val (.int v0), .val (.int v1), .val (.int v2), .val (.int v3), .val (.int v4), .val (.int v5), .val (.int v6), .val (.int v7), .val (.int v8), .val (.int v9), .val (.int (f7_0 ((f2_0 v1).2) ((f2_0 v1).1) wts_xs))]) rfl ?_
    show Steps p.tables e below (T3.setTop (mkF m 145 #[.val (.int v0), .val (.int v1), .val (.int v2), .val (.int v3), .val (.int v4), .val (.int v5), .val (.int v6), .val (.int v7), .val (.int v8), .val (.int v9), .val (.int (f7_0 ((f2_0 v1).2) ((f2_0 v1).1) wts_xs))] [])) _
    refine XS.iload X3.here hx rfl (hb hby at_145) rfl  ?_
    show Steps p.tables e below (T3.setTop (mkF m 147 #[.val (.int v0), .val (.int v1), .val (.int v2), .val (.int v3), .val (.int v4), .val (.int v5), .val (.int v6), .val (.int v7), .val (.int v8), .val (.int v9), .val (.int (f7_0 ((f2_0 v1).2) ((f2_0 v1).1) wts_xs))] [(.int (f7_0 ((f2_0 v1).2) ((f2_0 v1).1) wts_xs))])) _
    refine XS.bipush X3.here hx rfl (hb hby at_147) ?_
    show Steps p.tables e below (T3.setTop (mkF m 149 #[.val (.int v0), .val (.int v1), .val (.int v2), .val (.int v3), .val (.int v4), .val (.int v5), .val (.int v6), .val (.int v7), .val (.int v8), .val (.int v9), .val (.int (f7_0 ((f2_0 v1).2) ((f2_0 v1).1) wts_xs))] [(.int (48 : Int32)), (.int (f7_0 ((f2_0 v1).2) ((f2_0 v1).1) wts_xs))])) _
    refine XS.iload X3.here hx rfl (hb hby at_149) rfl  ?_
    show Steps p.tables e below (T3.setTop (mkF m 151 #[.val (.int v0), .val (.int v1), .val (.int v2), .val (.int v3), .val (.int v4), .val (.int v5), .val (.int v6), .val (.int v7), .val (.int v8), .val (.int v9), .val (.int (f7_0 ((f2_0 v1).2) ((f2_0 v1).1) wts_xs))] [(.int v9), (.int (48 : Int32)), (.int (f7_0 ((f2_0 v1).2) ((f2_0 v1).1) wts_xs))])) _
    refine XS.bipush X3.here hx rfl (hb hby at_151) ?_
    show Steps p.tables e below (T3.setTop (mkF m 153 #[.val (.int v0), .val (.int v1), .val (.int v2), .val (.int v3), .val (.int v4), .val (.int v5), .val (.int v6), .val (.int v7), .val (.int v8), .val (.int v9), .val (.int (f7_0 ((f2_0 v1).2) ((f2_0 v1).1) wts_xs))] [(.int (7 : Int32)), (.int v9), (.int (48 : Int32)), (.int (f7_0 ((f2_0 v1).2) ((f2_0 v1).1) wts_xs))])) _
    refine XS.imul X3.here hx rfl (hb hby at_153) rfl ?_
    show Steps p.tables e below (T3.setTop (mkF m 154 #[.val (.int v0), .val (.int v1), .val (.int v2), .val (.int v3), .val (.int v4), .val (.int v5), .val (.int v6), .val (.int v7), .val (.int v8), .val (.int v9), .val (.int (f7_0 ((f2_0 v1).2) ((f2_0 v1).1) wts_xs))] [(.int (v9 * (7 : Int32))), (.int (48 : Int32)), (.int (f7_0 ((f2_0 v1).2) ((f2_0 v1).1) wts_xs))])) _
    refine XS.bipush X3.here hx rfl (hb hby at_154) ?_
    exact k
  have hnz156 : ¬ ((10 : Int32) = (0 : Int32)) := by decide
  refine EndsIn.by (B := T3.setTop (mkF m 159 #[.val (.int v0), .val (.int v1), .val (.int v2), .val (.int v3), .val (.int v4), .val (.int v5), .val (.int v6), .val (.int v7), .val (.int v8), .val (.int v9), .val (.int (f7_0 ((f2_0 v1).2) ((f2_0 v1).1) wts_xs))] [(.int (((48 : Int32) + ((v9 * (7 : Int32)) % (10 : Int32))).toUInt32.toUInt16.toUInt32.toInt32)), (.int (f7_0 ((f2_0 v1).2) ((f2_0 v1).1) wts_xs))])) (fun t k => ?_) ?_
  · show Steps p.tables e below (T3.setTop (mkF m 156 #[.val (.int v0), .val (.int v1), .val (.int v2), .val (.int v3), .val (.int v4), .val (.int v5), .val (.int v6), .val (.int v7), .val (.int v8), .val (.int v9), .val (.int (f7_0 ((f2_0 v1).2) ((f2_0 v1).1) wts_xs))] [(.int (10 : Int32)), (.int (v9 * (7 : Int32))), (.int (48 : Int32)), (.int (f7_0 ((f2_0 v1).2) ((f2_0 v1).1) wts_xs))])) _
    refine iremM X3 hx rfl (hb hby at_156) rfl hnz156 ?_
    show Steps p.tables e below (T3.setTop (mkF m 157 #[.val (.int v0), .val (.int v1), .val (.int v2), .val (.int v3), .val (.int v4), .val (.int v5), .val (.int v6), .val (.int v7), .val (.int v8), .val (.int v9), .val (.int (f7_0 ((f2_0 v1).2) ((f2_0 v1).1) wts_xs))] [(.int ((v9 * (7 : Int32)) % (10 : Int32))), (.int (48 : Int32)), (.int (f7_0 ((f2_0 v1).2) ((f2_0 v1).1) wts_xs))])) _
    refine XS.iadd X3.here hx rfl (hb hby at_157) rfl ?_
    show Steps p.tables e below (T3.setTop (mkF m 158 #[.val (.int v0), .val (.int v1), .val (.int v2), .val (.int v3), .val (.int v4), .val (.int v5), .val (.int v6), .val (.int v7), .val (.int v8), .val (.int v9), .val (.int (f7_0 ((f2_0 v1).2) ((f2_0 v1).1) wts_xs))] [(.int ((48 : Int32) + ((v9 * (7 : Int32)) % (10 : Int32)))), (.int (f7_0 ((f2_0 v1).2) ((f2_0 v1).1) wts_xs))])) _
    refine XS.i2c X3.here hx rfl (hb hby at_158) rfl ?_
    exact k
  by_cases hc159 : (f7_0 ((f2_0 v1).2) ((f2_0 v1).1) wts_xs) = (((48 : Int32) + ((v9 * (7 : Int32)) % (10 : Int32))).toUInt32.toUInt16.toUInt32.toInt32)
  · rw [if_pos hc159] at hr
    refine EndsIn.by (B := T3.setTop (mkF m 162 #[.val (.int v0), .val (.int v1), .val (.int v2), .val (.int v3), .val (.int v4), .val (.int v5), .val (.int v6), .val (.int v7), .val (.int v8), .val (.int v9), .val (.int (f7_0 ((f2_0 v1).2) ((f2_0 v1).1) wts_xs))] [])) (fun t k => ?_) ?_
    · show Steps p.tables e below (T3.setTop (mkF m 159 #[.val (.int v0), .val (.int v1), .val (.int v2), .val (.int v3), .val (.int v4), .val (.int v5), .val (.int v6), .val (.int v7), .val (.int v8), .val (.int v9), .val (.int (f7_0 ((f2_0 v1).2) ((f2_0 v1).1) wts_xs))] [(.int (((48 : Int32) + ((v9 * (7 : Int32)) % (10 : Int32))).toUInt32.toUInt16.toUInt32.toInt32)), (.int (f7_0 ((f2_0 v1).2) ((f2_0 v1).1) wts_xs))])) _
      exact XS.icmpNo X3.here hx rfl (hb hby at_159) rfl (teq hc159).2 k
    refine EndsIn.by (B := T3.setTop (mkF m 167 #[.val (.int v0), .val (.int v1), .val (.int v2), .val (.int v3), .val (.int v4), .val (.int v5), .val (.int v6), .val (.int v7), .val (.int v8), .val (.int v9), .val (.int (f7_0 ((f2_0 v1).2) ((f2_0 v1).1) wts_xs))] [(.int (1 : Int32))])) (fun t k => ?_) ?_
    · show Steps p.tables e below (T3.setTop (mkF m 162 #[.val (.int v0), .val (.int v1), .val (.int v2), .val (.int v3), .val (.int v4), .val (.int v5), .val (.int v6), .val (.int v7), .val (.int v8), .val (.int v9), .val (.int (f7_0 ((f2_0 v1).2) ((f2_0 v1).1) wts_xs))] [])) _
      refine XS.iconst X3.here hx rfl (hb hby at_162) ?_
      show Steps p.tables e below (T3.setTop (mkF m 163 #[.val (.int v0), .val (.int v1), .val (.int v2), .val (.int v3), .val (.int v4), .val (.int v5), .val (.int v6), .val (.int v7), .val (.int v8), .val (.int v9), .val (.int (f7_0 ((f2_0 v1).2) ((f2_0 v1).1) wts_xs))] [(.int (1 : Int32))])) _
      refine XS.goto X3.here hx rfl (pc0 := 163) (pc' := 167) rfl (hb hby at_163) (by decide) (by decide) ?_
      exact k
    subst hr
    exact own_retN X3 hx hlk (t := .boolean) hret (by simp) (hb hby at_167) (by decide) (by decide) ⟨rfl, N3⟩
  · rw [if_neg hc159] at hr
    refine EndsIn.by (B := T3.setTop (mkF m 166 #[.val (.int v0), .val (.int v1), .val (.int v2), .val (.int v3), .val (.int v4), .val (.int v5), .val (.int v6), .val (.int v7), .val (.int v8), .val (.int v9), .val (.int (f7_0 ((f2_0 v1).2) ((f2_0 v1).1) wts_xs))] [])) (fun t k => ?_) ?_
    · show Steps p.tables e below (T3.setTop (mkF m 159 #[.val (.int v0), .val (.int v1), .val (.int v2), .val (.int v3), .val (.int v4), .val (.int v5), .val (.int v6), .val (.int v7), .val (.int v8), .val (.int v9), .val (.int (f7_0 ((f2_0 v1).2) ((f2_0 v1).1) wts_xs))] [(.int (((48 : Int32) + ((v9 * (7 : Int32)) % (10 : Int32))).toUInt32.toUInt16.toUInt32.toInt32)), (.int (f7_0 ((f2_0 v1).2) ((f2_0 v1).1) wts_xs))])) _
      exact XS.icmpYes X3.here hx rfl (pc0 := 159) (pc' := 166) rfl (hb hby at_159) rfl (feq hc159).2 (by decide) (by decide) k
    refine EndsIn.by (B := T3.setTop (mkF m 167 #[.val (.int v0), .val (.int v1), .val (.int v2), .val (.int v3), .val (.int v4), .val (.int v5), .val (.int v6), .val (.int v7), .val (.int v8), .val (.int v9), .val (.int (f7_0 ((f2_0 v1).2) ((f2_0 v1).1) wts_xs))] [(.int (0 : Int32))])) (fun t k => ?_) ?_
    · show Steps p.tables e below (T3.setTop (mkF m 166 #[.val (.int v0), .val (.int v1), .val (.int v2), .val (.int v3), .val (.int v4), .val (.int v5), .val (.int v6), .val (.int v7), .val (.int v8), .val (.int v9), .val (.int (f7_0 ((f2_0 v1).2) ((f2_0 v1).1) wts_xs))] [])) _
      refine XS.iconst X3.here hx rfl (hb hby at_166) ?_
      exact k
    subst hr
    exact own_retN X3 hx hlk (t := .boolean) hret (by simp) (hb hby at_167) (by decide) (by decide) ⟨rfl, N3⟩
def f0_91 (v0 : Int32) (v1 : Int32) (v2 : Int32) (v3 : Int32) (v4 : Int32) (v5 : Int32) (v6 : Int32) (v7 : Int32) (t0 : Int32) (wts_xs : List Int32) : Int32 := (if v2 = t0 then (if v2 = (0 : Int32) then (1 : Int32) else (if v5 = (0 : Int32) then (if v7 = (0 : Int32) then (f0_136 v0 v1 v2 v3 v4 v5 v6 v7 t0 (v4 + (10 : Int32)) wts_xs) else (f0_136 v0 v1 v2 v3 v4 v5 v6 v7 t0 (0 : Int32) wts_xs)) else (f0_136 v0 v1 v2 v3 v4 v5 v6 v7 t0 v3 wts_xs))) else (0 : Int32))
set_option maxRecDepth 65536 in
set_option maxHeartbeats 40000000 in
theorem b0_91 {p : Program} {l : Launch} {e : Env} {s : State} {m : MethodId} {args : Array Value} {below : List Frame} {meth : Method} {c : Code} {Z : State} {a0 : Array Value} (B : Ctx p Z s a0 m meth c "com/example/pure_mrtd/puremrtd/format/CheckDigitIsMrzCharacterPinLaw" "law" code 11 (some .boolean)) {T0 : State} {locs : List Loc} {h : Heap} (h0 : Heap) (n0 : Nat) (v0 : Int32) (v1 : Int32) (v2 : Int32) (v3 : Int32) (v4 : Int32) (v5 : Int32) (v6 : Int32) (v7 : Int32) (t0 : Int32) (wts : Addr) (wts_k : ClassId) (wts_xs : List Int32) (cs : Int32) (sf : Value) (X0 : Stand p l e room_1 s m args below meth c T0 locs 0 0) (e0 : T0.heap = h) (N0 : Fr n0 locs) (Z0 : n0 ≤ h.size) (V_wts : Arv Z h wts wts_k .int (3 : Int32) (wts_xs.map Value.int) (.int 0)) (ln_wts : wts_xs.length = (3 : Int32).toNatClampNeg) (O : Old Z n0 h) (S_cs : Sta Z Z.heap "java/lang/String" "COMPACT_STRINGS" "Z" (.int cs)) (P5 : ¬ (cs = (0 : Int32))) (S_f : Sta Z Z.heap "jdk/internal/util/Preconditions" "SIOOBE_FORMATTER" "Ljava/util/function/BiFunction;" sf) (h_sf : sf.isRef = true) (S_w : Sta Z Z.heap "com/example/pure_mrtd/puremrtd/format/CheckDigit" "WEIGHTS" "[I" (.ref wts)) (iv : v2 = f1_0 v1) (r : Int32) (hr : f0_91 v0 v1 v2 v3 v4 v5 v6 v7 t0 wts_xs = r) :
    EndsIn p e below s 2 5 (Q0 n0 r) (T0.setTop (mkF m 91 #[.val (.int v0), .val (.int v1), .val (.int v2), .val (.int v3), .val (.int v4), .val (.int v5), .val (.int v6), .val (.int v7), .unset, .unset, .unset] [(.int t0)])) := by
  obtain ⟨hx, hZ, hw, hby, hml, hret, hown, hnm, hlk⟩ := B
  unfold f0_91 at hr
  refine EndsIn.by (B := T0.setTop (mkF m 96 #[.val (.int v0), .val (.int v1), .val (.int v2), .val (.int v3), .val (.int v4), .val (.int v5), .val (.int v6), .val (.int v7), .val (.int t0), .unset, .unset] [(.int t0), (.int v2)])) (fun t k => ?_) ?_
  · show Steps p.tables e below (T0.setTop (mkF m 91 #[.val (.int v0), .val (.int v1), .val (.int v2), .val (.int v3), .val (.int v4), .val (.int v5), .val (.int v6), .val (.int v7), .unset, .unset, .unset] [(.int t0)])) _
    refine XS.istore X0.here hx rfl (hb hby at_91) rfl (l' := #[.val (.int v0), .val (.int v1), .val (.int v2), .val (.int v3), .val (.int v4), .val (.int v5), .val (.int v6), .val (.int v7), .val (.int t0), .unset, .unset]) rfl ?_
    show Steps p.tables e below (T0.setTop (mkF m 93 #[.val (.int v0), .val (.int v1), .val (.int v2), .val (.int v3), .val (.int v4), .val (.int v5), .val (.int v6), .val (.int v7), .val (.int t0), .unset, .unset] [])) _
    refine XS.iloadN X0.here hx rfl (hb hby at_93) rfl  ?_
    show Steps p.tables e below (T0.setTop (mkF m 94 #[.val (.int v0), .val (.int v1), .val (.int v2), .val (.int v3), .val (.int v4), .val (.int v5), .val (.int v6), .val (.int v7), .val (.int t0), .unset, .unset] [(.int v2)])) _
    refine XS.iload X0.here hx rfl (hb hby at_94) rfl  ?_
    exact k
  by_cases hc96 : v2 = t0
  · rw [if_pos hc96] at hr
    refine EndsIn.by (B := T0.setTop (mkF m 101 #[.val (.int v0), .val (.int v1), .val (.int v2), .val (.int v3), .val (.int v4), .val (.int v5), .val (.int v6), .val (.int v7), .val (.int t0), .unset, .unset] [])) (fun t k => ?_) ?_
    · show Steps p.tables e below (T0.setTop (mkF m 96 #[.val (.int v0), .val (.int v1), .val (.int v2), .val (.int v3), .val (.int v4), .val (.int v5), .val (.int v6), .val (.int v7), .val (.int t0), .unset, .unset] [(.int t0), (.int v2)])) _
      exact XS.icmpYes X0.here hx rfl (pc0 := 96) (pc' := 101) rfl (hb hby at_96) rfl (teq hc96).1 (by decide) (by decide) k
    refine EndsIn.by (B := T0.setTop (mkF m 102 #[.val (.int v0), .val (.int v1), .val (.int v2), .val (.int v3), .val (.int v4), .val (.int v5), .val (.int v6), .val (.int v7), .val (.int t0), .unset, .unset] [(.int v2)])) (fun t k => ?_) ?_
    · show Steps p.tables e below (T0.setTop (mkF m 101 #[.val (.int v0), .val (.int v1), .val (.int v2), .val (.int v3), .val (.int v4), .val (.int v5), .val (.int v6), .val (.int v7), .val (.int t0), .unset, .unset] [])) _
      refine XS.iloadN X0.here hx rfl (hb hby at_101) rfl  ?_
      exact k
    by_cases hc102 : v2 = (0 : Int32)
    · rw [if_pos hc102] at hr
      refine EndsIn.by (B := T0.setTop (mkF m 105 #[.val (.int v0), .val (.int v1), .val (.int v2), .val (.int v3), .val (.int v4), .val (.int v5), .val (.int v6), .val (.int v7), .val (.int t0), .unset, .unset] [])) (fun t k => ?_) ?_
      · show Steps p.tables e below (T0.setTop (mkF m 102 #[.val (.int v0), .val (.int v1), .val (.int v2), .val (.int v3), .val (.int v4), .val (.int v5), .val (.int v6), .val (.int v7), .val (.int t0), .unset, .unset] [(.int v2)])) _
        exact XS.ifNo X0.here hx rfl (hb hby at_102) rfl ((if0 _ _).trans (teq hc102).2) k
      refine EndsIn.by (B := T0.setTop (mkF m 106 #[.val (.int v0), .val (.int v1), .val (.int v2), .val (.int v3), .val (.int v4), .val (.int v5), .val (.int v6), .val (.int v7), .val (.int t0), .unset, .unset] [(.int (1 : Int32))])) (fun t k => ?_) ?_
      · show Steps p.tables e below (T0.setTop (mkF m 105 #[.val (.int v0), .val (.int v1), .val (.int v2), .val (.int v3), .val (.int v4), .val (.int v5), .val (.int v6), .val (.int v7), .val (.int t0), .unset, .unset] [])) _
        refine XS.iconst X0.here hx rfl (hb hby at_105) ?_
        exact k
      subst hr
      exact own_retN X0 hx hlk (t := .boolean) hret (by simp) (hb hby at_106) (by decide) (by decide) ⟨rfl, N0⟩
    · rw [if_neg hc102] at hr
      refine EndsIn.by (B := T0.setTop (mkF m 107 #[.val (.int v0), .val (.int v1), .val (.int v2), .val (.int v3), .val (.int v4), .val (.int v5), .val (.int v6), .val (.int v7), .val (.int t0), .unset, .unset] [])) (fun t k => ?_) ?_
      · show Steps p.tables e below (T0.setTop (mkF m 102 #[.val (.int v0), .val (.int v1), .val (.int v2), .val (.int v3), .val (.int v4), .val (.int v5), .val (.int v6), .val (.int v7), .val (.int t0), .unset, .unset] [(.int v2)])) _
        exact XS.ifYes X0.here hx rfl (pc0 := 102) (pc' := 107) rfl (hb hby at_102) rfl ((if0 _ _).trans (feq hc102).2) (by decide) (by decide) k
      refine EndsIn.by (B := T0.setTop (mkF m 109 #[.val (.int v0), .val (.int v1), .val (.int v2), .val (.int v3), .val (.int v4), .val (.int v5), .val (.int v6), .val (.int v7), .val (.int t0), .unset, .unset] [(.int v5)])) (fun t k => ?_) ?_
      · show Steps p.tables e below (T0.setTop (mkF m 107 #[.val (.int v0), .val (.int v1), .val (.int v2), .val (.int v3), .val (.int v4), .val (.int v5), .val (.int v6), .val (.int v7), .val (.int t0), .unset, .unset] [])) _
        refine XS.iload X0.here hx rfl (hb hby at_107) rfl  ?_
        exact k
      by_cases hc109 : v5 = (0 : Int32)
      · rw [if_pos hc109] at hr
        refine EndsIn.by (B := T0.setTop (mkF m 118 #[.val (.int v0), .val (.int v1), .val (.int v2), .val (.int v3), .val (.int v4), .val (.int v5), .val (.int v6), .val (.int v7), .val (.int t0), .unset, .unset] [])) (fun t k => ?_) ?_
        · show Steps p.tables e below (T0.setTop (mkF m 109 #[.val (.int v0), .val (.int v1), .val (.int v2), .val (.int v3), .val (.int v4), .val (.int v5), .val (.int v6), .val (.int v7), .val (.int t0), .unset, .unset] [(.int v5)])) _
          exact XS.ifYes X0.here hx rfl (pc0 := 109) (pc' := 118) rfl (hb hby at_109) rfl ((if0 _ _).trans (teq hc109).1) (by decide) (by decide) k
        refine EndsIn.by (B := T0.setTop (mkF m 120 #[.val (.int v0), .val (.int v1), .val (.int v2), .val (.int v3), .val (.int v4), .val (.int v5), .val (.int v6), .val (.int v7), .val (.int t0), .unset, .unset] [(.int v7)])) (fun t k => ?_) ?_
        · show Steps p.tables e below (T0.setTop (mkF m 118 #[.val (.int v0), .val (.int v1), .val (.int v2), .val (.int v3), .val (.int v4), .val (.int v5), .val (.int v6), .val (.int v7), .val (.int t0), .unset, .unset] [])) _
          refine XS.iload X0.here hx rfl (hb hby at_118) rfl  ?_
          exact k
        by_cases hc120 : v7 = (0 : Int32)
        · rw [if_pos hc120] at hr
          refine EndsIn.by (B := T0.setTop (mkF m 129 #[.val (.int v0), .val (.int v1), .val (.int v2), .val (.int v3), .val (.int v4), .val (.int v5), .val (.int v6), .val (.int v7), .val (.int t0), .unset, .unset] [])) (fun t k => ?_) ?_
          · show Steps p.tables e below (T0.setTop (mkF m 120 #[.val (.int v0), .val (.int v1), .val (.int v2), .val (.int v3), .val (.int v4), .val (.int v5), .val (.int v6), .val (.int v7), .val (.int t0), .unset, .unset] [(.int v7)])) _
            exact XS.ifYes X0.here hx rfl (pc0 := 120) (pc' := 129) rfl (hb hby at_120) rfl ((if0 _ _).trans (teq hc120).1) (by decide) (by decide) k
          refine EndsIn.by (B := T0.setTop (mkF m 136 #[.val (.int v0), .val (.int v1), .val (.int v2), .val (.int v3), .val (.int v4), .val (.int v5), .val (.int v6), .val (.int v7), .val (.int t0), .val (.int (v4 + (10 : Int32))), .unset] [])) (fun t k => ?_) ?_
          · show Steps p.tables e below (T0.setTop (mkF m 129 #[.val (.int v0), .val (.int v1), .val (.int v2), .val (.int v3), .val (.int v4), .val (.int v5), .val (.int v6), .val (.int v7), .val (.int t0), .unset, .unset] [])) _
            refine XS.iload X0.here hx rfl (hb hby at_129) rfl  ?_
            show Steps p.tables e below (T0.setTop (mkF m 131 #[.val (.int v0), .val (.int v1), .val (.int v2), .val (.int v3), .val (.int v4), .val (.int v5), .val (.int v6), .val (.int v7), .val (.int t0), .unset, .unset] [(.int v4)])) _
            refine XS.bipush X0.here hx rfl (hb hby at_131) ?_
            show Steps p.tables e below (T0.setTop (mkF m 133 #[.val (.int v0), .val (.int v1), .val (.int v2), .val (.int v3), .val (.int v4), .val (.int v5), .val (.int v6), .val (.int v7), .val (.int t0), .unset, .unset] [(.int (10 : Int32)), (.int v4)])) _
            refine XS.iadd X0.here hx rfl (hb hby at_133) rfl ?_
            show Steps p.tables e below (T0.setTop (mkF m 134 #[.val (.int v0), .val (.int v1), .val (.int v2), .val (.int v3), .val (.int v4), .val (.int v5), .val (.int v6), .val (.int v7), .val (.int t0), .unset, .unset] [(.int (v4 + (10 : Int32)))])) _
            refine XS.istore X0.here hx rfl (hb hby at_134) rfl (l' := #[.val (.int v0), .val (.int v1), .val (.int v2), .val (.int v3), .val (.int v4), .val (.int v5), .val (.int v6), .val (.int v7), .val (.int t0), .val (.int (v4 + (10 : Int32))), .unset]) rfl ?_
            exact k
          have im_j : ¬ (f1_0 v1 = (0 : Int32)) := by rw [← iv]; exact hc102
          exact b0_136 ⟨hx, hZ, hw, hby, hml, hret, hown, hnm, hlk⟩ h0 n0 v0 v1 v2 v3 v4 v5 v6 v7 t0 (v4 + (10 : Int32)) wts wts_k wts_xs cs sf X0 e0 N0 Z0 V_wts ln_wts O S_cs P5 S_f h_sf S_w im_j _ hr
        · rw [if_neg hc120] at hr
          refine EndsIn.by (B := T0.setTop (mkF m 123 #[.val (.int v0), .val (.int v1), .val (.int v2), .val (.int v3), .val (.int v4), .val (.int v5), .val (.int v6), .val (.int v7), .val (.int t0), .unset, .unset] [])) (fun t k => ?_) ?_
          · show Steps p.tables e below (T0.setTop (mkF m 120 #[.val (.int v0), .val (.int v1), .val (.int v2), .val (.int v3), .val (.int v4), .val (.int v5), .val (.int v6), .val (.int v7), .val (.int t0), .unset, .unset] [(.int v7)])) _
            exact XS.ifNo X0.here hx rfl (hb hby at_120) rfl ((if0 _ _).trans (feq hc120).1) k
          refine EndsIn.by (B := T0.setTop (mkF m 136 #[.val (.int v0), .val (.int v1), .val (.int v2), .val (.int v3), .val (.int v4), .val (.int v5), .val (.int v6), .val (.int v7), .val (.int t0), .val (.int (0 : Int32)), .unset] [])) (fun t k => ?_) ?_
          · show Steps p.tables e below (T0.setTop (mkF m 123 #[.val (.int v0), .val (.int v1), .val (.int v2), .val (.int v3), .val (.int v4), .val (.int v5), .val (.int v6), .val (.int v7), .val (.int t0), .unset, .unset] [])) _
            refine XS.iconst X0.here hx rfl (hb hby at_123) ?_
            show Steps p.tables e below (T0.setTop (mkF m 124 #[.val (.int v0), .val (.int v1), .val (.int v2), .val (.int v3), .val (.int v4), .val (.int v5), .val (.int v6), .val (.int v7), .val (.int t0), .unset, .unset] [(.int (0 : Int32))])) _
            refine XS.istore X0.here hx rfl (hb hby at_124) rfl (l' := #[.val (.int v0), .val (.int v1), .val (.int v2), .val (.int v3), .val (.int v4), .val (.int v5), .val (.int v6), .val (.int v7), .val (.int t0), .val (.int (0 : Int32)), .unset]) rfl ?_
            show Steps p.tables e below (T0.setTop (mkF m 126 #[.val (.int v0), .val (.int v1), .val (.int v2), .val (.int v3), .val (.int v4), .val (.int v5), .val (.int v6), .val (.int v7), .val (.int t0), .val (.int (0 : Int32)), .unset] [])) _
            refine XS.goto X0.here hx rfl (pc0 := 126) (pc' := 136) rfl (hb hby at_126) (by decide) (by decide) ?_
            exact k
          have im_j : ¬ (f1_0 v1 = (0 : Int32)) := by rw [← iv]; exact hc102
          exact b0_136 ⟨hx, hZ, hw, hby, hml, hret, hown, hnm, hlk⟩ h0 n0 v0 v1 v2 v3 v4 v5 v6 v7 t0 (0 : Int32) wts wts_k wts_xs cs sf X0 e0 N0 Z0 V_wts ln_wts O S_cs P5 S_f h_sf S_w im_j _ hr
      · rw [if_neg hc109] at hr
        refine EndsIn.by (B := T0.setTop (mkF m 112 #[.val (.int v0), .val (.int v1), .val (.int v2), .val (.int v3), .val (.int v4), .val (.int v5), .val (.int v6), .val (.int v7), .val (.int t0), .unset, .unset] [])) (fun t k => ?_) ?_
        · show Steps p.tables e below (T0.setTop (mkF m 109 #[.val (.int v0), .val (.int v1), .val (.int v2), .val (.int v3), .val (.int v4), .val (.int v5), .val (.int v6), .val (.int v7), .val (.int t0), .unset, .unset] [(.int v5)])) _
          exact XS.ifNo X0.here hx rfl (hb hby at_109) rfl ((if0 _ _).trans (feq hc109).1) k
        refine EndsIn.by (B := T0.setTop (mkF m 136 #[.val (.int v0), .val (.int v1), .val (.int v2), .val (.int v3), .val (.int v4), .val (.int v5), .val (.int v6), .val (.int v7), .val (.int t0), .val (.int v3), .unset] [])) (fun t k => ?_) ?_
        · show Steps p.tables e below (T0.setTop (mkF m 112 #[.val (.int v0), .val (.int v1), .val (.int v2), .val (.int v3), .val (.int v4), .val (.int v5), .val (.int v6), .val (.int v7), .val (.int t0), .unset, .unset] [])) _
          refine XS.iloadN X0.here hx rfl (hb hby at_112) rfl  ?_
          show Steps p.tables e below (T0.setTop (mkF m 113 #[.val (.int v0), .val (.int v1), .val (.int v2), .val (.int v3), .val (.int v4), .val (.int v5), .val (.int v6), .val (.int v7), .val (.int t0), .unset, .unset] [(.int v3)])) _
          refine XS.istore X0.here hx rfl (hb hby at_113) rfl (l' := #[.val (.int v0), .val (.int v1), .val (.int v2), .val (.int v3), .val (.int v4), .val (.int v5), .val (.int v6), .val (.int v7), .val (.int t0), .val (.int v3), .unset]) rfl ?_
          show Steps p.tables e below (T0.setTop (mkF m 115 #[.val (.int v0), .val (.int v1), .val (.int v2), .val (.int v3), .val (.int v4), .val (.int v5), .val (.int v6), .val (.int v7), .val (.int t0), .val (.int v3), .unset] [])) _
          refine XS.goto X0.here hx rfl (pc0 := 115) (pc' := 136) rfl (hb hby at_115) (by decide) (by decide) ?_
          exact k
        have im_j : ¬ (f1_0 v1 = (0 : Int32)) := by rw [← iv]; exact hc102
        exact b0_136 ⟨hx, hZ, hw, hby, hml, hret, hown, hnm, hlk⟩ h0 n0 v0 v1 v2 v3 v4 v5 v6 v7 t0 v3 wts wts_k wts_xs cs sf X0 e0 N0 Z0 V_wts ln_wts O S_cs P5 S_f h_sf S_w im_j _ hr
  · rw [if_neg hc96] at hr
    refine EndsIn.by (B := T0.setTop (mkF m 99 #[.val (.int v0), .val (.int v1), .val (.int v2), .val (.int v3), .val (.int v4), .val (.int v5), .val (.int v6), .val (.int v7), .val (.int t0), .unset, .unset] [])) (fun t k => ?_) ?_
    · show Steps p.tables e below (T0.setTop (mkF m 96 #[.val (.int v0), .val (.int v1), .val (.int v2), .val (.int v3), .val (.int v4), .val (.int v5), .val (.int v6), .val (.int v7), .val (.int t0), .unset, .unset] [(.int t0), (.int v2)])) _
      exact XS.icmpNo X0.here hx rfl (hb hby at_96) rfl (feq hc96).1 k
    refine EndsIn.by (B := T0.setTop (mkF m 100 #[.val (.int v0), .val (.int v1), .val (.int v2), .val (.int v3), .val (.int v4), .val (.int v5), .val (.int v6), .val (.int v7), .val (.int t0), .unset, .unset] [(.int (0 : Int32))])) (fun t k => ?_) ?_
    · show Steps p.tables e below (T0.setTop (mkF m 99 #[.val (.int v0), .val (.int v1), .val (.int v2), .val (.int v3), .val (.int v4), .val (.int v5), .val (.int v6), .val (.int v7), .val (.int t0), .unset, .unset] [])) _
      refine XS.iconst X0.here hx rfl (hb hby at_99) ?_
      exact k
    subst hr
    exact own_retN X0 hx hlk (t := .boolean) hret (by simp) (hb hby at_100) (by decide) (by decide) ⟨rfl, N0⟩
def f0_86 (v0 : Int32) (v1 : Int32) (v2 : Int32) (v3 : Int32) (v4 : Int32) (v5 : Int32) (v6 : Int32) (v7 : Int32) (wts_xs : List Int32) : Int32 := (f0_91 v0 v1 v2 v3 v4 v5 v6 v7 (1 : Int32) wts_xs)
set_option maxRecDepth 65536 in
set_option maxHeartbeats 40000000 in
theorem b0_86 {p : Program} {l : Launch} {e : Env} {s : State} {m : MethodId} {args : Array Value} {below : List Frame} {meth : Method} {c : Code} {Z : State} {a0 : Array Value} (B : Ctx p Z s a0 m meth c "com/example/pure_mrtd/puremrtd/format/CheckDigitIsMrzCharacterPinLaw" "law" code 11 (some .boolean)) {T0 : State} {locs : List Loc} {h : Heap} (h0 : Heap) (n0 : Nat) (v0 : Int32) (v1 : Int32) (v2 : Int32) (v3 : Int32) (v4 : Int32) (v5 : Int32) (v6 : Int32) (v7 : Int32) (wts : Addr) (wts_k : ClassId) (wts_xs : List Int32) (cs : Int32) (sf : Value) (X0 : Stand p l e room_1 s m args below meth c T0 locs 0 0) (e0 : T0.heap = h) (N0 : Fr n0 locs) (Z0 : n0 ≤ h.size) (V_wts : Arv Z h wts wts_k .int (3 : Int32) (wts_xs.map Value.int) (.int 0)) (ln_wts : wts_xs.length = (3 : Int32).toNatClampNeg) (O : Old Z n0 h) (S_cs : Sta Z Z.heap "java/lang/String" "COMPACT_STRINGS" "Z" (.int cs)) (P5 : ¬ (cs = (0 : Int32))) (S_f : Sta Z Z.heap "jdk/internal/util/Preconditions" "SIOOBE_FORMATTER" "Ljava/util/function/BiFunction;" sf) (h_sf : sf.isRef = true) (S_w : Sta Z Z.heap "com/example/pure_mrtd/puremrtd/format/CheckDigit" "WEIGHTS" "[I" (.ref wts)) (iv : v2 = f1_0 v1) (r : Int32) (hr : f0_86 v0 v1 v2 v3 v4 v5 v6 v7 wts_xs = r) :
    EndsIn p e below s 2 5 (Q0 n0 r) (T0.setTop (mkF m 86 #[.val (.int v0), .val (.int v1), .val (.int v2), .val (.int v3), .val (.int v4), .val (.int v5), .val (.int v6), .val (.int v7), .unset, .unset, .unset] [])) := by
  obtain ⟨hx, hZ, hw, hby, hml, hret, hown, hnm, hlk⟩ := B
  unfold f0_86 at hr
  refine EndsIn.by (B := T0.setTop (mkF m 91 #[.val (.int v0), .val (.int v1), .val (.int v2), .val (.int v3), .val (.int v4), .val (.int v5), .val (.int v6), .val (.int v7), .unset, .unset, .unset] [(.int (1 : Int32))])) (fun t k => ?_) ?_
  · show Steps p.tables e below (T0.setTop (mkF m 86 #[.val (.int v0), .val (.int v1), .val (.int v2), .val (.int v3), .val (.int v4), .val (.int v5), .val (.int v6), .val (.int v7), .unset, .unset, .unset] [])) _
    refine XS.iconst X0.here hx rfl (hb hby at_86) ?_
    show Steps p.tables e below (T0.setTop (mkF m 87 #[.val (.int v0), .val (.int v1), .val (.int v2), .val (.int v3), .val (.int v4), .val (.int v5), .val (.int v6), .val (.int v7), .unset, .unset, .unset] [(.int (1 : Int32))])) _
    refine XS.goto X0.here hx rfl (pc0 := 87) (pc' := 91) rfl (hb hby at_87) (by decide) (by decide) ?_
    exact k
  have iv_j : v2 = f1_0 v1 := by first | assumption | rfl
  exact b0_91 ⟨hx, hZ, hw, hby, hml, hret, hown, hnm, hlk⟩ h0 n0 v0 v1 v2 v3 v4 v5 v6 v7 (1 : Int32) wts wts_k wts_xs cs sf X0 e0 N0 Z0 V_wts ln_wts O S_cs P5 S_f h_sf S_w iv_j _ hr
def f0_69 (v0 : Int32) (v1 : Int32) (v2 : Int32) (v3 : Int32) (v4 : Int32) (v5 : Int32) (v6 : Int32) (t0 : Int32) (wts_xs : List Int32) : Int32 := (if v5 = (0 : Int32) then (if v6 = (0 : Int32) then (if t0 = (0 : Int32) then (f0_91 v0 v1 v2 v3 v4 v5 v6 t0 (0 : Int32) wts_xs) else (f0_86 v0 v1 v2 v3 v4 v5 v6 t0 wts_xs)) else (f0_86 v0 v1 v2 v3 v4 v5 v6 t0 wts_xs)) else (f0_86 v0 v1 v2 v3 v4 v5 v6 t0 wts_xs))
set_option maxRecDepth 65536 in
set_option maxHeartbeats 40000000 in
theorem b0_69 {p : Program} {l : Launch} {e : Env} {s : State} {m : MethodId} {args : Array Value} {below : List Frame} {meth : Method} {c : Code} {Z : State} {a0 : Array Value} (B : Ctx p Z s a0 m meth c "com/example/pure_mrtd/puremrtd/format/CheckDigitIsMrzCharacterPinLaw" "law" code 11 (some .boolean)) {T0 : State} {locs : List Loc} {h : Heap} (h0 : Heap) (n0 : Nat) (v0 : Int32) (v1 : Int32) (v2 : Int32) (v3 : Int32) (v4 : Int32) (v5 : Int32) (v6 : Int32) (t0 : Int32) (wts : Addr) (wts_k : ClassId) (wts_xs : List Int32) (cs : Int32) (sf : Value) (X0 : Stand p l e room_1 s m args below meth c T0 locs 0 0) (e0 : T0.heap = h) (N0 : Fr n0 locs) (Z0 : n0 ≤ h.size) (V_wts : Arv Z h wts wts_k .int (3 : Int32) (wts_xs.map Value.int) (.int 0)) (ln_wts : wts_xs.length = (3 : Int32).toNatClampNeg) (O : Old Z n0 h) (S_cs : Sta Z Z.heap "java/lang/String" "COMPACT_STRINGS" "Z" (.int cs)) (P5 : ¬ (cs = (0 : Int32))) (S_f : Sta Z Z.heap "jdk/internal/util/Preconditions" "SIOOBE_FORMATTER" "Ljava/util/function/BiFunction;" sf) (h_sf : sf.isRef = true) (S_w : Sta Z Z.heap "com/example/pure_mrtd/puremrtd/format/CheckDigit" "WEIGHTS" "[I" (.ref wts)) (iv : v2 = f1_0 v1) (r : Int32) (hr : f0_69 v0 v1 v2 v3 v4 v5 v6 t0 wts_xs = r) :
    EndsIn p e below s 2 5 (Q0 n0 r) (T0.setTop (mkF m 69 #[.val (.int v0), .val (.int v1), .val (.int v2), .val (.int v3), .val (.int v4), .val (.int v5), .val (.int v6), .unset, .unset, .unset, .unset] [(.int t0)])) := by
  obtain ⟨hx, hZ, hw, hby, hml, hret, hown, hnm, hlk⟩ := B
  unfold f0_69 at hr
  refine EndsIn.by (B := T0.setTop (mkF m 73 #[.val (.int v0), .val (.int v1), .val (.int v2), .val (.int v3), .val (.int v4), .val (.int v5), .val (.int v6), .val (.int t0), .unset, .unset, .unset] [(.int v5)])) (fun t k => ?_) ?_
  · show Steps p.tables e below (T0.setTop (mkF m 69 #[.val (.int v0), .val (.int v1), .val (.int v2), .val (.int v3), .val (.int v4), .val (.int v5), .val (.int v6), .unset, .unset, .unset, .unset] [(.int t0)])) _
    refine XS.istore X0.here hx rfl (hb hby at_69) rfl (l' := #[.val (.int v0), .val (.int v1), .val (.int v2), .val (.int v3), .val (.int v4), .val (.int v5), .val (.int v6), .val (.int t0), .unset, .unset, .unset]) rfl ?_
    show Steps p.tables e below (T0.setTop (mkF m 71 #[.val (.int v0), .val (.int v1), .val (.int v2), .val (.int v3), .val (.int v4), .val (.int v5), .val (.int v6), .val (.int t0), .unset, .unset, .unset] [])) _
    refine XS.iload X0.here hx rfl (hb hby at_71) rfl  ?_
    exact k
  by_cases hc73 : v5 = (0 : Int32)
  · rw [if_pos hc73] at hr
    refine EndsIn.by (B := T0.setTop (mkF m 76 #[.val (.int v0), .val (.int v1), .val (.int v2), .val (.int v3), .val (.int v4), .val (.int v5), .val (.int v6), .val (.int t0), .unset, .unset, .unset] [])) (fun t k => ?_) ?_
    · show Steps p.tables e below (T0.setTop (mkF m 73 #[.val (.int v0), .val (.int v1), .val (.int v2), .val (.int v3), .val (.int v4), .val (.int v5), .val (.int v6), .val (.int t0), .unset, .unset, .unset] [(.int v5)])) _
      exact XS.ifNo X0.here hx rfl (hb hby at_73) rfl ((if0 _ _).trans (teq hc73).2) k
    refine EndsIn.by (B := T0.setTop (mkF m 78 #[.val (.int v0), .val (.int v1), .val (.int v2), .val (.int v3), .val (.int v4), .val (.int v5), .val (.int v6), .val (.int t0), .unset, .unset, .unset] [(.int v6)])) (fun t k => ?_) ?_
    · show Steps p.tables e below (T0.setTop (mkF m 76 #[.val (.int v0), .val (.int v1), .val (.int v2), .val (.int v3), .val (.int v4), .val (.int v5), .val (.int v6), .val (.int t0), .unset, .unset, .unset] [])) _
      refine XS.iload X0.here hx rfl (hb hby at_76) rfl  ?_
      exact k
    by_cases hc78 : v6 = (0 : Int32)
    · rw [if_pos hc78] at hr
      refine EndsIn.by (B := T0.setTop (mkF m 81 #[.val (.int v0), .val (.int v1), .val (.int v2), .val (.int v3), .val (.int v4), .val (.int v5), .val (.int v6), .val (.int t0), .unset, .unset, .unset] [])) (fun t k => ?_) ?_
      · show Steps p.tables e below (T0.setTop (mkF m 78 #[.val (.int v0), .val (.int v1), .val (.int v2), .val (.int v3), .val (.int v4), .val (.int v5), .val (.int v6), .val (.int t0), .unset, .unset, .unset] [(.int v6)])) _
        exact XS.ifNo X0.here hx rfl (hb hby at_78) rfl ((if0 _ _).trans (teq hc78).2) k
      refine EndsIn.by (B := T0.setTop (mkF m 83 #[.val (.int v0), .val (.int v1), .val (.int v2), .val (.int v3), .val (.int v4), .val (.int v5), .val (.int v6), .val (.int t0), .unset, .unset, .unset] [(.int t0)])) (fun t k => ?_) ?_
      · show Steps p.tables e below (T0.setTop (mkF m 81 #[.val (.int v0), .val (.int v1), .val (.int v2), .val (.int v3), .val (.int v4), .val (.int v5), .val (.int v6), .val (.int t0), .unset, .unset, .unset] [])) _
        refine XS.iload X0.here hx rfl (hb hby at_81) rfl  ?_
        exact k
      by_cases hc83 : t0 = (0 : Int32)
      · rw [if_pos hc83] at hr
        refine EndsIn.by (B := T0.setTop (mkF m 90 #[.val (.int v0), .val (.int v1), .val (.int v2), .val (.int v3), .val (.int v4), .val (.int v5), .val (.int v6), .val (.int t0), .unset, .unset, .unset] [])) (fun t k => ?_) ?_
        · show Steps p.tables e below (T0.setTop (mkF m 83 #[.val (.int v0), .val (.int v1), .val (.int v2), .val (.int v3), .val (.int v4), .val (.int v5), .val (.int v6), .val (.int t0), .unset, .unset, .unset] [(.int t0)])) _
          exact XS.ifYes X0.here hx rfl (pc0 := 83) (pc' := 90) rfl (hb hby at_83) rfl ((if0 _ _).trans (teq hc83).1) (by decide) (by decide) k
        refine EndsIn.by (B := T0.setTop (mkF m 91 #[.val (.int v0), .val (.int v1), .val (.int v2), .val (.int v3), .val (.int v4), .val (.int v5), .val (.int v6), .val (.int t0), .unset, .unset, .unset] [(.int (0 : Int32))])) (fun t k => ?_) ?_
        · show Steps p.tables e below (T0.setTop (mkF m 90 #[.val (.int v0), .val (.int v1), .val (.int v2), .val (.int v3), .val (.int v4), .val (.int v5), .val (.int v6), .val (.int t0), .unset, .unset, .unset] [])) _
          refine XS.iconst X0.here hx rfl (hb hby at_90) ?_
          exact k
        have iv_j : v2 = f1_0 v1 := by first | assumption | rfl
        exact b0_91 ⟨hx, hZ, hw, hby, hml, hret, hown, hnm, hlk⟩ h0 n0 v0 v1 v2 v3 v4 v5 v6 t0 (0 : Int32) wts wts_k wts_xs cs sf X0 e0 N0 Z0 V_wts ln_wts O S_cs P5 S_f h_sf S_w iv_j _ hr
      · rw [if_neg hc83] at hr
        refine EndsIn.by (B := T0.setTop (mkF m 86 #[.val (.int v0), .val (.int v1), .val (.int v2), .val (.int v3), .val (.int v4), .val (.int v5), .val (.int v6), .val (.int t0), .unset, .unset, .unset] [])) (fun t k => ?_) ?_
        · show Steps p.tables e below (T0.setTop (mkF m 83 #[.val (.int v0), .val (.int v1), .val (.int v2), .val (.int v3), .val (.int v4), .val (.int v5), .val (.int v6), .val (.int t0), .unset, .unset, .unset] [(.int t0)])) _
          exact XS.ifNo X0.here hx rfl (hb hby at_83) rfl ((if0 _ _).trans (feq hc83).1) k
        have iv_j : v2 = f1_0 v1 := by first | assumption | rfl
        exact b0_86 ⟨hx, hZ, hw, hby, hml, hret, hown, hnm, hlk⟩ h0 n0 v0 v1 v2 v3 v4 v5 v6 t0 wts wts_k wts_xs cs sf X0 e0 N0 Z0 V_wts ln_wts O S_cs P5 S_f h_sf S_w iv_j _ hr
    · rw [if_neg hc78] at hr
      refine EndsIn.by (B := T0.setTop (mkF m 86 #[.val (.int v0), .val (.int v1), .val (.int v2), .val (.int v3), .val (.int v4), .val (.int v5), .val (.int v6), .val (.int t0), .unset, .unset, .unset] [])) (fun t k => ?_) ?_
      · show Steps p.tables e below (T0.setTop (mkF m 78 #[.val (.int v0), .val (.int v1), .val (.int v2), .val (.int v3), .val (.int v4), .val (.int v5), .val (.int v6), .val (.int t0), .unset, .unset, .unset] [(.int v6)])) _
        exact XS.ifYes X0.here hx rfl (pc0 := 78) (pc' := 86) rfl (hb hby at_78) rfl ((if0 _ _).trans (feq hc78).2) (by decide) (by decide) k
      have iv_j : v2 = f1_0 v1 := by first | assumption | rfl
      exact b0_86 ⟨hx, hZ, hw, hby, hml, hret, hown, hnm, hlk⟩ h0 n0 v0 v1 v2 v3 v4 v5 v6 t0 wts wts_k wts_xs cs sf X0 e0 N0 Z0 V_wts ln_wts O S_cs P5 S_f h_sf S_w iv_j _ hr
  · rw [if_neg hc73] at hr
    refine EndsIn.by (B := T0.setTop (mkF m 86 #[.val (.int v0), .val (.int v1), .val (.int v2), .val (.int v3), .val (.int v4), .val (.int v5), .val (.int v6), .val (.int t0), .unset, .unset, .unset] [])) (fun t k => ?_) ?_
    · show Steps p.tables e below (T0.setTop (mkF m 73 #[.val (.int v0), .val (.int v1), .val (.int v2), .val (.int v3), .val (.int v4), .val (.int v5), .val (.int v6), .val (.int t0), .unset, .unset, .unset] [(.int v5)])) _
      exact XS.ifYes X0.here hx rfl (pc0 := 73) (pc' := 86) rfl (hb hby at_73) rfl ((if0 _ _).trans (feq hc73).2) (by decide) (by decide) k
    have iv_j : v2 = f1_0 v1 := by first | assumption | rfl
    exact b0_86 ⟨hx, hZ, hw, hby, hml, hret, hown, hnm, hlk⟩ h0 n0 v0 v1 v2 v3 v4 v5 v6 t0 wts wts_k wts_xs cs sf X0 e0 N0 Z0 V_wts ln_wts O S_cs P5 S_f h_sf S_w iv_j _ hr
def f0_56 (v0 : Int32) (v1 : Int32) (v2 : Int32) (v3 : Int32) (v4 : Int32) (v5 : Int32) (t0 : Int32) (wts_xs : List Int32) : Int32 := (if v1 = (60 : Int32) then (f0_69 v0 v1 v2 v3 v4 v5 t0 (1 : Int32) wts_xs) else (f0_69 v0 v1 v2 v3 v4 v5 t0 (0 : Int32) wts_xs))
set_option maxRecDepth 65536 in
set_option maxHeartbeats 40000000 in
theorem b0_56 {p : Program} {l : Launch} {e : Env} {s : State} {m : MethodId} {args : Array Value} {below : List Frame} {meth : Method} {c : Code} {Z : State} {a0 : Array Value} (B : Ctx p Z s a0 m meth c "com/example/pure_mrtd/puremrtd/format/CheckDigitIsMrzCharacterPinLaw" "law" code 11 (some .boolean)) {T0 : State} {locs : List Loc} {h : Heap} (h0 : Heap) (n0 : Nat) (v0 : Int32) (v1 : Int32) (v2 : Int32) (v3 : Int32) (v4 : Int32) (v5 : Int32) (t0 : Int32) (wts : Addr) (wts_k : ClassId) (wts_xs : List Int32) (cs : Int32) (sf : Value) (X0 : Stand p l e room_1 s m args below meth c T0 locs 0 0) (e0 : T0.heap = h) (N0 : Fr n0 locs) (Z0 : n0 ≤ h.size) (V_wts : Arv Z h wts wts_k .int (3 : Int32) (wts_xs.map Value.int) (.int 0)) (ln_wts : wts_xs.length = (3 : Int32).toNatClampNeg) (O : Old Z n0 h) (S_cs : Sta Z Z.heap "java/lang/String" "COMPACT_STRINGS" "Z" (.int cs)) (P5 : ¬ (cs = (0 : Int32))) (S_f : Sta Z Z.heap "jdk/internal/util/Preconditions" "SIOOBE_FORMATTER" "Ljava/util/function/BiFunction;" sf) (h_sf : sf.isRef = true) (S_w : Sta Z Z.heap "com/example/pure_mrtd/puremrtd/format/CheckDigit" "WEIGHTS" "[I" (.ref wts)) (iv : v2 = f1_0 v1) (r : Int32) (hr : f0_56 v0 v1 v2 v3 v4 v5 t0 wts_xs = r) :
    EndsIn p e below s 2 5 (Q0 n0 r) (T0.setTop (mkF m 56 #[.val (.int v0), .val (.int v1), .val (.int v2), .val (.int v3), .val (.int v4), .val (.int v5), .unset, .unset, .unset, .unset, .unset] [(.int t0)])) := by
  obtain ⟨hx, hZ, hw, hby, hml, hret, hown, hnm, hlk⟩ := B
  unfold f0_56 at hr
  refine EndsIn.by (B := T0.setTop (mkF m 61 #[.val (.int v0), .val (.int v1), .val (.int v2), .val (.int v3), .val (.int v4), .val (.int v5), .val (.int t0), .unset, .unset, .unset, .unset] [(.int (60 : Int32)), (.int v1)])) (fun t k => ?_) ?_
  · show Steps p.tables e below (T0.setTop (mkF m 56 #[.val (.int v0), .val (.int v1), .val (.int v2), .val (.int v3), .val (.int v4), .val (.int v5), .unset, .unset, .unset, .unset, .unset] [(.int t0)])) _
    refine XS.istore X0.here hx rfl (hb hby at_56) rfl (l' := #[.val (.int v0), .val (.int v1), .val (.int v2), .val (.int v3), .val (.int v4), .val (.int v5), .val (.int t0), .unset, .unset, .unset, .unset]) rfl ?_
    show Steps p.tables e below (T0.setTop (mkF m 58 #[.val (.int v0), .val (.int v1), .val (.int v2), .val (.int v3), .val (.int v4), .val (.int v5), .val (.int t0), .unset, .unset, .unset, .unset] [])) _
    refine XS.iloadN X0.here hx rfl (hb hby at_58) rfl  ?_
    show Steps p.tables e below (T0.setTop (mkF m 59 #[.val (.int v0), .val (.int v1), .val (.int v2), .val (.int v3), .val (.int v4), .val (.int v5), .val (.int t0), .unset, .unset, .unset, .unset] [(.int v1)])) _
    refine XS.bipush X0.here hx rfl (hb hby at_59) ?_
    exact k
  by_cases hc61 : v1 = (60 : Int32)
  · rw [if_pos hc61] at hr
    refine EndsIn.by (B := T0.setTop (mkF m 64 #[.val (.int v0), .val (.int v1), .val (.int v2), .val (.int v3), .val (.int v4), .val (.int v5), .val (.int t0), .unset, .unset, .unset, .unset] [])) (fun t k => ?_) ?_
    · show Steps p.tables e below (T0.setTop (mkF m 61 #[.val (.int v0), .val (.int v1), .val (.int v2), .val (.int v3), .val (.int v4), .val (.int v5), .val (.int t0), .unset, .unset, .unset, .unset] [(.int (60 : Int32)), (.int v1)])) _
      exact XS.icmpNo X0.here hx rfl (hb hby at_61) rfl (teq hc61).2 k
    refine EndsIn.by (B := T0.setTop (mkF m 69 #[.val (.int v0), .val (.int v1), .val (.int v2), .val (.int v3), .val (.int v4), .val (.int v5), .val (.int t0), .unset, .unset, .unset, .unset] [(.int (1 : Int32))])) (fun t k => ?_) ?_
    · show Steps p.tables e below (T0.setTop (mkF m 64 #[.val (.int v0), .val (.int v1), .val (.int v2), .val (.int v3), .val (.int v4), .val (.int v5), .val (.int t0), .unset, .unset, .unset, .unset] [])) _
      refine XS.iconst X0.here hx rfl (hb hby at_64) ?_
      show Steps p.tables e below (T0.setTop (mkF m 65 #[.val (.int v0), .val (.int v1), .val (.int v2), .val (.int v3), .val (.int v4), .val (.int v5), .val (.int t0), .unset, .unset, .unset, .unset] [(.int (1 : Int32))])) _
      refine XS.goto X0.here hx rfl (pc0 := 65) (pc' := 69) rfl (hb hby at_65) (by decide) (by decide) ?_
      exact k
    have iv_j : v2 = f1_0 v1 := by first | assumption | rfl
    exact b0_69 ⟨hx, hZ, hw, hby, hml, hret, hown, hnm, hlk⟩ h0 n0 v0 v1 v2 v3 v4 v5 t0 (1 : Int32) wts wts_k wts_xs cs sf X0 e0 N0 Z0 V_wts ln_wts O S_cs P5 S_f h_sf S_w iv_j _ hr
  · rw [if_neg hc61] at hr
    refine EndsIn.by (B := T0.setTop (mkF m 68 #[.val (.int v0), .val (.int v1), .val (.int v2), .val (.int v3), .val (.int v4), .val (.int v5), .val (.int t0), .unset, .unset, .unset, .unset] [])) (fun t k => ?_) ?_
    · show Steps p.tables e below (T0.setTop (mkF m 61 #[.val (.int v0), .val (.int v1), .val (.int v2), .val (.int v3), .val (.int v4), .val (.int v5), .val (.int t0), .unset, .unset, .unset, .unset] [(.int (60 : Int32)), (.int v1)])) _
      exact XS.icmpYes X0.here hx rfl (pc0 := 61) (pc' := 68) rfl (hb hby at_61) rfl (feq hc61).2 (by decide) (by decide) k
    refine EndsIn.by (B := T0.setTop (mkF m 69 #[.val (.int v0), .val (.int v1), .val (.int v2), .val (.int v3), .val (.int v4), .val (.int v5), .val (.int t0), .unset, .unset, .unset, .unset] [(.int (0 : Int32))])) (fun t k => ?_) ?_
    · show Steps p.tables e below (T0.setTop (mkF m 68 #[.val (.int v0), .val (.int v1), .val (.int v2), .val (.int v3), .val (.int v4), .val (.int v5), .val (.int t0), .unset, .unset, .unset, .unset] [])) _
      refine XS.iconst X0.here hx rfl (hb hby at_68) ?_
      exact k
    have iv_j : v2 = f1_0 v1 := by first | assumption | rfl
    exact b0_69 ⟨hx, hZ, hw, hby, hml, hret, hown, hnm, hlk⟩ h0 n0 v0 v1 v2 v3 v4 v5 t0 (0 : Int32) wts wts_k wts_xs cs sf X0 e0 N0 Z0 V_wts ln_wts O S_cs P5 S_f h_sf S_w iv_j _ hr
def f0_55 (v0 : Int32) (v1 : Int32) (v2 : Int32) (v3 : Int32) (v4 : Int32) (v5 : Int32) (wts_xs : List Int32) : Int32 := (f0_56 v0 v1 v2 v3 v4 v5 (0 : Int32) wts_xs)
set_option maxRecDepth 65536 in
set_option maxHeartbeats 40000000 in
theorem b0_55 {p : Program} {l : Launch} {e : Env} {s : State} {m : MethodId} {args : Array Value} {below : List Frame} {meth : Method} {c : Code} {Z : State} {a0 : Array Value} (B : Ctx p Z s a0 m meth c "com/example/pure_mrtd/puremrtd/format/CheckDigitIsMrzCharacterPinLaw" "law" code 11 (some .boolean)) {T0 : State} {locs : List Loc} {h : Heap} (h0 : Heap) (n0 : Nat) (v0 : Int32) (v1 : Int32) (v2 : Int32) (v3 : Int32) (v4 : Int32) (v5 : Int32) (wts : Addr) (wts_k : ClassId) (wts_xs : List Int32) (cs : Int32) (sf : Value) (X0 : Stand p l e room_1 s m args below meth c T0 locs 0 0) (e0 : T0.heap = h) (N0 : Fr n0 locs) (Z0 : n0 ≤ h.size) (V_wts : Arv Z h wts wts_k .int (3 : Int32) (wts_xs.map Value.int) (.int 0)) (ln_wts : wts_xs.length = (3 : Int32).toNatClampNeg) (O : Old Z n0 h) (S_cs : Sta Z Z.heap "java/lang/String" "COMPACT_STRINGS" "Z" (.int cs)) (P5 : ¬ (cs = (0 : Int32))) (S_f : Sta Z Z.heap "jdk/internal/util/Preconditions" "SIOOBE_FORMATTER" "Ljava/util/function/BiFunction;" sf) (h_sf : sf.isRef = true) (S_w : Sta Z Z.heap "com/example/pure_mrtd/puremrtd/format/CheckDigit" "WEIGHTS" "[I" (.ref wts)) (iv : v2 = f1_0 v1) (r : Int32) (hr : f0_55 v0 v1 v2 v3 v4 v5 wts_xs = r) :
    EndsIn p e below s 2 5 (Q0 n0 r) (T0.setTop (mkF m 55 #[.val (.int v0), .val (.int v1), .val (.int v2), .val (.int v3), .val (.int v4), .val (.int v5), .unset, .unset, .unset, .unset, .unset] [])) := by
  obtain ⟨hx, hZ, hw, hby, hml, hret, hown, hnm, hlk⟩ := B
  unfold f0_55 at hr
  refine EndsIn.by (B := T0.setTop (mkF m 56 #[.val (.int v0), .val (.int v1), .val (.int v2), .val (.int v3), .val (.int v4), .val (.int v5), .unset, .unset, .unset, .unset, .unset] [(.int (0 : Int32))])) (fun t k => ?_) ?_
  · show Steps p.tables e below (T0.setTop (mkF m 55 #[.val (.int v0), .val (.int v1), .val (.int v2), .val (.int v3), .val (.int v4), .val (.int v5), .unset, .unset, .unset, .unset, .unset] [])) _
    refine XS.iconst X0.here hx rfl (hb hby at_55) ?_
    exact k
  have iv_j : v2 = f1_0 v1 := by first | assumption | rfl
  exact b0_56 ⟨hx, hZ, hw, hby, hml, hret, hown, hnm, hlk⟩ h0 n0 v0 v1 v2 v3 v4 v5 (0 : Int32) wts wts_k wts_xs cs sf X0 e0 N0 Z0 V_wts ln_wts O S_cs P5 S_f h_sf S_w iv_j _ hr
def f0_37 (v0 : Int32) (v1 : Int32) (v2 : Int32) (v3 : Int32) (v4 : Int32) (t0 : Int32) (wts_xs : List Int32) : Int32 := (if v4 < (0 : Int32) then (f0_55 v0 v1 v2 v3 v4 t0 wts_xs) else (if v4 < (26 : Int32) then (f0_56 v0 v1 v2 v3 v4 t0 (1 : Int32) wts_xs) else (f0_55 v0 v1 v2 v3 v4 t0 wts_xs)))
set_option maxRecDepth 65536 in
set_option maxHeartbeats 40000000 in
theorem b0_37 {p : Program} {l : Launch} {e : Env} {s : State} {m : MethodId} {args : Array Value} {below : List Frame} {meth : Method} {c : Code} {Z : State} {a0 : Array Value} (B : Ctx p Z s a0 m meth c "com/example/pure_mrtd/puremrtd/format/CheckDigitIsMrzCharacterPinLaw" "law" code 11 (some .boolean)) {T0 : State} {locs : List Loc} {h : Heap} (h0 : Heap) (n0 : Nat) (v0 : Int32) (v1 : Int32) (v2 : Int32) (v3 : Int32) (v4 : Int32) (t0 : Int32) (wts : Addr) (wts_k : ClassId) (wts_xs : List Int32) (cs : Int32) (sf : Value) (X0 : Stand p l e room_1 s m args below meth c T0 locs 0 0) (e0 : T0.heap = h) (N0 : Fr n0 locs) (Z0 : n0 ≤ h.size) (V_wts : Arv Z h wts wts_k .int (3 : Int32) (wts_xs.map Value.int) (.int 0)) (ln_wts : wts_xs.length = (3 : Int32).toNatClampNeg) (O : Old Z n0 h) (S_cs : Sta Z Z.heap "java/lang/String" "COMPACT_STRINGS" "Z" (.int cs)) (P5 : ¬ (cs = (0 : Int32))) (S_f : Sta Z Z.heap "jdk/internal/util/Preconditions" "SIOOBE_FORMATTER" "Ljava/util/function/BiFunction;" sf) (h_sf : sf.isRef = true) (S_w : Sta Z Z.heap "com/example/pure_mrtd/puremrtd/format/CheckDigit" "WEIGHTS" "[I" (.ref wts)) (iv : v2 = f1_0 v1) (r : Int32) (hr : f0_37 v0 v1 v2 v3 v4 t0 wts_xs = r) :
    EndsIn p e below s 2 5 (Q0 n0 r) (T0.setTop (mkF m 37 #[.val (.int v0), .val (.int v1), .val (.int v2), .val (.int v3), .val (.int v4), .unset, .unset, .unset, .unset, .unset, .unset] [(.int t0)])) := by
  obtain ⟨hx, hZ, hw, hby, hml, hret, hown, hnm, hlk⟩ := B
  unfold f0_37 at hr
  refine EndsIn.by (B := T0.setTop (mkF m 41 #[.val (.int v0), .val (.int v1), .val (.int v2), .val (.int v3), .val (.int v4), .val (.int t0), .unset, .unset, .unset, .unset, .unset] [(.int v4)])) (fun t k => ?_) ?_
  · show Steps p.tables e below (T0.setTop (mkF m 37 #[.val (.int v0), .val (.int v1), .val (.int v2), .val (.int v3), .val (.int v4), .unset, .unset, .unset, .unset, .unset, .unset] [(.int t0)])) _
    refine XS.istore X0.here hx rfl (hb hby at_37) rfl (l' := #[.val (.int v0), .val (.int v1), .val (.int v2), .val (.int v3), .val (.int v4), .val (.int t0), .unset, .unset, .unset, .unset, .unset]) rfl ?_
    show Steps p.tables e below (T0.setTop (mkF m 39 #[.val (.int v0), .val (.int v1), .val (.int v2), .val (.int v3), .val (.int v4), .val (.int t0), .unset, .unset, .unset, .unset, .unset] [])) _
    refine XS.iload X0.here hx rfl (hb hby at_39) rfl  ?_
    exact k
  by_cases hc41 : v4 < (0 : Int32)
  · rw [if_pos hc41] at hr
    refine EndsIn.by (B := T0.setTop (mkF m 55 #[.val (.int v0), .val (.int v1), .val (.int v2), .val (.int v3), .val (.int v4), .val (.int t0), .unset, .unset, .unset, .unset, .unset] [])) (fun t k => ?_) ?_
    · show Steps p.tables e below (T0.setTop (mkF m 41 #[.val (.int v0), .val (.int v1), .val (.int v2), .val (.int v3), .val (.int v4), .val (.int t0), .unset, .unset, .unset, .unset, .unset] [(.int v4)])) _
      exact XS.ifYes X0.here hx rfl (pc0 := 41) (pc' := 55) rfl (hb hby at_41) rfl ((if0 _ _).trans (tlt hc41).1) (by decide) (by decide) k
    have iv_j : v2 = f1_0 v1 := by first | assumption | rfl
    exact b0_55 ⟨hx, hZ, hw, hby, hml, hret, hown, hnm, hlk⟩ h0 n0 v0 v1 v2 v3 v4 t0 wts wts_k wts_xs cs sf X0 e0 N0 Z0 V_wts ln_wts O S_cs P5 S_f h_sf S_w iv_j _ hr
  · rw [if_neg hc41] at hr
    refine EndsIn.by (B := T0.setTop (mkF m 44 #[.val (.int v0), .val (.int v1), .val (.int v2), .val (.int v3), .val (.int v4), .val (.int t0), .unset, .unset, .unset, .unset, .unset] [])) (fun t k => ?_) ?_
    · show Steps p.tables e below (T0.setTop (mkF m 41 #[.val (.int v0), .val (.int v1), .val (.int v2), .val (.int v3), .val (.int v4), .val (.int t0), .unset, .unset, .unset, .unset, .unset] [(.int v4)])) _
      exact XS.ifNo X0.here hx rfl (hb hby at_41) rfl ((if0 _ _).trans (flt hc41).1) k
    refine EndsIn.by (B := T0.setTop (mkF m 48 #[.val (.int v0), .val (.int v1), .val (.int v2), .val (.int v3), .val (.int v4), .val (.int t0), .unset, .unset, .unset, .unset, .unset] [(.int (26 : Int32)), (.int v4)])) (fun t k => ?_) ?_
    · show Steps p.tables e below (T0.setTop (mkF m 44 #[.val (.int v0), .val (.int v1), .val (.int v2), .val (.int v3), .val (.int v4), .val (.int t0), .unset, .unset, .unset, .unset, .unset] [])) _
      refine XS.iload X0.here hx rfl (hb hby at_44) rfl  ?_
      show Steps p.tables e below (T0.setTop (mkF m 46 #[.val (.int v0), .val (.int v1), .val (.int v2), .val (.int v3), .val (.int v4), .val (.int t0), .unset, .unset, .unset, .unset, .unset] [(.int v4)])) _
      refine XS.bipush X0.here hx rfl (hb hby at_46) ?_
      exact k
    by_cases hc48 : v4 < (26 : Int32)
    · rw [if_pos hc48] at hr
      refine EndsIn.by (B := T0.setTop (mkF m 51 #[.val (.int v0), .val (.int v1), .val (.int v2), .val (.int v3), .val (.int v4), .val (.int t0), .unset, .unset, .unset, .unset, .unset] [])) (fun t k => ?_) ?_
      · show Steps p.tables e below (T0.setTop (mkF m 48 #[.val (.int v0), .val (.int v1), .val (.int v2), .val (.int v3), .val (.int v4), .val (.int t0), .unset, .unset, .unset, .unset, .unset] [(.int (26 : Int32)), (.int v4)])) _
        exact XS.icmpNo X0.here hx rfl (hb hby at_48) rfl (tlt hc48).2.1 k
      refine EndsIn.by (B := T0.setTop (mkF m 56 #[.val (.int v0), .val (.int v1), .val (.int v2), .val (.int v3), .val (.int v4), .val (.int t0), .unset, .unset, .unset, .unset, .unset] [(.int (1 : Int32))])) (fun t k => ?_) ?_
      · show Steps p.tables e below (T0.setTop (mkF m 51 #[.val (.int v0), .val (.int v1), .val (.int v2), .val (.int v3), .val (.int v4), .val (.int t0), .unset, .unset, .unset, .unset, .unset] [])) _
        refine XS.iconst X0.here hx rfl (hb hby at_51) ?_
        show Steps p.tables e below (T0.setTop (mkF m 52 #[.val (.int v0), .val (.int v1), .val (.int v2), .val (.int v3), .val (.int v4), .val (.int t0), .unset, .unset, .unset, .unset, .unset] [(.int (1 : Int32))])) _
        refine XS.goto X0.here hx rfl (pc0 := 52) (pc' := 56) rfl (hb hby at_52) (by decide) (by decide) ?_
        exact k
      have iv_j : v2 = f1_0 v1 := by first | assumption | rfl
      exact b0_56 ⟨hx, hZ, hw, hby, hml, hret, hown, hnm, hlk⟩ h0 n0 v0 v1 v2 v3 v4 t0 (1 : Int32) wts wts_k wts_xs cs sf X0 e0 N0 Z0 V_wts ln_wts O S_cs P5 S_f h_sf S_w iv_j _ hr
    · rw [if_neg hc48] at hr
      refine EndsIn.by (B := T0.setTop (mkF m 55 #[.val (.int v0), .val (.int v1), .val (.int v2), .val (.int v3), .val (.int v4), .val (.int t0), .unset, .unset, .unset, .unset, .unset] [])) (fun t k => ?_) ?_
      · show Steps p.tables e below (T0.setTop (mkF m 48 #[.val (.int v0), .val (.int v1), .val (.int v2), .val (.int v3), .val (.int v4), .val (.int t0), .unset, .unset, .unset, .unset, .unset] [(.int (26 : Int32)), (.int v4)])) _
        exact XS.icmpYes X0.here hx rfl (pc0 := 48) (pc' := 55) rfl (hb hby at_48) rfl (flt hc48).2.1 (by decide) (by decide) k
      have iv_j : v2 = f1_0 v1 := by first | assumption | rfl
      exact b0_55 ⟨hx, hZ, hw, hby, hml, hret, hown, hnm, hlk⟩ h0 n0 v0 v1 v2 v3 v4 t0 wts wts_k wts_xs cs sf X0 e0 N0 Z0 V_wts ln_wts O S_cs P5 S_f h_sf S_w iv_j _ hr
def f0_36 (v0 : Int32) (v1 : Int32) (v2 : Int32) (v3 : Int32) (v4 : Int32) (wts_xs : List Int32) : Int32 := (f0_37 v0 v1 v2 v3 v4 (0 : Int32) wts_xs)
set_option maxRecDepth 65536 in
set_option maxHeartbeats 40000000 in
theorem b0_36 {p : Program} {l : Launch} {e : Env} {s : State} {m : MethodId} {args : Array Value} {below : List Frame} {meth : Method} {c : Code} {Z : State} {a0 : Array Value} (B : Ctx p Z s a0 m meth c "com/example/pure_mrtd/puremrtd/format/CheckDigitIsMrzCharacterPinLaw" "law" code 11 (some .boolean)) {T0 : State} {locs : List Loc} {h : Heap} (h0 : Heap) (n0 : Nat) (v0 : Int32) (v1 : Int32) (v2 : Int32) (v3 : Int32) (v4 : Int32) (wts : Addr) (wts_k : ClassId) (wts_xs : List Int32) (cs : Int32) (sf : Value) (X0 : Stand p l e room_1 s m args below meth c T0 locs 0 0) (e0 : T0.heap = h) (N0 : Fr n0 locs) (Z0 : n0 ≤ h.size) (V_wts : Arv Z h wts wts_k .int (3 : Int32) (wts_xs.map Value.int) (.int 0)) (ln_wts : wts_xs.length = (3 : Int32).toNatClampNeg) (O : Old Z n0 h) (S_cs : Sta Z Z.heap "java/lang/String" "COMPACT_STRINGS" "Z" (.int cs)) (P5 : ¬ (cs = (0 : Int32))) (S_f : Sta Z Z.heap "jdk/internal/util/Preconditions" "SIOOBE_FORMATTER" "Ljava/util/function/BiFunction;" sf) (h_sf : sf.isRef = true) (S_w : Sta Z Z.heap "com/example/pure_mrtd/puremrtd/format/CheckDigit" "WEIGHTS" "[I" (.ref wts)) (iv : v2 = f1_0 v1) (r : Int32) (hr : f0_36 v0 v1 v2 v3 v4 wts_xs = r) :
    EndsIn p e below s 2 5 (Q0 n0 r) (T0.setTop (mkF m 36 #[.val (.int v0), .val (.int v1), .val (.int v2), .val (.int v3), .val (.int v4), .unset, .unset, .unset, .unset, .unset, .unset] [])) := by
  obtain ⟨hx, hZ, hw, hby, hml, hret, hown, hnm, hlk⟩ := B
  unfold f0_36 at hr
  refine EndsIn.by (B := T0.setTop (mkF m 37 #[.val (.int v0), .val (.int v1), .val (.int v2), .val (.int v3), .val (.int v4), .unset, .unset, .unset, .unset, .unset, .unset] [(.int (0 : Int32))])) (fun t k => ?_) ?_
  · show Steps p.tables e below (T0.setTop (mkF m 36 #[.val (.int v0), .val (.int v1), .val (.int v2), .val (.int v3), .val (.int v4), .unset, .unset, .unset, .unset, .unset, .unset] [])) _
    refine XS.iconst X0.here hx rfl (hb hby at_36) ?_
    exact k
  have iv_j : v2 = f1_0 v1 := by first | assumption | rfl
  exact b0_37 ⟨hx, hZ, hw, hby, hml, hret, hown, hnm, hlk⟩ h0 n0 v0 v1 v2 v3 v4 (0 : Int32) wts wts_k wts_xs cs sf X0 e0 N0 Z0 V_wts ln_wts O S_cs P5 S_f h_sf S_w iv_j _ hr
def f0_6 (v0 : Int32) (v1 : Int32) (wts_xs : List Int32) : Int32 := (if (v1 - (48 : Int32)) < (0 : Int32) then (f0_36 v0 v1 (f1_0 v1) (v1 - (48 : Int32)) (v1 - (65 : Int32)) wts_xs) else (if (v1 - (48 : Int32)) < (10 : Int32) then (f0_37 v0 v1 (f1_0 v1) (v1 - (48 : Int32)) (v1 - (65 : Int32)) (1 : Int32) wts_xs) else (f0_36 v0 v1 (f1_0 v1) (v1 - (48 : Int32)) (v1 - (65 : Int32)) wts_xs)))
set_option maxRecDepth 65536 in
set_option maxHeartbeats 40000000 in
theorem b0_6 {p : Program} {l : Launch} {e : Env} {s : State} {m : MethodId} {args : Array Value} {below : List Frame} {meth : Method} {c : Code} {Z : State} {a0 : Array Value} (B : Ctx p Z s a0 m meth c "com/example/pure_mrtd/puremrtd/format/CheckDigitIsMrzCharacterPinLaw" "law" code 11 (some .boolean)) {T0 : State} {locs : List Loc} {h : Heap} (h0 : Heap) (n0 : Nat) (v0 : Int32) (v1 : Int32) (wts : Addr) (wts_k : ClassId) (wts_xs : List Int32) (cs : Int32) (sf : Value) (X0 : Stand p l e room_1 s m args below meth c T0 locs 0 0) (e0 : T0.heap = h) (N0 : Fr n0 locs) (Z0 : n0 ≤ h.size) (V_wts : Arv Z h wts wts_k .int (3 : Int32) (wts_xs.map Value.int) (.int 0)) (ln_wts : wts_xs.length = (3 : Int32).toNatClampNeg) (O : Old Z n0 h) (S_cs : Sta Z Z.heap "java/lang/String" "COMPACT_STRINGS" "Z" (.int cs)) (P5 : ¬ (cs = (0 : Int32))) (S_f : Sta Z Z.heap "jdk/internal/util/Preconditions" "SIOOBE_FORMATTER" "Ljava/util/function/BiFunction;" sf) (h_sf : sf.isRef = true) (S_w : Sta Z Z.heap "com/example/pure_mrtd/puremrtd/format/CheckDigit" "WEIGHTS" "[I" (.ref wts)) (r : Int32) (hr : f0_6 v0 v1 wts_xs = r) :
    EndsIn p e below s 2 5 (Q0 n0 r) (T0.setTop (mkF m 6 #[.val (.int v0), .val (.int v1), .unset, .unset, .unset, .unset, .unset, .unset, .unset, .unset, .unset] [])) := by
  obtain ⟨hx, hZ, hw, hby, hml, hret, hown, hnm, hlk⟩ := B
  unfold f0_6 at hr
  refine EndsIn.by (B := T0.setTop (mkF m 7 #[.val (.int v0), .val (.int v1), .unset, .unset, .unset, .unset, .unset, .unset, .unset, .unset, .unset] [(.int v1)])) (fun t k => ?_) ?_
  · show Steps p.tables e below (T0.setTop (mkF m 6 #[.val (.int v0), .val (.int v1), .unset, .unset, .unset, .unset, .unset, .unset, .unset, .unset, .unset] [])) _
    refine XS.iloadN X0.here hx rfl (hb hby at_6) rfl  ?_
    exact k
  -- pc 7: com/example/pure_mrtd/puremrtd/format/CheckDigit.isMrzCharacter
  obtain ⟨_, _, ⟨T1, L1, k1, n1⟩, -, X1, ⟨Lc1, hQ1, l1, y1, z1⟩, st1⟩ := Jvm.LawKit.callS X0 hx (y := (⟨"com/example/pure_mrtd/puremrtd/format/CheckDigit", "isMrzCharacter", "(C)Z"⟩ : MethodName)) hown (mvT hZ (hw _ (List.mem_of_getElem? (i := 1) rfl))) (mvT hZ (hw _ (List.mem_of_getElem? (i := 2) rfl))) (mvT hZ (hw _ (List.mem_of_getElem? (i := 3) rfl))) (mvT hZ (hw _ (List.mem_of_getElem? (i := 4) rfl))) (by decide) (backOf (W := 0) (rm1 l Z a0 hw [] v1 h n0 Z0 ) hZ (hw _ (List.mem_of_getElem? (i := 4) rfl)) (hw _ (List.mem_of_getElem? (i := 3) rfl)) (by decide) (by decide)) (g := (mkF m 7 #[.val (.int v0), .val (.int v1), .unset, .unset, .unset, .unset, .unset, .unset, .unset, .unset, .unset] [(.int v1)])) rfl (by rw [hml]; rfl) (argsL := [(.int v1)]) (rest := []) (lenOf pd_0 rfl) rfl (by show 2 * 0 + _ ≤ _; exact Nat.le_of_eq rfl) (hb hby at_7) (fun _ _ => ⟨rfl, e0, (by decide : 0 + R1.cells ≤ _), (by decide : 0 + R1.slots ≤ _)⟩)
  dsimp only [Pt.U, Pt.locs, Pt.cells, Pt.slots] at X1 l1 y1 z1 st1 hQ1
  subst l1 y1 z1
  obtain ⟨rfl, Nq1, e1⟩ := hQ1
  have N1 := Fr.app N0 Nq1
  refine EndsIn.by (B := T1.setTop (mkF m 10 #[.val (.int v0), .val (.int v1), .unset, .unset, .unset, .unset, .unset, .unset, .unset, .unset, .unset] [(.int (f1_0 v1))])) (fun t k => st1 t k) ?_
  refine EndsIn.by (B := T1.setTop (mkF m 23 #[.val (.int v0), .val (.int v1), .val (.int (f1_0 v1)), .val (.int (v1 - (48 : Int32))), .val (.int (v1 - (65 : Int32))), .unset, .unset, .unset, .unset, .unset, .unset] [(.int (v1 - (48 : Int32)))])) (fun t k => ?_) ?_
  · show Steps p.tables e below (T1.setTop (mkF m 10 #[.val (.int v0), .val (.int v1), .unset, .unset, .unset, .unset, .unset, .unset, .unset, .unset, .unset] [(.int (f1_0 v1))])) _
    refine XS.istoreN X1.here hx rfl (hb hby at_10) rfl (l' := #[.val (.int v0), .val (.int v1), .val (.int (f1_0 v1)), .unset, .unset, .unset, .unset, .unset, .unset, .unset, .unset]) rfl ?_
    show Steps p.tables e below (T1.setTop (mkF m 11 #[.val (.int v0), .val (.int v1), .val (.int (f1_0 v1)), .unset, .unset, .unset, .unset, .unset, .unset, .unset, .unset] [])) _
    refine XS.iloadN X1.here hx rfl (hb hby at_11) rfl  ?_
    show Steps p.tables e below (T1.setTop (mkF m 12 #[.val (.int v0), .val (.int v1), .val (.int (f1_0 v1)), .unset, .unset, .unset, .unset, .unset, .unset, .unset, .unset] [(.int v1)])) _
    refine XS.bipush X1.here hx rfl (hb hby at_12) ?_
    show Steps p.tables e below (T1.setTop (mkF m 14 #[.val (.int v0), .val (.int v1), .val (.int (f1_0 v1)), .unset, .unset, .unset, .unset, .unset, .unset, .unset, .unset] [(.int (48 : Int32)), (.int v1)])) _
    refine XS.isub X1.here hx rfl (hb hby at_14) rfl ?_
    show Steps p.tables e below (T1.setTop (mkF m 15 #[.val (.int v0), .val (.int v1), .val (.int (f1_0 v1)), .unset, .unset, .unset, .unset, .unset, .unset, .unset, .unset] [(.int (v1 - (48 : Int32)))])) _
    refine XS.istoreN X1.here hx rfl (hb hby at_15) rfl (l' := #[.val (.int v0), .val (.int v1), .val (.int (f1_0 v1)), .val (.int (v1 - (48 : Int32))), .unset, .unset, .unset, .unset, .unset, .unset, .unset]) rfl ?_
    show Steps p.tables e below (T1.setTop (mkF m 16 #[.val (.int v0), .val (.int v1), .val (.int (f1_0 v1)), .val (.int (v1 - (48 : Int32))), .unset, .unset, .unset, .unset, .unset, .unset, .unset] [])) _
    refine XS.iloadN X1.here hx rfl (hb hby at_16) rfl  ?_
    show Steps p.tables e below (T1.setTop (mkF m 17 #[.val (.int v0), .val (.int v1), .val (.int (f1_0 v1)), .val (.int (v1 - (48 : Int32))), .unset, .unset, .unset, .unset, .unset, .unset, .unset] [(.int v1)])) _
    refine XS.bipush X1.here hx rfl (hb hby at_17) ?_
    show Steps p.tables e below (T1.setTop (mkF m 19 #[.val (.int v0), .val (.int v1), .val (.int (f1_0 v1)), .val (.int (v1 - (48 : Int32))), .unset, .unset, .unset, .unset, .unset, .unset, .unset] [(.int (65 : Int32)), (.int v1)])) _
    refine XS.isub X1.here hx rfl (hb hby at_19) rfl ?_
    show Steps p.tables e below (T1.setTop (mkF m 20 #[.val (.int v0), .val (.int v1), .val (.int (f1_0 v1)), .val (.int (v1 - (48 : Int32))), .unset, .unset, .unset, .unset, .unset, .unset, .unset] [(.int (v1 - (65 : Int32)))])) _
    refine XS.istore X1.here hx rfl (hb hby at_20) rfl (l' := #[.val (.int v0), .val (.int v1), .val (.int (f1_0 v1)), .val (.int (v1 - (48 : Int32))), .val (.int (v1 - (65 : Int32))), .unset, .unset, .unset, .unset, .unset, .unset]) rfl ?_
    show Steps p.tables e below (T1.setTop (mkF m 22 #[.val (.int v0), .val (.int v1), .val (.int (f1_0 v1)), .val (.int (v1 - (48 : Int32))), .val (.int (v1 - (65 : Int32))), .unset, .unset, .unset, .unset, .unset, .unset] [])) _
    refine XS.iloadN X1.here hx rfl (hb hby at_22) rfl  ?_
    exact k
  by_cases hc23 : (v1 - (48 : Int32)) < (0 : Int32)
  · rw [if_pos hc23] at hr
    refine EndsIn.by (B := T1.setTop (mkF m 36 #[.val (.int v0), .val (.int v1), .val (.int (f1_0 v1)), .val (.int (v1 - (48 : Int32))), .val (.int (v1 - (65 : Int32))), .unset, .unset, .unset, .unset, .unset, .unset] [])) (fun t k => ?_) ?_
    · show Steps p.tables e below (T1.setTop (mkF m 23 #[.val (.int v0), .val (.int v1), .val (.int (f1_0 v1)), .val (.int (v1 - (48 : Int32))), .val (.int (v1 - (65 : Int32))), .unset, .unset, .unset, .unset, .unset, .unset] [(.int (v1 - (48 : Int32)))])) _
      exact XS.ifYes X1.here hx rfl (pc0 := 23) (pc' := 36) rfl (hb hby at_23) rfl ((if0 _ _).trans (tlt hc23).1) (by decide) (by decide) k
    have iv_j : (f1_0 v1) = f1_0 v1 := by first | assumption | rfl
    exact b0_36 ⟨hx, hZ, hw, hby, hml, hret, hown, hnm, hlk⟩ h0 n0 v0 v1 (f1_0 v1) (v1 - (48 : Int32)) (v1 - (65 : Int32)) wts wts_k wts_xs cs sf X1 e1 N1 Z0 V_wts ln_wts O S_cs P5 S_f h_sf S_w iv_j _ hr
  · rw [if_neg hc23] at hr
    refine EndsIn.by (B := T1.setTop (mkF m 26 #[.val (.int v0), .val (.int v1), .val (.int (f1_0 v1)), .val (.int (v1 - (48 : Int32))), .val (.int (v1 - (65 : Int32))), .unset, .unset, .unset, .unset, .unset, .unset] [])) (fun t k => ?_) ?_
    · show Steps p.tables e below (T1.setTop (mkF m 23 #[.val (.int v0), .val (.int v1), .val (.int (f1_0 v1)), .val (.int (v1 - (48 : Int32))), .val (.int (v1 - (65 : Int32))), .unset, .unset, .unset, .unset, .unset, .unset] [(.int (v1 - (48 : Int32)))])) _
      exact XS.ifNo X1.here hx rfl (hb hby at_23) rfl ((if0 _ _).trans (flt hc23).1) k
    refine EndsIn.by (B := T1.setTop (mkF m 29 #[.val (.int v0), .val (.int v1), .val (.int (f1_0 v1)), .val (.int (v1 - (48 : Int32))), .val (.int (v1 - (65 : Int32))), .unset, .unset, .unset, .unset, .unset, .unset] [(.int (10 : Int32)), (.int (v1 - (48 : Int32)))])) (fun t k => ?_) ?_
    · show Steps p.tables e below (T1.setTop (mkF m 26 #[.val (.int v0), .val (.int v1), .val (.int (f1_0 v1)), .val (.int (v1 - (48 : Int32))), .val (.int (v1 - (65 : Int32))), .unset, .unset, .unset, .unset, .unset, .unset] [])) _
      refine XS.iloadN X1.here hx rfl (hb hby at_26) rfl  ?_
      show Steps p.tables e below (T1.setTop (mkF m 27 #[.val (.int v0), .val (.int v1), .val (.int (f1_0 v1)), .val (.int (v1 - (48 : Int32))), .val (.int (v1 - (65 : Int32))), .unset, .unset, .unset, .unset, .unset, .unset] [(.int (v1 - (48 : Int32)))])) _
      refine XS.bipush X1.here hx rfl (hb hby at_27) ?_
      exact k
    by_cases hc29 : (v1 - (48 : Int32)) < (10 : Int32)
    · rw [if_pos hc29] at hr
      refine EndsIn.by (B := T1.setTop (mkF m 32 #[.val (.int v0), .val (.int v1), .val (.int (f1_0 v1)), .val (.int (v1 - (48 : Int32))), .val (.int (v1 - (65 : Int32))), .unset, .unset, .unset, .unset, .unset, .unset] [])) (fun t k => ?_) ?_
      · show Steps p.tables e below (T1.setTop (mkF m 29 #[.val (.int v0), .val (.int v1), .val (.int (f1_0 v1)), .val (.int (v1 - (48 : Int32))), .val (.int (v1 - (65 : Int32))), .unset, .unset, .unset, .unset, .unset, .unset] [(.int (10 : Int32)), (.int (v1 - (48 : Int32)))])) _
        exact XS.icmpNo X1.here hx rfl (hb hby at_29) rfl (tlt hc29).2.1 k
      refine EndsIn.by (B := T1.setTop (mkF m 37 #[.val (.int v0), .val (.int v1), .val (.int (f1_0 v1)), .val (.int (v1 - (48 : Int32))), .val (.int (v1 - (65 : Int32))), .unset, .unset, .unset, .unset, .unset, .unset] [(.int (1 : Int32))])) (fun t k => ?_) ?_
      · show Steps p.tables e below (T1.setTop (mkF m 32 #[.val (.int v0), .val (.int v1), .val (.int (f1_0 v1)), .val (.int (v1 - (48 : Int32))), .val (.int (v1 - (65 : Int32))), .unset, .unset, .unset, .unset, .unset, .unset] [])) _
        refine XS.iconst X1.here hx rfl (hb hby at_32) ?_
        show Steps p.tables e below (T1.setTop (mkF m 33 #[.val (.int v0), .val (.int v1), .val (.int (f1_0 v1)), .val (.int (v1 - (48 : Int32))), .val (.int (v1 - (65 : Int32))), .unset, .unset, .unset, .unset, .unset, .unset] [(.int (1 : Int32))])) _
        refine XS.goto X1.here hx rfl (pc0 := 33) (pc' := 37) rfl (hb hby at_33) (by decide) (by decide) ?_
        exact k
      have iv_j : (f1_0 v1) = f1_0 v1 := by first | assumption | rfl
      exact b0_37 ⟨hx, hZ, hw, hby, hml, hret, hown, hnm, hlk⟩ h0 n0 v0 v1 (f1_0 v1) (v1 - (48 : Int32)) (v1 - (65 : Int32)) (1 : Int32) wts wts_k wts_xs cs sf X1 e1 N1 Z0 V_wts ln_wts O S_cs P5 S_f h_sf S_w iv_j _ hr
    · rw [if_neg hc29] at hr
      refine EndsIn.by (B := T1.setTop (mkF m 36 #[.val (.int v0), .val (.int v1), .val (.int (f1_0 v1)), .val (.int (v1 - (48 : Int32))), .val (.int (v1 - (65 : Int32))), .unset, .unset, .unset, .unset, .unset, .unset] [])) (fun t k => ?_) ?_
      · show Steps p.tables e below (T1.setTop (mkF m 29 #[.val (.int v0), .val (.int v1), .val (.int (f1_0 v1)), .val (.int (v1 - (48 : Int32))), .val (.int (v1 - (65 : Int32))), .unset, .unset, .unset, .unset, .unset, .unset] [(.int (10 : Int32)), (.int (v1 - (48 : Int32)))])) _
        exact XS.icmpYes X1.here hx rfl (pc0 := 29) (pc' := 36) rfl (hb hby at_29) rfl (flt hc29).2.1 (by decide) (by decide) k
      have iv_j : (f1_0 v1) = f1_0 v1 := by first | assumption | rfl
      exact b0_36 ⟨hx, hZ, hw, hby, hml, hret, hown, hnm, hlk⟩ h0 n0 v0 v1 (f1_0 v1) (v1 - (48 : Int32)) (v1 - (65 : Int32)) wts wts_k wts_xs cs sf X1 e1 N1 Z0 V_wts ln_wts O S_cs P5 S_f h_sf S_w iv_j _ hr
def f0_0 (v0 : Int32) (wts_xs : List Int32) : Int32 := (f0_6 v0 ((v0 &&& (65535 : Int32)).toUInt32.toUInt16.toUInt32.toInt32) wts_xs)
set_option maxRecDepth 65536 in
set_option maxHeartbeats 40000000 in
theorem b0_0 {p : Program} {l : Launch} {e : Env} {s : State} {m : MethodId} {args : Array Value} {below : List Frame} {meth : Method} {c : Code} {Z : State} {a0 : Array Value} (B : Ctx p Z s a0 m meth c "com/example/pure_mrtd/puremrtd/format/CheckDigitIsMrzCharacterPinLaw" "law" code 11 (some .boolean)) {T0 : State} {locs : List Loc} {h : Heap} (h0 : Heap) (n0 : Nat) (v0 : Int32) (wts : Addr) (wts_k : ClassId) (wts_xs : List Int32) (cs : Int32) (sf : Value) (X0 : Stand p l e room_1 s m args below meth c T0 locs 0 0) (e0 : T0.heap = h) (N0 : Fr n0 locs) (Z0 : n0 ≤ h.size) (V_wts : Arv Z h wts wts_k .int (3 : Int32) (wts_xs.map Value.int) (.int 0)) (ln_wts : wts_xs.length = (3 : Int32).toNatClampNeg) (O : Old Z n0 h) (S_cs : Sta Z Z.heap "java/lang/String" "COMPACT_STRINGS" "Z" (.int cs)) (P5 : ¬ (cs = (0 : Int32))) (S_f : Sta Z Z.heap "jdk/internal/util/Preconditions" "SIOOBE_FORMATTER" "Ljava/util/function/BiFunction;" sf) (h_sf : sf.isRef = true) (S_w : Sta Z Z.heap "com/example/pure_mrtd/puremrtd/format/CheckDigit" "WEIGHTS" "[I" (.ref wts)) (r : Int32) (hr : f0_0 v0 wts_xs = r) :
    EndsIn p e below s 2 5 (Q0 n0 r) (T0.setTop (mkF m 0 #[.val (.int v0), .unset, .unset, .unset, .unset, .unset, .unset, .unset, .unset, .unset, .unset] [])) := by
  obtain ⟨hx, hZ, hw, hby, hml, hret, hown, hnm, hlk⟩ := B
  unfold f0_0 at hr
  refine EndsIn.by (B := T0.setTop (mkF m 6 #[.val (.int v0), .val (.int ((v0 &&& (65535 : Int32)).toUInt32.toUInt16.toUInt32.toInt32)), .unset, .unset, .unset, .unset, .unset, .unset, .unset, .unset, .unset] [])) (fun t k => ?_) ?_
  · show Steps p.tables e below (T0.setTop (mkF m 0 #[.val (.int v0), .unset, .unset, .unset, .unset, .unset, .unset, .unset, .unset, .unset, .unset] [])) _
    refine XS.iloadN X0.here hx rfl (hb hby at_0) rfl  ?_
    show Steps p.tables e below (T0.setTop (mkF m 1 #[.val (.int v0), .unset, .unset, .unset, .unset, .unset, .unset, .unset, .unset, .unset, .unset] [(.int v0)])) _
    refine X0.ldcInt hx hown (mvT hZ (hw _ (List.mem_of_getElem? (i := 0) rfl))) (g := (mkF m 1 #[.val (.int v0), .unset, .unset, .unset, .unset, .unset, .unset, .unset, .unset, .unset, .unset] [(.int v0)])) rfl (hb hby at_1) _ ?_
    show Steps p.tables e below (T0.setTop (mkF m 3 #[.val (.int v0), .unset, .unset, .unset, .unset, .unset, .unset, .unset, .unset, .unset, .unset] [(.int (65535 : Int32)), (.int v0)])) _
    refine XS.iand X0.here hx rfl (hb hby at_3) rfl ?_
    show Steps p.tables e below (T0.setTop (mkF m 4 #[.val (.int v0), .unset, .unset, .unset, .unset, .unset, .unset, .unset, .unset, .unset, .unset] [(.int (v0 &&& (65535 : Int32)))])) _
    refine XS.i2c X0.here hx rfl (hb hby at_4) rfl ?_
    show Steps p.tables e below (T0.setTop (mkF m 5 #[.val (.int v0), .unset, .unset, .unset, .unset, .unset, .unset, .unset, .unset, .unset, .unset] [(.int ((v0 &&& (65535 : Int32)).toUInt32.toUInt16.toUInt32.toInt32))])) _
    refine XS.istoreN X0.here hx rfl (hb hby at_5) rfl (l' := #[.val (.int v0), .val (.int ((v0 &&& (65535 : Int32)).toUInt32.toUInt16.toUInt32.toInt32)), .unset, .unset, .unset, .unset, .unset, .unset, .unset, .unset, .unset]) rfl ?_
    exact k
  exact b0_6 ⟨hx, hZ, hw, hby, hml, hret, hown, hnm, hlk⟩ h0 n0 v0 ((v0 &&& (65535 : Int32)).toUInt32.toUInt16.toUInt32.toInt32) wts wts_k wts_xs cs sf X0 e0 N0 Z0 V_wts ln_wts O S_cs P5 S_f h_sf S_w _ hr
theorem ef_0 (m : MethodId) (v0 : Int32) : entryFrame m #[(.int v0)] maxLocals = (mkF m 0 #[.val (.int v0), .unset, .unset, .unset, .unset, .unset, .unset, .unset, .unset, .unset, .unset] []) := by first | (simp [entryFrame, mkF, argsToLocals, Value.category, maxLocals]; done) | rfl
set_option maxRecDepth 65536 in
set_option maxHeartbeats 40000000 in
theorem rm0 (l : Launch) (Z : State) (a0 : Array Value) (hw : ∀ d ∈ tables_1, d.before a0 Z = true) (ws : List Jvm.Cond) (v0 : Int32) (wts : Addr) (wts_k : ClassId) (wts_xs : List Int32) (cs : Int32) (sf : Value) (h0 : Heap) (n0 : Nat) (Z0 : n0 ≤ h0.size) (V_wts : Arv Z h0 wts wts_k .int (3 : Int32) (wts_xs.map Value.int) (.int 0)) (ln_wts : wts_xs.length = (3 : Int32).toNatClampNeg) (O : Old Z n0 h0) (S_cs : Sta Z Z.heap "java/lang/String" "COMPACT_STRINGS" "Z" (.int cs)) (P5 : ¬ (cs = (0 : Int32))) (S_f : Sta Z Z.heap "jdk/internal/util/Preconditions" "SIOOBE_FORMATTER" "Ljava/util/function/BiFunction;" sf) (h_sf : sf.isRef = true) (S_w : Sta Z Z.heap "com/example/pure_mrtd/puremrtd/format/CheckDigit" "WEIGHTS" "[I" (.ref wts)) :
    MetFree l x (head1 (Jvm.Cond.code x code maxLocals ret :: ws) room_1) (fun a U => a = #[(.int v0)] ∧ Z.Warmed39 U.vm ∧ U.heap = h0) (fun _ _ _ _ _ => True) (fun _ U o U' => ∃ v L, o = .returned v ∧ (Q0 n0 (f0_0 v0 wts_xs)) v U'.heap L ∧ FrameEnd U o U' L 2 5) := by
  refine MetFree.of_bodySF (plainFor_of_name pn_0) hisR ?_
  intro p e s m args below meth c s₁ Bd hml0 hP hK
  obtain ⟨rfl, hZ, hh⟩ := hP
  have B : Ctx p Z s a0 m meth c "com/example/pure_mrtd/puremrtd/format/CheckDigitIsMrzCharacterPinLaw" "law" code 11 (some .boolean) := ⟨Bd.exec, hZ, hw, Bd.bytes, hml0, Bd.returns, findClass_of_methodNamed Bd.named, (name_of_methodNamed Bd.named Bd.method).1, Bd.notSynchronized⟩
  have X0 : Stand p l e room_1 s m #[(.int v0)] below meth c s₁ [] 0 0 := Stand.of_body Bd
  have e0 : s₁.heap = h0 := by rw [← hh, Bd.state]; rfl
  have K := Keep.refl h0 []
  show EndsIn p e below s 2 5 (Q0 n0 (f0_0 v0 wts_xs)) (s₁.setTop (entryFrame m #[(.int v0)] maxLocals))
  refine EndsIn.by (fun t k => castTop (ef_0 m v0) k) ?_
  exact b0_0 B h0 n0 v0 wts wts_k wts_xs cs sf X0 e0 (Fr.nil n0) Z0 V_wts ln_wts O S_cs P5 S_f h_sf S_w _ rfl

theorem own_big (v0 c : Int32) (w : List Int32) (h : 90 < c.toInt) (h2 : c.toInt ≤ 65535) : f0_6 v0 c w = 1 := by
  have e := own_hi0 c h
  have d1 := c_isub c 48; have d2 := rng32 (c - 48); have z1 : (48 : Int32).toInt = 48 := rfl
  have u1 := c_isub c 65; have u2 := rng32 (c - 65); have z2 : (65 : Int32).toInt = 65 := rfl
  have z0 : (0 : Int32).toInt = 0 := rfl
  have z3 : (10 : Int32).toInt = 10 := rfl
  have z4 : (26 : Int32).toInt = 26 := rfl
  have q1 : ¬ (c - 48 < 0) := by rw [own_ltI]; omega
  have q2 : ¬ (c - 48 < 10) := by rw [own_ltI]; omega
  have q3 : ¬ (c - 65 < 0) := by rw [own_ltI]; omega
  have q4 : ¬ (c - 65 < 26) := by rw [own_ltI]; omega
  have q5 : ¬ (c = 60) := fun q => by subst q; exact absurd h (by decide)
  unfold f0_6 f0_36 f0_37 f0_55 f0_56 f0_69 f0_91
  rw [e, if_neg q1, if_neg q2, if_neg q3, if_neg q4, if_neg q5]
  simp only [if_true]
theorem own_v0 (v0 c : Int32) (w : List Int32) : f0_6 v0 c w = f0_6 0 c w := by
  unfold f0_6 f0_36 f0_37 f0_55 f0_56 f0_69 f0_86 f0_91 f0_136
  rfl
theorem own_small : ∀ n : Fin 91, f0_6 0 (Int32.ofNat n.val) [7, 3, 1] = 1 := by decide +kernel
theorem own_law (x : Int32) : f0_0 x [7, 3, 1] = 1 := by
  unfold f0_0
  have k := c_i2c (x &&& 65535)
  generalize ((x &&& (65535 : Int32)).toUInt32.toUInt16.toUInt32.toInt32) = c at *
  by_cases q : 90 < c.toInt
  · exact own_big x c _ q (by omega)
  · rw [own_v0]
    have h := own_small ⟨c.toInt.toNat, by omega⟩
    have e : Int32.ofNat c.toInt.toNat = c := by
      apply Int32.toInt_inj.mp
      rw [Int32.toInt_ofNat_of_lt (by omega)]
      omega
    rw [e] at h
    exact h

set_option maxRecDepth 65536 in
set_option maxHeartbeats 40000000 in
theorem comes_1 {Post : Tables → Env → Array Value → State → Outcome → State → Prop} (hpost : ∀ tb e args s v u, (limb_1_1.after args s (.returned v) u = true ∧ limb_1_2.after args s (.returned v) u = true ∧ True) → FrameEnd s (.returned v) u (Jvm.fieldLocs frame_1_writes args s ++ Jvm.arrayLocs frame_1_arrays args s ++ Jvm.staticLocs frame_1_statics s) 16 128 → Post tb e args s (.returned v) u) :
    ArmFor flags0 classFile x code maxLocals ret World_1 tables_1 room_1 Calls_1 rest_1 Pre_1 Post := by
  intro l hfl _ _ p e ha hc hk s m args below hf hA hF happ hP
  obtain ⟨hcalls, hrest, hpre⟩ := hP
  obtain ⟨-, -, -, hnamed, -, -, -, hat⟩ := (Spec.applies_iff hf).mp happ
  obtain ⟨hg, hn⟩ := and_e (Cond.before_iff.mp (show (Jvm.Cond.and given_1 narrow_1).before args s = true from hpre))
  obtain ⟨gg1, gg2⟩ := and_e hg
  obtain ⟨w0, rfl⟩ : ∃ w0 : Value, args = #[w0] := by
    have hs : args.size = 1 := by simpa [Cond.value, given_1] using gg1
    obtain ⟨L⟩ := args
    match L, hs with
    | [w0], _ => exact ⟨w0, rfl⟩
  have hw := fun d (hd : d ∈ tables_1) => atoms_spec (ws := Jvm.Cond.code x code maxLocals ret :: tables_1) hat d (List.mem_cons_of_mem _ hd)
  have hfit : Fit s := fun {y c} hc i hi => by
    obtain ⟨ha, rfl⟩ := Array.getElem?_eq_some_iff.mp hc
    have q := List.all_eq_true.mp ((Array.all_eq_true_iff_forall_mem.mp hF) _ (Array.getElem_mem ha)) i (List.mem_range.mpr hi)
    simpa [Array.getElem?_eq_getElem hi] using q
  obtain ⟨hsets, hown0⟩ := atoms_of _ (rest_1_c_eq ▸ (show rest_1_c.before _ s = true from hrest))
  obtain ⟨i0, ei0⟩ := is_v gg2
  obtain rfl : w0 = (.int i0) := Option.some.inj ei0
  have n5 := not_v (Cond.before_iff.mp (hsets _ (List.mem_of_getElem? (i := 2) rfl)))
  obtain ⟨cs, e10⟩ := is_v (Cond.before_iff.mp (hsets _ (List.mem_of_getElem? (i := 1) rfl)))
  have S12 : Sta s s.heap "java/lang/String" "COMPACT_STRINGS" "Z" (.int cs) := Sta.start e10 (Or.inl (hsets _ (List.mem_of_getElem? (i := 0) rfl)))
  have c17 : ¬ (cs = (0 : Int32)) := gotF (Cond.eq_ints e10 (Term.int_eval (0))) n5
  obtain ⟨v13, e14, r15⟩ := isR_v (Cond.before_iff.mp (hsets _ (List.mem_of_getElem? (i := 8) rfl)))
  obtain ⟨sf, rfl⟩ : ∃ z, z = v13 := ⟨_, rfl⟩
  have S16 : Sta s s.heap "jdk/internal/util/Preconditions" "SIOOBE_FORMATTER" "Ljava/util/function/BiFunction;" sf := Sta.start e14 (Or.inl (hsets _ (List.mem_of_getElem? (i := 7) rfl)))
  obtain ⟨m1, m2⟩ := and_e hn
  obtain ⟨m2, m3⟩ := and_e m2
  obtain ⟨m3, m4⟩ := and_e m3
  obtain ⟨m4, m5⟩ := and_e m4
  obtain ⟨wts, ew⟩ := arr_v m1
  obtain ⟨cw, Aw⟩ := Arr.start ew m1
  have Sw : Sta s s.heap "com/example/pure_mrtd/puremrtd/format/CheckDigit" "WEIGHTS" "[I" (.ref wts) := Sta.start ew (Or.inr ⟨hw _ (List.mem_of_getElem? (i := 3) rfl), hw _ (List.mem_of_getElem? (i := 77) rfl)⟩)
  have Lw := own_lenI m2 ew (Arr.fin (Vm.Alike.refl _) Aw)
  have Vw : Arv s s.heap wts cw.cls .int (3 : Int32) ([(7 : Int32), 3, 1].map Value.int) (.int 0) := Arv.start hfit Aw Lw.1 Lw.2 (by decide) (by decide) ⟨own_elI m3 ew Aw.1, own_elI m4 ew Aw.1, own_elI m5 ew Aw.1, trivial⟩
  obtain ⟨n, o, h1, h2, h3, _, L, rfl, ⟨rfl, N⟩, hq⟩ := rm0 l s _ hw tables_1 i0 wts cw.cls [7, 3, 1] cs sf s.heap s.heap.size (Nat.le_refl _) Vw rfl (Old.start s) S12 c17 S16 r15 Sw p e ha hc hk s m _ below hf ((Spec.applies_iff_loose hf).mp happ).1 ⟨rfl, State.Warmed39.refl s, rfl⟩ trivial
  refine ⟨n, _, h1, h2, h3, hpost _ _ _ _ _ _ ⟨Cond.after_iff.mpr rfl, Cond.after_iff.mpr (eq_i res_at (Term.int_eval (1)) (congrArg Value.int (own_law i0))), trivial⟩ ⟨hq.1, hq.2.1, (hq.2.2.sift fun y hy => Or.inr (N y hy)).mono (by decide) (by decide)⟩⟩
theorem main_1_1 : Claimed_1_1 := comes_1 fun _ _ _ _ _ _ h hF => ⟨h.1, hF⟩
theorem main_1_2 : Claimed_1_2 := comes_1 fun _ _ _ _ _ _ h hF => ⟨h.2.1, hF⟩
end Jvm.Pilot.@@N@@
namespace Jvm.Pilot.@@N@@
open Jvm Jvm.ClassFile Sem Op Lib Jvm.Free Jvm.Stand Jvm.Pilot.@@N@@.Jvm.D
/-! MADE BY PROGRAM (witnessworld.py) out of the Statement's table words and the real class files: 17 classes; the members and pool entries that the words name. The judged class is class 1, her method 1. -/
namespace start1
open Jvm.ClassFile
def u (s : String) : CpInfo := .utf8 (stringToUtf16 s)
/-- a pool by its gaps: so many unusable entries, then the entry; so many at the end -/
def gap : Nat → List CpInfo → List CpInfo
  | 0, r => r
  | n + 1, r => .unusable :: gap n r
def poolList (es : List (Nat × CpInfo)) (last : Nat) : List CpInfo := es.foldr (fun e r => gap e.1 (e.2 :: r)) (gap last [])
def pool (es : List (Nat × CpInfo)) (last : Nat) : Array CpInfo := ⟨poolList es last⟩
def fileOf (pool : Array CpInfo) (this : Nat) (attrs : Array Attribute := #[]) (ms : Array MethodInfo := #[]) (fl : Nat := 33) (sup : Nat := 0) (ifs : Array Nat := #[]) (fds : Array FieldInfo := #[]) : ClassFile where
  minorVersion := 0
  majorVersion := 65
  constantPool := pool
  accessFlags := fl
  thisClass := this
  superClass := sup
  interfaces := ifs
  fields := fds
  methods := ms
  attributes := attrs
def plain (name : String) (sup : Option ClassId) : Class where
  name := name
  kind := .ordinary
  loader := none
  accessFlags := 33
  super := sup
  interfaces := #[]
  cf := none
  fields := #[]
  methods := #[]
  instanceTypes := #[]
  staticTypes := #[]
  resolved := #[]
  callSites := []
  init := .initialized
  statics := none
  mirror := none

def pool0 : Array CpInfo := pool [(5, u "<init>"), (0, u "()V"), (1, .class_ 10), (1, u "java/lang/Object")] 113

def k0c0 : Code := { maxStack := 0, maxLocals := 1, code := object_method_1_code, exceptionTable := #[], attributes := #[] }
def k0m0 : Method := { name := "<init>", desc := "()V", sig := { parameters := [], returnType := none }, accessFlags := 1, code := some k0c0 }
/-- java/lang/Object -/
def k0 : Class := { plain "java/lang/Object" none with
  accessFlags := 33
  interfaces := #[]
  cf := some (fileOf pool0 8 #[] #[{ accessFlags := 1, nameIndex := 5, descriptorIndex := 6, attributes := #[] }] 33 0 #[] #[])
  fields := #[]
  methods := #[k0m0]
  instanceTypes := #[]
  staticTypes := #[]
  resolved := Array.replicate 124 none
  statics := none }

def pool1 : Array CpInfo := pool [(2, .class_ 4), (1, u "java/lang/Object"), (0, u "<init>"), (0, u "()V"), (0, .integer 65535), (0, .methodref 9 10), (0, .class_ 11), (0, .nameAndType 12 13), (0, u "com/example/pure_mrtd/puremrtd/format/CheckDigit"), (0, u "isMrzCharacter"), (0, u "(C)Z"), (0, .methodref 15 16), (0, .class_ 17), (0, .nameAndType 18 19), (0, u "java/lang/String"), (0, u "valueOf"), (0, u "(C)Ljava/lang/String;"), (0, .methodref 9 21), (0, .nameAndType 22 23), (0, u "compute"), (0, u "(Ljava/lang/CharSequence;)C"), (0, .class_ 25), (0, u "com/example/pure_mrtd/puremrtd/format/CheckDigitIsMrzCharacterPinLaw"), (2, u "law"), (0, u "(I)Z")] 3

def k1m0 : Method := { name := "<init>", desc := "()V", sig := { parameters := [], returnType := none }, accessFlags := 1, code := none }
def k1c1 : Code := { maxStack := 4, maxLocals := 11, code := code, exceptionTable := #[], attributes := #[] }
def k1m1 : Method := { name := "law", desc := "(I)Z", sig := { parameters := [.int], returnType := some .boolean }, accessFlags := 9, code := some k1c1 }
/-- com/example/pure_mrtd/puremrtd/format/CheckDigitIsMrzCharacterPinLaw -/
def k1 : Class := { plain "com/example/pure_mrtd/puremrtd/format/CheckDigitIsMrzCharacterPinLaw" (some 0) with
  accessFlags := 49
  interfaces := #[]
  cf := some (fileOf pool1 24 #[] #[{ accessFlags := 1, nameIndex := 5, descriptorIndex := 6, attributes := #[] }, { accessFlags := 9, nameIndex := 28, descriptorIndex := 29, attributes := #[] }] 49 2 #[] #[])
  fields := #[]
  methods := #[k1m0, k1m1]
  instanceTypes := #[]
  staticTypes := #[]
  resolved := Array.replicate 33 none
  statics := none }

def pool2 : Array CpInfo := pool [(2, .class_ 4), (1, u "java/lang/Object"), (0, u "<init>"), (0, u "()V"), (0, .interfaceMethodref 8 9), (0, .class_ 10), (0, .nameAndType 11 12), (0, u "java/lang/CharSequence"), (0, u "length"), (0, u "()I"), (0, .interfaceMethodref 8 14), (0, .nameAndType 15 16), (0, u "charAt"), (0, u "(I)C"), (0, .methodref 18 19), (0, .class_ 20), (0, .nameAndType 21 22), (0, u "com/example/pure_mrtd/puremrtd/format/CheckDigit"), (0, u "valueOf"), (0, u "(CI)I"), (0, .fieldref 18 24), (0, .nameAndType 25 26), (0, u "WEIGHTS"), (0, u "[I"), (0, .methodref 18 28), (0, .nameAndType 29 30), (0, u "isMrzCharacter"), (0, u "(C)Z"), (20, u "compute"), (0, u "(Ljava/lang/CharSequence;)C")] 4

def k2m0 : Method := { name := "<init>", desc := "()V", sig := { parameters := [], returnType := none }, accessFlags := 2, code := none }
def k2c1 : Code := { maxStack := 5, maxLocals := 3, code := prog_13_method_2_code, exceptionTable := #[], attributes := #[] }
def k2m1 : Method := { name := "compute", desc := "(Ljava/lang/CharSequence;)C", sig := { parameters := [(.object "java/lang/CharSequence")], returnType := some .char }, accessFlags := 9, code := some k2c1 }
def k2c2 : Code := { maxStack := 2, maxLocals := 1, code := prog_13_method_3_code, exceptionTable := #[], attributes := #[] }
def k2m2 : Method := { name := "isMrzCharacter", desc := "(C)Z", sig := { parameters := [.char], returnType := some .boolean }, accessFlags := 9, code := some k2c2 }
def k2c3 : Code := { maxStack := 7, maxLocals := 2, code := prog_13_method_4_code, exceptionTable := #[], attributes := #[] }
def k2m3 : Method := { name := "valueOf", desc := "(CI)I", sig := { parameters := [.char, .int], returnType := some .int }, accessFlags := 10, code := some k2c3 }
/-- com/example/pure_mrtd/puremrtd/format/CheckDigit -/
def k2 : Class := { plain "com/example/pure_mrtd/puremrtd/format/CheckDigit" (some 0) with
  accessFlags := 49
  interfaces := #[]
  cf := some (fileOf pool2 18 #[] #[{ accessFlags := 2, nameIndex := 5, descriptorIndex := 6, attributes := #[] }, { accessFlags := 9, nameIndex := 51, descriptorIndex := 52, attributes := #[] }, { accessFlags := 9, nameIndex := 29, descriptorIndex := 30, attributes := #[] }, { accessFlags := 10, nameIndex := 21, descriptorIndex := 22, attributes := #[] }] 49 2 #[] #[{ accessFlags := 26, nameIndex := 25, descriptorIndex := 26, attributes := #[] }])
  fields := #[{ name := "WEIGHTS", type := (.array .int), accessFlags := 26, slot := 0, constantValue := 0 }]
  methods := #[k2m0, k2m1, k2m2, k2m3]
  instanceTypes := #[]
  staticTypes := #[(.array .int)]
  resolved := Array.replicate 57 none
  statics := some 0 }

def pool3 : Array CpInfo := pool [(1, .class_ 2), (0, u "java/io/Serializable"), (0, .class_ 4), (0, u "java/lang/Object")] 2

/-- java/io/Serializable -/
def k3 : Class := { plain "java/io/Serializable" (some 0) with
  accessFlags := 1537
  interfaces := #[]
  cf := some (fileOf pool3 1 #[] #[] 1537 3 #[] #[])
  fields := #[]
  methods := #[]
  instanceTypes := #[]
  staticTypes := #[]
  resolved := Array.replicate 7 none
  statics := none }

def pool4 : Array CpInfo := pool [(1, .class_ 2), (0, u "java/lang/Comparable"), (0, .class_ 4), (0, u "java/lang/Object")] 7

/-- java/lang/Comparable -/
def k4 : Class := { plain "java/lang/Comparable" (some 0) with
  accessFlags := 1537
  interfaces := #[]
  cf := some (fileOf pool4 1 #[] #[] 1537 3 #[] #[])
  fields := #[]
  methods := #[]
  instanceTypes := #[]
  staticTypes := #[]
  resolved := Array.replicate 12 none
  statics := none }

def pool5 : Array CpInfo := pool [(2, .class_ 4), (1, u "java/lang/CharSequence"), (0, u "length"), (0, u "()I"), (38, u "charAt"), (0, u "(I)C"), (0, .class_ 48), (0, u "java/lang/CharSequence$1CodePointIterator"), (10, .class_ 60), (0, u "java/lang/CharSequence$1CharIterator"), (5, .class_ 67), (0, u "java/lang/Object")] 63

def k5m0 : Method := { name := "length", desc := "()I", sig := { parameters := [], returnType := some .int }, accessFlags := 1025, code := none }
def k5m1 : Method := { name := "charAt", desc := "(I)C", sig := { parameters := [.int], returnType := some .char }, accessFlags := 1025, code := none }
/-- java/lang/CharSequence -/
def k5 : Class := { plain "java/lang/CharSequence" (some 0) with
  accessFlags := 1537
  interfaces := #[]
  cf := some (fileOf pool5 2 #[.nestMembers #[47, 59]] #[{ accessFlags := 1025, nameIndex := 5, descriptorIndex := 6, attributes := #[] }, { accessFlags := 1025, nameIndex := 45, descriptorIndex := 46, attributes := #[] }] 1537 66 #[] #[])
  fields := #[]
  methods := #[k5m0, k5m1]
  instanceTypes := #[]
  staticTypes := #[]
  resolved := Array.replicate 131 none
  statics := none }

def pool6 : Array CpInfo := pool [(1, .class_ 2), (0, u "java/lang/constant/Constable"), (0, .class_ 4), (0, u "java/lang/Object")] 6

/-- java/lang/constant/Constable -/
def k6 : Class := { plain "java/lang/constant/Constable" (some 0) with
  accessFlags := 1537
  interfaces := #[]
  cf := some (fileOf pool6 1 #[] #[] 1537 3 #[] #[])
  fields := #[]
  methods := #[]
  instanceTypes := #[]
  staticTypes := #[]
  resolved := Array.replicate 11 none
  statics := none }

def pool7 : Array CpInfo := pool [(1, .class_ 2), (0, u "java/lang/constant/ConstantDesc"), (0, .class_ 4), (0, u "java/lang/Object")] 32

/-- java/lang/constant/ConstantDesc -/
def k7 : Class := { plain "java/lang/constant/ConstantDesc" (some 0) with
  accessFlags := 1537
  interfaces := #[]
  cf := some (fileOf pool7 1 #[] #[] 1537 3 #[] #[])
  fields := #[]
  methods := #[]
  instanceTypes := #[]
  staticTypes := #[]
  resolved := Array.replicate 37 none
  statics := none }

def pool8 : Array CpInfo := pool [(1, .methodref 2 3), (0, .class_ 4), (0, .nameAndType 5 6), (0, u "java/lang/Object"), (0, u "<init>"), (0, u "()V"), (2, .fieldref 10 11), (0, .class_ 12), (0, .nameAndType 13 14), (0, u "java/lang/String"), (0, u "value"), (0, u "[B"), (0, .fieldref 10 16), (0, .nameAndType 17 18), (0, u "coder"), (0, u "B"), (2, u "hash"), (0, u "I"), (2, u "hashIsZero"), (0, u "Z"), (11, .fieldref 10 39), (0, .nameAndType 40 26), (0, u "COMPACT_STRINGS"), (12, u "toBytes"), (53, .class_ 109), (1, u "java/lang/StringLatin1"), (32, u "()Z"), (66, .methodref 10 210), (0, .nameAndType 5 211), (0, u "([BB)V"), (122, u "()I"), (0, .methodref 10 336), (0, .nameAndType 17 337), (0, u "()B"), (25, u "([BI)C"), (5, u "(C)Z"), (21, u "(II)V"), (35, u "(I)C"), (64, .methodref 10 493), (0, .nameAndType 494 142), (0, u "isLatin1"), (0, .methodref 107 496), (0, .nameAndType 497 363), (0, u "charAt"), (3, u "checkIndex"), (5, u "length"), (67, .class_ 576), (0, u "java/lang/CharSequence"), (22, u "CASE_INSENSITIVE_ORDER"), (0, u "Ljava/util/Comparator;"), (181, u "valueOf"), (0, u "(C)Ljava/lang/String;"), (231, .methodref 107 1016), (0, .nameAndType 1017 369), (0, u "canEncode"), (0, .methodref 107 1019), (0, .nameAndType 53 1020), (0, u "(C)[B"), (32, .fieldref 1054 1055), (0, .class_ 1056), (0, .nameAndType 1057 1058), (0, u "jdk/internal/util/Preconditions"), (0, u "SIOOBE_FORMATTER"), (0, u "Ljava/util/function/BiFunction;"), (0, .methodref 1054 1060), (0, .nameAndType 501 1061), (0, u "(IILjava/util/function/BiFunction;)I"), (39, u "serialPersistentFields"), (0, u "[Ljava/io/ObjectStreamField;"), (0, .class_ 1104), (0, u "java/lang/String$CaseInsensitiveComparator"), (1, .class_ 1107), (0, u "java/io/Serializable"), (0, .class_ 1109), (0, u "java/lang/Comparable"), (0, .class_ 1111), (0, u "java/lang/constant/Constable"), (0, .class_ 1113), (0, u "java/lang/constant/ConstantDesc"), (2, u "serialVersionUID"), (0, u "J"), (3, u "REPL"), (0, u "C"), (2, u "LATIN1"), (1, u "UTF16")] 323

def k8m0 : Method := { name := "<init>", desc := "()V", sig := { parameters := [], returnType := none }, accessFlags := 1, code := none }
def k8c1 : Code := { maxStack := 2, maxLocals := 1, code := jdk_42_method_54_code, exceptionTable := #[], attributes := #[] }
def k8m1 : Method := { name := "length", desc := "()I", sig := { parameters := [], returnType := some .int }, accessFlags := 1, code := some k8c1 }
def k8c2 : Code := { maxStack := 2, maxLocals := 2, code := jdk_42_method_56_code, exceptionTable := #[], attributes := #[] }
def k8m2 : Method := { name := "charAt", desc := "(I)C", sig := { parameters := [.int], returnType := some .char }, accessFlags := 1, code := some k8c2 }
def k8c3 : Code := { maxStack := 4, maxLocals := 1, code := jdk_42_method_139_code, exceptionTable := #[], attributes := #[] }
def k8m3 : Method := { name := "valueOf", desc := "(C)Ljava/lang/String;", sig := { parameters := [.char], returnType := some (.object "java/lang/String") }, accessFlags := 9, code := some k8c3 }
def k8c4 : Code := { maxStack := 2, maxLocals := 3, code := jdk_42_method_151_code, exceptionTable := #[], attributes := #[] }
def k8m4 : Method := { name := "<init>", desc := "([BB)V", sig := { parameters := [(.array .byte), .byte], returnType := none }, accessFlags := 0, code := some k8c4 }
def k8c5 : Code := { maxStack := 1, maxLocals := 1, code := jdk_42_method_152_code, exceptionTable := #[], attributes := #[] }
def k8m5 : Method := { name := "coder", desc := "()B", sig := { parameters := [], returnType := some .byte }, accessFlags := 0, code := some k8c5 }
def k8c6 : Code := { maxStack := 1, maxLocals := 1, code := jdk_42_method_154_code, exceptionTable := #[], attributes := #[] }
def k8m6 : Method := { name := "isLatin1", desc := "()Z", sig := { parameters := [], returnType := some .boolean }, accessFlags := 0, code := some k8c6 }
def k8c7 : Code := { maxStack := 3, maxLocals := 2, code := jdk_42_method_155_code, exceptionTable := #[], attributes := #[] }
def k8m7 : Method := { name := "checkIndex", desc := "(II)V", sig := { parameters := [.int, .int], returnType := none }, accessFlags := 8, code := some k8c7 }
/-- java/lang/String -/
def k8 : Class := { plain "java/lang/String" (some 0) with
  accessFlags := 49
  interfaces := #[3, 4, 5, 6, 7]
  cf := some (fileOf pool8 10 #[.nestMembers #[1103]] #[{ accessFlags := 1, nameIndex := 5, descriptorIndex := 6, attributes := #[] }, { accessFlags := 1, nameIndex := 507, descriptorIndex := 334, attributes := #[] }, { accessFlags := 1, nameIndex := 497, descriptorIndex := 427, attributes := #[] }, { accessFlags := 9, nameIndex := 782, descriptorIndex := 783, attributes := #[] }, { accessFlags := 0, nameIndex := 5, descriptorIndex := 211, attributes := #[] }, { accessFlags := 0, nameIndex := 17, descriptorIndex := 337, attributes := #[] }, { accessFlags := 0, nameIndex := 494, descriptorIndex := 142, attributes := #[] }, { accessFlags := 8, nameIndex := 501, descriptorIndex := 391, attributes := #[] }] 49 2 #[1106, 1108, 575, 1110, 1112] #[{ accessFlags := 18, nameIndex := 13, descriptorIndex := 14, attributes := #[] }, { accessFlags := 18, nameIndex := 17, descriptorIndex := 18, attributes := #[] }, { accessFlags := 2, nameIndex := 21, descriptorIndex := 22, attributes := #[] }, { accessFlags := 2, nameIndex := 25, descriptorIndex := 26, attributes := #[] }, { accessFlags := 26, nameIndex := 1116, descriptorIndex := 1117, attributes := #[] }, { accessFlags := 24, nameIndex := 40, descriptorIndex := 26, attributes := #[] }, { accessFlags := 26, nameIndex := 1101, descriptorIndex := 1102, attributes := #[] }, { accessFlags := 26, nameIndex := 1121, descriptorIndex := 1122, attributes := #[] }, { accessFlags := 25, nameIndex := 599, descriptorIndex := 600, attributes := #[] }, { accessFlags := 24, nameIndex := 1125, descriptorIndex := 18, attributes := #[] }, { accessFlags := 24, nameIndex := 1127, descriptorIndex := 18, attributes := #[] }])
  fields := #[{ name := "value", type := (.array .byte), accessFlags := 18, slot := 0, constantValue := 0 }, { name := "coder", type := .byte, accessFlags := 18, slot := 1, constantValue := 0 }, { name := "hash", type := .int, accessFlags := 2, slot := 2, constantValue := 0 }, { name := "hashIsZero", type := .boolean, accessFlags := 2, slot := 3, constantValue := 0 }, { name := "serialVersionUID", type := .long, accessFlags := 26, slot := 0, constantValue := 0 }, { name := "COMPACT_STRINGS", type := .boolean, accessFlags := 24, slot := 1, constantValue := 0 }, { name := "serialPersistentFields", type := (.array (.object "java/io/ObjectStreamField")), accessFlags := 26, slot := 2, constantValue := 0 }, { name := "REPL", type := .char, accessFlags := 26, slot := 3, constantValue := 0 }, { name := "CASE_INSENSITIVE_ORDER", type := (.object "java/util/Comparator"), accessFlags := 25, slot := 4, constantValue := 0 }, { name := "LATIN1", type := .byte, accessFlags := 24, slot := 5, constantValue := 0 }, { name := "UTF16", type := .byte, accessFlags := 24, slot := 6, constantValue := 0 }]
  methods := #[k8m0, k8m1, k8m2, k8m3, k8m4, k8m5, k8m6, k8m7]
  instanceTypes := #[(.array .byte), .byte, .int, .boolean]
  staticTypes := #[.long, .boolean, (.array (.object "java/io/ObjectStreamField")), .char, (.object "java/util/Comparator"), .byte, .byte]
  resolved := Array.replicate 1451 none
  statics := some 1 }

def pool9 : Array CpInfo := pool [(1, .class_ 2), (0, u "java/lang/String"), (1, .class_ 6), (1, u "java/lang/Object"), (0, u "<init>"), (0, u "()V"), (0, .methodref 1 10), (0, .nameAndType 11 12), (0, u "checkIndex"), (0, u "(II)V"), (1, .class_ 16), (1, u "java/lang/StringLatin1"), (36, u "([BI)C"), (36, u "canEncode"), (14, u "(C)Z"), (15, u "$assertionsDisabled"), (0, u "Z"), (98, .class_ 223), (1, u "java/lang/StringLatin1$LinesSpliterator"), (28, u "charAt"), (127, u "toBytes"), (1, u "(C)[B"), (7, .class_ 391), (0, u "java/lang/StringLatin1$CharsSpliterator")] 3

def k9m0 : Method := { name := "<init>", desc := "()V", sig := { parameters := [], returnType := none }, accessFlags := 0, code := none }
def k9c1 : Code := { maxStack := 2, maxLocals := 2, code := jdk_43_method_2_code, exceptionTable := #[], attributes := #[] }
def k9m1 : Method := { name := "charAt", desc := "([BI)C", sig := { parameters := [(.array .byte), .int], returnType := some .char }, accessFlags := 9, code := some k9c1 }
def k9c2 : Code := { maxStack := 2, maxLocals := 1, code := jdk_43_method_3_code, exceptionTable := #[], attributes := #[] }
def k9m2 : Method := { name := "canEncode", desc := "(C)Z", sig := { parameters := [.char], returnType := some .boolean }, accessFlags := 9, code := some k9c2 }
def k9c3 : Code := { maxStack := 4, maxLocals := 1, code := jdk_43_method_46_code, exceptionTable := #[], attributes := #[] }
def k9m3 : Method := { name := "toBytes", desc := "(C)[B", sig := { parameters := [.char], returnType := some (.array .byte) }, accessFlags := 9, code := some k9c3 }
/-- java/lang/StringLatin1 -/
def k9 : Class := { plain "java/lang/StringLatin1" (some 0) with
  accessFlags := 48
  interfaces := #[]
  cf := some (fileOf pool9 14 #[.nestMembers #[390, 221]] #[{ accessFlags := 0, nameIndex := 7, descriptorIndex := 8, attributes := #[] }, { accessFlags := 9, nameIndex := 252, descriptorIndex := 53, attributes := #[] }, { accessFlags := 9, nameIndex := 90, descriptorIndex := 105, attributes := #[] }, { accessFlags := 9, nameIndex := 380, descriptorIndex := 382, attributes := #[] }] 48 4 #[] #[{ accessFlags := 4120, nameIndex := 121, descriptorIndex := 122, attributes := #[] }])
  fields := #[{ name := "$assertionsDisabled", type := .boolean, accessFlags := 4120, slot := 0, constantValue := 0 }]
  methods := #[k9m0, k9m1, k9m2, k9m3]
  instanceTypes := #[]
  staticTypes := #[.boolean]
  resolved := Array.replicate 395 none
  statics := none }

def pool10 : Array CpInfo := pool [(2, .class_ 4), (1, u "java/lang/Object"), (0, u "<init>"), (0, u "()V"), (17, .class_ 26), (1, u "jdk/internal/util/Preconditions"), (6, u "checkIndex"), (21, .class_ 56), (0, u "jdk/internal/util/Preconditions$4"), (57, .class_ 115), (0, u "jdk/internal/util/Preconditions$1"), (7, u "SIOOBE_FORMATTER"), (0, u "Ljava/util/function/BiFunction;"), (0, .class_ 126), (0, u "jdk/internal/util/Preconditions$2"), (3, u "AIOOBE_FORMATTER"), (0, .class_ 132), (0, u "jdk/internal/util/Preconditions$3"), (3, u "IOOBE_FORMATTER"), (41, u "(IILjava/util/function/BiFunction;)I")] 15

def k10m0 : Method := { name := "<init>", desc := "()V", sig := { parameters := [], returnType := none }, accessFlags := 1, code := none }
def k10c1 : Code := { maxStack := 3, maxLocals := 3, code := jdk_41_method_11_code, exceptionTable := #[], attributes := #[] }
def k10m1 : Method := { name := "checkIndex", desc := "(IILjava/util/function/BiFunction;)I", sig := { parameters := [.int, .int, (.object "java/util/function/BiFunction")], returnType := some .int }, accessFlags := 9, code := some k10c1 }
/-- jdk/internal/util/Preconditions -/
def k10 : Class := { plain "jdk/internal/util/Preconditions" (some 0) with
  accessFlags := 33
  interfaces := #[]
  cf := some (fileOf pool10 24 #[.nestMembers #[55, 131, 125, 114]] #[{ accessFlags := 1, nameIndex := 5, descriptorIndex := 6, attributes := #[] }, { accessFlags := 9, nameIndex := 33, descriptorIndex := 178, attributes := #[] }] 33 2 #[] #[{ accessFlags := 25, nameIndex := 123, descriptorIndex := 124, attributes := #[] }, { accessFlags := 25, nameIndex := 130, descriptorIndex := 124, attributes := #[] }, { accessFlags := 25, nameIndex := 136, descriptorIndex := 124, attributes := #[] }])
  fields := #[{ name := "SIOOBE_FORMATTER", type := (.object "java/util/function/BiFunction"), accessFlags := 25, slot := 0, constantValue := 0 }, { name := "AIOOBE_FORMATTER", type := (.object "java/util/function/BiFunction"), accessFlags := 25, slot := 1, constantValue := 0 }, { name := "IOOBE_FORMATTER", type := (.object "java/util/function/BiFunction"), accessFlags := 25, slot := 2, constantValue := 0 }]
  methods := #[k10m0, k10m1]
  instanceTypes := #[]
  staticTypes := #[(.object "java/util/function/BiFunction"), (.object "java/util/function/BiFunction"), (.object "java/util/function/BiFunction")]
  resolved := Array.replicate 194 none
  statics := some 2 }

def pool11 : Array CpInfo := pool [(9, u "<init>"), (6, .class_ 18), (1, u "java/lang/Object"), (0, u "()V"), (1, .class_ 23), (1, u "jdk/internal/util/ArraysSupport"), (0, u "LOG2_ARRAY_LONG_INDEX_SCALE"), (0, u "I"), (2, u "U"), (0, u "Ljdk/internal/misc/Unsafe;"), (8, u "BIG_ENDIAN"), (0, u "Z"), (8, u "LOG2_BYTE_BIT_SIZE"), (4, u "LOG2_ARRAY_INT_INDEX_SCALE"), (54, u "JLA"), (0, u "Ljdk/internal/access/JavaLangAccess;"), (11, u "LOG2_ARRAY_BOOLEAN_INDEX_SCALE"), (9, u "LOG2_ARRAY_BYTE_INDEX_SCALE"), (5, u "LOG2_ARRAY_CHAR_INDEX_SCALE"), (5, u "LOG2_ARRAY_SHORT_INDEX_SCALE"), (18, u "LOG2_ARRAY_FLOAT_INDEX_SCALE"), (24, u "LOG2_ARRAY_DOUBLE_INDEX_SCALE"), (89, u "T_BOOLEAN"), (2, u "T_CHAR"), (1, u "T_FLOAT"), (1, u "T_DOUBLE"), (1, u "T_BYTE"), (1, u "T_SHORT"), (1, u "T_INT"), (1, u "T_LONG"), (1, u "SOFT_MAX_ARRAY_LENGTH")] 83

def k11m0 : Method := { name := "<init>", desc := "()V", sig := { parameters := [], returnType := none }, accessFlags := 2, code := none }
/-- jdk/internal/util/ArraysSupport -/
def k11 : Class := { plain "jdk/internal/util/ArraysSupport" (some 0) with
  accessFlags := 33
  interfaces := #[]
  cf := some (fileOf pool11 21 #[] #[{ accessFlags := 2, nameIndex := 9, descriptorIndex := 19, attributes := #[] }] 33 16 #[] #[{ accessFlags := 24, nameIndex := 28, descriptorIndex := 29, attributes := #[] }, { accessFlags := 26, nameIndex := 38, descriptorIndex := 39, attributes := #[] }, { accessFlags := 25, nameIndex := 121, descriptorIndex := 25, attributes := #[] }, { accessFlags := 25, nameIndex := 131, descriptorIndex := 25, attributes := #[] }, { accessFlags := 25, nameIndex := 137, descriptorIndex := 25, attributes := #[] }, { accessFlags := 25, nameIndex := 143, descriptorIndex := 25, attributes := #[] }, { accessFlags := 25, nameIndex := 53, descriptorIndex := 25, attributes := #[] }, { accessFlags := 25, nameIndex := 24, descriptorIndex := 25, attributes := #[] }, { accessFlags := 25, nameIndex := 162, descriptorIndex := 25, attributes := #[] }, { accessFlags := 25, nameIndex := 187, descriptorIndex := 25, attributes := #[] }, { accessFlags := 26, nameIndex := 48, descriptorIndex := 25, attributes := #[] }, { accessFlags := 25, nameIndex := 277, descriptorIndex := 25, attributes := #[] }, { accessFlags := 25, nameIndex := 280, descriptorIndex := 25, attributes := #[] }, { accessFlags := 25, nameIndex := 282, descriptorIndex := 25, attributes := #[] }, { accessFlags := 25, nameIndex := 284, descriptorIndex := 25, attributes := #[] }, { accessFlags := 25, nameIndex := 286, descriptorIndex := 25, attributes := #[] }, { accessFlags := 25, nameIndex := 288, descriptorIndex := 25, attributes := #[] }, { accessFlags := 25, nameIndex := 290, descriptorIndex := 25, attributes := #[] }, { accessFlags := 25, nameIndex := 292, descriptorIndex := 25, attributes := #[] }, { accessFlags := 26, nameIndex := 108, descriptorIndex := 109, attributes := #[] }, { accessFlags := 25, nameIndex := 294, descriptorIndex := 25, attributes := #[] }])
  fields := #[{ name := "U", type := (.object "jdk/internal/misc/Unsafe"), accessFlags := 24, slot := 0, constantValue := 0 }, { name := "BIG_ENDIAN", type := .boolean, accessFlags := 26, slot := 1, constantValue := 0 }, { name := "LOG2_ARRAY_BOOLEAN_INDEX_SCALE", type := .int, accessFlags := 25, slot := 2, constantValue := 0 }, { name := "LOG2_ARRAY_BYTE_INDEX_SCALE", type := .int, accessFlags := 25, slot := 3, constantValue := 0 }, { name := "LOG2_ARRAY_CHAR_INDEX_SCALE", type := .int, accessFlags := 25, slot := 4, constantValue := 0 }, { name := "LOG2_ARRAY_SHORT_INDEX_SCALE", type := .int, accessFlags := 25, slot := 5, constantValue := 0 }, { name := "LOG2_ARRAY_INT_INDEX_SCALE", type := .int, accessFlags := 25, slot := 6, constantValue := 0 }, { name := "LOG2_ARRAY_LONG_INDEX_SCALE", type := .int, accessFlags := 25, slot := 7, constantValue := 0 }, { name := "LOG2_ARRAY_FLOAT_INDEX_SCALE", type := .int, accessFlags := 25, slot := 8, constantValue := 0 }, { name := "LOG2_ARRAY_DOUBLE_INDEX_SCALE", type := .int, accessFlags := 25, slot := 9, constantValue := 0 }, { name := "LOG2_BYTE_BIT_SIZE", type := .int, accessFlags := 26, slot := 10, constantValue := 0 }, { name := "T_BOOLEAN", type := .int, accessFlags := 25, slot := 11, constantValue := 0 }, { name := "T_CHAR", type := .int, accessFlags := 25, slot := 12, constantValue := 0 }, { name := "T_FLOAT", type := .int, accessFlags := 25, slot := 13, constantValue := 0 }, { name := "T_DOUBLE", type := .int, accessFlags := 25, slot := 14, constantValue := 0 }, { name := "T_BYTE", type := .int, accessFlags := 25, slot := 15, constantValue := 0 }, { name := "T_SHORT", type := .int, accessFlags := 25, slot := 16, constantValue := 0 }, { name := "T_INT", type := .int, accessFlags := 25, slot := 17, constantValue := 0 }, { name := "T_LONG", type := .int, accessFlags := 25, slot := 18, constantValue := 0 }, { name := "JLA", type := (.object "jdk/internal/access/JavaLangAccess"), accessFlags := 26, slot := 19, constantValue := 0 }, { name := "SOFT_MAX_ARRAY_LENGTH", type := .int, accessFlags := 25, slot := 20, constantValue := 0 }]
  methods := #[k11m0]
  instanceTypes := #[]
  staticTypes := #[(.object "jdk/internal/misc/Unsafe"), .boolean, .int, .int, .int, .int, .int, .int, .int, .int, .int, .int, .int, .int, .int, .int, .int, .int, .int, (.object "jdk/internal/access/JavaLangAccess"), .int]
  resolved := Array.replicate 378 none
  statics := none }

def pool12 : Array CpInfo := pool [(1, u "java/lang/Cloneable"), (0, .class_ 1), (0, u "java/lang/Object"), (0, .class_ 3)] 3

/-- java/lang/Cloneable -/
def k12 : Class := { plain "java/lang/Cloneable" (some 0) with
  accessFlags := 1537
  interfaces := #[]
  cf := some (fileOf pool12 2 #[] #[] 1537 4 #[] #[])
  fields := #[]
  methods := #[]
  instanceTypes := #[]
  staticTypes := #[]
  resolved := Array.replicate 8 none
  statics := none }

/-- the primitive byte -/
def k13 : Class := { plain "byte" none with kind := .primitive 'B', accessFlags := 0x411 }
/-- [B -/
def k14 : Class := { plain "[B" (some 0) with kind := .array 13 .byte, interfaces := #[12, 3], accessFlags := 1041 }

/-- the primitive int -/
def k15 : Class := { plain "int" none with kind := .primitive 'I', accessFlags := 0x411 }
/-- [I -/
def k16 : Class := { plain "[I" (some 0) with kind := .array 15 .int, interfaces := #[12, 3], accessFlags := 1041 }

def heap : Heap := #[{ cls := 2, slots := #[.ref 3], vm := .statics 2 },
  { cls := 8, slots := #[.long 0, .int 1, .null, .int 0, .null, .int 0, .int 0], vm := .statics 8 },
  { cls := 10, slots := #[.null, .null, .null], vm := .statics 10 },
  { cls := 16, slots := #[.int 7, .int 3, .int 1], vm := .none }]
def classes : Array Class := #[k0, k1, k2, k3, k4, k5, k6, k7, k8, k9, k10, k11, k12, k13, k14, k15, k16]
def interned : List (Array UInt16 × Addr) := []
def slotsUsed : Nat := 14
def theMethod : MethodId := ⟨1, 1⟩
def args0 : Array Value := #[.int 65]
def aboutOver (below : List Frame) : State where
  vm := { classes := classes, interned := interned.toArray }
  heap := heap
  slotsUsed := slotsUsed
  threads := #[{ frames := .invoking theMethod args0 :: below }]
def below0 : List Frame := [.native { method := ⟨0, 0⟩, args := #[] }]
def about1 : State := aboutOver below0
def p0 : Program := .bare "" "" ""
def e0 : Env := launch0.env 0 0 0
theorem w_frames : about1.frames = Frame.invoking theMethod args0 :: below0 := rfl
set_option maxRecDepth 65536 in
theorem w_args : argsFit about1.vm theMethod args0 = true := by decide +kernel
set_option maxRecDepth 65536 in
theorem w_heap : heapFits about1 = true := by decide +kernel
set_option maxRecDepth 65536 in
theorem w_runnable : about1.curStatus? = some .runnable := by decide +kernel
set_option maxRecDepth 65536 in
theorem w_alone : about1.alone = true := by decide +kernel
set_option maxRecDepth 65536 in
theorem w_named : about1.methodNamed? x = some theMethod := by decide +kernel
set_option maxRecDepth 65536 in
theorem w_hears : about1.hears theMethod below0 = true := by decide +kernel
set_option maxRecDepth 65536 in
theorem w_ripe : about1.ripe theMethod args0 below0 = true := by decide +kernel
theorem w_running : about1.status = .running := rfl
set_option maxRecDepth 65536 in
theorem w_room : about1.hasRoom e0.platform room_1 = true :=
  launch0.hasRoom_least _ room_1 (by decide +kernel) (by decide +kernel) (by decide +kernel) (by decide +kernel) (by decide +kernel) (by decide +kernel)
theorem allAtoms_all (ts : List Jvm.Cond) (a : Array Jvm.Value) (st : Jvm.State) : (allAtoms ts).before a st = ts.all (fun c => c.before a st) := by
  induction ts with
  | nil => rfl
  | cons c t ih =>
    show (Jvm.Cond.and c (allAtoms t)).before a st = _
    rw [Jvm.Cond.before_and, ih, List.all_cons]
def words1 : List Jvm.Cond := Jvm.Cond.code x code maxLocals ret :: tables_1
/-- a 'code' word, met by the world's own term for the bytes: nothing is compared byte by byte -/
theorem code_word {y : MethodName} {bytes : ByteArray} {mx : Nat} {rt : Option FieldType} {a : Array Value} {s : State} {m : MethodId} {meth : Method} {c : Code} (h1 : s.methodNamed? y = some m) (h2 : s.vm.method? m = some meth) (h3 : meth.code = some c) (h4 : c.code = bytes)
    (h5 : (c.maxLocals == mx && c.exceptionTable.isEmpty && decide (c.maxStack ≤ mostOperands) && decide (meth.sig.returnType = rt) && !meth.locks && decide (parseMethodDescriptor y.desc = some meth.sig)) = true) : (Jvm.Cond.code y bytes mx rt).before a s = true := by
  simp only [Bool.and_eq_true, beq_iff_eq, Bool.not_eq_true', decide_eq_true_eq] at h5
  obtain ⟨⟨⟨⟨⟨g1, g2⟩, g3⟩, g4⟩, g5⟩, g6⟩ := h5
  simp [Cond.before, Cond.holds, Cond.value, h1, h2, h3, h4, g1, g2, g3, g4, g5, g6]
def isCode : Jvm.Cond → Bool
  | .code _ _ _ _ => true
  | _ => false
theorem all_split {L : List Jvm.Cond} {P : Jvm.Cond → Bool} (h1 : L.all (fun c => isCode c || P c) = true) (h2 : ∀ c ∈ L.filter isCode, P c = true) : L.all P = true := by
  refine List.all_eq_true.mpr fun c hc => ?_
  have h := List.all_eq_true.mp h1 c hc
  rcases Bool.eq_false_or_eq_true (isCode c) with hi | hi
  · exact h2 c (List.mem_filter.mpr ⟨hc, hi⟩)
  · simpa [hi] using h
set_option maxRecDepth 65536 in
theorem w_c0 : (Jvm.Cond.code x code maxLocals ret).before args0 about1 = true := code_word (m := ⟨1, 1⟩) (meth := k1m1) (c := k1c1) (by decide +kernel) rfl rfl rfl (by decide +kernel)
set_option maxRecDepth 65536 in
theorem w_c1 : (Jvm.Cond.code ({ cls := "com/example/pure_mrtd/puremrtd/format/CheckDigit", name := "isMrzCharacter", desc := "(C)Z" } : Jvm.MethodName) prog_13_method_3_code (1 : Nat) (Option.some Jvm.ClassFile.FieldType.boolean)).before args0 about1 = true := code_word (m := ⟨2, 2⟩) (meth := k2m2) (c := k2c2) (by decide +kernel) rfl rfl rfl (by decide +kernel)
set_option maxRecDepth 65536 in
theorem w_c2 : (Jvm.Cond.code ({ cls := "java/lang/String", name := "valueOf", desc := "(C)Ljava/lang/String;" } : Jvm.MethodName) jdk_42_method_139_code (1 : Nat) (Option.some (Jvm.ClassFile.FieldType.object "java/lang/String"))).before args0 about1 = true := code_word (m := ⟨8, 3⟩) (meth := k8m3) (c := k8c3) (by decide +kernel) rfl rfl rfl (by decide +kernel)
set_option maxRecDepth 65536 in
theorem w_c3 : (Jvm.Cond.code ({ cls := "java/lang/StringLatin1", name := "canEncode", desc := "(C)Z" } : Jvm.MethodName) jdk_43_method_3_code (1 : Nat) (Option.some Jvm.ClassFile.FieldType.boolean)).before args0 about1 = true := code_word (m := ⟨9, 2⟩) (meth := k9m2) (c := k9c2) (by decide +kernel) rfl rfl rfl (by decide +kernel)
set_option maxRecDepth 65536 in
theorem w_c4 : (Jvm.Cond.code ({ cls := "java/lang/StringLatin1", name := "toBytes", desc := "(C)[B" } : Jvm.MethodName) jdk_43_method_46_code (1 : Nat) (Option.some (Jvm.ClassFile.FieldType.array Jvm.ClassFile.FieldType.byte))).before args0 about1 = true := code_word (m := ⟨9, 3⟩) (meth := k9m3) (c := k9c3) (by decide +kernel) rfl rfl rfl (by decide +kernel)
set_option maxRecDepth 65536 in
theorem w_c5 : (Jvm.Cond.code ({ cls := "java/lang/String", name := "<init>", desc := "([BB)V" } : Jvm.MethodName) jdk_42_method_151_code (3 : Nat) (Option.none : Option Jvm.ClassFile.FieldType)).before args0 about1 = true := code_word (m := ⟨8, 4⟩) (meth := k8m4) (c := k8c4) (by decide +kernel) rfl rfl rfl (by decide +kernel)
set_option maxRecDepth 65536 in
theorem w_c6 : (Jvm.Cond.code ({ cls := "java/lang/Object", name := "<init>", desc := "()V" } : Jvm.MethodName) object_method_1_code (1 : Nat) (Option.none : Option Jvm.ClassFile.FieldType)).before args0 about1 = true := code_word (m := ⟨0, 0⟩) (meth := k0m0) (c := k0c0) (by decide +kernel) rfl rfl rfl (by decide +kernel)
set_option maxRecDepth 65536 in
theorem w_c7 : (Jvm.Cond.code ({ cls := "com/example/pure_mrtd/puremrtd/format/CheckDigit", name := "compute", desc := "(Ljava/lang/CharSequence;)C" } : Jvm.MethodName) prog_13_method_2_code (3 : Nat) (Option.some Jvm.ClassFile.FieldType.char)).before args0 about1 = true := code_word (m := ⟨2, 1⟩) (meth := k2m1) (c := k2c1) (by decide +kernel) rfl rfl rfl (by decide +kernel)
set_option maxRecDepth 65536 in
theorem w_c8 : (Jvm.Cond.code ({ cls := "java/lang/String", name := "length", desc := "()I" } : Jvm.MethodName) jdk_42_method_54_code (1 : Nat) (Option.some Jvm.ClassFile.FieldType.int)).before args0 about1 = true := code_word (m := ⟨8, 1⟩) (meth := k8m1) (c := k8c1) (by decide +kernel) rfl rfl rfl (by decide +kernel)
set_option maxRecDepth 65536 in
theorem w_c9 : (Jvm.Cond.code ({ cls := "java/lang/String", name := "coder", desc := "()B" } : Jvm.MethodName) jdk_42_method_152_code (1 : Nat) (Option.some Jvm.ClassFile.FieldType.byte)).before args0 about1 = true := code_word (m := ⟨8, 5⟩) (meth := k8m5) (c := k8c5) (by decide +kernel) rfl rfl rfl (by decide +kernel)
set_option maxRecDepth 65536 in
theorem w_c10 : (Jvm.Cond.code ({ cls := "java/lang/String", name := "charAt", desc := "(I)C" } : Jvm.MethodName) jdk_42_method_56_code (2 : Nat) (Option.some Jvm.ClassFile.FieldType.char)).before args0 about1 = true := code_word (m := ⟨8, 2⟩) (meth := k8m2) (c := k8c2) (by decide +kernel) rfl rfl rfl (by decide +kernel)
set_option maxRecDepth 65536 in
theorem w_c11 : (Jvm.Cond.code ({ cls := "java/lang/String", name := "isLatin1", desc := "()Z" } : Jvm.MethodName) jdk_42_method_154_code (1 : Nat) (Option.some Jvm.ClassFile.FieldType.boolean)).before args0 about1 = true := code_word (m := ⟨8, 6⟩) (meth := k8m6) (c := k8c6) (by decide +kernel) rfl rfl rfl (by decide +kernel)
set_option maxRecDepth 65536 in
theorem w_c12 : (Jvm.Cond.code ({ cls := "java/lang/StringLatin1", name := "charAt", desc := "([BI)C" } : Jvm.MethodName) jdk_43_method_2_code (2 : Nat) (Option.some Jvm.ClassFile.FieldType.char)).before args0 about1 = true := code_word (m := ⟨9, 1⟩) (meth := k9m1) (c := k9c1) (by decide +kernel) rfl rfl rfl (by decide +kernel)
set_option maxRecDepth 65536 in
theorem w_c13 : (Jvm.Cond.code ({ cls := "java/lang/String", name := "checkIndex", desc := "(II)V" } : Jvm.MethodName) jdk_42_method_155_code (2 : Nat) (Option.none : Option Jvm.ClassFile.FieldType)).before args0 about1 = true := code_word (m := ⟨8, 7⟩) (meth := k8m7) (c := k8c7) (by decide +kernel) rfl rfl rfl (by decide +kernel)
set_option maxRecDepth 65536 in
theorem w_c14 : (Jvm.Cond.code ({ cls := "jdk/internal/util/Preconditions", name := "checkIndex", desc := "(IILjava/util/function/BiFunction;)I" } : Jvm.MethodName) jdk_41_method_11_code (3 : Nat) (Option.some Jvm.ClassFile.FieldType.int)).before args0 about1 = true := code_word (m := ⟨10, 1⟩) (meth := k10m1) (c := k10c1) (by decide +kernel) rfl rfl rfl (by decide +kernel)
set_option maxRecDepth 65536 in
theorem w_c15 : (Jvm.Cond.code ({ cls := "com/example/pure_mrtd/puremrtd/format/CheckDigit", name := "valueOf", desc := "(CI)I" } : Jvm.MethodName) prog_13_method_4_code (2 : Nat) (Option.some Jvm.ClassFile.FieldType.int)).before args0 about1 = true := code_word (m := ⟨2, 3⟩) (meth := k2m3) (c := k2c3) (by decide +kernel) rfl rfl rfl (by decide +kernel)
def codes1 : List Jvm.Cond := [Jvm.Cond.code x code maxLocals ret, Jvm.Cond.code ({ cls := "com/example/pure_mrtd/puremrtd/format/CheckDigit", name := "isMrzCharacter", desc := "(C)Z" } : Jvm.MethodName) prog_13_method_3_code (1 : Nat) (Option.some Jvm.ClassFile.FieldType.boolean), Jvm.Cond.code ({ cls := "java/lang/String", name := "valueOf", desc := "(C)Ljava/lang/String;" } : Jvm.MethodName) jdk_42_method_139_code (1 : Nat) (Option.some (Jvm.ClassFile.FieldType.object "java/lang/String")), Jvm.Cond.code ({ cls := "java/lang/StringLatin1", name := "canEncode", desc := "(C)Z" } : Jvm.MethodName) jdk_43_method_3_code (1 : Nat) (Option.some Jvm.ClassFile.FieldType.boolean), Jvm.Cond.code ({ cls := "java/lang/StringLatin1", name := "toBytes", desc := "(C)[B" } : Jvm.MethodName) jdk_43_method_46_code (1 : Nat) (Option.some (Jvm.ClassFile.FieldType.array Jvm.ClassFile.FieldType.byte)), Jvm.Cond.code ({ cls := "java/lang/String", name := "<init>", desc := "([BB)V" } : Jvm.MethodName) jdk_42_method_151_code (3 : Nat) (Option.none : Option Jvm.ClassFile.FieldType), Jvm.Cond.code ({ cls := "java/lang/Object", name := "<init>", desc := "()V" } : Jvm.MethodName) object_method_1_code (1 : Nat) (Option.none : Option Jvm.ClassFile.FieldType), Jvm.Cond.code ({ cls := "com/example/pure_mrtd/puremrtd/format/CheckDigit", name := "compute", desc := "(Ljava/lang/CharSequence;)C" } : Jvm.MethodName) prog_13_method_2_code (3 : Nat) (Option.some Jvm.ClassFile.FieldType.char), Jvm.Cond.code ({ cls := "java/lang/String", name := "length", desc := "()I" } : Jvm.MethodName) jdk_42_method_54_code (1 : Nat) (Option.some Jvm.ClassFile.FieldType.int), Jvm.Cond.code ({ cls := "java/lang/String", name := "coder", desc := "()B" } : Jvm.MethodName) jdk_42_method_152_code (1 : Nat) (Option.some Jvm.ClassFile.FieldType.byte), Jvm.Cond.code ({ cls := "java/lang/String", name := "charAt", desc := "(I)C" } : Jvm.MethodName) jdk_42_method_56_code (2 : Nat) (Option.some Jvm.ClassFile.FieldType.char), Jvm.Cond.code ({ cls := "java/lang/String", name := "isLatin1", desc := "()Z" } : Jvm.MethodName) jdk_42_method_154_code (1 : Nat) (Option.some Jvm.ClassFile.FieldType.boolean), Jvm.Cond.code ({ cls := "java/lang/StringLatin1", name := "charAt", desc := "([BI)C" } : Jvm.MethodName) jdk_43_method_2_code (2 : Nat) (Option.some Jvm.ClassFile.FieldType.char), Jvm.Cond.code ({ cls := "java/lang/String", name := "checkIndex", desc := "(II)V" } : Jvm.MethodName) jdk_42_method_155_code (2 : Nat) (Option.none : Option Jvm.ClassFile.FieldType), Jvm.Cond.code ({ cls := "jdk/internal/util/Preconditions", name := "checkIndex", desc := "(IILjava/util/function/BiFunction;)I" } : Jvm.MethodName) jdk_41_method_11_code (3 : Nat) (Option.some Jvm.ClassFile.FieldType.int), Jvm.Cond.code ({ cls := "com/example/pure_mrtd/puremrtd/format/CheckDigit", name := "valueOf", desc := "(CI)I" } : Jvm.MethodName) prog_13_method_4_code (2 : Nat) (Option.some Jvm.ClassFile.FieldType.int)]
set_option maxRecDepth 65536 in
theorem codes_eq : words1.filter isCode = codes1 := rfl
theorem w_codes : ∀ c ∈ words1.filter isCode, c.before args0 about1 = true := by
  rw [codes_eq]
  intro c hc
  simp only [codes1, List.mem_cons, List.not_mem_nil, or_false] at hc
  rcases hc with rfl | rfl | rfl | rfl | rfl | rfl | rfl | rfl | rfl | rfl | rfl | rfl | rfl | rfl | rfl | rfl
  · exact w_c0
  · exact w_c1
  · exact w_c2
  · exact w_c3
  · exact w_c4
  · exact w_c5
  · exact w_c6
  · exact w_c7
  · exact w_c8
  · exact w_c9
  · exact w_c10
  · exact w_c11
  · exact w_c12
  · exact w_c13
  · exact w_c14
  · exact w_c15
set_option maxRecDepth 65536 in
theorem w_t1 : (words1.take 24).all (fun c => isCode c || c.before args0 about1) = true := by decide +kernel
set_option maxRecDepth 65536 in
theorem w_t2 : ((words1.drop 24).take 24).all (fun c => isCode c || c.before args0 about1) = true := by decide +kernel
set_option maxRecDepth 65536 in
theorem w_t3 : (((words1.drop 24).drop 24).take 24).all (fun c => isCode c || c.before args0 about1) = true := by decide +kernel
set_option maxRecDepth 65536 in
theorem w_t4 : (((words1.drop 24).drop 24).drop 24).all (fun c => isCode c || c.before args0 about1) = true := by decide +kernel
theorem w_tables : (allAtoms (Jvm.Cond.code x code maxLocals ret :: tables_1)).before args0 about1 = true := by
  rw [allAtoms_all]
  show words1.all (fun c => c.before args0 about1) = true
  refine all_split ?_ w_codes
  rw [← List.take_append_drop 24 words1, List.all_append, w_t1, ← List.take_append_drop 24 (words1.drop 24), List.all_append, w_t2, ← List.take_append_drop 24 ((words1.drop 24).drop 24), List.all_append, w_t3, w_t4]
  rfl
set_option maxRecDepth 65536 in
theorem w_rest : rest_1_c.before args0 about1 = true := by decide +kernel
set_option maxRecDepth 65536 in
theorem w_case : (Jvm.Cond.and given_1 narrow_1).before args0 about1 = true := by decide +kernel
theorem w_applies : (headSpec (Jvm.Cond.code x code maxLocals ret :: tables_1) room_1).applies x e0.platform about1 = true :=
  (Spec.applies_iff w_frames).mpr ⟨w_running, w_runnable, w_alone, w_named, w_hears, w_ripe, w_room, w_tables⟩
theorem atStart : AtStart classFile x code maxLocals ret World_1 tables_1 room_1 Calls_1 rest_1 Pre_1 launch0 p0 e0 about1 theMethod args0 below0 :=
  ⟨lists_1, trivial, launch0.admits_env _ _ _, launch0.least_env, fairChoices_fair.cas, fairChoices_fair.clock, w_frames, w_args, w_heap, w_applies, trivial, w_rest, w_case⟩
end start1
theorem witness_1 : WitnessClaimed_1 := ⟨start1.p0, start1.e0, start1.about1, start1.theMethod, start1.args0, start1.below0, start1.atStart⟩
end Jvm.Pilot.@@N@@
