import JvmDerived
import JvmDerived.Pilot.@@N@@Statement
import JvmDerived.Pilot.@@N@@Code
set_option linter.unusedVariables false
set_option linter.unusedSimpArgs false
namespace Jvm.RoadKit
open Sem ClassFile Op Lib Jvm.Stand Jvm.Free Jvm.LawKit
section New
variable {p : Program} {l : Launch} {e : Env} {R : Room} {s : State} {m : MethodId} {args : Array Value} {below : List Frame} {meth : Method} {c : Code} {T : State} {locs : List Loc} {cells slots : Nat}
theorem retI (X : Stand p l e R s m args below meth c T locs cells slots) (hx : p.tables.exec = Jvm.exec) {pc : Nat} {Ls : Array Slot} {z : Int32} {rest : List Value} (hret : meth.sig.returnType = some .int) (hd : decode c.code pc = .ok (.ireturn, 1)) {fs : List Frame}
    (hl : ∀ (f : JFrame) (acts : List Action), f.method = m → f.locked = none → f.entered = [] → (doReturn e (T.setTop f) acts (some (.int z))).1 = T.setFrames fs) : Steps p.tables e below (T.setTop (mkF m pc Ls (.int z :: rest))) (T.setFrames fs) := by
  have hm' : T.vm.method? m = some meth := X.method'
  have hn : narrow .int (.int z) = .int z := rfl
  show Steps p.tables e below (T.setTop { method := m, pc := pc, locals := Ls, stack := _ :: rest, locked := none }) _
  jvm_step X.here [X.here.top, hx, hd, hm', hret, hn]
  first | (intro acts; rw [hl _ acts rfl rfl rfl]) | rw [hl _ _ rfl rfl rfl]
  exact Steps.refl _
end New
end Jvm.RoadKit
namespace Jvm.Pilot.@@N@@
open Jvm Jvm.ClassFile Sem Op Lib Jvm.Free Jvm.Stand Jvm.LawKit Jvm.RoadKit Bundle Jvm.Pilot.@@N@@.Jvm.D
/-! what every block of a body's walk is given -/
def Ctx (p : Program) (Z s : State) (a0 : Array Value) (m : MethodId) (meth : Method) (c : Code) (own nm : String) (bytes : ByteArray) (maxl : Nat) (rt : Option FieldType) : Prop :=
  p.tables.exec = Jvm.exec ∧ Z.Warmed39 s.vm ∧ (∀ d ∈ tables_1, d.before a0 Z = true) ∧ c.code = bytes ∧ c.maxLocals = maxl ∧ meth.sig.returnType = rt ∧ s.vm.findClass own = some m.cls ∧ meth.name = nm ∧ meth.locks = false
/-- from the state A the body's run ends, returns, and leaves what Q says -/
def Fin (p : Program) (e : Env) (below : List Frame) (s : State) (cells slots : Nat) (Q : Option Value → Heap → List Loc → Prop) (A : State) : Prop :=
  ∃ s₂ o, Steps p.tables e below A s₂ ∧ s₂.status = .running ∧ Ended s₂ below o ∧ ∃ v L, o = .returned v ∧ Q v s₂.heap L ∧ FrameEnd s o s₂ L cells slots
section Ends
variable {p : Program} {l : Launch} {e : Env} {R : Room} {s : State} {m : MethodId} {args : Array Value} {below : List Frame} {meth : Method} {c : Code} {T : State} {locs : List Loc} {cells slots : Nat} {C S : Nat} {Q : Option Value → Heap → List Loc → Prop}
theorem Fin.by {A B : State} (h : ∀ t, Steps p.tables e below B t → Steps p.tables e below A t) (k : Fin p e below s C S Q B) : Fin p e below s C S Q A := by
  obtain ⟨s₂, o, h1, r⟩ := k
  exact ⟨s₂, o, h _ h1, r⟩
theorem own_retI (X : Stand p l e R s m args below meth c T locs cells slots) (hx : p.tables.exec = Jvm.exec) (hlk : meth.locks = false) {pc : Nat} {Ls : Array Slot} {z : Int32} {rest : List Value} (hret : meth.sig.returnType = some .int) (hd : decode c.code pc = .ok (.ireturn, 1)) (hc : cells ≤ C) (hs : slots ≤ S)
    (hq : Q (some (.int z)) T.heap locs) : Fin p e below s C S Q (T.setTop (mkF m pc Ls (.int z :: rest))) := by
  obtain ⟨fs, hr, hrun, hended, hW, hsame⟩ := X.leave (v := some (.int z)) (fun h => by rw [hret] at h; cases h) hlk
  exact ⟨_, _, retI X hx hret hd hr, hrun, hended, _, _, rfl, hq, ⟨_, rfl⟩, hW, hsame.mono hc hs⟩
theorem own_retN (X : Stand p l e R s m args below meth c T locs cells slots) (hx : p.tables.exec = Jvm.exec) (hlk : meth.locks = false) {pc : Nat} {Ls : Array Slot} {z : Int32} {rest : List Value} {t : FieldType} (hret : meth.sig.returnType = some t) (ht : t = .boolean ∨ t = .byte ∨ t = .char ∨ t = .short) (hd : decode c.code pc = .ok (.ireturn, 1)) (hc : cells ≤ C) (hs : slots ≤ S)
    (hq : Q (some (.int (nar t z))) T.heap locs) : Fin p e below s C S Q (T.setTop (mkF m pc Ls (.int z :: rest))) := by
  obtain ⟨fs, hr, hrun, hended, hW, hsame⟩ := X.leave (v := some (.int (nar t z))) (fun h => by rw [hret] at h; cases h) hlk
  exact ⟨_, _, retN X hx hret ht hd hr, hrun, hended, _, _, rfl, hq, ⟨_, rfl⟩, hW, hsame.mono hc hs⟩
theorem own_retJ (X : Stand p l e R s m args below meth c T locs cells slots) (hx : p.tables.exec = Jvm.exec) (hlk : meth.locks = false) {pc : Nat} {Ls : Array Slot} {z : Int64} (hret : meth.sig.returnType = some .long) (hd : decode c.code pc = .ok (.lreturn, 1)) (hc : cells ≤ C) (hs : slots ≤ S)
    (hq : Q (some (.long z)) T.heap locs) : Fin p e below s C S Q (T.setTop (mkF m pc Ls [.long z])) := by
  obtain ⟨fs, hr, hrun, hended, hW, hsame⟩ := X.leave (v := some (.long z)) (fun h => by rw [hret] at h; cases h) hlk
  exact ⟨_, _, X.lreturnOut hx hret hd hr, hrun, hended, _, _, rfl, hq, ⟨_, rfl⟩, hW, hsame.mono hc hs⟩
theorem own_retR (X : Stand p l e R s m args below meth c T locs cells slots) (hx : p.tables.exec = Jvm.exec) (hlk : meth.locks = false) {pc : Nat} {Ls : Array Slot} {z : Addr} {t : FieldType} (hret : meth.sig.returnType = some t) (ht : t.isReference = true) (hd : decode c.code pc = .ok (.areturn, 1)) (hc : cells ≤ C) (hs : slots ≤ S)
    (hq : Q (some (.ref z)) T.heap locs) : Fin p e below s C S Q (T.setTop (mkF m pc Ls [.ref z])) := by
  obtain ⟨fs, hr, hrun, hended, hW, hsame⟩ := X.leave (v := some (.ref z)) (fun h => by rw [hret] at h; cases h) hlk
  exact ⟨_, _, X.areturnOut hx rfl hret ht hd hr, hrun, hended, _, _, rfl, hq, ⟨_, rfl⟩, hW, hsame.mono hc hs⟩
theorem own_ret0 (X : Stand p l e R s m args below meth c T locs cells slots) (hx : p.tables.exec = Jvm.exec) (hlk : meth.locks = false) {pc : Nat} {Ls : Array Slot} (hret : meth.sig.returnType = none) (hd : decode c.code pc = .ok (.return_, 1)) (hc : cells ≤ C) (hs : slots ≤ S)
    (hq : Q none T.heap locs) : Fin p e below s C S Q (T.setTop (mkF m pc Ls [])) := by
  obtain ⟨fs, hr, hrun, hended, hW, hsame⟩ := X.leave (v := none) (fun _ => rfl) hlk
  exact ⟨_, _, X.returnOut hx hret hd hr, hrun, hended, _, _, rfl, hq, ⟨_, rfl⟩, hW, hsame.mono hc hs⟩
end Ends
section Arrays
variable {Z : State} {h h' : Heap} {a : Addr} {k : ClassId} {ty : FieldType} {n j : Int32} {vs : List Value} {d : Value}
/-- what an array of ints holds at the place j -/
def own_at (xs : List Int32) (j : Int32) : Int32 := xs.getD j.toNatClampNeg 0
def own_atJ (xs : List Int64) (j : Int32) : Int64 := xs.getD j.toNatClampNeg 0
theorem own_mapD (xs : List Int32) (i : Nat) : (xs.map Value.int).getD i (.int 0) = .int (xs.getD i 0) := by
  rw [List.getD_eq_getElem?_getD, List.getD_eq_getElem?_getD, List.getElem?_map]; cases xs[i]? <;> rfl
theorem own_mapDJ (xs : List Int64) (i : Nat) : (xs.map Value.long).getD i (.long 0) = .long (xs.getD i 0) := by
  rw [List.getD_eq_getElem?_getD, List.getD_eq_getElem?_getD, List.getElem?_map]; cases xs[i]? <;> rfl
theorem own_open (V : Arv Z h a k ty n vs d) (hj : ¬ (j < 0) ∧ j < n) : ∃ cl, Arr Z h a cl ty ∧ ¬ (j < 0 ∨ cl.slots.size ≤ j.toNatClampNeg) ∧ True := by
  obtain ⟨cl, Ar, -, S, -, -, -⟩ := V
  exact ⟨cl, Ar, inb_of S hj, trivial⟩
theorem own_readI {xs : List Int32} (V : Arv Z h a k ty n (xs.map Value.int) (.int 0)) (hj : ¬ (j < 0) ∧ j < n) (i : Nat) (hi : j.toNatClampNeg = i) : ∃ cl, Arr Z h a cl ty ∧ ¬ (j < 0 ∨ cl.slots.size ≤ j.toNatClampNeg) ∧ cl.slots[j.toNatClampNeg]? = some (.int (xs.getD i 0)) := by
  obtain ⟨cl, Ar, -, S, -, H, -⟩ := V
  have q := inb_of S hj
  refine ⟨cl, Ar, q, ?_⟩
  rw [H _ (Nat.lt_of_not_le fun y => q (Or.inr y)), own_mapD, hi]
theorem own_readJ {xs : List Int64} (V : Arv Z h a k ty n (xs.map Value.long) (.long 0)) (hj : ¬ (j < 0) ∧ j < n) (i : Nat) (hi : j.toNatClampNeg = i) : ∃ cl, Arr Z h a cl ty ∧ ¬ (j < 0 ∨ cl.slots.size ≤ j.toNatClampNeg) ∧ cl.slots[j.toNatClampNeg]? = some (.long (xs.getD i 0)) := by
  obtain ⟨cl, Ar, -, S, -, H, -⟩ := V
  have q := inb_of S hj
  refine ⟨cl, Ar, q, ?_⟩
  rw [H _ (Nat.lt_of_not_le fun y => q (Or.inr y)), own_mapDJ, hi]
theorem own_setI {xs : List Int32} {v : Int32} (V : Arv Z h a k ty n (xs.map Value.int) (.int 0)) (ln : xs.length = n.toNatClampNeg) (hj : ¬ (j < 0) ∧ j < n) (W : Wr h h' a j.toNatClampNeg (.int v)) (hf : fits ty (.int v) = true) (i : Nat) (hi : j.toNatClampNeg = i) :
    Arv Z h' a k ty n ((xs.set i v).map Value.int) (.int 0) ∧ (xs.set i v).length = n.toNatClampNeg := by
  subst hi
  obtain ⟨cl, Ar, q1, S, q3, H, G⟩ := V
  have q := inb_of S hj
  have W2 := Arv.set Ar q1 S q3 H G hf W j.toNatClampNeg rfl (by rw [List.length_map, ln, ← S]; exact Nat.lt_of_not_le fun y => q (Or.inr y))
  rw [List.map_set]
  exact ⟨W2, by rw [List.length_set]; exact ln⟩
theorem own_setJ {xs : List Int64} {v : Int64} (V : Arv Z h a k ty n (xs.map Value.long) (.long 0)) (ln : xs.length = n.toNatClampNeg) (hj : ¬ (j < 0) ∧ j < n) (W : Wr h h' a j.toNatClampNeg (.long v)) (hf : fits ty (.long v) = true) (i : Nat) (hi : j.toNatClampNeg = i) :
    Arv Z h' a k ty n ((xs.set i v).map Value.long) (.long 0) ∧ (xs.set i v).length = n.toNatClampNeg := by
  subst hi
  obtain ⟨cl, Ar, q1, S, q3, H, G⟩ := V
  have q := inb_of S hj
  have W2 := Arv.set Ar q1 S q3 H G hf W j.toNatClampNeg rfl (by rw [List.length_map, ln, ← S]; exact Nat.lt_of_not_le fun y => q (Or.inr y))
  rw [List.map_set]
  exact ⟨W2, by rw [List.length_set]; exact ln⟩
theorem own_newI (A : Arr Z h a (newA k ty n) ty) (hd : defaultValue ty = .int 0) (q : ¬ n < 0) {xs : List Int32} (hxs : xs = List.replicate n.toNatClampNeg 0) : Arv Z h a k ty n (xs.map Value.int) (.int 0) ∧ xs.length = n.toNatClampNeg := by
  subst hxs
  have V := Arv.new A q
  rw [hd] at V
  have V2 := V.pad (pad_rep [] (.int 0) n.toNatClampNeg)
  rw [List.map_replicate]
  exact ⟨V2, by rw [List.length_replicate]⟩
theorem own_newJ (A : Arr Z h a (newA k ty n) ty) (hd : defaultValue ty = .long 0) (q : ¬ n < 0) {xs : List Int64} (hxs : xs = List.replicate n.toNatClampNeg 0) : Arv Z h a k ty n (xs.map Value.long) (.long 0) ∧ xs.length = n.toNatClampNeg := by
  subst hxs
  have V := Arv.new A q
  rw [hd] at V
  have V2 := V.pad (pad_rep [] (.long 0) n.toNatClampNeg)
  rw [List.map_replicate]
  exact ⟨V2, by rw [List.length_replicate]⟩
end Arrays

theorem own_ltI {x y : Int32} : x < y ↔ x.toInt < y.toInt := Int32.lt_iff_toInt_lt
theorem own_addI {x y : Int32} (h1 : -2147483648 ≤ x.toInt + y.toInt) (h2 : x.toInt + y.toInt < 2147483648) : (x + y).toInt = x.toInt + y.toInt := by
  have := c_iadd x y; have := rng32 (x + y); omega
theorem own_subI {x y : Int32} (h1 : -2147483648 ≤ x.toInt - y.toInt) (h2 : x.toInt - y.toInt < 2147483648) : (x - y).toInt = x.toInt - y.toInt := by
  have := c_isub x y; have := rng32 (x - y); omega
theorem own_z0 : (0 : Int32).toInt = 0 := rfl
theorem own_z1 : (1 : Int32).toInt = 1 := rfl
theorem own_z8 : (8 : Int32).toInt = 8 := rfl
theorem own_z9 : (9 : Int32).toInt = 9 := rfl
theorem own_in (a l i : Int32) (hb : 0 ≤ a.toInt ∧ 0 ≤ i.toInt ∧ a.toInt + l.toInt ≤ 8) (h : i < l) : ¬ ((a + i) < (0 : Int32)) ∧ (a + i) < (8 : Int32) := by
  rw [own_ltI] at h
  have := rng32 l; have := rng32 a
  have e : (a + i).toInt = a.toInt + i.toInt := own_addI (by omega) (by omega)
  have z0 := own_z0; have z8 := own_z8
  rw [own_ltI, own_ltI]; omega
theorem own_sm (a l : Int32) (hb : 0 ≤ a.toInt ∧ 0 ≤ l.toInt ∧ a.toInt + l.toInt ≤ 8) : (a + l).toInt = a.toInt + l.toInt := own_addI (by omega) (by omega)
theorem own_in2 (a l j : Int32) (hb : 0 ≤ a.toInt ∧ 0 ≤ l.toInt ∧ a.toInt + l.toInt ≤ 8) (hj : a.toInt ≤ j.toInt ∧ j.toInt ≤ a.toInt + l.toInt) (h : j < a + l) : ¬ (j < (0 : Int32)) ∧ j < (8 : Int32) := by
  have e := own_sm a l hb
  have z0 := own_z0; have z8 := own_z8
  rw [own_ltI] at h
  rw [own_ltI, own_ltI]; omega
theorem own_nx (a l j : Int32) (hb : 0 ≤ a.toInt ∧ 0 ≤ l.toInt ∧ a.toInt + l.toInt ≤ 8) (hj : a.toInt ≤ j.toInt ∧ j.toInt ≤ a.toInt + l.toInt) (h : j < a + l) : (j + (1 : Int32)).toInt = j.toInt + 1 ∧ j.toInt + 1 ≤ a.toInt + l.toInt := by
  have e := own_sm a l hb
  have z1 := own_z1
  rw [own_ltI] at h
  have e2 : (j + (1 : Int32)).toInt = j.toInt + (1 : Int32).toInt := own_addI (by omega) (by omega)
  omega
theorem own_st (x : Int32) : 0 ≤ ((x &&& (2147483647 : Int32)) % (9 : Int32)).toInt ∧ ((x &&& (2147483647 : Int32)) % (9 : Int32)).toInt ≤ 8 := by
  have h := c_mask x 2147483647 31 (by decide) (by decide)
  have r := (c_irem (x &&& 2147483647) 9 9 (by decide)).1 (by omega)
  omega
theorem own_9 (a : Int32) (h : 0 ≤ a.toInt ∧ a.toInt ≤ 8) : ((9 : Int32) - a).toInt = 9 - a.toInt := by
  have z := own_z9
  have e : ((9 : Int32) - a).toInt = (9 : Int32).toInt - a.toInt := own_subI (by omega) (by omega)
  omega
theorem own_nz9 (a : Int32) (h : 0 ≤ a.toInt ∧ a.toInt ≤ 8) : ¬ (((9 : Int32) - a) = (0 : Int32)) := fun q => by
  have e := own_9 a h; rw [q] at e; have z := own_z0; omega
theorem own_ln (x a : Int32) (h : 0 ≤ a.toInt ∧ a.toInt ≤ 8) : 0 ≤ a.toInt ∧ 0 ≤ ((x &&& (2147483647 : Int32)) % ((9 : Int32) - a)).toInt ∧ a.toInt + ((x &&& (2147483647 : Int32)) % ((9 : Int32) - a)).toInt ≤ 8 := by
  have e := own_9 a h
  have k := c_mask x 2147483647 31 (by decide) (by decide)
  have r := (c_iremV (x &&& 2147483647) (9 - a)).1 (by omega) (by omega)
  omega
theorem d2_0 : decode method_4_code 0 = .ok (.iload_n 0, 1) := by decide +kernel
theorem d2_1 : decode method_4_code 1 = .ok (.ifCond .ne 5, 3) := by decide +kernel
theorem d2_4 : decode method_4_code 4 = .ok (.lconst 1, 1) := by decide +kernel
theorem d2_5 : decode method_4_code 5 = .ok (.lreturn, 1) := by decide +kernel
theorem d2_6 : decode method_4_code 6 = .ok (.iload_n 0, 1) := by decide +kernel
theorem d2_7 : decode method_4_code 7 = .ok (.iconst 1, 1) := by decide +kernel
theorem d2_8 : decode method_4_code 8 = .ok (.if_icmp .ne 7, 3) := by decide +kernel
theorem d2_11 : decode method_4_code 11 = .ok (.ldc2_w 24, 3) := by decide +kernel
theorem d2_14 : decode method_4_code 14 = .ok (.lreturn, 1) := by decide +kernel
theorem d2_15 : decode method_4_code 15 = .ok (.iload_n 0, 1) := by decide +kernel
theorem d2_16 : decode method_4_code 16 = .ok (.iconst 2, 1) := by decide +kernel
theorem d2_17 : decode method_4_code 17 = .ok (.if_icmp .ne 7, 3) := by decide +kernel
theorem d2_20 : decode method_4_code 20 = .ok (.ldc2_w 26, 3) := by decide +kernel
theorem d2_23 : decode method_4_code 23 = .ok (.lreturn, 1) := by decide +kernel
theorem d2_24 : decode method_4_code 24 = .ok (.iload_n 0, 1) := by decide +kernel
theorem d2_25 : decode method_4_code 25 = .ok (.iconst 3, 1) := by decide +kernel
theorem d2_26 : decode method_4_code 26 = .ok (.if_icmp .ne 7, 3) := by decide +kernel
theorem d2_29 : decode method_4_code 29 = .ok (.ldc2_w 28, 3) := by decide +kernel
theorem d2_32 : decode method_4_code 32 = .ok (.lreturn, 1) := by decide +kernel
theorem d2_33 : decode method_4_code 33 = .ok (.iload_n 0, 1) := by decide +kernel
theorem d2_34 : decode method_4_code 34 = .ok (.iconst 4, 1) := by decide +kernel
theorem d2_35 : decode method_4_code 35 = .ok (.if_icmp .ne 7, 3) := by decide +kernel
theorem d2_38 : decode method_4_code 38 = .ok (.ldc2_w 30, 3) := by decide +kernel
theorem d2_41 : decode method_4_code 41 = .ok (.lreturn, 1) := by decide +kernel
theorem d2_42 : decode method_4_code 42 = .ok (.iload_n 0, 1) := by decide +kernel
theorem d2_43 : decode method_4_code 43 = .ok (.iconst 5, 1) := by decide +kernel
theorem d2_44 : decode method_4_code 44 = .ok (.if_icmp .ne 7, 3) := by decide +kernel
theorem d2_47 : decode method_4_code 47 = .ok (.ldc2_w 32, 3) := by decide +kernel
theorem d2_50 : decode method_4_code 50 = .ok (.lreturn, 1) := by decide +kernel
theorem d2_51 : decode method_4_code 51 = .ok (.iload_n 0, 1) := by decide +kernel
theorem d2_52 : decode method_4_code 52 = .ok (.bipush 6, 2) := by decide +kernel
theorem d2_54 : decode method_4_code 54 = .ok (.if_icmp .ne 7, 3) := by decide +kernel
theorem d2_57 : decode method_4_code 57 = .ok (.ldc2_w 34, 3) := by decide +kernel
theorem d2_60 : decode method_4_code 60 = .ok (.lreturn, 1) := by decide +kernel
theorem d2_61 : decode method_4_code 61 = .ok (.ldc2_w 36, 3) := by decide +kernel
theorem d2_64 : decode method_4_code 64 = .ok (.lreturn, 1) := by decide +kernel
theorem pn_2 : plainName "com/example/tallywick/tallywick/xml/TreeBuilderHashOfPinLaw" = true := by first | (simp [plainName, overriddenIn]; done) | decide +kernel
def R2 : Room := { frames := 0, cells := 0, slots := 0, locals := 0 }
def Q2 (Z : State)  (h0 : Heap) (n0 : Nat) (r : Int64) (v : Option Value) (h : Heap) (L : List Loc) : Prop := v = some (.long r) ∧ Fr n0 L ∧ h = h0
def f2_0 (v0 : Int32) : Int64 := (if v0 = (0 : Int32) then (1 : Int64) else (if v0 = (1 : Int32) then (31 : Int64) else (if v0 = (2 : Int32) then (961 : Int64) else (if v0 = (3 : Int32) then (29791 : Int64) else (if v0 = (4 : Int32) then (923521 : Int64) else (if v0 = (5 : Int32) then (28629151 : Int64) else (if v0 = (6 : Int32) then (887503681 : Int64) else (27512614111 : Int64))))))))
set_option maxRecDepth 65536 in
set_option maxHeartbeats 40000000 in
theorem b2_0 {p : Program} {l : Launch} {e : Env} {s : State} {m : MethodId} {args : Array Value} {below : List Frame} {meth : Method} {c : Code} {Z : State} {a0 : Array Value} (B : Ctx p Z s a0 m meth c "com/example/tallywick/tallywick/xml/TreeBuilderHashOfPinLaw" "pow31" method_4_code 1 (some .long)) {T0 : State} {locs : List Loc} {h : Heap} (h0 : Heap) (n0 : Nat) (v0 : Int32) (X0 : Stand p l e R2 s m args below meth c T0 locs 0 0) (e0 : T0.heap = h) (N0 : Fr n0 locs) (Z0 : n0 ≤ h.size) (hh0 : h = h0) (r : Int64) (hr : f2_0 v0 = r) :
    Fin p e below s R2.cells R2.slots (Q2 Z  h0 n0 r) (T0.setTop (mkF m 0 #[.val (.int v0)] [])) := by
  obtain ⟨hx, hZ, hw, hby, hml, hret, hown, hnm, hlk⟩ := B
  unfold f2_0 at hr
  refine Fin.by (B := T0.setTop (mkF m 1 #[.val (.int v0)] [(.int v0)])) (fun t k => ?_) ?_
  · show Steps p.tables e below (T0.setTop (mkF m 0 #[.val (.int v0)] [])) _
    refine XS.iloadN X0.here hx rfl (hb hby d2_0) rfl  ?_
    exact k
  by_cases hc1 : v0 = (0 : Int32)
  · rw [if_pos hc1] at hr
    refine Fin.by (B := T0.setTop (mkF m 4 #[.val (.int v0)] [])) (fun t k => ?_) ?_
    · show Steps p.tables e below (T0.setTop (mkF m 1 #[.val (.int v0)] [(.int v0)])) _
      exact XS.ifNo X0.here hx rfl (hb hby d2_1) rfl ((if0 _ _).trans (teq hc1).2) k
    refine Fin.by (B := T0.setTop (mkF m 5 #[.val (.int v0)] [(.long (1 : Int64))])) (fun t k => ?_) ?_
    · show Steps p.tables e below (T0.setTop (mkF m 4 #[.val (.int v0)] [])) _
      refine XS.lconst X0.here hx rfl (hb hby d2_4) ?_
      exact k
    subst hr
    exact own_retJ X0 hx hlk hret (hb hby d2_5) (by decide) (by decide) ⟨rfl, N0, (e0.trans hh0)⟩
  · rw [if_neg hc1] at hr
    refine Fin.by (B := T0.setTop (mkF m 6 #[.val (.int v0)] [])) (fun t k => ?_) ?_
    · show Steps p.tables e below (T0.setTop (mkF m 1 #[.val (.int v0)] [(.int v0)])) _
      exact XS.ifYes X0.here hx rfl (pc0 := 1) (pc' := 6) rfl (hb hby d2_1) rfl ((if0 _ _).trans (feq hc1).2) (by decide) (by decide) k
    refine Fin.by (B := T0.setTop (mkF m 8 #[.val (.int v0)] [(.int (1 : Int32)), (.int v0)])) (fun t k => ?_) ?_
    · show Steps p.tables e below (T0.setTop (mkF m 6 #[.val (.int v0)] [])) _
      refine XS.iloadN X0.here hx rfl (hb hby d2_6) rfl  ?_
      show Steps p.tables e below (T0.setTop (mkF m 7 #[.val (.int v0)] [(.int v0)])) _
      refine XS.iconst X0.here hx rfl (hb hby d2_7) ?_
      exact k
    by_cases hc8 : v0 = (1 : Int32)
    · rw [if_pos hc8] at hr
      refine Fin.by (B := T0.setTop (mkF m 11 #[.val (.int v0)] [])) (fun t k => ?_) ?_
      · show Steps p.tables e below (T0.setTop (mkF m 8 #[.val (.int v0)] [(.int (1 : Int32)), (.int v0)])) _
        exact XS.icmpNo X0.here hx rfl (hb hby d2_8) rfl (teq hc8).2 k
      refine Fin.by (B := T0.setTop (mkF m 14 #[.val (.int v0)] [(.long (31 : Int64))])) (fun t k => ?_) ?_
      · show Steps p.tables e below (T0.setTop (mkF m 11 #[.val (.int v0)] [])) _
        refine X0.ldc2Long hx hown (mvT hZ (hw _ (List.mem_of_getElem? (i := 18) rfl))) (g := (mkF m 11 #[.val (.int v0)] [])) rfl (hb hby d2_11) _ ?_
        exact k
      subst hr
      exact own_retJ X0 hx hlk hret (hb hby d2_14) (by decide) (by decide) ⟨rfl, N0, (e0.trans hh0)⟩
    · rw [if_neg hc8] at hr
      refine Fin.by (B := T0.setTop (mkF m 15 #[.val (.int v0)] [])) (fun t k => ?_) ?_
      · show Steps p.tables e below (T0.setTop (mkF m 8 #[.val (.int v0)] [(.int (1 : Int32)), (.int v0)])) _
        exact XS.icmpYes X0.here hx rfl (pc0 := 8) (pc' := 15) rfl (hb hby d2_8) rfl (feq hc8).2 (by decide) (by decide) k
      refine Fin.by (B := T0.setTop (mkF m 17 #[.val (.int v0)] [(.int (2 : Int32)), (.int v0)])) (fun t k => ?_) ?_
      · show Steps p.tables e below (T0.setTop (mkF m 15 #[.val (.int v0)] [])) _
        refine XS.iloadN X0.here hx rfl (hb hby d2_15) rfl  ?_
        show Steps p.tables e below (T0.setTop (mkF m 16 #[.val (.int v0)] [(.int v0)])) _
        refine XS.iconst X0.here hx rfl (hb hby d2_16) ?_
        exact k
      by_cases hc17 : v0 = (2 : Int32)
      · rw [if_pos hc17] at hr
        refine Fin.by (B := T0.setTop (mkF m 20 #[.val (.int v0)] [])) (fun t k => ?_) ?_
        · show Steps p.tables e below (T0.setTop (mkF m 17 #[.val (.int v0)] [(.int (2 : Int32)), (.int v0)])) _
          exact XS.icmpNo X0.here hx rfl (hb hby d2_17) rfl (teq hc17).2 k
        refine Fin.by (B := T0.setTop (mkF m 23 #[.val (.int v0)] [(.long (961 : Int64))])) (fun t k => ?_) ?_
        · show Steps p.tables e below (T0.setTop (mkF m 20 #[.val (.int v0)] [])) _
          refine X0.ldc2Long hx hown (mvT hZ (hw _ (List.mem_of_getElem? (i := 17) rfl))) (g := (mkF m 20 #[.val (.int v0)] [])) rfl (hb hby d2_20) _ ?_
          exact k
        subst hr
        exact own_retJ X0 hx hlk hret (hb hby d2_23) (by decide) (by decide) ⟨rfl, N0, (e0.trans hh0)⟩
      · rw [if_neg hc17] at hr
        refine Fin.by (B := T0.setTop (mkF m 24 #[.val (.int v0)] [])) (fun t k => ?_) ?_
        · show Steps p.tables e below (T0.setTop (mkF m 17 #[.val (.int v0)] [(.int (2 : Int32)), (.int v0)])) _
          exact XS.icmpYes X0.here hx rfl (pc0 := 17) (pc' := 24) rfl (hb hby d2_17) rfl (feq hc17).2 (by decide) (by decide) k
        refine Fin.by (B := T0.setTop (mkF m 26 #[.val (.int v0)] [(.int (3 : Int32)), (.int v0)])) (fun t k => ?_) ?_
        · show Steps p.tables e below (T0.setTop (mkF m 24 #[.val (.int v0)] [])) _
          refine XS.iloadN X0.here hx rfl (hb hby d2_24) rfl  ?_
          show Steps p.tables e below (T0.setTop (mkF m 25 #[.val (.int v0)] [(.int v0)])) _
          refine XS.iconst X0.here hx rfl (hb hby d2_25) ?_
          exact k
        by_cases hc26 : v0 = (3 : Int32)
        · rw [if_pos hc26] at hr
          refine Fin.by (B := T0.setTop (mkF m 29 #[.val (.int v0)] [])) (fun t k => ?_) ?_
          · show Steps p.tables e below (T0.setTop (mkF m 26 #[.val (.int v0)] [(.int (3 : Int32)), (.int v0)])) _
            exact XS.icmpNo X0.here hx rfl (hb hby d2_26) rfl (teq hc26).2 k
          refine Fin.by (B := T0.setTop (mkF m 32 #[.val (.int v0)] [(.long (29791 : Int64))])) (fun t k => ?_) ?_
          · show Steps p.tables e below (T0.setTop (mkF m 29 #[.val (.int v0)] [])) _
            refine X0.ldc2Long hx hown (mvT hZ (hw _ (List.mem_of_getElem? (i := 16) rfl))) (g := (mkF m 29 #[.val (.int v0)] [])) rfl (hb hby d2_29) _ ?_
            exact k
          subst hr
          exact own_retJ X0 hx hlk hret (hb hby d2_32) (by decide) (by decide) ⟨rfl, N0, (e0.trans hh0)⟩
        · rw [if_neg hc26] at hr
          refine Fin.by (B := T0.setTop (mkF m 33 #[.val (.int v0)] [])) (fun t k => ?_) ?_
          · show Steps p.tables e below (T0.setTop (mkF m 26 #[.val (.int v0)] [(.int (3 : Int32)), (.int v0)])) _
            exact XS.icmpYes X0.here hx rfl (pc0 := 26) (pc' := 33) rfl (hb hby d2_26) rfl (feq hc26).2 (by decide) (by decide) k
          refine Fin.by (B := T0.setTop (mkF m 35 #[.val (.int v0)] [(.int (4 : Int32)), (.int v0)])) (fun t k => ?_) ?_
          · show Steps p.tables e below (T0.setTop (mkF m 33 #[.val (.int v0)] [])) _
            refine XS.iloadN X0.here hx rfl (hb hby d2_33) rfl  ?_
            show Steps p.tables e below (T0.setTop (mkF m 34 #[.val (.int v0)] [(.int v0)])) _
            refine XS.iconst X0.here hx rfl (hb hby d2_34) ?_
            exact k
          by_cases hc35 : v0 = (4 : Int32)
          · rw [if_pos hc35] at hr
            refine Fin.by (B := T0.setTop (mkF m 38 #[.val (.int v0)] [])) (fun t k => ?_) ?_
            · show Steps p.tables e below (T0.setTop (mkF m 35 #[.val (.int v0)] [(.int (4 : Int32)), (.int v0)])) _
              exact XS.icmpNo X0.here hx rfl (hb hby d2_35) rfl (teq hc35).2 k
            refine Fin.by (B := T0.setTop (mkF m 41 #[.val (.int v0)] [(.long (923521 : Int64))])) (fun t k => ?_) ?_
            · show Steps p.tables e below (T0.setTop (mkF m 38 #[.val (.int v0)] [])) _
              refine X0.ldc2Long hx hown (mvT hZ (hw _ (List.mem_of_getElem? (i := 15) rfl))) (g := (mkF m 38 #[.val (.int v0)] [])) rfl (hb hby d2_38) _ ?_
              exact k
            subst hr
            exact own_retJ X0 hx hlk hret (hb hby d2_41) (by decide) (by decide) ⟨rfl, N0, (e0.trans hh0)⟩
          · rw [if_neg hc35] at hr
            refine Fin.by (B := T0.setTop (mkF m 42 #[.val (.int v0)] [])) (fun t k => ?_) ?_
            · show Steps p.tables e below (T0.setTop (mkF m 35 #[.val (.int v0)] [(.int (4 : Int32)), (.int v0)])) _
              exact XS.icmpYes X0.here hx rfl (pc0 := 35) (pc' := 42) rfl (hb hby d2_35) rfl (feq hc35).2 (by decide) (by decide) k
            refine Fin.by (B := T0.setTop (mkF m 44 #[.val (.int v0)] [(.int (5 : Int32)), (.int v0)])) (fun t k => ?_) ?_
            · show Steps p.tables e below (T0.setTop (mkF m 42 #[.val (.int v0)] [])) _
              refine XS.iloadN X0.here hx rfl (hb hby d2_42) rfl  ?_
              show Steps p.tables e below (T0.setTop (mkF m 43 #[.val (.int v0)] [(.int v0)])) _
              refine XS.iconst X0.here hx rfl (hb hby d2_43) ?_
              exact k
            by_cases hc44 : v0 = (5 : Int32)
            · rw [if_pos hc44] at hr
              refine Fin.by (B := T0.setTop (mkF m 47 #[.val (.int v0)] [])) (fun t k => ?_) ?_
              · show Steps p.tables e below (T0.setTop (mkF m 44 #[.val (.int v0)] [(.int (5 : Int32)), (.int v0)])) _
                exact XS.icmpNo X0.here hx rfl (hb hby d2_44) rfl (teq hc44).2 k
              refine Fin.by (B := T0.setTop (mkF m 50 #[.val (.int v0)] [(.long (28629151 : Int64))])) (fun t k => ?_) ?_
              · show Steps p.tables e below (T0.setTop (mkF m 47 #[.val (.int v0)] [])) _
                refine X0.ldc2Long hx hown (mvT hZ (hw _ (List.mem_of_getElem? (i := 14) rfl))) (g := (mkF m 47 #[.val (.int v0)] [])) rfl (hb hby d2_47) _ ?_
                exact k
              subst hr
              exact own_retJ X0 hx hlk hret (hb hby d2_50) (by decide) (by decide) ⟨rfl, N0, (e0.trans hh0)⟩
            · rw [if_neg hc44] at hr
              refine Fin.by (B := T0.setTop (mkF m 51 #[.val (.int v0)] [])) (fun t k => ?_) ?_
              · show Steps p.tables e below (T0.setTop (mkF m 44 #[.val (.int v0)] [(.int (5 : Int32)), (.int v0)])) _
                exact XS.icmpYes X0.here hx rfl (pc0 := 44) (pc' := 51) rfl (hb hby d2_44) rfl (feq hc44).2 (by decide) (by decide) k
              refine Fin.by (B := T0.setTop (mkF m 54 #[.val (.int v0)] [(.int (6 : Int32)), (.int v0)])) (fun t k => ?_) ?_
              · show Steps p.tables e below (T0.setTop (mkF m 51 #[.val (.int v0)] [])) _
                refine XS.iloadN X0.here hx rfl (hb hby d2_51) rfl  ?_
                show Steps p.tables e below (T0.setTop (mkF m 52 #[.val (.int v0)] [(.int v0)])) _
                refine XS.bipush X0.here hx rfl (hb hby d2_52) ?_
                exact k
              by_cases hc54 : v0 = (6 : Int32)
              · rw [if_pos hc54] at hr
                refine Fin.by (B := T0.setTop (mkF m 57 #[.val (.int v0)] [])) (fun t k => ?_) ?_
                · show Steps p.tables e below (T0.setTop (mkF m 54 #[.val (.int v0)] [(.int (6 : Int32)), (.int v0)])) _
                  exact XS.icmpNo X0.here hx rfl (hb hby d2_54) rfl (teq hc54).2 k
                refine Fin.by (B := T0.setTop (mkF m 60 #[.val (.int v0)] [(.long (887503681 : Int64))])) (fun t k => ?_) ?_
                · show Steps p.tables e below (T0.setTop (mkF m 57 #[.val (.int v0)] [])) _
                  refine X0.ldc2Long hx hown (mvT hZ (hw _ (List.mem_of_getElem? (i := 13) rfl))) (g := (mkF m 57 #[.val (.int v0)] [])) rfl (hb hby d2_57) _ ?_
                  exact k
                subst hr
                exact own_retJ X0 hx hlk hret (hb hby d2_60) (by decide) (by decide) ⟨rfl, N0, (e0.trans hh0)⟩
              · rw [if_neg hc54] at hr
                refine Fin.by (B := T0.setTop (mkF m 61 #[.val (.int v0)] [])) (fun t k => ?_) ?_
                · show Steps p.tables e below (T0.setTop (mkF m 54 #[.val (.int v0)] [(.int (6 : Int32)), (.int v0)])) _
                  exact XS.icmpYes X0.here hx rfl (pc0 := 54) (pc' := 61) rfl (hb hby d2_54) rfl (feq hc54).2 (by decide) (by decide) k
                refine Fin.by (B := T0.setTop (mkF m 64 #[.val (.int v0)] [(.long (27512614111 : Int64))])) (fun t k => ?_) ?_
                · show Steps p.tables e below (T0.setTop (mkF m 61 #[.val (.int v0)] [])) _
                  refine X0.ldc2Long hx hown (mvT hZ (hw _ (List.mem_of_getElem? (i := 19) rfl))) (g := (mkF m 61 #[.val (.int v0)] [])) rfl (hb hby d2_61) _ ?_
                  exact k
                subst hr
                exact own_retJ X0 hx hlk hret (hb hby d2_64) (by decide) (by decide) ⟨rfl, N0, (e0.trans hh0)⟩
theorem ef_2 (m : MethodId) (v0 : Int32) : entryFrame m #[(.int v0)] 1 = (mkF m 0 #[.val (.int v0)] []) := by first | (simp [entryFrame, mkF, argsToLocals, Value.category]; done) | rfl
set_option maxRecDepth 65536 in
set_option maxHeartbeats 40000000 in
theorem rm2 (l : Launch) (Z : State) (a0 : Array Value) (hw : ∀ d ∈ tables_1, d.before a0 Z = true) (ws : List Jvm.Cond) (v0 : Int32) (h0 : Heap) (n0 : Nat) (Z0 : n0 ≤ h0.size) :
    MetFree l (⟨"com/example/tallywick/tallywick/xml/TreeBuilderHashOfPinLaw", "pow31", "(I)J"⟩ : MethodName) (head1 (Jvm.Cond.code (⟨"com/example/tallywick/tallywick/xml/TreeBuilderHashOfPinLaw", "pow31", "(I)J"⟩ : MethodName) method_4_code 1 (some .long) :: ws) R2) (fun a U => a = #[(.int v0)] ∧ Z.Warmed39 U.vm ∧ U.heap = h0) (fun _ _ _ _ _ => True) (fun _ U o U' => ∃ v L, o = .returned v ∧ (Q2 Z  h0 n0 (f2_0 v0)) v U'.heap L ∧ FrameEnd U o U' L R2.cells R2.slots) := by
  refine MetFree.of_bodySF (plainFor_of_name pn_2) hisR ?_
  intro p e s m args below meth c s₁ Bd hml0 hP hK
  obtain ⟨rfl, hZ, hh⟩ := hP
  have B : Ctx p Z s a0 m meth c "com/example/tallywick/tallywick/xml/TreeBuilderHashOfPinLaw" "pow31" method_4_code 1 (some .long) := ⟨Bd.exec, hZ, hw, Bd.bytes, hml0, Bd.returns, findClass_of_methodNamed Bd.named, (name_of_methodNamed Bd.named Bd.method).1, Bd.notSynchronized⟩
  have X0 : Stand p l e R2 s m #[(.int v0)] below meth c s₁ [] 0 0 := Stand.of_body Bd
  have e0 : s₁.heap = h0 := by rw [← hh, Bd.state]; rfl
  have K := Keep.refl h0 []
  show Fin p e below s R2.cells R2.slots (Q2 Z  h0 n0 (f2_0 v0)) (s₁.setTop (entryFrame m #[(.int v0)] 1))
  refine Fin.by (fun t k => castTop (ef_2 m v0) k) ?_
  exact b2_0 B h0 n0 v0 X0 e0 (Fr.nil n0) Z0 rfl  _ rfl
theorem pd_0 : parseMethodDescriptor "(I)J" = some ⟨[.int], some .long⟩ := by decide +kernel
theorem d1_0 : decode method_3_code 0 = .ok (.iload_n 3, 1) := by decide +kernel
theorem d1_1 : decode method_3_code 1 = .ok (.iload_n 2, 1) := by decide +kernel
theorem d1_2 : decode method_3_code 2 = .ok (.if_icmp .lt 5, 3) := by decide +kernel
theorem d1_5 : decode method_3_code 5 = .ok (.lconst 0, 1) := by decide +kernel
theorem d1_6 : decode method_3_code 6 = .ok (.lreturn, 1) := by decide +kernel
theorem d1_7 : decode method_3_code 7 = .ok (.aload_n 0, 1) := by decide +kernel
theorem d1_8 : decode method_3_code 8 = .ok (.iload_n 1, 1) := by decide +kernel
theorem d1_9 : decode method_3_code 9 = .ok (.iload_n 3, 1) := by decide +kernel
theorem d1_10 : decode method_3_code 10 = .ok (.iadd, 1) := by decide +kernel
theorem d1_11 : decode method_3_code 11 = .ok (.baload, 1) := by decide +kernel
theorem d1_12 : decode method_3_code 12 = .ok (.i2l, 1) := by decide +kernel
theorem d1_13 : decode method_3_code 13 = .ok (.iload_n 2, 1) := by decide +kernel
theorem d1_14 : decode method_3_code 14 = .ok (.iconst 1, 1) := by decide +kernel
theorem d1_15 : decode method_3_code 15 = .ok (.isub, 1) := by decide +kernel
theorem d1_16 : decode method_3_code 16 = .ok (.iload_n 3, 1) := by decide +kernel
theorem d1_17 : decode method_3_code 17 = .ok (.isub, 1) := by decide +kernel
theorem d1_18 : decode method_3_code 18 = .ok (.invokestatic 20, 3) := by decide +kernel
theorem d1_21 : decode method_3_code 21 = .ok (.lmul, 1) := by decide +kernel
theorem d1_22 : decode method_3_code 22 = .ok (.lreturn, 1) := by decide +kernel
theorem pn_1 : plainName "com/example/tallywick/tallywick/xml/TreeBuilderHashOfPinLaw" = true := by first | (simp [plainName, overriddenIn]; done) | decide +kernel
def R1 : Room := { frames := 1, cells := 0, slots := 0, locals := 14 }
def Q1 (Z : State)  (h0 : Heap) (n0 : Nat) (r : Int64) (v : Option Value) (h : Heap) (L : List Loc) : Prop := v = some (.long r) ∧ Fr n0 L ∧ h = h0
def f1_0 (v1 : Int32) (v2 : Int32) (v3 : Int32) (o0_xs : List Int32) : Int64 := (if v3 < v2 then (((own_at o0_xs (v1 + v3)).toInt64) * (f2_0 ((v2 - (1 : Int32)) - v3))) else (0 : Int64))
set_option maxRecDepth 65536 in
set_option maxHeartbeats 40000000 in
theorem b1_0 {p : Program} {l : Launch} {e : Env} {s : State} {m : MethodId} {args : Array Value} {below : List Frame} {meth : Method} {c : Code} {Z : State} {a0 : Array Value} (B : Ctx p Z s a0 m meth c "com/example/tallywick/tallywick/xml/TreeBuilderHashOfPinLaw" "term" method_3_code 4 (some .long)) {T0 : State} {locs : List Loc} {h : Heap} (h0 : Heap) (n0 : Nat) (o0 : Addr) (v1 : Int32) (v2 : Int32) (v3 : Int32) (o0_k : ClassId) (o0_xs : List Int32) (X0 : Stand p l e R1 s m args below meth c T0 locs 0 0) (e0 : T0.heap = h) (N0 : Fr n0 locs) (Z0 : n0 ≤ h.size) (hh0 : h = h0) (V_o0 : Arv Z h o0 o0_k .byte (8 : Int32) (o0_xs.map Value.int) (.int 0)) (ln_o0 : o0_xs.length = (8 : Int32).toNatClampNeg) (hbd : 0 ≤ v1.toInt ∧ 0 ≤ v3.toInt ∧ v1.toInt + v2.toInt ≤ 8) (r : Int64) (hr : f1_0 v1 v2 v3 o0_xs = r) :
    Fin p e below s R1.cells R1.slots (Q1 Z  h0 n0 r) (T0.setTop (mkF m 0 #[.val (.ref o0), .val (.int v1), .val (.int v2), .val (.int v3)] [])) := by
  obtain ⟨hx, hZ, hw, hby, hml, hret, hown, hnm, hlk⟩ := B
  unfold f1_0 at hr
  refine Fin.by (B := T0.setTop (mkF m 2 #[.val (.ref o0), .val (.int v1), .val (.int v2), .val (.int v3)] [(.int v2), (.int v3)])) (fun t k => ?_) ?_
  · show Steps p.tables e below (T0.setTop (mkF m 0 #[.val (.ref o0), .val (.int v1), .val (.int v2), .val (.int v3)] [])) _
    refine XS.iloadN X0.here hx rfl (hb hby d1_0) rfl  ?_
    show Steps p.tables e below (T0.setTop (mkF m 1 #[.val (.ref o0), .val (.int v1), .val (.int v2), .val (.int v3)] [(.int v3)])) _
    refine XS.iloadN X0.here hx rfl (hb hby d1_1) rfl  ?_
    exact k
  by_cases hc2 : v3 < v2
  · rw [if_pos hc2] at hr
    refine Fin.by (B := T0.setTop (mkF m 7 #[.val (.ref o0), .val (.int v1), .val (.int v2), .val (.int v3)] [])) (fun t k => ?_) ?_
    · show Steps p.tables e below (T0.setTop (mkF m 2 #[.val (.ref o0), .val (.int v1), .val (.int v2), .val (.int v3)] [(.int v2), (.int v3)])) _
      exact XS.icmpYes X0.here hx rfl (pc0 := 2) (pc' := 7) rfl (hb hby d1_2) rfl (tlt hc2).1 (by decide) (by decide) k
    refine Fin.by (B := T0.setTop (mkF m 11 #[.val (.ref o0), .val (.int v1), .val (.int v2), .val (.int v3)] [(.int (v1 + v3)), (.ref o0)])) (fun t k => ?_) ?_
    · show Steps p.tables e below (T0.setTop (mkF m 7 #[.val (.ref o0), .val (.int v1), .val (.int v2), .val (.int v3)] [])) _
      refine XS.aloadN X0.here hx rfl (hb hby d1_7) rfl rfl ?_
      show Steps p.tables e below (T0.setTop (mkF m 8 #[.val (.ref o0), .val (.int v1), .val (.int v2), .val (.int v3)] [(.ref o0)])) _
      refine XS.iloadN X0.here hx rfl (hb hby d1_8) rfl  ?_
      show Steps p.tables e below (T0.setTop (mkF m 9 #[.val (.ref o0), .val (.int v1), .val (.int v2), .val (.int v3)] [(.int v1), (.ref o0)])) _
      refine XS.iloadN X0.here hx rfl (hb hby d1_9) rfl  ?_
      show Steps p.tables e below (T0.setTop (mkF m 10 #[.val (.ref o0), .val (.int v1), .val (.int v2), .val (.int v3)] [(.int v3), (.int v1), (.ref o0)])) _
      refine XS.iadd X0.here hx rfl (hb hby d1_10) rfl ?_
      exact k
    have hin1 : ¬ ((v1 + v3) < 0) ∧ (v1 + v3) < (8 : Int32) := own_in v1 v2 v3 hbd hc2
    obtain ⟨cl1, Ar1, hi1, q1⟩ := own_readI V_o0 hin1 _ rfl
    refine Fin.by (B := T0.setTop (mkF m 12 #[.val (.ref o0), .val (.int v1), .val (.int v2), .val (.int v3)] [(.int (own_at o0_xs (v1 + v3)))])) (fun t k => ?_) ?_
    · show Steps p.tables e below (T0.setTop (mkF m 11 #[.val (.ref o0), .val (.int v1), .val (.int v2), .val (.int v3)] [(.int (v1 + v3)), (.ref o0)])) _
      exact X0.baloadBytes hx (j := (v1 + v3)) (v := (.int (own_at o0_xs (v1 + v3)))) (by rw [e0]; exact Ar1.1) (State.isArrayOf_alike hZ.alike Ar1.2.1) Ar1.2.2 hi1 q1 (g := (mkF m 11 #[.val (.ref o0), .val (.int v1), .val (.int v2), .val (.int v3)] [(.int (v1 + v3)), (.ref o0)])) rfl rfl (hb hby d1_11) _ k
    refine Fin.by (B := T0.setTop (mkF m 18 #[.val (.ref o0), .val (.int v1), .val (.int v2), .val (.int v3)] [(.int ((v2 - (1 : Int32)) - v3)), (.long ((own_at o0_xs (v1 + v3)).toInt64))])) (fun t k => ?_) ?_
    · show Steps p.tables e below (T0.setTop (mkF m 12 #[.val (.ref o0), .val (.int v1), .val (.int v2), .val (.int v3)] [(.int (own_at o0_xs (v1 + v3)))])) _
      refine XS.i2l X0.here hx rfl (hb hby d1_12) rfl ?_
      show Steps p.tables e below (T0.setTop (mkF m 13 #[.val (.ref o0), .val (.int v1), .val (.int v2), .val (.int v3)] [(.long ((own_at o0_xs (v1 + v3)).toInt64))])) _
      refine XS.iloadN X0.here hx rfl (hb hby d1_13) rfl  ?_
      show Steps p.tables e below (T0.setTop (mkF m 14 #[.val (.ref o0), .val (.int v1), .val (.int v2), .val (.int v3)] [(.int v2), (.long ((own_at o0_xs (v1 + v3)).toInt64))])) _
      refine XS.iconst X0.here hx rfl (hb hby d1_14) ?_
      show Steps p.tables e below (T0.setTop (mkF m 15 #[.val (.ref o0), .val (.int v1), .val (.int v2), .val (.int v3)] [(.int (1 : Int32)), (.int v2), (.long ((own_at o0_xs (v1 + v3)).toInt64))])) _
      refine XS.isub X0.here hx rfl (hb hby d1_15) rfl ?_
      show Steps p.tables e below (T0.setTop (mkF m 16 #[.val (.ref o0), .val (.int v1), .val (.int v2), .val (.int v3)] [(.int (v2 - (1 : Int32))), (.long ((own_at o0_xs (v1 + v3)).toInt64))])) _
      refine XS.iloadN X0.here hx rfl (hb hby d1_16) rfl  ?_
      show Steps p.tables e below (T0.setTop (mkF m 17 #[.val (.ref o0), .val (.int v1), .val (.int v2), .val (.int v3)] [(.int v3), (.int (v2 - (1 : Int32))), (.long ((own_at o0_xs (v1 + v3)).toInt64))])) _
      refine XS.isub X0.here hx rfl (hb hby d1_17) rfl ?_
      exact k
    -- pc 18: com/example/tallywick/tallywick/xml/TreeBuilderHashOfPinLaw.pow31
    obtain ⟨_, _, ⟨T2, L2, k2, n2⟩, -, X2, ⟨Lc2, hQ2, l2, y2, z2⟩, st2⟩ := Jvm.LawKit.callS X0 hx (y := (⟨"com/example/tallywick/tallywick/xml/TreeBuilderHashOfPinLaw", "pow31", "(I)J"⟩ : MethodName)) hown (mvT hZ (hw _ (List.mem_of_getElem? (i := 6) rfl))) (mvT hZ (hw _ (List.mem_of_getElem? (i := 7) rfl))) (mvT hZ (hw _ (List.mem_of_getElem? (i := 4) rfl))) (mvT hZ (hw _ (List.mem_of_getElem? (i := 8) rfl))) (by decide) (backOf (W := 2) (rm2 l Z a0 hw [] ((v2 - (1 : Int32)) - v3) h n0 Z0 ) hZ (hw _ (List.mem_of_getElem? (i := 8) rfl)) (hw _ (List.mem_of_getElem? (i := 4) rfl)) (by decide) (by decide)) (g := (mkF m 18 #[.val (.ref o0), .val (.int v1), .val (.int v2), .val (.int v3)] [(.int ((v2 - (1 : Int32)) - v3)), (.long ((own_at o0_xs (v1 + v3)).toInt64))])) rfl (by rw [hml]; rfl) (argsL := [(.int ((v2 - (1 : Int32)) - v3))]) (rest := [(.long ((own_at o0_xs (v1 + v3)).toInt64))]) (lenOf pd_0 rfl) rfl (by show 2 * 0 + _ ≤ _; exact Nat.le_of_eq rfl) (hb hby d1_18) (fun _ _ => ⟨rfl, e0, (by decide : 0 + R2.cells ≤ _), (by decide : 0 + R2.slots ≤ _)⟩)
    dsimp only [Pt.U, Pt.locs, Pt.cells, Pt.slots] at X2 l2 y2 z2 st2 hQ2
    subst l2 y2 z2
    obtain ⟨rfl, Nq2, e2⟩ := hQ2
    have N2 := Fr.app N0 Nq2
    refine Fin.by (B := T2.setTop (mkF m 21 #[.val (.ref o0), .val (.int v1), .val (.int v2), .val (.int v3)] [(.long (f2_0 ((v2 - (1 : Int32)) - v3))), (.long ((own_at o0_xs (v1 + v3)).toInt64))])) (fun t k => st2 t k) ?_
    refine Fin.by (B := T2.setTop (mkF m 22 #[.val (.ref o0), .val (.int v1), .val (.int v2), .val (.int v3)] [(.long (((own_at o0_xs (v1 + v3)).toInt64) * (f2_0 ((v2 - (1 : Int32)) - v3))))])) (fun t k => ?_) ?_
    · show Steps p.tables e below (T2.setTop (mkF m 21 #[.val (.ref o0), .val (.int v1), .val (.int v2), .val (.int v3)] [(.long (f2_0 ((v2 - (1 : Int32)) - v3))), (.long ((own_at o0_xs (v1 + v3)).toInt64))])) _
      refine XS.lmul X2.here hx rfl (hb hby d1_21) rfl ?_
      exact k
    subst hr
    exact own_retJ X2 hx hlk hret (hb hby d1_22) (by decide) (by decide) ⟨rfl, N2, (e2.trans hh0)⟩
  · rw [if_neg hc2] at hr
    refine Fin.by (B := T0.setTop (mkF m 5 #[.val (.ref o0), .val (.int v1), .val (.int v2), .val (.int v3)] [])) (fun t k => ?_) ?_
    · show Steps p.tables e below (T0.setTop (mkF m 2 #[.val (.ref o0), .val (.int v1), .val (.int v2), .val (.int v3)] [(.int v2), (.int v3)])) _
      exact XS.icmpNo X0.here hx rfl (hb hby d1_2) rfl (flt hc2).1 k
    refine Fin.by (B := T0.setTop (mkF m 6 #[.val (.ref o0), .val (.int v1), .val (.int v2), .val (.int v3)] [(.long (0 : Int64))])) (fun t k => ?_) ?_
    · show Steps p.tables e below (T0.setTop (mkF m 5 #[.val (.ref o0), .val (.int v1), .val (.int v2), .val (.int v3)] [])) _
      refine XS.lconst X0.here hx rfl (hb hby d1_5) ?_
      exact k
    subst hr
    exact own_retJ X0 hx hlk hret (hb hby d1_6) (by decide) (by decide) ⟨rfl, N0, (e0.trans hh0)⟩
theorem ef_1 (m : MethodId) (o0 : Addr) (v1 : Int32) (v2 : Int32) (v3 : Int32) : entryFrame m #[(.ref o0), (.int v1), (.int v2), (.int v3)] 4 = (mkF m 0 #[.val (.ref o0), .val (.int v1), .val (.int v2), .val (.int v3)] []) := by first | (simp [entryFrame, mkF, argsToLocals, Value.category]; done) | rfl
set_option maxRecDepth 65536 in
set_option maxHeartbeats 40000000 in
theorem rm1 (l : Launch) (Z : State) (a0 : Array Value) (hw : ∀ d ∈ tables_1, d.before a0 Z = true) (ws : List Jvm.Cond) (o0 : Addr) (v1 : Int32) (v2 : Int32) (v3 : Int32) (o0_k : ClassId) (o0_xs : List Int32) (h0 : Heap) (n0 : Nat) (Z0 : n0 ≤ h0.size) (V_o0 : Arv Z h0 o0 o0_k .byte (8 : Int32) (o0_xs.map Value.int) (.int 0)) (ln_o0 : o0_xs.length = (8 : Int32).toNatClampNeg) (hbd : 0 ≤ v1.toInt ∧ 0 ≤ v3.toInt ∧ v1.toInt + v2.toInt ≤ 8) :
    MetFree l (⟨"com/example/tallywick/tallywick/xml/TreeBuilderHashOfPinLaw", "term", "([BIII)J"⟩ : MethodName) (head1 (Jvm.Cond.code (⟨"com/example/tallywick/tallywick/xml/TreeBuilderHashOfPinLaw", "term", "([BIII)J"⟩ : MethodName) method_3_code 4 (some .long) :: ws) R1) (fun a U => a = #[(.ref o0), (.int v1), (.int v2), (.int v3)] ∧ Z.Warmed39 U.vm ∧ U.heap = h0) (fun _ _ _ _ _ => True) (fun _ U o U' => ∃ v L, o = .returned v ∧ (Q1 Z  h0 n0 (f1_0 v1 v2 v3 o0_xs)) v U'.heap L ∧ FrameEnd U o U' L R1.cells R1.slots) := by
  refine MetFree.of_bodySF (plainFor_of_name pn_1) hisR ?_
  intro p e s m args below meth c s₁ Bd hml0 hP hK
  obtain ⟨rfl, hZ, hh⟩ := hP
  have B : Ctx p Z s a0 m meth c "com/example/tallywick/tallywick/xml/TreeBuilderHashOfPinLaw" "term" method_3_code 4 (some .long) := ⟨Bd.exec, hZ, hw, Bd.bytes, hml0, Bd.returns, findClass_of_methodNamed Bd.named, (name_of_methodNamed Bd.named Bd.method).1, Bd.notSynchronized⟩
  have X0 : Stand p l e R1 s m #[(.ref o0), (.int v1), (.int v2), (.int v3)] below meth c s₁ [] 0 0 := Stand.of_body Bd
  have e0 : s₁.heap = h0 := by rw [← hh, Bd.state]; rfl
  have K := Keep.refl h0 []
  show Fin p e below s R1.cells R1.slots (Q1 Z  h0 n0 (f1_0 v1 v2 v3 o0_xs)) (s₁.setTop (entryFrame m #[(.ref o0), (.int v1), (.int v2), (.int v3)] 4))
  refine Fin.by (fun t k => castTop (ef_1 m o0 v1 v2 v3) k) ?_
  exact b1_0 B h0 n0 o0 v1 v2 v3 o0_k o0_xs X0 e0 (Fr.nil n0) Z0 rfl V_o0 ln_o0 hbd _ rfl
theorem pd_1 : parseMethodDescriptor "([BIII)J" = some ⟨[(.array .byte), .int, .int, .int], some .long⟩ := by decide +kernel
theorem d3_0 : decode prog_86_method_13_code 0 = .ok (.iconst 0, 1) := by decide +kernel
theorem d3_1 : decode prog_86_method_13_code 1 = .ok (.istore_n 3, 1) := by decide +kernel
theorem d3_2 : decode prog_86_method_13_code 2 = .ok (.iload_n 1, 1) := by decide +kernel
theorem d3_3 : decode prog_86_method_13_code 3 = .ok (.istore 4, 2) := by decide +kernel
theorem d3_5 : decode prog_86_method_13_code 5 = .ok (.iload 4, 2) := by decide +kernel
theorem d3_7 : decode prog_86_method_13_code 7 = .ok (.iload_n 1, 1) := by decide +kernel
theorem d3_8 : decode prog_86_method_13_code 8 = .ok (.iload_n 2, 1) := by decide +kernel
theorem d3_9 : decode prog_86_method_13_code 9 = .ok (.iadd, 1) := by decide +kernel
theorem d3_10 : decode prog_86_method_13_code 10 = .ok (.if_icmp .ge 19, 3) := by decide +kernel
theorem d3_13 : decode prog_86_method_13_code 13 = .ok (.bipush 31, 2) := by decide +kernel
theorem d3_15 : decode prog_86_method_13_code 15 = .ok (.iload_n 3, 1) := by decide +kernel
theorem d3_16 : decode prog_86_method_13_code 16 = .ok (.imul, 1) := by decide +kernel
theorem d3_17 : decode prog_86_method_13_code 17 = .ok (.aload_n 0, 1) := by decide +kernel
theorem d3_18 : decode prog_86_method_13_code 18 = .ok (.iload 4, 2) := by decide +kernel
theorem d3_20 : decode prog_86_method_13_code 20 = .ok (.baload, 1) := by decide +kernel
theorem d3_21 : decode prog_86_method_13_code 21 = .ok (.iadd, 1) := by decide +kernel
theorem d3_22 : decode prog_86_method_13_code 22 = .ok (.istore_n 3, 1) := by decide +kernel
theorem d3_23 : decode prog_86_method_13_code 23 = .ok (.iinc 4 1, 3) := by decide +kernel
theorem d3_26 : decode prog_86_method_13_code 26 = .ok (.goto (-21), 3) := by decide +kernel
theorem d3_29 : decode prog_86_method_13_code 29 = .ok (.iload_n 3, 1) := by decide +kernel
theorem d3_30 : decode prog_86_method_13_code 30 = .ok (.ireturn, 1) := by decide +kernel
theorem pn_3 : plainName "com/example/tallywick/tallywick/xml/TreeBuilder" = true := by first | (simp [plainName, overriddenIn]; done) | decide +kernel
def R3 : Room := { frames := 0, cells := 0, slots := 0, locals := 0 }
def Q3 (Z : State)  (h0 : Heap) (n0 : Nat) (r : Int32) (v : Option Value) (h : Heap) (L : List Loc) : Prop := v = some (.int r) ∧ Fr n0 L ∧ h = h0
def f3_5 : Nat → Int32 → Int32 → Int32 → Int32 → List Int32 → Int32
  | 0, _, _, _, _, _ => ((0 : Int32))
  | k + 1, v1, v2, v3, v4, o0_xs => (if v4 < (v1 + v2) then (f3_5 k v1 v2 (((31 : Int32) * v3) + (own_at o0_xs v4)) (v4 + (1 : Int32)) o0_xs) else v3)
set_option maxRecDepth 65536 in
set_option maxHeartbeats 40000000 in
theorem b3_5 {p : Program} {l : Launch} {e : Env} {s : State} {m : MethodId} {args : Array Value} {below : List Frame} {meth : Method} {c : Code} {Z : State} {a0 : Array Value} (B : Ctx p Z s a0 m meth c "com/example/tallywick/tallywick/xml/TreeBuilder" "hashOf" prog_86_method_13_code 5 (some .int)) (h0 : Heap) (n0 : Nat)  : ∀ (k : Nat) {T0 : State} {locs : List Loc} {h : Heap} (o0 : Addr) (v1 : Int32) (v2 : Int32) (v3 : Int32) (v4 : Int32) (o0_k : ClassId) (o0_xs : List Int32) (X0 : Stand p l e R3 s m args below meth c T0 locs 0 0) (e0 : T0.heap = h) (N0 : Fr n0 locs) (Z0 : n0 ≤ h.size) (hh0 : h = h0) (V_o0 : Arv Z h o0 o0_k .byte (8 : Int32) (o0_xs.map Value.int) (.int 0)) (ln_o0 : o0_xs.length = (8 : Int32).toNatClampNeg) (hbd : 0 ≤ v1.toInt ∧ 0 ≤ v2.toInt ∧ v1.toInt + v2.toInt ≤ 8) (hj : v1.toInt ≤ v4.toInt ∧ v4.toInt ≤ v1.toInt + v2.toInt) (hmu : (v1.toInt + v2.toInt - v4.toInt).toNat < k) (r : Int32) (hr : f3_5 k v1 v2 v3 v4 o0_xs = r),
    Fin p e below s R3.cells R3.slots (Q3 Z  h0 n0 r) (T0.setTop (mkF m 5 #[.val (.ref o0), .val (.int v1), .val (.int v2), .val (.int v3), .val (.int v4)] [])) := by
  obtain ⟨hx, hZ, hw, hby, hml, hret, hown, hnm, hlk⟩ := B
  intro k
  induction k with
  | zero => intro T0 locs h o0 v1 v2 v3 v4 o0_k o0_xs X0 e0 N0 Z0 hh0 V_o0 ln_o0 hbd hj hmu r hr; exact absurd hmu (Nat.not_lt_zero _)
  | succ k ih =>
    intro T0 locs h o0 v1 v2 v3 v4 o0_k o0_xs X0 e0 N0 Z0 hh0 V_o0 ln_o0 hbd hj hmu r hr
    unfold f3_5 at hr
    refine Fin.by (B := T0.setTop (mkF m 10 #[.val (.ref o0), .val (.int v1), .val (.int v2), .val (.int v3), .val (.int v4)] [(.int (v1 + v2)), (.int v4)])) (fun t k => ?_) ?_
    · show Steps p.tables e below (T0.setTop (mkF m 5 #[.val (.ref o0), .val (.int v1), .val (.int v2), .val (.int v3), .val (.int v4)] [])) _
      refine XS.iload X0.here hx rfl (hb hby d3_5) rfl  ?_
      show Steps p.tables e below (T0.setTop (mkF m 7 #[.val (.ref o0), .val (.int v1), .val (.int v2), .val (.int v3), .val (.int v4)] [(.int v4)])) _
      refine XS.iloadN X0.here hx rfl (hb hby d3_7) rfl  ?_
      show Steps p.tables e below (T0.setTop (mkF m 8 #[.val (.ref o0), .val (.int v1), .val (.int v2), .val (.int v3), .val (.int v4)] [(.int v1), (.int v4)])) _
      refine XS.iloadN X0.here hx rfl (hb hby d3_8) rfl  ?_
      show Steps p.tables e below (T0.setTop (mkF m 9 #[.val (.ref o0), .val (.int v1), .val (.int v2), .val (.int v3), .val (.int v4)] [(.int v2), (.int v1), (.int v4)])) _
      refine XS.iadd X0.here hx rfl (hb hby d3_9) rfl ?_
      exact k
    by_cases hc10 : v4 < (v1 + v2)
    · rw [if_pos hc10] at hr
      refine Fin.by (B := T0.setTop (mkF m 13 #[.val (.ref o0), .val (.int v1), .val (.int v2), .val (.int v3), .val (.int v4)] [])) (fun t k => ?_) ?_
      · show Steps p.tables e below (T0.setTop (mkF m 10 #[.val (.ref o0), .val (.int v1), .val (.int v2), .val (.int v3), .val (.int v4)] [(.int (v1 + v2)), (.int v4)])) _
        exact XS.icmpNo X0.here hx rfl (hb hby d3_10) rfl (tlt hc10).2.1 k
      refine Fin.by (B := T0.setTop (mkF m 20 #[.val (.ref o0), .val (.int v1), .val (.int v2), .val (.int v3), .val (.int v4)] [(.int v4), (.ref o0), (.int ((31 : Int32) * v3))])) (fun t k => ?_) ?_
      · show Steps p.tables e below (T0.setTop (mkF m 13 #[.val (.ref o0), .val (.int v1), .val (.int v2), .val (.int v3), .val (.int v4)] [])) _
        refine XS.bipush X0.here hx rfl (hb hby d3_13) ?_
        show Steps p.tables e below (T0.setTop (mkF m 15 #[.val (.ref o0), .val (.int v1), .val (.int v2), .val (.int v3), .val (.int v4)] [(.int (31 : Int32))])) _
        refine XS.iloadN X0.here hx rfl (hb hby d3_15) rfl  ?_
        show Steps p.tables e below (T0.setTop (mkF m 16 #[.val (.ref o0), .val (.int v1), .val (.int v2), .val (.int v3), .val (.int v4)] [(.int v3), (.int (31 : Int32))])) _
        refine XS.imul X0.here hx rfl (hb hby d3_16) rfl ?_
        show Steps p.tables e below (T0.setTop (mkF m 17 #[.val (.ref o0), .val (.int v1), .val (.int v2), .val (.int v3), .val (.int v4)] [(.int ((31 : Int32) * v3))])) _
        refine XS.aloadN X0.here hx rfl (hb hby d3_17) rfl rfl ?_
        show Steps p.tables e below (T0.setTop (mkF m 18 #[.val (.ref o0), .val (.int v1), .val (.int v2), .val (.int v3), .val (.int v4)] [(.ref o0), (.int ((31 : Int32) * v3))])) _
        refine XS.iload X0.here hx rfl (hb hby d3_18) rfl  ?_
        exact k
      have hin1 : ¬ (v4 < 0) ∧ v4 < (8 : Int32) := own_in2 v1 v2 v4 hbd hj hc10
      obtain ⟨cl1, Ar1, hi1, q1⟩ := own_readI V_o0 hin1 _ rfl
      refine Fin.by (B := T0.setTop (mkF m 21 #[.val (.ref o0), .val (.int v1), .val (.int v2), .val (.int v3), .val (.int v4)] [(.int (own_at o0_xs v4)), (.int ((31 : Int32) * v3))])) (fun t k => ?_) ?_
      · show Steps p.tables e below (T0.setTop (mkF m 20 #[.val (.ref o0), .val (.int v1), .val (.int v2), .val (.int v3), .val (.int v4)] [(.int v4), (.ref o0), (.int ((31 : Int32) * v3))])) _
        exact X0.baloadBytes hx (j := v4) (v := (.int (own_at o0_xs v4))) (by rw [e0]; exact Ar1.1) (State.isArrayOf_alike hZ.alike Ar1.2.1) Ar1.2.2 hi1 q1 (g := (mkF m 20 #[.val (.ref o0), .val (.int v1), .val (.int v2), .val (.int v3), .val (.int v4)] [(.int v4), (.ref o0), (.int ((31 : Int32) * v3))])) rfl rfl (hb hby d3_20) _ k
      refine Fin.by (B := T0.setTop (mkF m 5 #[.val (.ref o0), .val (.int v1), .val (.int v2), .val (.int (((31 : Int32) * v3) + (own_at o0_xs v4))), .val (.int (v4 + (1 : Int32)))] [])) (fun t k => ?_) ?_
      · show Steps p.tables e below (T0.setTop (mkF m 21 #[.val (.ref o0), .val (.int v1), .val (.int v2), .val (.int v3), .val (.int v4)] [(.int (own_at o0_xs v4)), (.int ((31 : Int32) * v3))])) _
        refine XS.iadd X0.here hx rfl (hb hby d3_21) rfl ?_
        show Steps p.tables e below (T0.setTop (mkF m 22 #[.val (.ref o0), .val (.int v1), .val (.int v2), .val (.int v3), .val (.int v4)] [(.int (((31 : Int32) * v3) + (own_at o0_xs v4)))])) _
        refine XS.istoreN X0.here hx rfl (hb hby d3_22) rfl (l' := #[.val (.ref o0), .val (.int v1), .val (.int v2), .val (.int (((31 : Int32) * v3) + (own_at o0_xs v4))), .val (.int v4)]) rfl ?_
        show Steps p.tables e below (T0.setTop (mkF m 23 #[.val (.ref o0), .val (.int v1), .val (.int v2), .val (.int (((31 : Int32) * v3) + (own_at o0_xs v4))), .val (.int v4)] [])) _
        refine XS.iinc X0.here hx rfl (hb hby d3_23) rfl (l' := #[.val (.ref o0), .val (.int v1), .val (.int v2), .val (.int (((31 : Int32) * v3) + (own_at o0_xs v4))), .val (.int (v4 + (1 : Int32)))]) rfl ?_
        show Steps p.tables e below (T0.setTop (mkF m 26 #[.val (.ref o0), .val (.int v1), .val (.int v2), .val (.int (((31 : Int32) * v3) + (own_at o0_xs v4))), .val (.int (v4 + (1 : Int32)))] [])) _
        refine XS.goto X0.here hx rfl (pc0 := 26) (pc' := 5) rfl (hb hby d3_26) (by decide) (by decide) ?_
        exact k
      have hbd_j : 0 ≤ v1.toInt ∧ 0 ≤ v2.toInt ∧ v1.toInt + v2.toInt ≤ 8 := hbd
      have hj_j : v1.toInt ≤ (v4 + (1 : Int32)).toInt ∧ (v4 + (1 : Int32)).toInt ≤ v1.toInt + v2.toInt := by first | exact ⟨Int.le_refl _, by omega⟩ | (have q := own_nx v1 v2 v4 hbd hj hc10; omega)
      have hmu_j : (v1.toInt + v2.toInt - (v4 + (1 : Int32)).toInt).toNat < k := by have q := own_nx v1 v2 v4 hbd hj hc10; omega
      exact ih o0 v1 v2 (((31 : Int32) * v3) + (own_at o0_xs v4)) (v4 + (1 : Int32)) o0_k o0_xs X0 e0 N0 Z0 hh0 V_o0 ln_o0 hbd_j hj_j hmu_j _ hr
    · rw [if_neg hc10] at hr
      refine Fin.by (B := T0.setTop (mkF m 29 #[.val (.ref o0), .val (.int v1), .val (.int v2), .val (.int v3), .val (.int v4)] [])) (fun t k => ?_) ?_
      · show Steps p.tables e below (T0.setTop (mkF m 10 #[.val (.ref o0), .val (.int v1), .val (.int v2), .val (.int v3), .val (.int v4)] [(.int (v1 + v2)), (.int v4)])) _
        exact XS.icmpYes X0.here hx rfl (pc0 := 10) (pc' := 29) rfl (hb hby d3_10) rfl (flt hc10).2.1 (by decide) (by decide) k
      refine Fin.by (B := T0.setTop (mkF m 30 #[.val (.ref o0), .val (.int v1), .val (.int v2), .val (.int v3), .val (.int v4)] [(.int v3)])) (fun t k => ?_) ?_
      · show Steps p.tables e below (T0.setTop (mkF m 29 #[.val (.ref o0), .val (.int v1), .val (.int v2), .val (.int v3), .val (.int v4)] [])) _
        refine XS.iloadN X0.here hx rfl (hb hby d3_29) rfl  ?_
        exact k
      subst hr
      exact own_retI X0 hx hlk hret (hb hby d3_30) (by decide) (by decide) ⟨rfl, N0, (e0.trans hh0)⟩
def f3_0 (v1 : Int32) (v2 : Int32) (o0_xs : List Int32) : Int32 := (f3_5 9 v1 v2 (0 : Int32) v1 o0_xs)
set_option maxRecDepth 65536 in
set_option maxHeartbeats 40000000 in
theorem b3_0 {p : Program} {l : Launch} {e : Env} {s : State} {m : MethodId} {args : Array Value} {below : List Frame} {meth : Method} {c : Code} {Z : State} {a0 : Array Value} (B : Ctx p Z s a0 m meth c "com/example/tallywick/tallywick/xml/TreeBuilder" "hashOf" prog_86_method_13_code 5 (some .int)) {T0 : State} {locs : List Loc} {h : Heap} (h0 : Heap) (n0 : Nat) (o0 : Addr) (v1 : Int32) (v2 : Int32) (o0_k : ClassId) (o0_xs : List Int32) (X0 : Stand p l e R3 s m args below meth c T0 locs 0 0) (e0 : T0.heap = h) (N0 : Fr n0 locs) (Z0 : n0 ≤ h.size) (hh0 : h = h0) (V_o0 : Arv Z h o0 o0_k .byte (8 : Int32) (o0_xs.map Value.int) (.int 0)) (ln_o0 : o0_xs.length = (8 : Int32).toNatClampNeg) (hbd : 0 ≤ v1.toInt ∧ 0 ≤ v2.toInt ∧ v1.toInt + v2.toInt ≤ 8) (r : Int32) (hr : f3_0 v1 v2 o0_xs = r) :
    Fin p e below s R3.cells R3.slots (Q3 Z  h0 n0 r) (T0.setTop (mkF m 0 #[.val (.ref o0), .val (.int v1), .val (.int v2), .unset, .unset] [])) := by
  obtain ⟨hx, hZ, hw, hby, hml, hret, hown, hnm, hlk⟩ := B
  unfold f3_0 at hr
  refine Fin.by (B := T0.setTop (mkF m 5 #[.val (.ref o0), .val (.int v1), .val (.int v2), .val (.int (0 : Int32)), .val (.int v1)] [])) (fun t k => ?_) ?_
  · show Steps p.tables e below (T0.setTop (mkF m 0 #[.val (.ref o0), .val (.int v1), .val (.int v2), .unset, .unset] [])) _
    refine XS.iconst X0.here hx rfl (hb hby d3_0) ?_
    show Steps p.tables e below (T0.setTop (mkF m 1 #[.val (.ref o0), .val (.int v1), .val (.int v2), .unset, .unset] [(.int (0 : Int32))])) _
    refine XS.istoreN X0.here hx rfl (hb hby d3_1) rfl (l' := #[.val (.ref o0), .val (.int v1), .val (.int v2), .val (.int (0 : Int32)), .unset]) rfl ?_
    show Steps p.tables e below (T0.setTop (mkF m 2 #[.val (.ref o0), .val (.int v1), .val (.int v2), .val (.int (0 : Int32)), .unset] [])) _
    refine XS.iloadN X0.here hx rfl (hb hby d3_2) rfl  ?_
    show Steps p.tables e below (T0.setTop (mkF m 3 #[.val (.ref o0), .val (.int v1), .val (.int v2), .val (.int (0 : Int32)), .unset] [(.int v1)])) _
    refine XS.istore X0.here hx rfl (hb hby d3_3) rfl (l' := #[.val (.ref o0), .val (.int v1), .val (.int v2), .val (.int (0 : Int32)), .val (.int v1)]) rfl ?_
    exact k
  have hbd_j : 0 ≤ v1.toInt ∧ 0 ≤ v2.toInt ∧ v1.toInt + v2.toInt ≤ 8 := hbd
  have hj_j : v1.toInt ≤ v1.toInt ∧ v1.toInt ≤ v1.toInt + v2.toInt := by first | exact ⟨Int.le_refl _, by omega⟩ | (have q := own_nx v1 v2 v4 hbd hj hc10; omega)
  have hmu_j : (v1.toInt + v2.toInt - v1.toInt).toNat < 9 := by omega
  exact b3_5 ⟨hx, hZ, hw, hby, hml, hret, hown, hnm, hlk⟩ h0 n0  9 o0 v1 v2 (0 : Int32) v1 o0_k o0_xs X0 e0 N0 Z0 hh0 V_o0 ln_o0 hbd_j hj_j hmu_j _ hr
theorem ef_3 (m : MethodId) (o0 : Addr) (v1 : Int32) (v2 : Int32) : entryFrame m #[(.ref o0), (.int v1), (.int v2)] 5 = (mkF m 0 #[.val (.ref o0), .val (.int v1), .val (.int v2), .unset, .unset] []) := by first | (simp [entryFrame, mkF, argsToLocals, Value.category]; done) | rfl
set_option maxRecDepth 65536 in
set_option maxHeartbeats 40000000 in
theorem rm3 (l : Launch) (Z : State) (a0 : Array Value) (hw : ∀ d ∈ tables_1, d.before a0 Z = true) (ws : List Jvm.Cond) (o0 : Addr) (v1 : Int32) (v2 : Int32) (o0_k : ClassId) (o0_xs : List Int32) (h0 : Heap) (n0 : Nat) (Z0 : n0 ≤ h0.size) (V_o0 : Arv Z h0 o0 o0_k .byte (8 : Int32) (o0_xs.map Value.int) (.int 0)) (ln_o0 : o0_xs.length = (8 : Int32).toNatClampNeg) (hbd : 0 ≤ v1.toInt ∧ 0 ≤ v2.toInt ∧ v1.toInt + v2.toInt ≤ 8) :
    MetFree l (⟨"com/example/tallywick/tallywick/xml/TreeBuilder", "hashOf", "([BII)I"⟩ : MethodName) (head1 (Jvm.Cond.code (⟨"com/example/tallywick/tallywick/xml/TreeBuilder", "hashOf", "([BII)I"⟩ : MethodName) prog_86_method_13_code 5 (some .int) :: ws) R3) (fun a U => a = #[(.ref o0), (.int v1), (.int v2)] ∧ Z.Warmed39 U.vm ∧ U.heap = h0) (fun _ _ _ _ _ => True) (fun _ U o U' => ∃ v L, o = .returned v ∧ (Q3 Z  h0 n0 (f3_0 v1 v2 o0_xs)) v U'.heap L ∧ FrameEnd U o U' L R3.cells R3.slots) := by
  refine MetFree.of_bodySF (plainFor_of_name pn_3) hisR ?_
  intro p e s m args below meth c s₁ Bd hml0 hP hK
  obtain ⟨rfl, hZ, hh⟩ := hP
  have B : Ctx p Z s a0 m meth c "com/example/tallywick/tallywick/xml/TreeBuilder" "hashOf" prog_86_method_13_code 5 (some .int) := ⟨Bd.exec, hZ, hw, Bd.bytes, hml0, Bd.returns, findClass_of_methodNamed Bd.named, (name_of_methodNamed Bd.named Bd.method).1, Bd.notSynchronized⟩
  have X0 : Stand p l e R3 s m #[(.ref o0), (.int v1), (.int v2)] below meth c s₁ [] 0 0 := Stand.of_body Bd
  have e0 : s₁.heap = h0 := by rw [← hh, Bd.state]; rfl
  have K := Keep.refl h0 []
  show Fin p e below s R3.cells R3.slots (Q3 Z  h0 n0 (f3_0 v1 v2 o0_xs)) (s₁.setTop (entryFrame m #[(.ref o0), (.int v1), (.int v2)] 5))
  refine Fin.by (fun t k => castTop (ef_3 m o0 v1 v2) k) ?_
  exact b3_0 B h0 n0 o0 v1 v2 o0_k o0_xs X0 e0 (Fr.nil n0) Z0 rfl V_o0 ln_o0 hbd _ rfl
theorem pd_2 : parseMethodDescriptor "([BII)I" = some ⟨[(.array .byte), .int, .int], some .int⟩ := by decide +kernel
theorem pn_0 : plainName "com/example/tallywick/tallywick/xml/TreeBuilderHashOfPinLaw" = true := by first | (simp [plainName, overriddenIn]; done) | decide +kernel
def Q0 (n0 : Nat) (r : Int32) (v : Option Value) (h : Heap) (L : List Loc) : Prop := v = some (.int r) ∧ Fr n0 L
def f0_197 (v0 : Int64) (v2 : Int32) (v3 : Int32) (v5 : Int32) (v6 : Int32) (v7 : Int64) (b2_xs : List Int32) : Int32 := (if (f3_0 v5 v6 b2_xs) = (v7.toInt32) then (1 : Int32) else (0 : Int32))
set_option maxRecDepth 65536 in
set_option maxHeartbeats 40000000 in
theorem b0_197 {p : Program} {l : Launch} {e : Env} {s : State} {m : MethodId} {args : Array Value} {below : List Frame} {meth : Method} {c : Code} {Z : State} {a0 : Array Value} (B : Ctx p Z s a0 m meth c "com/example/tallywick/tallywick/xml/TreeBuilderHashOfPinLaw" "law" code 9 (some .boolean)) {T0 : State} {locs : List Loc} {h : Heap} (h0 : Heap) (n0 : Nat) (v0 : Int64) (v2 : Int32) (v3 : Int32) (b2 : Addr) (v5 : Int32) (v6 : Int32) (v7 : Int64) (b2_k : ClassId) (b2_xs : List Int32) (X0 : Stand p l e room_1 s m args below meth c T0 locs 1 8) (e0 : T0.heap = h) (N0 : Fr n0 locs) (Z0 : n0 ≤ h.size) (V_b2 : Arv Z h b2 b2_k .byte (8 : Int32) (b2_xs.map Value.int) (.int 0)) (ln_b2 : b2_xs.length = (8 : Int32).toNatClampNeg) (g_b2 : n0 ≤ b2) (i1 : 0 ≤ v5.toInt ∧ 0 ≤ v6.toInt ∧ v5.toInt + v6.toInt ≤ 8) (r : Int32) (hr : f0_197 v0 v2 v3 v5 v6 v7 b2_xs = r) :
    Fin p e below s 1 8 (Q0 n0 r) (T0.setTop (mkF m 197 #[.val (.long v0), .second, .val (.int v2), .val (.int v3), .val (.ref b2), .val (.int v5), .val (.int v6), .val (.long v7), .second] [])) := by
  obtain ⟨hx, hZ, hw, hby, hml, hret, hown, hnm, hlk⟩ := B
  unfold f0_197 at hr
  refine Fin.by (B := T0.setTop (mkF m 203 #[.val (.long v0), .second, .val (.int v2), .val (.int v3), .val (.ref b2), .val (.int v5), .val (.int v6), .val (.long v7), .second] [(.int v6), (.int v5), (.ref b2)])) (fun t k => ?_) ?_
  · show Steps p.tables e below (T0.setTop (mkF m 197 #[.val (.long v0), .second, .val (.int v2), .val (.int v3), .val (.ref b2), .val (.int v5), .val (.int v6), .val (.long v7), .second] [])) _
    refine XS.aload X0.here hx rfl (hb hby at_197) rfl rfl ?_
    show Steps p.tables e below (T0.setTop (mkF m 199 #[.val (.long v0), .second, .val (.int v2), .val (.int v3), .val (.ref b2), .val (.int v5), .val (.int v6), .val (.long v7), .second] [(.ref b2)])) _
    refine XS.iload X0.here hx rfl (hb hby at_199) rfl  ?_
    show Steps p.tables e below (T0.setTop (mkF m 201 #[.val (.long v0), .second, .val (.int v2), .val (.int v3), .val (.ref b2), .val (.int v5), .val (.int v6), .val (.long v7), .second] [(.int v5), (.ref b2)])) _
    refine XS.iload X0.here hx rfl (hb hby at_201) rfl  ?_
    exact k
  have hp18_hbd : 0 ≤ v5.toInt ∧ 0 ≤ v6.toInt ∧ v5.toInt + v6.toInt ≤ 8 := i1
  -- pc 203: com/example/tallywick/tallywick/xml/TreeBuilder.hashOf
  obtain ⟨_, _, ⟨T18, L18, k18, n18⟩, -, X18, ⟨Lc18, hQ18, l18, y18, z18⟩, st18⟩ := Jvm.LawKit.callS X0 hx (y := (⟨"com/example/tallywick/tallywick/xml/TreeBuilder", "hashOf", "([BII)I"⟩ : MethodName)) hown (mvT hZ (hw _ (List.mem_of_getElem? (i := 9) rfl))) (mvT hZ (hw _ (List.mem_of_getElem? (i := 10) rfl))) (mvT hZ (hw _ (List.mem_of_getElem? (i := 11) rfl))) (mvT hZ (hw _ (List.mem_of_getElem? (i := 12) rfl))) (by decide) (backOf (W := 0) (rm3 l Z a0 hw [] b2 v5 v6 b2_k b2_xs h n0 Z0 V_b2 ln_b2 hp18_hbd) hZ (hw _ (List.mem_of_getElem? (i := 12) rfl)) (hw _ (List.mem_of_getElem? (i := 11) rfl)) (by decide) (by decide)) (g := (mkF m 203 #[.val (.long v0), .second, .val (.int v2), .val (.int v3), .val (.ref b2), .val (.int v5), .val (.int v6), .val (.long v7), .second] [(.int v6), (.int v5), (.ref b2)])) rfl (by rw [hml]; rfl) (argsL := [(.ref b2), (.int v5), (.int v6)]) (rest := []) (lenOf pd_2 rfl) rfl (by show 2 * 0 + _ ≤ _; exact Nat.le_of_eq rfl) (hb hby at_203) (fun _ _ => ⟨rfl, e0, (by decide : 1 + R3.cells ≤ _), (by decide : 8 + R3.slots ≤ _)⟩)
  dsimp only [Pt.U, Pt.locs, Pt.cells, Pt.slots] at X18 l18 y18 z18 st18 hQ18
  subst l18 y18 z18
  obtain ⟨rfl, Nq18, e18⟩ := hQ18
  have N18 := Fr.app N0 Nq18
  refine Fin.by (B := T18.setTop (mkF m 206 #[.val (.long v0), .second, .val (.int v2), .val (.int v3), .val (.ref b2), .val (.int v5), .val (.int v6), .val (.long v7), .second] [(.int (f3_0 v5 v6 b2_xs))])) (fun t k => st18 t k) ?_
  refine Fin.by (B := T18.setTop (mkF m 209 #[.val (.long v0), .second, .val (.int v2), .val (.int v3), .val (.ref b2), .val (.int v5), .val (.int v6), .val (.long v7), .second] [(.int (v7.toInt32)), (.int (f3_0 v5 v6 b2_xs))])) (fun t k => ?_) ?_
  · show Steps p.tables e below (T18.setTop (mkF m 206 #[.val (.long v0), .second, .val (.int v2), .val (.int v3), .val (.ref b2), .val (.int v5), .val (.int v6), .val (.long v7), .second] [(.int (f3_0 v5 v6 b2_xs))])) _
    refine XS.lload X18.here hx rfl (hb hby at_206) rfl  ?_
    show Steps p.tables e below (T18.setTop (mkF m 208 #[.val (.long v0), .second, .val (.int v2), .val (.int v3), .val (.ref b2), .val (.int v5), .val (.int v6), .val (.long v7), .second] [(.long v7), (.int (f3_0 v5 v6 b2_xs))])) _
    refine XS.l2i X18.here hx rfl (hb hby at_208) rfl ?_
    exact k
  by_cases hc209 : (f3_0 v5 v6 b2_xs) = (v7.toInt32)
  · rw [if_pos hc209] at hr
    refine Fin.by (B := T18.setTop (mkF m 212 #[.val (.long v0), .second, .val (.int v2), .val (.int v3), .val (.ref b2), .val (.int v5), .val (.int v6), .val (.long v7), .second] [])) (fun t k => ?_) ?_
    · show Steps p.tables e below (T18.setTop (mkF m 209 #[.val (.long v0), .second, .val (.int v2), .val (.int v3), .val (.ref b2), .val (.int v5), .val (.int v6), .val (.long v7), .second] [(.int (v7.toInt32)), (.int (f3_0 v5 v6 b2_xs))])) _
      exact XS.icmpNo X18.here hx rfl (hb hby at_209) rfl (teq hc209).2 k
    refine Fin.by (B := T18.setTop (mkF m 217 #[.val (.long v0), .second, .val (.int v2), .val (.int v3), .val (.ref b2), .val (.int v5), .val (.int v6), .val (.long v7), .second] [(.int (1 : Int32))])) (fun t k => ?_) ?_
    · show Steps p.tables e below (T18.setTop (mkF m 212 #[.val (.long v0), .second, .val (.int v2), .val (.int v3), .val (.ref b2), .val (.int v5), .val (.int v6), .val (.long v7), .second] [])) _
      refine XS.iconst X18.here hx rfl (hb hby at_212) ?_
      show Steps p.tables e below (T18.setTop (mkF m 213 #[.val (.long v0), .second, .val (.int v2), .val (.int v3), .val (.ref b2), .val (.int v5), .val (.int v6), .val (.long v7), .second] [(.int (1 : Int32))])) _
      refine XS.goto X18.here hx rfl (pc0 := 213) (pc' := 217) rfl (hb hby at_213) (by decide) (by decide) ?_
      exact k
    subst hr
    exact own_retN X18 hx hlk (t := .boolean) hret (by simp) (hb hby at_217) (by decide) (by decide) ⟨rfl, N18⟩
  · rw [if_neg hc209] at hr
    refine Fin.by (B := T18.setTop (mkF m 216 #[.val (.long v0), .second, .val (.int v2), .val (.int v3), .val (.ref b2), .val (.int v5), .val (.int v6), .val (.long v7), .second] [])) (fun t k => ?_) ?_
    · show Steps p.tables e below (T18.setTop (mkF m 209 #[.val (.long v0), .second, .val (.int v2), .val (.int v3), .val (.ref b2), .val (.int v5), .val (.int v6), .val (.long v7), .second] [(.int (v7.toInt32)), (.int (f3_0 v5 v6 b2_xs))])) _
      exact XS.icmpYes X18.here hx rfl (pc0 := 209) (pc' := 216) rfl (hb hby at_209) rfl (feq hc209).2 (by decide) (by decide) k
    refine Fin.by (B := T18.setTop (mkF m 217 #[.val (.long v0), .second, .val (.int v2), .val (.int v3), .val (.ref b2), .val (.int v5), .val (.int v6), .val (.long v7), .second] [(.int (0 : Int32))])) (fun t k => ?_) ?_
    · show Steps p.tables e below (T18.setTop (mkF m 216 #[.val (.long v0), .second, .val (.int v2), .val (.int v3), .val (.ref b2), .val (.int v5), .val (.int v6), .val (.long v7), .second] [])) _
      refine XS.iconst X18.here hx rfl (hb hby at_216) ?_
      exact k
    subst hr
    exact own_retN X18 hx hlk (t := .boolean) hret (by simp) (hb hby at_217) (by decide) (by decide) ⟨rfl, N18⟩
def f0_106 (v0 : Int64) (v2 : Int32) (v3 : Int32) (v5 : Int32) (v6 : Int32) (b2_xs : List Int32) : Int32 := (f0_197 v0 v2 v3 v5 v6 ((((((((f1_0 v5 v6 (0 : Int32) b2_xs) + (f1_0 v5 v6 (1 : Int32) b2_xs)) + (f1_0 v5 v6 (2 : Int32) b2_xs)) + (f1_0 v5 v6 (3 : Int32) b2_xs)) + (f1_0 v5 v6 (4 : Int32) b2_xs)) + (f1_0 v5 v6 (5 : Int32) b2_xs)) + (f1_0 v5 v6 (6 : Int32) b2_xs)) + (f1_0 v5 v6 (7 : Int32) b2_xs)) b2_xs)
set_option maxRecDepth 65536 in
set_option maxHeartbeats 40000000 in
theorem b0_106 {p : Program} {l : Launch} {e : Env} {s : State} {m : MethodId} {args : Array Value} {below : List Frame} {meth : Method} {c : Code} {Z : State} {a0 : Array Value} (B : Ctx p Z s a0 m meth c "com/example/tallywick/tallywick/xml/TreeBuilderHashOfPinLaw" "law" code 9 (some .boolean)) {T0 : State} {locs : List Loc} {h : Heap} (h0 : Heap) (n0 : Nat) (v0 : Int64) (v2 : Int32) (v3 : Int32) (b2 : Addr) (v5 : Int32) (v6 : Int32) (b2_k : ClassId) (b2_xs : List Int32) (X0 : Stand p l e room_1 s m args below meth c T0 locs 1 8) (e0 : T0.heap = h) (N0 : Fr n0 locs) (Z0 : n0 ≤ h.size) (V_b2 : Arv Z h b2 b2_k .byte (8 : Int32) (b2_xs.map Value.int) (.int 0)) (ln_b2 : b2_xs.length = (8 : Int32).toNatClampNeg) (g_b2 : n0 ≤ b2) (i1 : 0 ≤ v5.toInt ∧ 0 ≤ v6.toInt ∧ v5.toInt + v6.toInt ≤ 8) (r : Int32) (hr : f0_106 v0 v2 v3 v5 v6 b2_xs = r) :
    Fin p e below s 1 8 (Q0 n0 r) (T0.setTop (mkF m 106 #[.val (.long v0), .second, .val (.int v2), .val (.int v3), .val (.ref b2), .val (.int v5), .val (.int v6), .unset, .unset] [])) := by
  obtain ⟨hx, hZ, hw, hby, hml, hret, hown, hnm, hlk⟩ := B
  unfold f0_106 at hr
  refine Fin.by (B := T0.setTop (mkF m 113 #[.val (.long v0), .second, .val (.int v2), .val (.int v3), .val (.ref b2), .val (.int v5), .val (.int v6), .unset, .unset] [(.int (0 : Int32)), (.int v6), (.int v5), (.ref b2)])) (fun t k => ?_) ?_
  · show Steps p.tables e below (T0.setTop (mkF m 106 #[.val (.long v0), .second, .val (.int v2), .val (.int v3), .val (.ref b2), .val (.int v5), .val (.int v6), .unset, .unset] [])) _
    refine XS.aload X0.here hx rfl (hb hby at_106) rfl rfl ?_
    show Steps p.tables e below (T0.setTop (mkF m 108 #[.val (.long v0), .second, .val (.int v2), .val (.int v3), .val (.ref b2), .val (.int v5), .val (.int v6), .unset, .unset] [(.ref b2)])) _
    refine XS.iload X0.here hx rfl (hb hby at_108) rfl  ?_
    show Steps p.tables e below (T0.setTop (mkF m 110 #[.val (.long v0), .second, .val (.int v2), .val (.int v3), .val (.ref b2), .val (.int v5), .val (.int v6), .unset, .unset] [(.int v5), (.ref b2)])) _
    refine XS.iload X0.here hx rfl (hb hby at_110) rfl  ?_
    show Steps p.tables e below (T0.setTop (mkF m 112 #[.val (.long v0), .second, .val (.int v2), .val (.int v3), .val (.ref b2), .val (.int v5), .val (.int v6), .unset, .unset] [(.int v6), (.int v5), (.ref b2)])) _
    refine XS.iconst X0.here hx rfl (hb hby at_112) ?_
    exact k
  have hp10_hbd : 0 ≤ v5.toInt ∧ 0 ≤ (0 : Int32).toInt ∧ v5.toInt + v6.toInt ≤ 8 := ⟨i1.1, by decide, i1.2.2⟩
  -- pc 113: com/example/tallywick/tallywick/xml/TreeBuilderHashOfPinLaw.term
  obtain ⟨_, _, ⟨T10, L10, k10, n10⟩, -, X10, ⟨Lc10, hQ10, l10, y10, z10⟩, st10⟩ := Jvm.LawKit.callS X0 hx (y := (⟨"com/example/tallywick/tallywick/xml/TreeBuilderHashOfPinLaw", "term", "([BIII)J"⟩ : MethodName)) hown (mvT hZ (hw _ (List.mem_of_getElem? (i := 2) rfl))) (mvT hZ (hw _ (List.mem_of_getElem? (i := 3) rfl))) (mvT hZ (hw _ (List.mem_of_getElem? (i := 4) rfl))) (mvT hZ (hw _ (List.mem_of_getElem? (i := 5) rfl))) (by decide) (backOf (W := 0) (rm1 l Z a0 hw [] b2 v5 v6 (0 : Int32) b2_k b2_xs h n0 Z0 V_b2 ln_b2 hp10_hbd) hZ (hw _ (List.mem_of_getElem? (i := 5) rfl)) (hw _ (List.mem_of_getElem? (i := 4) rfl)) (by decide) (by decide)) (g := (mkF m 113 #[.val (.long v0), .second, .val (.int v2), .val (.int v3), .val (.ref b2), .val (.int v5), .val (.int v6), .unset, .unset] [(.int (0 : Int32)), (.int v6), (.int v5), (.ref b2)])) rfl (by rw [hml]; rfl) (argsL := [(.ref b2), (.int v5), (.int v6), (.int (0 : Int32))]) (rest := []) (lenOf pd_1 rfl) rfl (by show 2 * 0 + _ ≤ _; exact Nat.le_of_eq rfl) (hb hby at_113) (fun _ _ => ⟨rfl, e0, (by decide : 1 + R1.cells ≤ _), (by decide : 8 + R1.slots ≤ _)⟩)
  dsimp only [Pt.U, Pt.locs, Pt.cells, Pt.slots] at X10 l10 y10 z10 st10 hQ10
  subst l10 y10 z10
  obtain ⟨rfl, Nq10, e10⟩ := hQ10
  have N10 := Fr.app N0 Nq10
  refine Fin.by (B := T10.setTop (mkF m 116 #[.val (.long v0), .second, .val (.int v2), .val (.int v3), .val (.ref b2), .val (.int v5), .val (.int v6), .unset, .unset] [(.long (f1_0 v5 v6 (0 : Int32) b2_xs))])) (fun t k => st10 t k) ?_
  refine Fin.by (B := T10.setTop (mkF m 123 #[.val (.long v0), .second, .val (.int v2), .val (.int v3), .val (.ref b2), .val (.int v5), .val (.int v6), .unset, .unset] [(.int (1 : Int32)), (.int v6), (.int v5), (.ref b2), (.long (f1_0 v5 v6 (0 : Int32) b2_xs))])) (fun t k => ?_) ?_
  · show Steps p.tables e below (T10.setTop (mkF m 116 #[.val (.long v0), .second, .val (.int v2), .val (.int v3), .val (.ref b2), .val (.int v5), .val (.int v6), .unset, .unset] [(.long (f1_0 v5 v6 (0 : Int32) b2_xs))])) _
    refine XS.aload X10.here hx rfl (hb hby at_116) rfl rfl ?_
    show Steps p.tables e below (T10.setTop (mkF m 118 #[.val (.long v0), .second, .val (.int v2), .val (.int v3), .val (.ref b2), .val (.int v5), .val (.int v6), .unset, .unset] [(.ref b2), (.long (f1_0 v5 v6 (0 : Int32) b2_xs))])) _
    refine XS.iload X10.here hx rfl (hb hby at_118) rfl  ?_
    show Steps p.tables e below (T10.setTop (mkF m 120 #[.val (.long v0), .second, .val (.int v2), .val (.int v3), .val (.ref b2), .val (.int v5), .val (.int v6), .unset, .unset] [(.int v5), (.ref b2), (.long (f1_0 v5 v6 (0 : Int32) b2_xs))])) _
    refine XS.iload X10.here hx rfl (hb hby at_120) rfl  ?_
    show Steps p.tables e below (T10.setTop (mkF m 122 #[.val (.long v0), .second, .val (.int v2), .val (.int v3), .val (.ref b2), .val (.int v5), .val (.int v6), .unset, .unset] [(.int v6), (.int v5), (.ref b2), (.long (f1_0 v5 v6 (0 : Int32) b2_xs))])) _
    refine XS.iconst X10.here hx rfl (hb hby at_122) ?_
    exact k
  have hp11_hbd : 0 ≤ v5.toInt ∧ 0 ≤ (1 : Int32).toInt ∧ v5.toInt + v6.toInt ≤ 8 := ⟨i1.1, by decide, i1.2.2⟩
  -- pc 123: com/example/tallywick/tallywick/xml/TreeBuilderHashOfPinLaw.term
  obtain ⟨_, _, ⟨T11, L11, k11, n11⟩, -, X11, ⟨Lc11, hQ11, l11, y11, z11⟩, st11⟩ := Jvm.LawKit.callS X10 hx (y := (⟨"com/example/tallywick/tallywick/xml/TreeBuilderHashOfPinLaw", "term", "([BIII)J"⟩ : MethodName)) hown (mvT hZ (hw _ (List.mem_of_getElem? (i := 2) rfl))) (mvT hZ (hw _ (List.mem_of_getElem? (i := 3) rfl))) (mvT hZ (hw _ (List.mem_of_getElem? (i := 4) rfl))) (mvT hZ (hw _ (List.mem_of_getElem? (i := 5) rfl))) (by decide) (backOf (W := 2) (rm1 l Z a0 hw [] b2 v5 v6 (1 : Int32) b2_k b2_xs h n0 Z0 V_b2 ln_b2 hp11_hbd) hZ (hw _ (List.mem_of_getElem? (i := 5) rfl)) (hw _ (List.mem_of_getElem? (i := 4) rfl)) (by decide) (by decide)) (g := (mkF m 123 #[.val (.long v0), .second, .val (.int v2), .val (.int v3), .val (.ref b2), .val (.int v5), .val (.int v6), .unset, .unset] [(.int (1 : Int32)), (.int v6), (.int v5), (.ref b2), (.long (f1_0 v5 v6 (0 : Int32) b2_xs))])) rfl (by rw [hml]; rfl) (argsL := [(.ref b2), (.int v5), (.int v6), (.int (1 : Int32))]) (rest := [(.long (f1_0 v5 v6 (0 : Int32) b2_xs))]) (lenOf pd_1 rfl) rfl (by show 2 * 0 + _ ≤ _; exact Nat.le_of_eq rfl) (hb hby at_123) (fun _ _ => ⟨rfl, e10, (by decide : 1 + R1.cells ≤ _), (by decide : 8 + R1.slots ≤ _)⟩)
  dsimp only [Pt.U, Pt.locs, Pt.cells, Pt.slots] at X11 l11 y11 z11 st11 hQ11
  subst l11 y11 z11
  obtain ⟨rfl, Nq11, e11⟩ := hQ11
  have N11 := Fr.app N10 Nq11
  refine Fin.by (B := T11.setTop (mkF m 126 #[.val (.long v0), .second, .val (.int v2), .val (.int v3), .val (.ref b2), .val (.int v5), .val (.int v6), .unset, .unset] [(.long (f1_0 v5 v6 (1 : Int32) b2_xs)), (.long (f1_0 v5 v6 (0 : Int32) b2_xs))])) (fun t k => st11 t k) ?_
  refine Fin.by (B := T11.setTop (mkF m 134 #[.val (.long v0), .second, .val (.int v2), .val (.int v3), .val (.ref b2), .val (.int v5), .val (.int v6), .unset, .unset] [(.int (2 : Int32)), (.int v6), (.int v5), (.ref b2), (.long ((f1_0 v5 v6 (0 : Int32) b2_xs) + (f1_0 v5 v6 (1 : Int32) b2_xs)))])) (fun t k => ?_) ?_
  · show Steps p.tables e below (T11.setTop (mkF m 126 #[.val (.long v0), .second, .val (.int v2), .val (.int v3), .val (.ref b2), .val (.int v5), .val (.int v6), .unset, .unset] [(.long (f1_0 v5 v6 (1 : Int32) b2_xs)), (.long (f1_0 v5 v6 (0 : Int32) b2_xs))])) _
    refine XS.ladd X11.here hx rfl (hb hby at_126) rfl ?_
    show Steps p.tables e below (T11.setTop (mkF m 127 #[.val (.long v0), .second, .val (.int v2), .val (.int v3), .val (.ref b2), .val (.int v5), .val (.int v6), .unset, .unset] [(.long ((f1_0 v5 v6 (0 : Int32) b2_xs) + (f1_0 v5 v6 (1 : Int32) b2_xs)))])) _
    refine XS.aload X11.here hx rfl (hb hby at_127) rfl rfl ?_
    show Steps p.tables e below (T11.setTop (mkF m 129 #[.val (.long v0), .second, .val (.int v2), .val (.int v3), .val (.ref b2), .val (.int v5), .val (.int v6), .unset, .unset] [(.ref b2), (.long ((f1_0 v5 v6 (0 : Int32) b2_xs) + (f1_0 v5 v6 (1 : Int32) b2_xs)))])) _
    refine XS.iload X11.here hx rfl (hb hby at_129) rfl  ?_
    show Steps p.tables e below (T11.setTop (mkF m 131 #[.val (.long v0), .second, .val (.int v2), .val (.int v3), .val (.ref b2), .val (.int v5), .val (.int v6), .unset, .unset] [(.int v5), (.ref b2), (.long ((f1_0 v5 v6 (0 : Int32) b2_xs) + (f1_0 v5 v6 (1 : Int32) b2_xs)))])) _
    refine XS.iload X11.here hx rfl (hb hby at_131) rfl  ?_
    show Steps p.tables e below (T11.setTop (mkF m 133 #[.val (.long v0), .second, .val (.int v2), .val (.int v3), .val (.ref b2), .val (.int v5), .val (.int v6), .unset, .unset] [(.int v6), (.int v5), (.ref b2), (.long ((f1_0 v5 v6 (0 : Int32) b2_xs) + (f1_0 v5 v6 (1 : Int32) b2_xs)))])) _
    refine XS.iconst X11.here hx rfl (hb hby at_133) ?_
    exact k
  have hp12_hbd : 0 ≤ v5.toInt ∧ 0 ≤ (2 : Int32).toInt ∧ v5.toInt + v6.toInt ≤ 8 := ⟨i1.1, by decide, i1.2.2⟩
  -- pc 134: com/example/tallywick/tallywick/xml/TreeBuilderHashOfPinLaw.term
  obtain ⟨_, _, ⟨T12, L12, k12, n12⟩, -, X12, ⟨Lc12, hQ12, l12, y12, z12⟩, st12⟩ := Jvm.LawKit.callS X11 hx (y := (⟨"com/example/tallywick/tallywick/xml/TreeBuilderHashOfPinLaw", "term", "([BIII)J"⟩ : MethodName)) hown (mvT hZ (hw _ (List.mem_of_getElem? (i := 2) rfl))) (mvT hZ (hw _ (List.mem_of_getElem? (i := 3) rfl))) (mvT hZ (hw _ (List.mem_of_getElem? (i := 4) rfl))) (mvT hZ (hw _ (List.mem_of_getElem? (i := 5) rfl))) (by decide) (backOf (W := 2) (rm1 l Z a0 hw [] b2 v5 v6 (2 : Int32) b2_k b2_xs h n0 Z0 V_b2 ln_b2 hp12_hbd) hZ (hw _ (List.mem_of_getElem? (i := 5) rfl)) (hw _ (List.mem_of_getElem? (i := 4) rfl)) (by decide) (by decide)) (g := (mkF m 134 #[.val (.long v0), .second, .val (.int v2), .val (.int v3), .val (.ref b2), .val (.int v5), .val (.int v6), .unset, .unset] [(.int (2 : Int32)), (.int v6), (.int v5), (.ref b2), (.long ((f1_0 v5 v6 (0 : Int32) b2_xs) + (f1_0 v5 v6 (1 : Int32) b2_xs)))])) rfl (by rw [hml]; rfl) (argsL := [(.ref b2), (.int v5), (.int v6), (.int (2 : Int32))]) (rest := [(.long ((f1_0 v5 v6 (0 : Int32) b2_xs) + (f1_0 v5 v6 (1 : Int32) b2_xs)))]) (lenOf pd_1 rfl) rfl (by show 2 * 0 + _ ≤ _; exact Nat.le_of_eq rfl) (hb hby at_134) (fun _ _ => ⟨rfl, e11, (by decide : 1 + R1.cells ≤ _), (by decide : 8 + R1.slots ≤ _)⟩)
  dsimp only [Pt.U, Pt.locs, Pt.cells, Pt.slots] at X12 l12 y12 z12 st12 hQ12
  subst l12 y12 z12
  obtain ⟨rfl, Nq12, e12⟩ := hQ12
  have N12 := Fr.app N11 Nq12
  refine Fin.by (B := T12.setTop (mkF m 137 #[.val (.long v0), .second, .val (.int v2), .val (.int v3), .val (.ref b2), .val (.int v5), .val (.int v6), .unset, .unset] [(.long (f1_0 v5 v6 (2 : Int32) b2_xs)), (.long ((f1_0 v5 v6 (0 : Int32) b2_xs) + (f1_0 v5 v6 (1 : Int32) b2_xs)))])) (fun t k => st12 t k) ?_
  refine Fin.by (B := T12.setTop (mkF m 145 #[.val (.long v0), .second, .val (.int v2), .val (.int v3), .val (.ref b2), .val (.int v5), .val (.int v6), .unset, .unset] [(.int (3 : Int32)), (.int v6), (.int v5), (.ref b2), (.long (((f1_0 v5 v6 (0 : Int32) b2_xs) + (f1_0 v5 v6 (1 : Int32) b2_xs)) + (f1_0 v5 v6 (2 : Int32) b2_xs)))])) (fun t k => ?_) ?_
  · show Steps p.tables e below (T12.setTop (mkF m 137 #[.val (.long v0), .second, .val (.int v2), .val (.int v3), .val (.ref b2), .val (.int v5), .val (.int v6), .unset, .unset] [(.long (f1_0 v5 v6 (2 : Int32) b2_xs)), (.long ((f1_0 v5 v6 (0 : Int32) b2_xs) + (f1_0 v5 v6 (1 : Int32) b2_xs)))])) _
    refine XS.ladd X12.here hx rfl (hb hby at_137) rfl ?_
    show Steps p.tables e below (T12.setTop (mkF m 138 #[.val (.long v0), .second, .val (.int v2), .val (.int v3), .val (.ref b2), .val (.int v5), .val (.int v6), .unset, .unset] [(.long (((f1_0 v5 v6 (0 : Int32) b2_xs) + (f1_0 v5 v6 (1 : Int32) b2_xs)) + (f1_0 v5 v6 (2 : Int32) b2_xs)))])) _
    refine XS.aload X12.here hx rfl (hb hby at_138) rfl rfl ?_
    show Steps p.tables e below (T12.setTop (mkF m 140 #[.val (.long v0), .second, .val (.int v2), .val (.int v3), .val (.ref b2), .val (.int v5), .val (.int v6), .unset, .unset] [(.ref b2), (.long (((f1_0 v5 v6 (0 : Int32) b2_xs) + (f1_0 v5 v6 (1 : Int32) b2_xs)) + (f1_0 v5 v6 (2 : Int32) b2_xs)))])) _
    refine XS.iload X12.here hx rfl (hb hby at_140) rfl  ?_
    show Steps p.tables e below (T12.setTop (mkF m 142 #[.val (.long v0), .second, .val (.int v2), .val (.int v3), .val (.ref b2), .val (.int v5), .val (.int v6), .unset, .unset] [(.int v5), (.ref b2), (.long (((f1_0 v5 v6 (0 : Int32) b2_xs) + (f1_0 v5 v6 (1 : Int32) b2_xs)) + (f1_0 v5 v6 (2 : Int32) b2_xs)))])) _
    refine XS.iload X12.here hx rfl (hb hby at_142) rfl  ?_
    show Steps p.tables e below (T12.setTop (mkF m 144 #[.val (.long v0), .second, .val (.int v2), .val (.int v3), .val (.ref b2), .val (.int v5), .val (.int v6), .unset, .unset] [(.int v6), (.int v5), (.ref b2), (.long (((f1_0 v5 v6 (0 : Int32) b2_xs) + (f1_0 v5 v6 (1 : Int32) b2_xs)) + (f1_0 v5 v6 (2 : Int32) b2_xs)))])) _
    refine XS.iconst X12.here hx rfl (hb hby at_144) ?_
    exact k
  have hp13_hbd : 0 ≤ v5.toInt ∧ 0 ≤ (3 : Int32).toInt ∧ v5.toInt + v6.toInt ≤ 8 := ⟨i1.1, by decide, i1.2.2⟩
  -- pc 145: com/example/tallywick/tallywick/xml/TreeBuilderHashOfPinLaw.term
  obtain ⟨_, _, ⟨T13, L13, k13, n13⟩, -, X13, ⟨Lc13, hQ13, l13, y13, z13⟩, st13⟩ := Jvm.LawKit.callS X12 hx (y := (⟨"com/example/tallywick/tallywick/xml/TreeBuilderHashOfPinLaw", "term", "([BIII)J"⟩ : MethodName)) hown (mvT hZ (hw _ (List.mem_of_getElem? (i := 2) rfl))) (mvT hZ (hw _ (List.mem_of_getElem? (i := 3) rfl))) (mvT hZ (hw _ (List.mem_of_getElem? (i := 4) rfl))) (mvT hZ (hw _ (List.mem_of_getElem? (i := 5) rfl))) (by decide) (backOf (W := 2) (rm1 l Z a0 hw [] b2 v5 v6 (3 : Int32) b2_k b2_xs h n0 Z0 V_b2 ln_b2 hp13_hbd) hZ (hw _ (List.mem_of_getElem? (i := 5) rfl)) (hw _ (List.mem_of_getElem? (i := 4) rfl)) (by decide) (by decide)) (g := (mkF m 145 #[.val (.long v0), .second, .val (.int v2), .val (.int v3), .val (.ref b2), .val (.int v5), .val (.int v6), .unset, .unset] [(.int (3 : Int32)), (.int v6), (.int v5), (.ref b2), (.long (((f1_0 v5 v6 (0 : Int32) b2_xs) + (f1_0 v5 v6 (1 : Int32) b2_xs)) + (f1_0 v5 v6 (2 : Int32) b2_xs)))])) rfl (by rw [hml]; rfl) (argsL := [(.ref b2), (.int v5), (.int v6), (.int (3 : Int32))]) (rest := [(.long (((f1_0 v5 v6 (0 : Int32) b2_xs) + (f1_0 v5 v6 (1 : Int32) b2_xs)) + (f1_0 v5 v6 (2 : Int32) b2_xs)))]) (lenOf pd_1 rfl) rfl (by show 2 * 0 + _ ≤ _; exact Nat.le_of_eq rfl) (hb hby at_145) (fun _ _ => ⟨rfl, e12, (by decide : 1 + R1.cells ≤ _), (by decide : 8 + R1.slots ≤ _)⟩)
  dsimp only [Pt.U, Pt.locs, Pt.cells, Pt.slots] at X13 l13 y13 z13 st13 hQ13
  subst l13 y13 z13
  obtain ⟨rfl, Nq13, e13⟩ := hQ13
  have N13 := Fr.app N12 Nq13
  refine Fin.by (B := T13.setTop (mkF m 148 #[.val (.long v0), .second, .val (.int v2), .val (.int v3), .val (.ref b2), .val (.int v5), .val (.int v6), .unset, .unset] [(.long (f1_0 v5 v6 (3 : Int32) b2_xs)), (.long (((f1_0 v5 v6 (0 : Int32) b2_xs) + (f1_0 v5 v6 (1 : Int32) b2_xs)) + (f1_0 v5 v6 (2 : Int32) b2_xs)))])) (fun t k => st13 t k) ?_
  refine Fin.by (B := T13.setTop (mkF m 156 #[.val (.long v0), .second, .val (.int v2), .val (.int v3), .val (.ref b2), .val (.int v5), .val (.int v6), .unset, .unset] [(.int (4 : Int32)), (.int v6), (.int v5), (.ref b2), (.long ((((f1_0 v5 v6 (0 : Int32) b2_xs) + (f1_0 v5 v6 (1 : Int32) b2_xs)) + (f1_0 v5 v6 (2 : Int32) b2_xs)) + (f1_0 v5 v6 (3 : Int32) b2_xs)))])) (fun t k => ?_) ?_
  · show Steps p.tables e below (T13.setTop (mkF m 148 #[.val (.long v0), .second, .val (.int v2), .val (.int v3), .val (.ref b2), .val (.int v5), .val (.int v6), .unset, .unset] [(.long (f1_0 v5 v6 (3 : Int32) b2_xs)), (.long (((f1_0 v5 v6 (0 : Int32) b2_xs) + (f1_0 v5 v6 (1 : Int32) b2_xs)) + (f1_0 v5 v6 (2 : Int32) b2_xs)))])) _
    refine XS.ladd X13.here hx rfl (hb hby at_148) rfl ?_
    show Steps p.tables e below (T13.setTop (mkF m 149 #[.val (.long v0), .second, .val (.int v2), .val (.int v3), .val (.ref b2), .val (.int v5), .val (.int v6), .unset, .unset] [(.long ((((f1_0 v5 v6 (0 : Int32) b2_xs) + (f1_0 v5 v6 (1 : Int32) b2_xs)) + (f1_0 v5 v6 (2 : Int32) b2_xs)) + (f1_0 v5 v6 (3 : Int32) b2_xs)))])) _
    refine XS.aload X13.here hx rfl (hb hby at_149) rfl rfl ?_
    show Steps p.tables e below (T13.setTop (mkF m 151 #[.val (.long v0), .second, .val (.int v2), .val (.int v3), .val (.ref b2), .val (.int v5), .val (.int v6), .unset, .unset] [(.ref b2), (.long ((((f1_0 v5 v6 (0 : Int32) b2_xs) + (f1_0 v5 v6 (1 : Int32) b2_xs)) + (f1_0 v5 v6 (2 : Int32) b2_xs)) + (f1_0 v5 v6 (3 : Int32) b2_xs)))])) _
    refine XS.iload X13.here hx rfl (hb hby at_151) rfl  ?_
    show Steps p.tables e below (T13.setTop (mkF m 153 #[.val (.long v0), .second, .val (.int v2), .val (.int v3), .val (.ref b2), .val (.int v5), .val (.int v6), .unset, .unset] [(.int v5), (.ref b2), (.long ((((f1_0 v5 v6 (0 : Int32) b2_xs) + (f1_0 v5 v6 (1 : Int32) b2_xs)) + (f1_0 v5 v6 (2 : Int32) b2_xs)) + (f1_0 v5 v6 (3 : Int32) b2_xs)))])) _
    refine XS.iload X13.here hx rfl (hb hby at_153) rfl  ?_
    show Steps p.tables e below (T13.setTop (mkF m 155 #[.val (.long v0), .second, .val (.int v2), .val (.int v3), .val (.ref b2), .val (.int v5), .val (.int v6), .unset, .unset] [(.int v6), (.int v5), (.ref b2), (.long ((((f1_0 v5 v6 (0 : Int32) b2_xs) + (f1_0 v5 v6 (1 : Int32) b2_xs)) + (f1_0 v5 v6 (2 : Int32) b2_xs)) + (f1_0 v5 v6 (3 : Int32) b2_xs)))])) _
    refine XS.iconst X13.here hx rfl (hb hby at_155) ?_
    exact k
  have hp14_hbd : 0 ≤ v5.toInt ∧ 0 ≤ (4 : Int32).toInt ∧ v5.toInt + v6.toInt ≤ 8 := ⟨i1.1, by decide, i1.2.2⟩
  -- pc 156: com/example/tallywick/tallywick/xml/TreeBuilderHashOfPinLaw.term
  obtain ⟨_, _, ⟨T14, L14, k14, n14⟩, -, X14, ⟨Lc14, hQ14, l14, y14, z14⟩, st14⟩ := Jvm.LawKit.callS X13 hx (y := (⟨"com/example/tallywick/tallywick/xml/TreeBuilderHashOfPinLaw", "term", "([BIII)J"⟩ : MethodName)) hown (mvT hZ (hw _ (List.mem_of_getElem? (i := 2) rfl))) (mvT hZ (hw _ (List.mem_of_getElem? (i := 3) rfl))) (mvT hZ (hw _ (List.mem_of_getElem? (i := 4) rfl))) (mvT hZ (hw _ (List.mem_of_getElem? (i := 5) rfl))) (by decide) (backOf (W := 2) (rm1 l Z a0 hw [] b2 v5 v6 (4 : Int32) b2_k b2_xs h n0 Z0 V_b2 ln_b2 hp14_hbd) hZ (hw _ (List.mem_of_getElem? (i := 5) rfl)) (hw _ (List.mem_of_getElem? (i := 4) rfl)) (by decide) (by decide)) (g := (mkF m 156 #[.val (.long v0), .second, .val (.int v2), .val (.int v3), .val (.ref b2), .val (.int v5), .val (.int v6), .unset, .unset] [(.int (4 : Int32)), (.int v6), (.int v5), (.ref b2), (.long ((((f1_0 v5 v6 (0 : Int32) b2_xs) + (f1_0 v5 v6 (1 : Int32) b2_xs)) + (f1_0 v5 v6 (2 : Int32) b2_xs)) + (f1_0 v5 v6 (3 : Int32) b2_xs)))])) rfl (by rw [hml]; rfl) (argsL := [(.ref b2), (.int v5), (.int v6), (.int (4 : Int32))]) (rest := [(.long ((((f1_0 v5 v6 (0 : Int32) b2_xs) + (f1_0 v5 v6 (1 : Int32) b2_xs)) + (f1_0 v5 v6 (2 : Int32) b2_xs)) + (f1_0 v5 v6 (3 : Int32) b2_xs)))]) (lenOf pd_1 rfl) rfl (by show 2 * 0 + _ ≤ _; exact Nat.le_of_eq rfl) (hb hby at_156) (fun _ _ => ⟨rfl, e13, (by decide : 1 + R1.cells ≤ _), (by decide : 8 + R1.slots ≤ _)⟩)
  dsimp only [Pt.U, Pt.locs, Pt.cells, Pt.slots] at X14 l14 y14 z14 st14 hQ14
  subst l14 y14 z14
  obtain ⟨rfl, Nq14, e14⟩ := hQ14
  have N14 := Fr.app N13 Nq14
  refine Fin.by (B := T14.setTop (mkF m 159 #[.val (.long v0), .second, .val (.int v2), .val (.int v3), .val (.ref b2), .val (.int v5), .val (.int v6), .unset, .unset] [(.long (f1_0 v5 v6 (4 : Int32) b2_xs)), (.long ((((f1_0 v5 v6 (0 : Int32) b2_xs) + (f1_0 v5 v6 (1 : Int32) b2_xs)) + (f1_0 v5 v6 (2 : Int32) b2_xs)) + (f1_0 v5 v6 (3 : Int32) b2_xs)))])) (fun t k => st14 t k) ?_
  refine Fin.by (B := T14.setTop (mkF m 167 #[.val (.long v0), .second, .val (.int v2), .val (.int v3), .val (.ref b2), .val (.int v5), .val (.int v6), .unset, .unset] [(.int (5 : Int32)), (.int v6), (.int v5), (.ref b2), (.long (((((f1_0 v5 v6 (0 : Int32) b2_xs) + (f1_0 v5 v6 (1 : Int32) b2_xs)) + (f1_0 v5 v6 (2 : Int32) b2_xs)) + (f1_0 v5 v6 (3 : Int32) b2_xs)) + (f1_0 v5 v6 (4 : Int32) b2_xs)))])) (fun t k => ?_) ?_
  · show Steps p.tables e below (T14.setTop (mkF m 159 #[.val (.long v0), .second, .val (.int v2), .val (.int v3), .val (.ref b2), .val (.int v5), .val (.int v6), .unset, .unset] [(.long (f1_0 v5 v6 (4 : Int32) b2_xs)), (.long ((((f1_0 v5 v6 (0 : Int32) b2_xs) + (f1_0 v5 v6 (1 : Int32) b2_xs)) + (f1_0 v5 v6 (2 : Int32) b2_xs)) + (f1_0 v5 v6 (3 : Int32) b2_xs)))])) _
    refine XS.ladd X14.here hx rfl (hb hby at_159) rfl ?_
    show Steps p.tables e below (T14.setTop (mkF m 160 #[.val (.long v0), .second, .val (.int v2), .val (.int v3), .val (.ref b2), .val (.int v5), .val (.int v6), .unset, .unset] [(.long (((((f1_0 v5 v6 (0 : Int32) b2_xs) + (f1_0 v5 v6 (1 : Int32) b2_xs)) + (f1_0 v5 v6 (2 : Int32) b2_xs)) + (f1_0 v5 v6 (3 : Int32) b2_xs)) + (f1_0 v5 v6 (4 : Int32) b2_xs)))])) _
    refine XS.aload X14.here hx rfl (hb hby at_160) rfl rfl ?_
    show Steps p.tables e below (T14.setTop (mkF m 162 #[.val (.long v0), .second, .val (.int v2), .val (.int v3), .val (.ref b2), .val (.int v5), .val (.int v6), .unset, .unset] [(.ref b2), (.long (((((f1_0 v5 v6 (0 : Int32) b2_xs) + (f1_0 v5 v6 (1 : Int32) b2_xs)) + (f1_0 v5 v6 (2 : Int32) b2_xs)) + (f1_0 v5 v6 (3 : Int32) b2_xs)) + (f1_0 v5 v6 (4 : Int32) b2_xs)))])) _
    refine XS.iload X14.here hx rfl (hb hby at_162) rfl  ?_
    show Steps p.tables e below (T14.setTop (mkF m 164 #[.val (.long v0), .second, .val (.int v2), .val (.int v3), .val (.ref b2), .val (.int v5), .val (.int v6), .unset, .unset] [(.int v5), (.ref b2), (.long (((((f1_0 v5 v6 (0 : Int32) b2_xs) + (f1_0 v5 v6 (1 : Int32) b2_xs)) + (f1_0 v5 v6 (2 : Int32) b2_xs)) + (f1_0 v5 v6 (3 : Int32) b2_xs)) + (f1_0 v5 v6 (4 : Int32) b2_xs)))])) _
    refine XS.iload X14.here hx rfl (hb hby at_164) rfl  ?_
    show Steps p.tables e below (T14.setTop (mkF m 166 #[.val (.long v0), .second, .val (.int v2), .val (.int v3), .val (.ref b2), .val (.int v5), .val (.int v6), .unset, .unset] [(.int v6), (.int v5), (.ref b2), (.long (((((f1_0 v5 v6 (0 : Int32) b2_xs) + (f1_0 v5 v6 (1 : Int32) b2_xs)) + (f1_0 v5 v6 (2 : Int32) b2_xs)) + (f1_0 v5 v6 (3 : Int32) b2_xs)) + (f1_0 v5 v6 (4 : Int32) b2_xs)))])) _
    refine XS.iconst X14.here hx rfl (hb hby at_166) ?_
    exact k
  have hp15_hbd : 0 ≤ v5.toInt ∧ 0 ≤ (5 : Int32).toInt ∧ v5.toInt + v6.toInt ≤ 8 := ⟨i1.1, by decide, i1.2.2⟩
  -- pc 167: com/example/tallywick/tallywick/xml/TreeBuilderHashOfPinLaw.term
  obtain ⟨_, _, ⟨T15, L15, k15, n15⟩, -, X15, ⟨Lc15, hQ15, l15, y15, z15⟩, st15⟩ := Jvm.LawKit.callS X14 hx (y := (⟨"com/example/tallywick/tallywick/xml/TreeBuilderHashOfPinLaw", "term", "([BIII)J"⟩ : MethodName)) hown (mvT hZ (hw _ (List.mem_of_getElem? (i := 2) rfl))) (mvT hZ (hw _ (List.mem_of_getElem? (i := 3) rfl))) (mvT hZ (hw _ (List.mem_of_getElem? (i := 4) rfl))) (mvT hZ (hw _ (List.mem_of_getElem? (i := 5) rfl))) (by decide) (backOf (W := 2) (rm1 l Z a0 hw [] b2 v5 v6 (5 : Int32) b2_k b2_xs h n0 Z0 V_b2 ln_b2 hp15_hbd) hZ (hw _ (List.mem_of_getElem? (i := 5) rfl)) (hw _ (List.mem_of_getElem? (i := 4) rfl)) (by decide) (by decide)) (g := (mkF m 167 #[.val (.long v0), .second, .val (.int v2), .val (.int v3), .val (.ref b2), .val (.int v5), .val (.int v6), .unset, .unset] [(.int (5 : Int32)), (.int v6), (.int v5), (.ref b2), (.long (((((f1_0 v5 v6 (0 : Int32) b2_xs) + (f1_0 v5 v6 (1 : Int32) b2_xs)) + (f1_0 v5 v6 (2 : Int32) b2_xs)) + (f1_0 v5 v6 (3 : Int32) b2_xs)) + (f1_0 v5 v6 (4 : Int32) b2_xs)))])) rfl (by rw [hml]; rfl) (argsL := [(.ref b2), (.int v5), (.int v6), (.int (5 : Int32))]) (rest := [(.long (((((f1_0 v5 v6 (0 : Int32) b2_xs) + (f1_0 v5 v6 (1 : Int32) b2_xs)) + (f1_0 v5 v6 (2 : Int32) b2_xs)) + (f1_0 v5 v6 (3 : Int32) b2_xs)) + (f1_0 v5 v6 (4 : Int32) b2_xs)))]) (lenOf pd_1 rfl) rfl (by show 2 * 0 + _ ≤ _; exact Nat.le_of_eq rfl) (hb hby at_167) (fun _ _ => ⟨rfl, e14, (by decide : 1 + R1.cells ≤ _), (by decide : 8 + R1.slots ≤ _)⟩)
  dsimp only [Pt.U, Pt.locs, Pt.cells, Pt.slots] at X15 l15 y15 z15 st15 hQ15
  subst l15 y15 z15
  obtain ⟨rfl, Nq15, e15⟩ := hQ15
  have N15 := Fr.app N14 Nq15
  refine Fin.by (B := T15.setTop (mkF m 170 #[.val (.long v0), .second, .val (.int v2), .val (.int v3), .val (.ref b2), .val (.int v5), .val (.int v6), .unset, .unset] [(.long (f1_0 v5 v6 (5 : Int32) b2_xs)), (.long (((((f1_0 v5 v6 (0 : Int32) b2_xs) + (f1_0 v5 v6 (1 : Int32) b2_xs)) + (f1_0 v5 v6 (2 : Int32) b2_xs)) + (f1_0 v5 v6 (3 : Int32) b2_xs)) + (f1_0 v5 v6 (4 : Int32) b2_xs)))])) (fun t k => st15 t k) ?_
  refine Fin.by (B := T15.setTop (mkF m 179 #[.val (.long v0), .second, .val (.int v2), .val (.int v3), .val (.ref b2), .val (.int v5), .val (.int v6), .unset, .unset] [(.int (6 : Int32)), (.int v6), (.int v5), (.ref b2), (.long ((((((f1_0 v5 v6 (0 : Int32) b2_xs) + (f1_0 v5 v6 (1 : Int32) b2_xs)) + (f1_0 v5 v6 (2 : Int32) b2_xs)) + (f1_0 v5 v6 (3 : Int32) b2_xs)) + (f1_0 v5 v6 (4 : Int32) b2_xs)) + (f1_0 v5 v6 (5 : Int32) b2_xs)))])) (fun t k => ?_) ?_
  · show Steps p.tables e below (T15.setTop (mkF m 170 #[.val (.long v0), .second, .val (.int v2), .val (.int v3), .val (.ref b2), .val (.int v5), .val (.int v6), .unset, .unset] [(.long (f1_0 v5 v6 (5 : Int32) b2_xs)), (.long (((((f1_0 v5 v6 (0 : Int32) b2_xs) + (f1_0 v5 v6 (1 : Int32) b2_xs)) + (f1_0 v5 v6 (2 : Int32) b2_xs)) + (f1_0 v5 v6 (3 : Int32) b2_xs)) + (f1_0 v5 v6 (4 : Int32) b2_xs)))])) _
    refine XS.ladd X15.here hx rfl (hb hby at_170) rfl ?_
    show Steps p.tables e below (T15.setTop (mkF m 171 #[.val (.long v0), .second, .val (.int v2), .val (.int v3), .val (.ref b2), .val (.int v5), .val (.int v6), .unset, .unset] [(.long ((((((f1_0 v5 v6 (0 : Int32) b2_xs) + (f1_0 v5 v6 (1 : Int32) b2_xs)) + (f1_0 v5 v6 (2 : Int32) b2_xs)) + (f1_0 v5 v6 (3 : Int32) b2_xs)) + (f1_0 v5 v6 (4 : Int32) b2_xs)) + (f1_0 v5 v6 (5 : Int32) b2_xs)))])) _
    refine XS.aload X15.here hx rfl (hb hby at_171) rfl rfl ?_
    show Steps p.tables e below (T15.setTop (mkF m 173 #[.val (.long v0), .second, .val (.int v2), .val (.int v3), .val (.ref b2), .val (.int v5), .val (.int v6), .unset, .unset] [(.ref b2), (.long ((((((f1_0 v5 v6 (0 : Int32) b2_xs) + (f1_0 v5 v6 (1 : Int32) b2_xs)) + (f1_0 v5 v6 (2 : Int32) b2_xs)) + (f1_0 v5 v6 (3 : Int32) b2_xs)) + (f1_0 v5 v6 (4 : Int32) b2_xs)) + (f1_0 v5 v6 (5 : Int32) b2_xs)))])) _
    refine XS.iload X15.here hx rfl (hb hby at_173) rfl  ?_
    show Steps p.tables e below (T15.setTop (mkF m 175 #[.val (.long v0), .second, .val (.int v2), .val (.int v3), .val (.ref b2), .val (.int v5), .val (.int v6), .unset, .unset] [(.int v5), (.ref b2), (.long ((((((f1_0 v5 v6 (0 : Int32) b2_xs) + (f1_0 v5 v6 (1 : Int32) b2_xs)) + (f1_0 v5 v6 (2 : Int32) b2_xs)) + (f1_0 v5 v6 (3 : Int32) b2_xs)) + (f1_0 v5 v6 (4 : Int32) b2_xs)) + (f1_0 v5 v6 (5 : Int32) b2_xs)))])) _
    refine XS.iload X15.here hx rfl (hb hby at_175) rfl  ?_
    show Steps p.tables e below (T15.setTop (mkF m 177 #[.val (.long v0), .second, .val (.int v2), .val (.int v3), .val (.ref b2), .val (.int v5), .val (.int v6), .unset, .unset] [(.int v6), (.int v5), (.ref b2), (.long ((((((f1_0 v5 v6 (0 : Int32) b2_xs) + (f1_0 v5 v6 (1 : Int32) b2_xs)) + (f1_0 v5 v6 (2 : Int32) b2_xs)) + (f1_0 v5 v6 (3 : Int32) b2_xs)) + (f1_0 v5 v6 (4 : Int32) b2_xs)) + (f1_0 v5 v6 (5 : Int32) b2_xs)))])) _
    refine XS.bipush X15.here hx rfl (hb hby at_177) ?_
    exact k
  have hp16_hbd : 0 ≤ v5.toInt ∧ 0 ≤ (6 : Int32).toInt ∧ v5.toInt + v6.toInt ≤ 8 := ⟨i1.1, by decide, i1.2.2⟩
  -- pc 179: com/example/tallywick/tallywick/xml/TreeBuilderHashOfPinLaw.term
  obtain ⟨_, _, ⟨T16, L16, k16, n16⟩, -, X16, ⟨Lc16, hQ16, l16, y16, z16⟩, st16⟩ := Jvm.LawKit.callS X15 hx (y := (⟨"com/example/tallywick/tallywick/xml/TreeBuilderHashOfPinLaw", "term", "([BIII)J"⟩ : MethodName)) hown (mvT hZ (hw _ (List.mem_of_getElem? (i := 2) rfl))) (mvT hZ (hw _ (List.mem_of_getElem? (i := 3) rfl))) (mvT hZ (hw _ (List.mem_of_getElem? (i := 4) rfl))) (mvT hZ (hw _ (List.mem_of_getElem? (i := 5) rfl))) (by decide) (backOf (W := 2) (rm1 l Z a0 hw [] b2 v5 v6 (6 : Int32) b2_k b2_xs h n0 Z0 V_b2 ln_b2 hp16_hbd) hZ (hw _ (List.mem_of_getElem? (i := 5) rfl)) (hw _ (List.mem_of_getElem? (i := 4) rfl)) (by decide) (by decide)) (g := (mkF m 179 #[.val (.long v0), .second, .val (.int v2), .val (.int v3), .val (.ref b2), .val (.int v5), .val (.int v6), .unset, .unset] [(.int (6 : Int32)), (.int v6), (.int v5), (.ref b2), (.long ((((((f1_0 v5 v6 (0 : Int32) b2_xs) + (f1_0 v5 v6 (1 : Int32) b2_xs)) + (f1_0 v5 v6 (2 : Int32) b2_xs)) + (f1_0 v5 v6 (3 : Int32) b2_xs)) + (f1_0 v5 v6 (4 : Int32) b2_xs)) + (f1_0 v5 v6 (5 : Int32) b2_xs)))])) rfl (by rw [hml]; rfl) (argsL := [(.ref b2), (.int v5), (.int v6), (.int (6 : Int32))]) (rest := [(.long ((((((f1_0 v5 v6 (0 : Int32) b2_xs) + (f1_0 v5 v6 (1 : Int32) b2_xs)) + (f1_0 v5 v6 (2 : Int32) b2_xs)) + (f1_0 v5 v6 (3 : Int32) b2_xs)) + (f1_0 v5 v6 (4 : Int32) b2_xs)) + (f1_0 v5 v6 (5 : Int32) b2_xs)))]) (lenOf pd_1 rfl) rfl (by show 2 * 0 + _ ≤ _; exact Nat.le_of_eq rfl) (hb hby at_179) (fun _ _ => ⟨rfl, e15, (by decide : 1 + R1.cells ≤ _), (by decide : 8 + R1.slots ≤ _)⟩)
  dsimp only [Pt.U, Pt.locs, Pt.cells, Pt.slots] at X16 l16 y16 z16 st16 hQ16
  subst l16 y16 z16
  obtain ⟨rfl, Nq16, e16⟩ := hQ16
  have N16 := Fr.app N15 Nq16
  refine Fin.by (B := T16.setTop (mkF m 182 #[.val (.long v0), .second, .val (.int v2), .val (.int v3), .val (.ref b2), .val (.int v5), .val (.int v6), .unset, .unset] [(.long (f1_0 v5 v6 (6 : Int32) b2_xs)), (.long ((((((f1_0 v5 v6 (0 : Int32) b2_xs) + (f1_0 v5 v6 (1 : Int32) b2_xs)) + (f1_0 v5 v6 (2 : Int32) b2_xs)) + (f1_0 v5 v6 (3 : Int32) b2_xs)) + (f1_0 v5 v6 (4 : Int32) b2_xs)) + (f1_0 v5 v6 (5 : Int32) b2_xs)))])) (fun t k => st16 t k) ?_
  refine Fin.by (B := T16.setTop (mkF m 191 #[.val (.long v0), .second, .val (.int v2), .val (.int v3), .val (.ref b2), .val (.int v5), .val (.int v6), .unset, .unset] [(.int (7 : Int32)), (.int v6), (.int v5), (.ref b2), (.long (((((((f1_0 v5 v6 (0 : Int32) b2_xs) + (f1_0 v5 v6 (1 : Int32) b2_xs)) + (f1_0 v5 v6 (2 : Int32) b2_xs)) + (f1_0 v5 v6 (3 : Int32) b2_xs)) + (f1_0 v5 v6 (4 : Int32) b2_xs)) + (f1_0 v5 v6 (5 : Int32) b2_xs)) + (f1_0 v5 v6 (6 : Int32) b2_xs)))])) (fun t k => ?_) ?_
  · show Steps p.tables e below (T16.setTop (mkF m 182 #[.val (.long v0), .second, .val (.int v2), .val (.int v3), .val (.ref b2), .val (.int v5), .val (.int v6), .unset, .unset] [(.long (f1_0 v5 v6 (6 : Int32) b2_xs)), (.long ((((((f1_0 v5 v6 (0 : Int32) b2_xs) + (f1_0 v5 v6 (1 : Int32) b2_xs)) + (f1_0 v5 v6 (2 : Int32) b2_xs)) + (f1_0 v5 v6 (3 : Int32) b2_xs)) + (f1_0 v5 v6 (4 : Int32) b2_xs)) + (f1_0 v5 v6 (5 : Int32) b2_xs)))])) _
    refine XS.ladd X16.here hx rfl (hb hby at_182) rfl ?_
    show Steps p.tables e below (T16.setTop (mkF m 183 #[.val (.long v0), .second, .val (.int v2), .val (.int v3), .val (.ref b2), .val (.int v5), .val (.int v6), .unset, .unset] [(.long (((((((f1_0 v5 v6 (0 : Int32) b2_xs) + (f1_0 v5 v6 (1 : Int32) b2_xs)) + (f1_0 v5 v6 (2 : Int32) b2_xs)) + (f1_0 v5 v6 (3 : Int32) b2_xs)) + (f1_0 v5 v6 (4 : Int32) b2_xs)) + (f1_0 v5 v6 (5 : Int32) b2_xs)) + (f1_0 v5 v6 (6 : Int32) b2_xs)))])) _
    refine XS.aload X16.here hx rfl (hb hby at_183) rfl rfl ?_
    show Steps p.tables e below (T16.setTop (mkF m 185 #[.val (.long v0), .second, .val (.int v2), .val (.int v3), .val (.ref b2), .val (.int v5), .val (.int v6), .unset, .unset] [(.ref b2), (.long (((((((f1_0 v5 v6 (0 : Int32) b2_xs) + (f1_0 v5 v6 (1 : Int32) b2_xs)) + (f1_0 v5 v6 (2 : Int32) b2_xs)) + (f1_0 v5 v6 (3 : Int32) b2_xs)) + (f1_0 v5 v6 (4 : Int32) b2_xs)) + (f1_0 v5 v6 (5 : Int32) b2_xs)) + (f1_0 v5 v6 (6 : Int32) b2_xs)))])) _
    refine XS.iload X16.here hx rfl (hb hby at_185) rfl  ?_
    show Steps p.tables e below (T16.setTop (mkF m 187 #[.val (.long v0), .second, .val (.int v2), .val (.int v3), .val (.ref b2), .val (.int v5), .val (.int v6), .unset, .unset] [(.int v5), (.ref b2), (.long (((((((f1_0 v5 v6 (0 : Int32) b2_xs) + (f1_0 v5 v6 (1 : Int32) b2_xs)) + (f1_0 v5 v6 (2 : Int32) b2_xs)) + (f1_0 v5 v6 (3 : Int32) b2_xs)) + (f1_0 v5 v6 (4 : Int32) b2_xs)) + (f1_0 v5 v6 (5 : Int32) b2_xs)) + (f1_0 v5 v6 (6 : Int32) b2_xs)))])) _
    refine XS.iload X16.here hx rfl (hb hby at_187) rfl  ?_
    show Steps p.tables e below (T16.setTop (mkF m 189 #[.val (.long v0), .second, .val (.int v2), .val (.int v3), .val (.ref b2), .val (.int v5), .val (.int v6), .unset, .unset] [(.int v6), (.int v5), (.ref b2), (.long (((((((f1_0 v5 v6 (0 : Int32) b2_xs) + (f1_0 v5 v6 (1 : Int32) b2_xs)) + (f1_0 v5 v6 (2 : Int32) b2_xs)) + (f1_0 v5 v6 (3 : Int32) b2_xs)) + (f1_0 v5 v6 (4 : Int32) b2_xs)) + (f1_0 v5 v6 (5 : Int32) b2_xs)) + (f1_0 v5 v6 (6 : Int32) b2_xs)))])) _
    refine XS.bipush X16.here hx rfl (hb hby at_189) ?_
    exact k
  have hp17_hbd : 0 ≤ v5.toInt ∧ 0 ≤ (7 : Int32).toInt ∧ v5.toInt + v6.toInt ≤ 8 := ⟨i1.1, by decide, i1.2.2⟩
  -- pc 191: com/example/tallywick/tallywick/xml/TreeBuilderHashOfPinLaw.term
  obtain ⟨_, _, ⟨T17, L17, k17, n17⟩, -, X17, ⟨Lc17, hQ17, l17, y17, z17⟩, st17⟩ := Jvm.LawKit.callS X16 hx (y := (⟨"com/example/tallywick/tallywick/xml/TreeBuilderHashOfPinLaw", "term", "([BIII)J"⟩ : MethodName)) hown (mvT hZ (hw _ (List.mem_of_getElem? (i := 2) rfl))) (mvT hZ (hw _ (List.mem_of_getElem? (i := 3) rfl))) (mvT hZ (hw _ (List.mem_of_getElem? (i := 4) rfl))) (mvT hZ (hw _ (List.mem_of_getElem? (i := 5) rfl))) (by decide) (backOf (W := 2) (rm1 l Z a0 hw [] b2 v5 v6 (7 : Int32) b2_k b2_xs h n0 Z0 V_b2 ln_b2 hp17_hbd) hZ (hw _ (List.mem_of_getElem? (i := 5) rfl)) (hw _ (List.mem_of_getElem? (i := 4) rfl)) (by decide) (by decide)) (g := (mkF m 191 #[.val (.long v0), .second, .val (.int v2), .val (.int v3), .val (.ref b2), .val (.int v5), .val (.int v6), .unset, .unset] [(.int (7 : Int32)), (.int v6), (.int v5), (.ref b2), (.long (((((((f1_0 v5 v6 (0 : Int32) b2_xs) + (f1_0 v5 v6 (1 : Int32) b2_xs)) + (f1_0 v5 v6 (2 : Int32) b2_xs)) + (f1_0 v5 v6 (3 : Int32) b2_xs)) + (f1_0 v5 v6 (4 : Int32) b2_xs)) + (f1_0 v5 v6 (5 : Int32) b2_xs)) + (f1_0 v5 v6 (6 : Int32) b2_xs)))])) rfl (by rw [hml]; rfl) (argsL := [(.ref b2), (.int v5), (.int v6), (.int (7 : Int32))]) (rest := [(.long (((((((f1_0 v5 v6 (0 : Int32) b2_xs) + (f1_0 v5 v6 (1 : Int32) b2_xs)) + (f1_0 v5 v6 (2 : Int32) b2_xs)) + (f1_0 v5 v6 (3 : Int32) b2_xs)) + (f1_0 v5 v6 (4 : Int32) b2_xs)) + (f1_0 v5 v6 (5 : Int32) b2_xs)) + (f1_0 v5 v6 (6 : Int32) b2_xs)))]) (lenOf pd_1 rfl) rfl (by show 2 * 0 + _ ≤ _; exact Nat.le_of_eq rfl) (hb hby at_191) (fun _ _ => ⟨rfl, e16, (by decide : 1 + R1.cells ≤ _), (by decide : 8 + R1.slots ≤ _)⟩)
  dsimp only [Pt.U, Pt.locs, Pt.cells, Pt.slots] at X17 l17 y17 z17 st17 hQ17
  subst l17 y17 z17
  obtain ⟨rfl, Nq17, e17⟩ := hQ17
  have N17 := Fr.app N16 Nq17
  refine Fin.by (B := T17.setTop (mkF m 194 #[.val (.long v0), .second, .val (.int v2), .val (.int v3), .val (.ref b2), .val (.int v5), .val (.int v6), .unset, .unset] [(.long (f1_0 v5 v6 (7 : Int32) b2_xs)), (.long (((((((f1_0 v5 v6 (0 : Int32) b2_xs) + (f1_0 v5 v6 (1 : Int32) b2_xs)) + (f1_0 v5 v6 (2 : Int32) b2_xs)) + (f1_0 v5 v6 (3 : Int32) b2_xs)) + (f1_0 v5 v6 (4 : Int32) b2_xs)) + (f1_0 v5 v6 (5 : Int32) b2_xs)) + (f1_0 v5 v6 (6 : Int32) b2_xs)))])) (fun t k => st17 t k) ?_
  refine Fin.by (B := T17.setTop (mkF m 197 #[.val (.long v0), .second, .val (.int v2), .val (.int v3), .val (.ref b2), .val (.int v5), .val (.int v6), .val (.long ((((((((f1_0 v5 v6 (0 : Int32) b2_xs) + (f1_0 v5 v6 (1 : Int32) b2_xs)) + (f1_0 v5 v6 (2 : Int32) b2_xs)) + (f1_0 v5 v6 (3 : Int32) b2_xs)) + (f1_0 v5 v6 (4 : Int32) b2_xs)) + (f1_0 v5 v6 (5 : Int32) b2_xs)) + (f1_0 v5 v6 (6 : Int32) b2_xs)) + (f1_0 v5 v6 (7 : Int32) b2_xs))), .second] [])) (fun t k => ?_) ?_
  · show Steps p.tables e below (T17.setTop (mkF m 194 #[.val (.long v0), .second, .val (.int v2), .val (.int v3), .val (.ref b2), .val (.int v5), .val (.int v6), .unset, .unset] [(.long (f1_0 v5 v6 (7 : Int32) b2_xs)), (.long (((((((f1_0 v5 v6 (0 : Int32) b2_xs) + (f1_0 v5 v6 (1 : Int32) b2_xs)) + (f1_0 v5 v6 (2 : Int32) b2_xs)) + (f1_0 v5 v6 (3 : Int32) b2_xs)) + (f1_0 v5 v6 (4 : Int32) b2_xs)) + (f1_0 v5 v6 (5 : Int32) b2_xs)) + (f1_0 v5 v6 (6 : Int32) b2_xs)))])) _
    refine XS.ladd X17.here hx rfl (hb hby at_194) rfl ?_
    show Steps p.tables e below (T17.setTop (mkF m 195 #[.val (.long v0), .second, .val (.int v2), .val (.int v3), .val (.ref b2), .val (.int v5), .val (.int v6), .unset, .unset] [(.long ((((((((f1_0 v5 v6 (0 : Int32) b2_xs) + (f1_0 v5 v6 (1 : Int32) b2_xs)) + (f1_0 v5 v6 (2 : Int32) b2_xs)) + (f1_0 v5 v6 (3 : Int32) b2_xs)) + (f1_0 v5 v6 (4 : Int32) b2_xs)) + (f1_0 v5 v6 (5 : Int32) b2_xs)) + (f1_0 v5 v6 (6 : Int32) b2_xs)) + (f1_0 v5 v6 (7 : Int32) b2_xs)))])) _
    refine XS.lstore X17.here hx rfl (hb hby at_195) rfl (l' := #[.val (.long v0), .second, .val (.int v2), .val (.int v3), .val (.ref b2), .val (.int v5), .val (.int v6), .val (.long ((((((((f1_0 v5 v6 (0 : Int32) b2_xs) + (f1_0 v5 v6 (1 : Int32) b2_xs)) + (f1_0 v5 v6 (2 : Int32) b2_xs)) + (f1_0 v5 v6 (3 : Int32) b2_xs)) + (f1_0 v5 v6 (4 : Int32) b2_xs)) + (f1_0 v5 v6 (5 : Int32) b2_xs)) + (f1_0 v5 v6 (6 : Int32) b2_xs)) + (f1_0 v5 v6 (7 : Int32) b2_xs))), .second]) rfl ?_
    exact k
  have i1_j : 0 ≤ v5.toInt ∧ 0 ≤ v6.toInt ∧ v5.toInt + v6.toInt ≤ 8 := i1
  exact b0_197 ⟨hx, hZ, hw, hby, hml, hret, hown, hnm, hlk⟩ h0 n0 v0 v2 v3 b2 v5 v6 ((((((((f1_0 v5 v6 (0 : Int32) b2_xs) + (f1_0 v5 v6 (1 : Int32) b2_xs)) + (f1_0 v5 v6 (2 : Int32) b2_xs)) + (f1_0 v5 v6 (3 : Int32) b2_xs)) + (f1_0 v5 v6 (4 : Int32) b2_xs)) + (f1_0 v5 v6 (5 : Int32) b2_xs)) + (f1_0 v5 v6 (6 : Int32) b2_xs)) + (f1_0 v5 v6 (7 : Int32) b2_xs)) b2_k b2_xs X17 e17 N17 Z0 V_b2 ln_b2 g_b2 i1_j _ hr
def f0_85 (v0 : Int64) (v2 : Int32) (v3 : Int32) (b2_xs : List Int32) : Int32 := (f0_106 v0 v2 v3 ((v2 &&& (2147483647 : Int32)) % (9 : Int32)) ((v3 &&& (2147483647 : Int32)) % ((9 : Int32) - ((v2 &&& (2147483647 : Int32)) % (9 : Int32)))) b2_xs)
set_option maxRecDepth 65536 in
set_option maxHeartbeats 40000000 in
theorem b0_85 {p : Program} {l : Launch} {e : Env} {s : State} {m : MethodId} {args : Array Value} {below : List Frame} {meth : Method} {c : Code} {Z : State} {a0 : Array Value} (B : Ctx p Z s a0 m meth c "com/example/tallywick/tallywick/xml/TreeBuilderHashOfPinLaw" "law" code 9 (some .boolean)) {T0 : State} {locs : List Loc} {h : Heap} (h0 : Heap) (n0 : Nat) (v0 : Int64) (v2 : Int32) (v3 : Int32) (b2 : Addr) (b2_k : ClassId) (b2_xs : List Int32) (X0 : Stand p l e room_1 s m args below meth c T0 locs 1 8) (e0 : T0.heap = h) (N0 : Fr n0 locs) (Z0 : n0 ≤ h.size) (V_b2 : Arv Z h b2 b2_k .byte (8 : Int32) (b2_xs.map Value.int) (.int 0)) (ln_b2 : b2_xs.length = (8 : Int32).toNatClampNeg) (g_b2 : n0 ≤ b2) (r : Int32) (hr : f0_85 v0 v2 v3 b2_xs = r) :
    Fin p e below s 1 8 (Q0 n0 r) (T0.setTop (mkF m 85 #[.val (.long v0), .second, .val (.int v2), .val (.int v3), .val (.ref b2), .unset, .unset, .unset, .unset] [])) := by
  obtain ⟨hx, hZ, hw, hby, hml, hret, hown, hnm, hlk⟩ := B
  unfold f0_85 at hr
  refine Fin.by (B := T0.setTop (mkF m 91 #[.val (.long v0), .second, .val (.int v2), .val (.int v3), .val (.ref b2), .unset, .unset, .unset, .unset] [(.int (9 : Int32)), (.int (v2 &&& (2147483647 : Int32)))])) (fun t k => ?_) ?_
  · show Steps p.tables e below (T0.setTop (mkF m 85 #[.val (.long v0), .second, .val (.int v2), .val (.int v3), .val (.ref b2), .unset, .unset, .unset, .unset] [])) _
    refine XS.iloadN X0.here hx rfl (hb hby at_85) rfl  ?_
    show Steps p.tables e below (T0.setTop (mkF m 86 #[.val (.long v0), .second, .val (.int v2), .val (.int v3), .val (.ref b2), .unset, .unset, .unset, .unset] [(.int v2)])) _
    refine X0.ldcInt hx hown (mvT hZ (hw _ (List.mem_of_getElem? (i := 1) rfl))) (g := (mkF m 86 #[.val (.long v0), .second, .val (.int v2), .val (.int v3), .val (.ref b2), .unset, .unset, .unset, .unset] [(.int v2)])) rfl (hb hby at_86) _ ?_
    show Steps p.tables e below (T0.setTop (mkF m 88 #[.val (.long v0), .second, .val (.int v2), .val (.int v3), .val (.ref b2), .unset, .unset, .unset, .unset] [(.int (2147483647 : Int32)), (.int v2)])) _
    refine XS.iand X0.here hx rfl (hb hby at_88) rfl ?_
    show Steps p.tables e below (T0.setTop (mkF m 89 #[.val (.long v0), .second, .val (.int v2), .val (.int v3), .val (.ref b2), .unset, .unset, .unset, .unset] [(.int (v2 &&& (2147483647 : Int32)))])) _
    refine XS.bipush X0.here hx rfl (hb hby at_89) ?_
    exact k
  have hnz91 : ¬ ((9 : Int32) = (0 : Int32)) := by decide
  refine Fin.by (B := T0.setTop (mkF m 103 #[.val (.long v0), .second, .val (.int v2), .val (.int v3), .val (.ref b2), .val (.int ((v2 &&& (2147483647 : Int32)) % (9 : Int32))), .unset, .unset, .unset] [(.int ((9 : Int32) - ((v2 &&& (2147483647 : Int32)) % (9 : Int32)))), (.int (v3 &&& (2147483647 : Int32)))])) (fun t k => ?_) ?_
  · show Steps p.tables e below (T0.setTop (mkF m 91 #[.val (.long v0), .second, .val (.int v2), .val (.int v3), .val (.ref b2), .unset, .unset, .unset, .unset] [(.int (9 : Int32)), (.int (v2 &&& (2147483647 : Int32)))])) _
    refine iremM X0 hx rfl (hb hby at_91) rfl hnz91 ?_
    show Steps p.tables e below (T0.setTop (mkF m 92 #[.val (.long v0), .second, .val (.int v2), .val (.int v3), .val (.ref b2), .unset, .unset, .unset, .unset] [(.int ((v2 &&& (2147483647 : Int32)) % (9 : Int32)))])) _
    refine XS.istore X0.here hx rfl (hb hby at_92) rfl (l' := #[.val (.long v0), .second, .val (.int v2), .val (.int v3), .val (.ref b2), .val (.int ((v2 &&& (2147483647 : Int32)) % (9 : Int32))), .unset, .unset, .unset]) rfl ?_
    show Steps p.tables e below (T0.setTop (mkF m 94 #[.val (.long v0), .second, .val (.int v2), .val (.int v3), .val (.ref b2), .val (.int ((v2 &&& (2147483647 : Int32)) % (9 : Int32))), .unset, .unset, .unset] [])) _
    refine XS.iloadN X0.here hx rfl (hb hby at_94) rfl  ?_
    show Steps p.tables e below (T0.setTop (mkF m 95 #[.val (.long v0), .second, .val (.int v2), .val (.int v3), .val (.ref b2), .val (.int ((v2 &&& (2147483647 : Int32)) % (9 : Int32))), .unset, .unset, .unset] [(.int v3)])) _
    refine X0.ldcInt hx hown (mvT hZ (hw _ (List.mem_of_getElem? (i := 1) rfl))) (g := (mkF m 95 #[.val (.long v0), .second, .val (.int v2), .val (.int v3), .val (.ref b2), .val (.int ((v2 &&& (2147483647 : Int32)) % (9 : Int32))), .unset, .unset, .unset] [(.int v3)])) rfl (hb hby at_95) _ ?_
    show Steps p.tables e below (T0.setTop (mkF m 97 #[.val (.long v0), .second, .val (.int v2), .val (.int v3), .val (.ref b2), .val (.int ((v2 &&& (2147483647 : Int32)) % (9 : Int32))), .unset, .unset, .unset] [(.int (2147483647 : Int32)), (.int v3)])) _
    refine XS.iand X0.here hx rfl (hb hby at_97) rfl ?_
    show Steps p.tables e below (T0.setTop (mkF m 98 #[.val (.long v0), .second, .val (.int v2), .val (.int v3), .val (.ref b2), .val (.int ((v2 &&& (2147483647 : Int32)) % (9 : Int32))), .unset, .unset, .unset] [(.int (v3 &&& (2147483647 : Int32)))])) _
    refine XS.bipush X0.here hx rfl (hb hby at_98) ?_
    show Steps p.tables e below (T0.setTop (mkF m 100 #[.val (.long v0), .second, .val (.int v2), .val (.int v3), .val (.ref b2), .val (.int ((v2 &&& (2147483647 : Int32)) % (9 : Int32))), .unset, .unset, .unset] [(.int (9 : Int32)), (.int (v3 &&& (2147483647 : Int32)))])) _
    refine XS.iload X0.here hx rfl (hb hby at_100) rfl  ?_
    show Steps p.tables e below (T0.setTop (mkF m 102 #[.val (.long v0), .second, .val (.int v2), .val (.int v3), .val (.ref b2), .val (.int ((v2 &&& (2147483647 : Int32)) % (9 : Int32))), .unset, .unset, .unset] [(.int ((v2 &&& (2147483647 : Int32)) % (9 : Int32))), (.int (9 : Int32)), (.int (v3 &&& (2147483647 : Int32)))])) _
    refine XS.isub X0.here hx rfl (hb hby at_102) rfl ?_
    exact k
  have hnz103 : ¬ (((9 : Int32) - ((v2 &&& (2147483647 : Int32)) % (9 : Int32))) = (0 : Int32)) := own_nz9 _ (own_st _)
  refine Fin.by (B := T0.setTop (mkF m 106 #[.val (.long v0), .second, .val (.int v2), .val (.int v3), .val (.ref b2), .val (.int ((v2 &&& (2147483647 : Int32)) % (9 : Int32))), .val (.int ((v3 &&& (2147483647 : Int32)) % ((9 : Int32) - ((v2 &&& (2147483647 : Int32)) % (9 : Int32))))), .unset, .unset] [])) (fun t k => ?_) ?_
  · show Steps p.tables e below (T0.setTop (mkF m 103 #[.val (.long v0), .second, .val (.int v2), .val (.int v3), .val (.ref b2), .val (.int ((v2 &&& (2147483647 : Int32)) % (9 : Int32))), .unset, .unset, .unset] [(.int ((9 : Int32) - ((v2 &&& (2147483647 : Int32)) % (9 : Int32)))), (.int (v3 &&& (2147483647 : Int32)))])) _
    refine iremM X0 hx rfl (hb hby at_103) rfl hnz103 ?_
    show Steps p.tables e below (T0.setTop (mkF m 104 #[.val (.long v0), .second, .val (.int v2), .val (.int v3), .val (.ref b2), .val (.int ((v2 &&& (2147483647 : Int32)) % (9 : Int32))), .unset, .unset, .unset] [(.int ((v3 &&& (2147483647 : Int32)) % ((9 : Int32) - ((v2 &&& (2147483647 : Int32)) % (9 : Int32)))))])) _
    refine XS.istore X0.here hx rfl (hb hby at_104) rfl (l' := #[.val (.long v0), .second, .val (.int v2), .val (.int v3), .val (.ref b2), .val (.int ((v2 &&& (2147483647 : Int32)) % (9 : Int32))), .val (.int ((v3 &&& (2147483647 : Int32)) % ((9 : Int32) - ((v2 &&& (2147483647 : Int32)) % (9 : Int32))))), .unset, .unset]) rfl ?_
    exact k
  have i1_j : 0 ≤ ((v2 &&& (2147483647 : Int32)) % (9 : Int32)).toInt ∧ 0 ≤ ((v3 &&& (2147483647 : Int32)) % ((9 : Int32) - ((v2 &&& (2147483647 : Int32)) % (9 : Int32)))).toInt ∧ ((v2 &&& (2147483647 : Int32)) % (9 : Int32)).toInt + ((v3 &&& (2147483647 : Int32)) % ((9 : Int32) - ((v2 &&& (2147483647 : Int32)) % (9 : Int32)))).toInt ≤ 8 := own_ln _ _ (own_st _)
  exact b0_106 ⟨hx, hZ, hw, hby, hml, hret, hown, hnm, hlk⟩ h0 n0 v0 v2 v3 b2 ((v2 &&& (2147483647 : Int32)) % (9 : Int32)) ((v3 &&& (2147483647 : Int32)) % ((9 : Int32) - ((v2 &&& (2147483647 : Int32)) % (9 : Int32)))) b2_k b2_xs X0 e0 N0 Z0 V_b2 ln_b2 g_b2 i1_j _ hr
def f0_0 (v0 : Int64) (v2 : Int32) (v3 : Int32) : Int32 := (f0_85 v0 v2 v3 ([(((v0.toInt32).toInt8.toInt32).toInt8.toInt32), (((((v0.toUInt64 >>> ((8 : Int32) &&& 0x3f).toInt64.toUInt64).toInt64).toInt32).toInt8.toInt32).toInt8.toInt32), (((((v0.toUInt64 >>> ((16 : Int32) &&& 0x3f).toInt64.toUInt64).toInt64).toInt32).toInt8.toInt32).toInt8.toInt32), (((((v0.toUInt64 >>> ((24 : Int32) &&& 0x3f).toInt64.toUInt64).toInt64).toInt32).toInt8.toInt32).toInt8.toInt32), (((((v0.toUInt64 >>> ((32 : Int32) &&& 0x3f).toInt64.toUInt64).toInt64).toInt32).toInt8.toInt32).toInt8.toInt32), (((((v0.toUInt64 >>> ((40 : Int32) &&& 0x3f).toInt64.toUInt64).toInt64).toInt32).toInt8.toInt32).toInt8.toInt32), (((((v0.toUInt64 >>> ((48 : Int32) &&& 0x3f).toInt64.toUInt64).toInt64).toInt32).toInt8.toInt32).toInt8.toInt32), (((((v0.toUInt64 >>> ((56 : Int32) &&& 0x3f).toInt64.toUInt64).toInt64).toInt32).toInt8.toInt32).toInt8.toInt32)] : List Int32))
set_option maxRecDepth 65536 in
set_option maxHeartbeats 40000000 in
theorem b0_0 {p : Program} {l : Launch} {e : Env} {s : State} {m : MethodId} {args : Array Value} {below : List Frame} {meth : Method} {c : Code} {Z : State} {a0 : Array Value} (B : Ctx p Z s a0 m meth c "com/example/tallywick/tallywick/xml/TreeBuilderHashOfPinLaw" "law" code 9 (some .boolean)) {T0 : State} {locs : List Loc} {h : Heap} (h0 : Heap) (n0 : Nat) (v0 : Int64) (v2 : Int32) (v3 : Int32) (X0 : Stand p l e room_1 s m args below meth c T0 locs 0 0) (e0 : T0.heap = h) (N0 : Fr n0 locs) (Z0 : n0 ≤ h.size) (r : Int32) (hr : f0_0 v0 v2 v3 = r) :
    Fin p e below s 1 8 (Q0 n0 r) (T0.setTop (mkF m 0 #[.val (.long v0), .second, .val (.int v2), .val (.int v3), .unset, .unset, .unset, .unset, .unset] [])) := by
  obtain ⟨hx, hZ, hw, hby, hml, hret, hown, hnm, hlk⟩ := B
  unfold f0_0 at hr
  refine Fin.by (B := T0.setTop (mkF m 2 #[.val (.long v0), .second, .val (.int v2), .val (.int v3), .unset, .unset, .unset, .unset, .unset] [(.int (8 : Int32))])) (fun t k => ?_) ?_
  · show Steps p.tables e below (T0.setTop (mkF m 0 #[.val (.long v0), .second, .val (.int v2), .val (.int v3), .unset, .unset, .unset, .unset, .unset] [])) _
    refine XS.bipush X0.here hx rfl (hb hby at_0) ?_
    exact k
  obtain ⟨T1, h1, k1, X1, e1, X1e, A1, st1⟩ := newP X0 hx hZ (hw _ (List.mem_of_getElem? (i := 0) rfl)) e0 (g := (mkF m 2 #[.val (.long v0), .second, .val (.int v2), .val (.int v3), .unset, .unset, .unset, .unset, .unset] [(.int (8 : Int32))])) rfl (hb hby at_2) rfl (by decide) (cap := 8) (by decide) (by decide) (by decide) (by decide)
  obtain ⟨b2, g1⟩ : ∃ z, z = h.size := ⟨_, rfl⟩
  rw [← g1] at A1 st1
  have g_b2 : n0 ≤ b2 := Nat.le_trans Z0 (Nat.le_of_eq g1.symm)
  have Z1 : n0 ≤ h1.size := Nat.le_trans Z0 X1e.1
  obtain ⟨V_b2_1, ln_b2_1⟩ : Arv Z h1 b2 k1 .byte (8 : Int32) (([0, 0, 0, 0, 0, 0, 0, 0] : List Int32).map Value.int) (.int 0) ∧ ([0, 0, 0, 0, 0, 0, 0, 0] : List Int32).length = (8 : Int32).toNatClampNeg := own_newI A1 rfl (by decide) (xs := ([0, 0, 0, 0, 0, 0, 0, 0] : List Int32)) (by decide)
  refine Fin.by (B := T1.setTop (mkF m 4 #[.val (.long v0), .second, .val (.int v2), .val (.int v3), .unset, .unset, .unset, .unset, .unset] [(.ref b2)])) (fun t k => st1 t k) ?_
  refine Fin.by (B := T1.setTop (mkF m 12 #[.val (.long v0), .second, .val (.int v2), .val (.int v3), .val (.ref b2), .unset, .unset, .unset, .unset] [(.int ((v0.toInt32).toInt8.toInt32)), (.int (0 : Int32)), (.ref b2)])) (fun t k => ?_) ?_
  · show Steps p.tables e below (T1.setTop (mkF m 4 #[.val (.long v0), .second, .val (.int v2), .val (.int v3), .unset, .unset, .unset, .unset, .unset] [(.ref b2)])) _
    refine XS.astore X1.here hx rfl (hb hby at_4) rfl rfl (l' := #[.val (.long v0), .second, .val (.int v2), .val (.int v3), .val (.ref b2), .unset, .unset, .unset, .unset]) rfl ?_
    show Steps p.tables e below (T1.setTop (mkF m 6 #[.val (.long v0), .second, .val (.int v2), .val (.int v3), .val (.ref b2), .unset, .unset, .unset, .unset] [])) _
    refine XS.aload X1.here hx rfl (hb hby at_6) rfl rfl ?_
    show Steps p.tables e below (T1.setTop (mkF m 8 #[.val (.long v0), .second, .val (.int v2), .val (.int v3), .val (.ref b2), .unset, .unset, .unset, .unset] [(.ref b2)])) _
    refine XS.iconst X1.here hx rfl (hb hby at_8) ?_
    show Steps p.tables e below (T1.setTop (mkF m 9 #[.val (.long v0), .second, .val (.int v2), .val (.int v3), .val (.ref b2), .unset, .unset, .unset, .unset] [(.int (0 : Int32)), (.ref b2)])) _
    refine XS.lloadN X1.here hx rfl (hb hby at_9) rfl  ?_
    show Steps p.tables e below (T1.setTop (mkF m 10 #[.val (.long v0), .second, .val (.int v2), .val (.int v3), .val (.ref b2), .unset, .unset, .unset, .unset] [(.long v0), (.int (0 : Int32)), (.ref b2)])) _
    refine XS.l2i X1.here hx rfl (hb hby at_10) rfl ?_
    show Steps p.tables e below (T1.setTop (mkF m 11 #[.val (.long v0), .second, .val (.int v2), .val (.int v3), .val (.ref b2), .unset, .unset, .unset, .unset] [(.int (v0.toInt32)), (.int (0 : Int32)), (.ref b2)])) _
    refine XS.i2b X1.here hx rfl (hb hby at_11) rfl ?_
    exact k
  have hin2 : ¬ ((0 : Int32) < 0) ∧ (0 : Int32) < (8 : Int32) := by decide
  obtain ⟨cl2, Ar2, hi2, q2⟩ := own_open V_b2_1 hin2
  obtain ⟨T2, h2, X2, e2, W2, st2⟩ := stB X1 hx hZ e1 Ar2 (j := (0 : Int32)) hi2 (g := (mkF m 12 #[.val (.long v0), .second, .val (.int v2), .val (.int v3), .val (.ref b2), .unset, .unset, .unset, .unset] [(.int ((v0.toInt32).toInt8.toInt32)), (.int (0 : Int32)), (.ref b2)])) rfl rfl (hb hby at_12)
  obtain ⟨V_b2_2, ln_b2_2⟩ : Arv Z h2 b2 k1 .byte (8 : Int32) (([(((v0.toInt32).toInt8.toInt32).toInt8.toInt32), 0, 0, 0, 0, 0, 0, 0] : List Int32).map Value.int) (.int 0) ∧ ([(((v0.toInt32).toInt8.toInt32).toInt8.toInt32), 0, 0, 0, 0, 0, 0, 0] : List Int32).length = (8 : Int32).toNatClampNeg := own_setI V_b2_1 ln_b2_1 hin2 W2 (fits_nar_byte _) 0 (by decide)
  have N2 := Fr.snoc X2 N0 g_b2
  have Z2 : n0 ≤ h2.size := Nat.le_trans Z1 (Nat.le_of_eq W2.size.symm)
  refine Fin.by (B := T2.setTop (mkF m 13 #[.val (.long v0), .second, .val (.int v2), .val (.int v3), .val (.ref b2), .unset, .unset, .unset, .unset] [])) (fun t k => st2 t k) ?_
  refine Fin.by (B := T2.setTop (mkF m 22 #[.val (.long v0), .second, .val (.int v2), .val (.int v3), .val (.ref b2), .unset, .unset, .unset, .unset] [(.int ((((v0.toUInt64 >>> ((8 : Int32) &&& 0x3f).toInt64.toUInt64).toInt64).toInt32).toInt8.toInt32)), (.int (1 : Int32)), (.ref b2)])) (fun t k => ?_) ?_
  · show Steps p.tables e below (T2.setTop (mkF m 13 #[.val (.long v0), .second, .val (.int v2), .val (.int v3), .val (.ref b2), .unset, .unset, .unset, .unset] [])) _
    refine XS.aload X2.here hx rfl (hb hby at_13) rfl rfl ?_
    show Steps p.tables e below (T2.setTop (mkF m 15 #[.val (.long v0), .second, .val (.int v2), .val (.int v3), .val (.ref b2), .unset, .unset, .unset, .unset] [(.ref b2)])) _
    refine XS.iconst X2.here hx rfl (hb hby at_15) ?_
    show Steps p.tables e below (T2.setTop (mkF m 16 #[.val (.long v0), .second, .val (.int v2), .val (.int v3), .val (.ref b2), .unset, .unset, .unset, .unset] [(.int (1 : Int32)), (.ref b2)])) _
    refine XS.lloadN X2.here hx rfl (hb hby at_16) rfl  ?_
    show Steps p.tables e below (T2.setTop (mkF m 17 #[.val (.long v0), .second, .val (.int v2), .val (.int v3), .val (.ref b2), .unset, .unset, .unset, .unset] [(.long v0), (.int (1 : Int32)), (.ref b2)])) _
    refine XS.bipush X2.here hx rfl (hb hby at_17) ?_
    show Steps p.tables e below (T2.setTop (mkF m 19 #[.val (.long v0), .second, .val (.int v2), .val (.int v3), .val (.ref b2), .unset, .unset, .unset, .unset] [(.int (8 : Int32)), (.long v0), (.int (1 : Int32)), (.ref b2)])) _
    refine XS.lushr X2.here hx rfl (hb hby at_19) rfl ?_
    show Steps p.tables e below (T2.setTop (mkF m 20 #[.val (.long v0), .second, .val (.int v2), .val (.int v3), .val (.ref b2), .unset, .unset, .unset, .unset] [(.long ((v0.toUInt64 >>> ((8 : Int32) &&& 0x3f).toInt64.toUInt64).toInt64)), (.int (1 : Int32)), (.ref b2)])) _
    refine XS.l2i X2.here hx rfl (hb hby at_20) rfl ?_
    show Steps p.tables e below (T2.setTop (mkF m 21 #[.val (.long v0), .second, .val (.int v2), .val (.int v3), .val (.ref b2), .unset, .unset, .unset, .unset] [(.int (((v0.toUInt64 >>> ((8 : Int32) &&& 0x3f).toInt64.toUInt64).toInt64).toInt32)), (.int (1 : Int32)), (.ref b2)])) _
    refine XS.i2b X2.here hx rfl (hb hby at_21) rfl ?_
    exact k
  have hin3 : ¬ ((1 : Int32) < 0) ∧ (1 : Int32) < (8 : Int32) := by decide
  obtain ⟨cl3, Ar3, hi3, q3⟩ := own_open V_b2_2 hin3
  obtain ⟨T3, h3, X3, e3, W3, st3⟩ := stB X2 hx hZ e2 Ar3 (j := (1 : Int32)) hi3 (g := (mkF m 22 #[.val (.long v0), .second, .val (.int v2), .val (.int v3), .val (.ref b2), .unset, .unset, .unset, .unset] [(.int ((((v0.toUInt64 >>> ((8 : Int32) &&& 0x3f).toInt64.toUInt64).toInt64).toInt32).toInt8.toInt32)), (.int (1 : Int32)), (.ref b2)])) rfl rfl (hb hby at_22)
  obtain ⟨V_b2_3, ln_b2_3⟩ : Arv Z h3 b2 k1 .byte (8 : Int32) (([(((v0.toInt32).toInt8.toInt32).toInt8.toInt32), (((((v0.toUInt64 >>> ((8 : Int32) &&& 0x3f).toInt64.toUInt64).toInt64).toInt32).toInt8.toInt32).toInt8.toInt32), 0, 0, 0, 0, 0, 0] : List Int32).map Value.int) (.int 0) ∧ ([(((v0.toInt32).toInt8.toInt32).toInt8.toInt32), (((((v0.toUInt64 >>> ((8 : Int32) &&& 0x3f).toInt64.toUInt64).toInt64).toInt32).toInt8.toInt32).toInt8.toInt32), 0, 0, 0, 0, 0, 0] : List Int32).length = (8 : Int32).toNatClampNeg := own_setI V_b2_2 ln_b2_2 hin3 W3 (fits_nar_byte _) 1 (by decide)
  have N3 := Fr.snoc X3 N2 g_b2
  have Z3 : n0 ≤ h3.size := Nat.le_trans Z2 (Nat.le_of_eq W3.size.symm)
  refine Fin.by (B := T3.setTop (mkF m 23 #[.val (.long v0), .second, .val (.int v2), .val (.int v3), .val (.ref b2), .unset, .unset, .unset, .unset] [])) (fun t k => st3 t k) ?_
  refine Fin.by (B := T3.setTop (mkF m 32 #[.val (.long v0), .second, .val (.int v2), .val (.int v3), .val (.ref b2), .unset, .unset, .unset, .unset] [(.int ((((v0.toUInt64 >>> ((16 : Int32) &&& 0x3f).toInt64.toUInt64).toInt64).toInt32).toInt8.toInt32)), (.int (2 : Int32)), (.ref b2)])) (fun t k => ?_) ?_
  · show Steps p.tables e below (T3.setTop (mkF m 23 #[.val (.long v0), .second, .val (.int v2), .val (.int v3), .val (.ref b2), .unset, .unset, .unset, .unset] [])) _
    refine XS.aload X3.here hx rfl (hb hby at_23) rfl rfl ?_
    show Steps p.tables e below (T3.setTop (mkF m 25 #[.val (.long v0), .second, .val (.int v2), .val (.int v3), .val (.ref b2), .unset, .unset, .unset, .unset] [(.ref b2)])) _
    refine XS.iconst X3.here hx rfl (hb hby at_25) ?_
    show Steps p.tables e below (T3.setTop (mkF m 26 #[.val (.long v0), .second, .val (.int v2), .val (.int v3), .val (.ref b2), .unset, .unset, .unset, .unset] [(.int (2 : Int32)), (.ref b2)])) _
    refine XS.lloadN X3.here hx rfl (hb hby at_26) rfl  ?_
    show Steps p.tables e below (T3.setTop (mkF m 27 #[.val (.long v0), .second, .val (.int v2), .val (.int v3), .val (.ref b2), .unset, .unset, .unset, .unset] [(.long v0), (.int (2 : Int32)), (.ref b2)])) _
    refine XS.bipush X3.here hx rfl (hb hby at_27) ?_
    show Steps p.tables e below (T3.setTop (mkF m 29 #[.val (.long v0), .second, .val (.int v2), .val (.int v3), .val (.ref b2), .unset, .unset, .unset, .unset] [(.int (16 : Int32)), (.long v0), (.int (2 : Int32)), (.ref b2)])) _
    refine XS.lushr X3.here hx rfl (hb hby at_29) rfl ?_
    show Steps p.tables e below (T3.setTop (mkF m 30 #[.val (.long v0), .second, .val (.int v2), .val (.int v3), .val (.ref b2), .unset, .unset, .unset, .unset] [(.long ((v0.toUInt64 >>> ((16 : Int32) &&& 0x3f).toInt64.toUInt64).toInt64)), (.int (2 : Int32)), (.ref b2)])) _
    refine XS.l2i X3.here hx rfl (hb hby at_30) rfl ?_
    show Steps p.tables e below (T3.setTop (mkF m 31 #[.val (.long v0), .second, .val (.int v2), .val (.int v3), .val (.ref b2), .unset, .unset, .unset, .unset] [(.int (((v0.toUInt64 >>> ((16 : Int32) &&& 0x3f).toInt64.toUInt64).toInt64).toInt32)), (.int (2 : Int32)), (.ref b2)])) _
    refine XS.i2b X3.here hx rfl (hb hby at_31) rfl ?_
    exact k
  have hin4 : ¬ ((2 : Int32) < 0) ∧ (2 : Int32) < (8 : Int32) := by decide
  obtain ⟨cl4, Ar4, hi4, q4⟩ := own_open V_b2_3 hin4
  obtain ⟨T4, h4, X4, e4, W4, st4⟩ := stB X3 hx hZ e3 Ar4 (j := (2 : Int32)) hi4 (g := (mkF m 32 #[.val (.long v0), .second, .val (.int v2), .val (.int v3), .val (.ref b2), .unset, .unset, .unset, .unset] [(.int ((((v0.toUInt64 >>> ((16 : Int32) &&& 0x3f).toInt64.toUInt64).toInt64).toInt32).toInt8.toInt32)), (.int (2 : Int32)), (.ref b2)])) rfl rfl (hb hby at_32)
  obtain ⟨V_b2_4, ln_b2_4⟩ : Arv Z h4 b2 k1 .byte (8 : Int32) (([(((v0.toInt32).toInt8.toInt32).toInt8.toInt32), (((((v0.toUInt64 >>> ((8 : Int32) &&& 0x3f).toInt64.toUInt64).toInt64).toInt32).toInt8.toInt32).toInt8.toInt32), (((((v0.toUInt64 >>> ((16 : Int32) &&& 0x3f).toInt64.toUInt64).toInt64).toInt32).toInt8.toInt32).toInt8.toInt32), 0, 0, 0, 0, 0] : List Int32).map Value.int) (.int 0) ∧ ([(((v0.toInt32).toInt8.toInt32).toInt8.toInt32), (((((v0.toUInt64 >>> ((8 : Int32) &&& 0x3f).toInt64.toUInt64).toInt64).toInt32).toInt8.toInt32).toInt8.toInt32), (((((v0.toUInt64 >>> ((16 : Int32) &&& 0x3f).toInt64.toUInt64).toInt64).toInt32).toInt8.toInt32).toInt8.toInt32), 0, 0, 0, 0, 0] : List Int32).length = (8 : Int32).toNatClampNeg := own_setI V_b2_3 ln_b2_3 hin4 W4 (fits_nar_byte _) 2 (by decide)
  have N4 := Fr.snoc X4 N3 g_b2
  have Z4 : n0 ≤ h4.size := Nat.le_trans Z3 (Nat.le_of_eq W4.size.symm)
  refine Fin.by (B := T4.setTop (mkF m 33 #[.val (.long v0), .second, .val (.int v2), .val (.int v3), .val (.ref b2), .unset, .unset, .unset, .unset] [])) (fun t k => st4 t k) ?_
  refine Fin.by (B := T4.setTop (mkF m 42 #[.val (.long v0), .second, .val (.int v2), .val (.int v3), .val (.ref b2), .unset, .unset, .unset, .unset] [(.int ((((v0.toUInt64 >>> ((24 : Int32) &&& 0x3f).toInt64.toUInt64).toInt64).toInt32).toInt8.toInt32)), (.int (3 : Int32)), (.ref b2)])) (fun t k => ?_) ?_
  · show Steps p.tables e below (T4.setTop (mkF m 33 #[.val (.long v0), .second, .val (.int v2), .val (.int v3), .val (.ref b2), .unset, .unset, .unset, .unset] [])) _
    refine XS.aload X4.here hx rfl (hb hby at_33) rfl rfl ?_
    show Steps p.tables e below (T4.setTop (mkF m 35 #[.val (.long v0), .second, .val (.int v2), .val (.int v3), .val (.ref b2), .unset, .unset, .unset, .unset] [(.ref b2)])) _
    refine XS.iconst X4.here hx rfl (hb hby at_35) ?_
    show Steps p.tables e below (T4.setTop (mkF m 36 #[.val (.long v0), .second, .val (.int v2), .val (.int v3), .val (.ref b2), .unset, .unset, .unset, .unset] [(.int (3 : Int32)), (.ref b2)])) _
    refine XS.lloadN X4.here hx rfl (hb hby at_36) rfl  ?_
    show Steps p.tables e below (T4.setTop (mkF m 37 #[.val (.long v0), .second, .val (.int v2), .val (.int v3), .val (.ref b2), .unset, .unset, .unset, .unset] [(.long v0), (.int (3 : Int32)), (.ref b2)])) _
    refine XS.bipush X4.here hx rfl (hb hby at_37) ?_
    show Steps p.tables e below (T4.setTop (mkF m 39 #[.val (.long v0), .second, .val (.int v2), .val (.int v3), .val (.ref b2), .unset, .unset, .unset, .unset] [(.int (24 : Int32)), (.long v0), (.int (3 : Int32)), (.ref b2)])) _
    refine XS.lushr X4.here hx rfl (hb hby at_39) rfl ?_
    show Steps p.tables e below (T4.setTop (mkF m 40 #[.val (.long v0), .second, .val (.int v2), .val (.int v3), .val (.ref b2), .unset, .unset, .unset, .unset] [(.long ((v0.toUInt64 >>> ((24 : Int32) &&& 0x3f).toInt64.toUInt64).toInt64)), (.int (3 : Int32)), (.ref b2)])) _
    refine XS.l2i X4.here hx rfl (hb hby at_40) rfl ?_
    show Steps p.tables e below (T4.setTop (mkF m 41 #[.val (.long v0), .second, .val (.int v2), .val (.int v3), .val (.ref b2), .unset, .unset, .unset, .unset] [(.int (((v0.toUInt64 >>> ((24 : Int32) &&& 0x3f).toInt64.toUInt64).toInt64).toInt32)), (.int (3 : Int32)), (.ref b2)])) _
    refine XS.i2b X4.here hx rfl (hb hby at_41) rfl ?_
    exact k
  have hin5 : ¬ ((3 : Int32) < 0) ∧ (3 : Int32) < (8 : Int32) := by decide
  obtain ⟨cl5, Ar5, hi5, q5⟩ := own_open V_b2_4 hin5
  obtain ⟨T5, h5, X5, e5, W5, st5⟩ := stB X4 hx hZ e4 Ar5 (j := (3 : Int32)) hi5 (g := (mkF m 42 #[.val (.long v0), .second, .val (.int v2), .val (.int v3), .val (.ref b2), .unset, .unset, .unset, .unset] [(.int ((((v0.toUInt64 >>> ((24 : Int32) &&& 0x3f).toInt64.toUInt64).toInt64).toInt32).toInt8.toInt32)), (.int (3 : Int32)), (.ref b2)])) rfl rfl (hb hby at_42)
  obtain ⟨V_b2_5, ln_b2_5⟩ : Arv Z h5 b2 k1 .byte (8 : Int32) (([(((v0.toInt32).toInt8.toInt32).toInt8.toInt32), (((((v0.toUInt64 >>> ((8 : Int32) &&& 0x3f).toInt64.toUInt64).toInt64).toInt32).toInt8.toInt32).toInt8.toInt32), (((((v0.toUInt64 >>> ((16 : Int32) &&& 0x3f).toInt64.toUInt64).toInt64).toInt32).toInt8.toInt32).toInt8.toInt32), (((((v0.toUInt64 >>> ((24 : Int32) &&& 0x3f).toInt64.toUInt64).toInt64).toInt32).toInt8.toInt32).toInt8.toInt32), 0, 0, 0, 0] : List Int32).map Value.int) (.int 0) ∧ ([(((v0.toInt32).toInt8.toInt32).toInt8.toInt32), (((((v0.toUInt64 >>> ((8 : Int32) &&& 0x3f).toInt64.toUInt64).toInt64).toInt32).toInt8.toInt32).toInt8.toInt32), (((((v0.toUInt64 >>> ((16 : Int32) &&& 0x3f).toInt64.toUInt64).toInt64).toInt32).toInt8.toInt32).toInt8.toInt32), (((((v0.toUInt64 >>> ((24 : Int32) &&& 0x3f).toInt64.toUInt64).toInt64).toInt32).toInt8.toInt32).toInt8.toInt32), 0, 0, 0, 0] : List Int32).length = (8 : Int32).toNatClampNeg := own_setI V_b2_4 ln_b2_4 hin5 W5 (fits_nar_byte _) 3 (by decide)
  have N5 := Fr.snoc X5 N4 g_b2
  have Z5 : n0 ≤ h5.size := Nat.le_trans Z4 (Nat.le_of_eq W5.size.symm)
  refine Fin.by (B := T5.setTop (mkF m 43 #[.val (.long v0), .second, .val (.int v2), .val (.int v3), .val (.ref b2), .unset, .unset, .unset, .unset] [])) (fun t k => st5 t k) ?_
  refine Fin.by (B := T5.setTop (mkF m 52 #[.val (.long v0), .second, .val (.int v2), .val (.int v3), .val (.ref b2), .unset, .unset, .unset, .unset] [(.int ((((v0.toUInt64 >>> ((32 : Int32) &&& 0x3f).toInt64.toUInt64).toInt64).toInt32).toInt8.toInt32)), (.int (4 : Int32)), (.ref b2)])) (fun t k => ?_) ?_
  · show Steps p.tables e below (T5.setTop (mkF m 43 #[.val (.long v0), .second, .val (.int v2), .val (.int v3), .val (.ref b2), .unset, .unset, .unset, .unset] [])) _
    refine XS.aload X5.here hx rfl (hb hby at_43) rfl rfl ?_
    show Steps p.tables e below (T5.setTop (mkF m 45 #[.val (.long v0), .second, .val (.int v2), .val (.int v3), .val (.ref b2), .unset, .unset, .unset, .unset] [(.ref b2)])) _
    refine XS.iconst X5.here hx rfl (hb hby at_45) ?_
    show Steps p.tables e below (T5.setTop (mkF m 46 #[.val (.long v0), .second, .val (.int v2), .val (.int v3), .val (.ref b2), .unset, .unset, .unset, .unset] [(.int (4 : Int32)), (.ref b2)])) _
    refine XS.lloadN X5.here hx rfl (hb hby at_46) rfl  ?_
    show Steps p.tables e below (T5.setTop (mkF m 47 #[.val (.long v0), .second, .val (.int v2), .val (.int v3), .val (.ref b2), .unset, .unset, .unset, .unset] [(.long v0), (.int (4 : Int32)), (.ref b2)])) _
    refine XS.bipush X5.here hx rfl (hb hby at_47) ?_
    show Steps p.tables e below (T5.setTop (mkF m 49 #[.val (.long v0), .second, .val (.int v2), .val (.int v3), .val (.ref b2), .unset, .unset, .unset, .unset] [(.int (32 : Int32)), (.long v0), (.int (4 : Int32)), (.ref b2)])) _
    refine XS.lushr X5.here hx rfl (hb hby at_49) rfl ?_
    show Steps p.tables e below (T5.setTop (mkF m 50 #[.val (.long v0), .second, .val (.int v2), .val (.int v3), .val (.ref b2), .unset, .unset, .unset, .unset] [(.long ((v0.toUInt64 >>> ((32 : Int32) &&& 0x3f).toInt64.toUInt64).toInt64)), (.int (4 : Int32)), (.ref b2)])) _
    refine XS.l2i X5.here hx rfl (hb hby at_50) rfl ?_
    show Steps p.tables e below (T5.setTop (mkF m 51 #[.val (.long v0), .second, .val (.int v2), .val (.int v3), .val (.ref b2), .unset, .unset, .unset, .unset] [(.int (((v0.toUInt64 >>> ((32 : Int32) &&& 0x3f).toInt64.toUInt64).toInt64).toInt32)), (.int (4 : Int32)), (.ref b2)])) _
    refine XS.i2b X5.here hx rfl (hb hby at_51) rfl ?_
    exact k
  have hin6 : ¬ ((4 : Int32) < 0) ∧ (4 : Int32) < (8 : Int32) := by decide
  obtain ⟨cl6, Ar6, hi6, q6⟩ := own_open V_b2_5 hin6
  obtain ⟨T6, h6, X6, e6, W6, st6⟩ := stB X5 hx hZ e5 Ar6 (j := (4 : Int32)) hi6 (g := (mkF m 52 #[.val (.long v0), .second, .val (.int v2), .val (.int v3), .val (.ref b2), .unset, .unset, .unset, .unset] [(.int ((((v0.toUInt64 >>> ((32 : Int32) &&& 0x3f).toInt64.toUInt64).toInt64).toInt32).toInt8.toInt32)), (.int (4 : Int32)), (.ref b2)])) rfl rfl (hb hby at_52)
  obtain ⟨V_b2_6, ln_b2_6⟩ : Arv Z h6 b2 k1 .byte (8 : Int32) (([(((v0.toInt32).toInt8.toInt32).toInt8.toInt32), (((((v0.toUInt64 >>> ((8 : Int32) &&& 0x3f).toInt64.toUInt64).toInt64).toInt32).toInt8.toInt32).toInt8.toInt32), (((((v0.toUInt64 >>> ((16 : Int32) &&& 0x3f).toInt64.toUInt64).toInt64).toInt32).toInt8.toInt32).toInt8.toInt32), (((((v0.toUInt64 >>> ((24 : Int32) &&& 0x3f).toInt64.toUInt64).toInt64).toInt32).toInt8.toInt32).toInt8.toInt32), (((((v0.toUInt64 >>> ((32 : Int32) &&& 0x3f).toInt64.toUInt64).toInt64).toInt32).toInt8.toInt32).toInt8.toInt32), 0, 0, 0] : List Int32).map Value.int) (.int 0) ∧ ([(((v0.toInt32).toInt8.toInt32).toInt8.toInt32), (((((v0.toUInt64 >>> ((8 : Int32) &&& 0x3f).toInt64.toUInt64).toInt64).toInt32).toInt8.toInt32).toInt8.toInt32), (((((v0.toUInt64 >>> ((16 : Int32) &&& 0x3f).toInt64.toUInt64).toInt64).toInt32).toInt8.toInt32).toInt8.toInt32), (((((v0.toUInt64 >>> ((24 : Int32) &&& 0x3f).toInt64.toUInt64).toInt64).toInt32).toInt8.toInt32).toInt8.toInt32), (((((v0.toUInt64 >>> ((32 : Int32) &&& 0x3f).toInt64.toUInt64).toInt64).toInt32).toInt8.toInt32).toInt8.toInt32), 0, 0, 0] : List Int32).length = (8 : Int32).toNatClampNeg := own_setI V_b2_5 ln_b2_5 hin6 W6 (fits_nar_byte _) 4 (by decide)
  have N6 := Fr.snoc X6 N5 g_b2
  have Z6 : n0 ≤ h6.size := Nat.le_trans Z5 (Nat.le_of_eq W6.size.symm)
  refine Fin.by (B := T6.setTop (mkF m 53 #[.val (.long v0), .second, .val (.int v2), .val (.int v3), .val (.ref b2), .unset, .unset, .unset, .unset] [])) (fun t k => st6 t k) ?_
  refine Fin.by (B := T6.setTop (mkF m 62 #[.val (.long v0), .second, .val (.int v2), .val (.int v3), .val (.ref b2), .unset, .unset, .unset, .unset] [(.int ((((v0.toUInt64 >>> ((40 : Int32) &&& 0x3f).toInt64.toUInt64).toInt64).toInt32).toInt8.toInt32)), (.int (5 : Int32)), (.ref b2)])) (fun t k => ?_) ?_
  · show Steps p.tables e below (T6.setTop (mkF m 53 #[.val (.long v0), .second, .val (.int v2), .val (.int v3), .val (.ref b2), .unset, .unset, .unset, .unset] [])) _
    refine XS.aload X6.here hx rfl (hb hby at_53) rfl rfl ?_
    show Steps p.tables e below (T6.setTop (mkF m 55 #[.val (.long v0), .second, .val (.int v2), .val (.int v3), .val (.ref b2), .unset, .unset, .unset, .unset] [(.ref b2)])) _
    refine XS.iconst X6.here hx rfl (hb hby at_55) ?_
    show Steps p.tables e below (T6.setTop (mkF m 56 #[.val (.long v0), .second, .val (.int v2), .val (.int v3), .val (.ref b2), .unset, .unset, .unset, .unset] [(.int (5 : Int32)), (.ref b2)])) _
    refine XS.lloadN X6.here hx rfl (hb hby at_56) rfl  ?_
    show Steps p.tables e below (T6.setTop (mkF m 57 #[.val (.long v0), .second, .val (.int v2), .val (.int v3), .val (.ref b2), .unset, .unset, .unset, .unset] [(.long v0), (.int (5 : Int32)), (.ref b2)])) _
    refine XS.bipush X6.here hx rfl (hb hby at_57) ?_
    show Steps p.tables e below (T6.setTop (mkF m 59 #[.val (.long v0), .second, .val (.int v2), .val (.int v3), .val (.ref b2), .unset, .unset, .unset, .unset] [(.int (40 : Int32)), (.long v0), (.int (5 : Int32)), (.ref b2)])) _
    refine XS.lushr X6.here hx rfl (hb hby at_59) rfl ?_
    show Steps p.tables e below (T6.setTop (mkF m 60 #[.val (.long v0), .second, .val (.int v2), .val (.int v3), .val (.ref b2), .unset, .unset, .unset, .unset] [(.long ((v0.toUInt64 >>> ((40 : Int32) &&& 0x3f).toInt64.toUInt64).toInt64)), (.int (5 : Int32)), (.ref b2)])) _
    refine XS.l2i X6.here hx rfl (hb hby at_60) rfl ?_
    show Steps p.tables e below (T6.setTop (mkF m 61 #[.val (.long v0), .second, .val (.int v2), .val (.int v3), .val (.ref b2), .unset, .unset, .unset, .unset] [(.int (((v0.toUInt64 >>> ((40 : Int32) &&& 0x3f).toInt64.toUInt64).toInt64).toInt32)), (.int (5 : Int32)), (.ref b2)])) _
    refine XS.i2b X6.here hx rfl (hb hby at_61) rfl ?_
    exact k
  have hin7 : ¬ ((5 : Int32) < 0) ∧ (5 : Int32) < (8 : Int32) := by decide
  obtain ⟨cl7, Ar7, hi7, q7⟩ := own_open V_b2_6 hin7
  obtain ⟨T7, h7, X7, e7, W7, st7⟩ := stB X6 hx hZ e6 Ar7 (j := (5 : Int32)) hi7 (g := (mkF m 62 #[.val (.long v0), .second, .val (.int v2), .val (.int v3), .val (.ref b2), .unset, .unset, .unset, .unset] [(.int ((((v0.toUInt64 >>> ((40 : Int32) &&& 0x3f).toInt64.toUInt64).toInt64).toInt32).toInt8.toInt32)), (.int (5 : Int32)), (.ref b2)])) rfl rfl (hb hby at_62)
  obtain ⟨V_b2_7, ln_b2_7⟩ : Arv Z h7 b2 k1 .byte (8 : Int32) (([(((v0.toInt32).toInt8.toInt32).toInt8.toInt32), (((((v0.toUInt64 >>> ((8 : Int32) &&& 0x3f).toInt64.toUInt64).toInt64).toInt32).toInt8.toInt32).toInt8.toInt32), (((((v0.toUInt64 >>> ((16 : Int32) &&& 0x3f).toInt64.toUInt64).toInt64).toInt32).toInt8.toInt32).toInt8.toInt32), (((((v0.toUInt64 >>> ((24 : Int32) &&& 0x3f).toInt64.toUInt64).toInt64).toInt32).toInt8.toInt32).toInt8.toInt32), (((((v0.toUInt64 >>> ((32 : Int32) &&& 0x3f).toInt64.toUInt64).toInt64).toInt32).toInt8.toInt32).toInt8.toInt32), (((((v0.toUInt64 >>> ((40 : Int32) &&& 0x3f).toInt64.toUInt64).toInt64).toInt32).toInt8.toInt32).toInt8.toInt32), 0, 0] : List Int32).map Value.int) (.int 0) ∧ ([(((v0.toInt32).toInt8.toInt32).toInt8.toInt32), (((((v0.toUInt64 >>> ((8 : Int32) &&& 0x3f).toInt64.toUInt64).toInt64).toInt32).toInt8.toInt32).toInt8.toInt32), (((((v0.toUInt64 >>> ((16 : Int32) &&& 0x3f).toInt64.toUInt64).toInt64).toInt32).toInt8.toInt32).toInt8.toInt32), (((((v0.toUInt64 >>> ((24 : Int32) &&& 0x3f).toInt64.toUInt64).toInt64).toInt32).toInt8.toInt32).toInt8.toInt32), (((((v0.toUInt64 >>> ((32 : Int32) &&& 0x3f).toInt64.toUInt64).toInt64).toInt32).toInt8.toInt32).toInt8.toInt32), (((((v0.toUInt64 >>> ((40 : Int32) &&& 0x3f).toInt64.toUInt64).toInt64).toInt32).toInt8.toInt32).toInt8.toInt32), 0, 0] : List Int32).length = (8 : Int32).toNatClampNeg := own_setI V_b2_6 ln_b2_6 hin7 W7 (fits_nar_byte _) 5 (by decide)
  have N7 := Fr.snoc X7 N6 g_b2
  have Z7 : n0 ≤ h7.size := Nat.le_trans Z6 (Nat.le_of_eq W7.size.symm)
  refine Fin.by (B := T7.setTop (mkF m 63 #[.val (.long v0), .second, .val (.int v2), .val (.int v3), .val (.ref b2), .unset, .unset, .unset, .unset] [])) (fun t k => st7 t k) ?_
  refine Fin.by (B := T7.setTop (mkF m 73 #[.val (.long v0), .second, .val (.int v2), .val (.int v3), .val (.ref b2), .unset, .unset, .unset, .unset] [(.int ((((v0.toUInt64 >>> ((48 : Int32) &&& 0x3f).toInt64.toUInt64).toInt64).toInt32).toInt8.toInt32)), (.int (6 : Int32)), (.ref b2)])) (fun t k => ?_) ?_
  · show Steps p.tables e below (T7.setTop (mkF m 63 #[.val (.long v0), .second, .val (.int v2), .val (.int v3), .val (.ref b2), .unset, .unset, .unset, .unset] [])) _
    refine XS.aload X7.here hx rfl (hb hby at_63) rfl rfl ?_
    show Steps p.tables e below (T7.setTop (mkF m 65 #[.val (.long v0), .second, .val (.int v2), .val (.int v3), .val (.ref b2), .unset, .unset, .unset, .unset] [(.ref b2)])) _
    refine XS.bipush X7.here hx rfl (hb hby at_65) ?_
    show Steps p.tables e below (T7.setTop (mkF m 67 #[.val (.long v0), .second, .val (.int v2), .val (.int v3), .val (.ref b2), .unset, .unset, .unset, .unset] [(.int (6 : Int32)), (.ref b2)])) _
    refine XS.lloadN X7.here hx rfl (hb hby at_67) rfl  ?_
    show Steps p.tables e below (T7.setTop (mkF m 68 #[.val (.long v0), .second, .val (.int v2), .val (.int v3), .val (.ref b2), .unset, .unset, .unset, .unset] [(.long v0), (.int (6 : Int32)), (.ref b2)])) _
    refine XS.bipush X7.here hx rfl (hb hby at_68) ?_
    show Steps p.tables e below (T7.setTop (mkF m 70 #[.val (.long v0), .second, .val (.int v2), .val (.int v3), .val (.ref b2), .unset, .unset, .unset, .unset] [(.int (48 : Int32)), (.long v0), (.int (6 : Int32)), (.ref b2)])) _
    refine XS.lushr X7.here hx rfl (hb hby at_70) rfl ?_
    show Steps p.tables e below (T7.setTop (mkF m 71 #[.val (.long v0), .second, .val (.int v2), .val (.int v3), .val (.ref b2), .unset, .unset, .unset, .unset] [(.long ((v0.toUInt64 >>> ((48 : Int32) &&& 0x3f).toInt64.toUInt64).toInt64)), (.int (6 : Int32)), (.ref b2)])) _
    refine XS.l2i X7.here hx rfl (hb hby at_71) rfl ?_
    show Steps p.tables e below (T7.setTop (mkF m 72 #[.val (.long v0), .second, .val (.int v2), .val (.int v3), .val (.ref b2), .unset, .unset, .unset, .unset] [(.int (((v0.toUInt64 >>> ((48 : Int32) &&& 0x3f).toInt64.toUInt64).toInt64).toInt32)), (.int (6 : Int32)), (.ref b2)])) _
    refine XS.i2b X7.here hx rfl (hb hby at_72) rfl ?_
    exact k
  have hin8 : ¬ ((6 : Int32) < 0) ∧ (6 : Int32) < (8 : Int32) := by decide
  obtain ⟨cl8, Ar8, hi8, q8⟩ := own_open V_b2_7 hin8
  obtain ⟨T8, h8, X8, e8, W8, st8⟩ := stB X7 hx hZ e7 Ar8 (j := (6 : Int32)) hi8 (g := (mkF m 73 #[.val (.long v0), .second, .val (.int v2), .val (.int v3), .val (.ref b2), .unset, .unset, .unset, .unset] [(.int ((((v0.toUInt64 >>> ((48 : Int32) &&& 0x3f).toInt64.toUInt64).toInt64).toInt32).toInt8.toInt32)), (.int (6 : Int32)), (.ref b2)])) rfl rfl (hb hby at_73)
  obtain ⟨V_b2_8, ln_b2_8⟩ : Arv Z h8 b2 k1 .byte (8 : Int32) (([(((v0.toInt32).toInt8.toInt32).toInt8.toInt32), (((((v0.toUInt64 >>> ((8 : Int32) &&& 0x3f).toInt64.toUInt64).toInt64).toInt32).toInt8.toInt32).toInt8.toInt32), (((((v0.toUInt64 >>> ((16 : Int32) &&& 0x3f).toInt64.toUInt64).toInt64).toInt32).toInt8.toInt32).toInt8.toInt32), (((((v0.toUInt64 >>> ((24 : Int32) &&& 0x3f).toInt64.toUInt64).toInt64).toInt32).toInt8.toInt32).toInt8.toInt32), (((((v0.toUInt64 >>> ((32 : Int32) &&& 0x3f).toInt64.toUInt64).toInt64).toInt32).toInt8.toInt32).toInt8.toInt32), (((((v0.toUInt64 >>> ((40 : Int32) &&& 0x3f).toInt64.toUInt64).toInt64).toInt32).toInt8.toInt32).toInt8.toInt32), (((((v0.toUInt64 >>> ((48 : Int32) &&& 0x3f).toInt64.toUInt64).toInt64).toInt32).toInt8.toInt32).toInt8.toInt32), 0] : List Int32).map Value.int) (.int 0) ∧ ([(((v0.toInt32).toInt8.toInt32).toInt8.toInt32), (((((v0.toUInt64 >>> ((8 : Int32) &&& 0x3f).toInt64.toUInt64).toInt64).toInt32).toInt8.toInt32).toInt8.toInt32), (((((v0.toUInt64 >>> ((16 : Int32) &&& 0x3f).toInt64.toUInt64).toInt64).toInt32).toInt8.toInt32).toInt8.toInt32), (((((v0.toUInt64 >>> ((24 : Int32) &&& 0x3f).toInt64.toUInt64).toInt64).toInt32).toInt8.toInt32).toInt8.toInt32), (((((v0.toUInt64 >>> ((32 : Int32) &&& 0x3f).toInt64.toUInt64).toInt64).toInt32).toInt8.toInt32).toInt8.toInt32), (((((v0.toUInt64 >>> ((40 : Int32) &&& 0x3f).toInt64.toUInt64).toInt64).toInt32).toInt8.toInt32).toInt8.toInt32), (((((v0.toUInt64 >>> ((48 : Int32) &&& 0x3f).toInt64.toUInt64).toInt64).toInt32).toInt8.toInt32).toInt8.toInt32), 0] : List Int32).length = (8 : Int32).toNatClampNeg := own_setI V_b2_7 ln_b2_7 hin8 W8 (fits_nar_byte _) 6 (by decide)
  have N8 := Fr.snoc X8 N7 g_b2
  have Z8 : n0 ≤ h8.size := Nat.le_trans Z7 (Nat.le_of_eq W8.size.symm)
  refine Fin.by (B := T8.setTop (mkF m 74 #[.val (.long v0), .second, .val (.int v2), .val (.int v3), .val (.ref b2), .unset, .unset, .unset, .unset] [])) (fun t k => st8 t k) ?_
  refine Fin.by (B := T8.setTop (mkF m 84 #[.val (.long v0), .second, .val (.int v2), .val (.int v3), .val (.ref b2), .unset, .unset, .unset, .unset] [(.int ((((v0.toUInt64 >>> ((56 : Int32) &&& 0x3f).toInt64.toUInt64).toInt64).toInt32).toInt8.toInt32)), (.int (7 : Int32)), (.ref b2)])) (fun t k => ?_) ?_
  · show Steps p.tables e below (T8.setTop (mkF m 74 #[.val (.long v0), .second, .val (.int v2), .val (.int v3), .val (.ref b2), .unset, .unset, .unset, .unset] [])) _
    refine XS.aload X8.here hx rfl (hb hby at_74) rfl rfl ?_
    show Steps p.tables e below (T8.setTop (mkF m 76 #[.val (.long v0), .second, .val (.int v2), .val (.int v3), .val (.ref b2), .unset, .unset, .unset, .unset] [(.ref b2)])) _
    refine XS.bipush X8.here hx rfl (hb hby at_76) ?_
    show Steps p.tables e below (T8.setTop (mkF m 78 #[.val (.long v0), .second, .val (.int v2), .val (.int v3), .val (.ref b2), .unset, .unset, .unset, .unset] [(.int (7 : Int32)), (.ref b2)])) _
    refine XS.lloadN X8.here hx rfl (hb hby at_78) rfl  ?_
    show Steps p.tables e below (T8.setTop (mkF m 79 #[.val (.long v0), .second, .val (.int v2), .val (.int v3), .val (.ref b2), .unset, .unset, .unset, .unset] [(.long v0), (.int (7 : Int32)), (.ref b2)])) _
    refine XS.bipush X8.here hx rfl (hb hby at_79) ?_
    show Steps p.tables e below (T8.setTop (mkF m 81 #[.val (.long v0), .second, .val (.int v2), .val (.int v3), .val (.ref b2), .unset, .unset, .unset, .unset] [(.int (56 : Int32)), (.long v0), (.int (7 : Int32)), (.ref b2)])) _
    refine XS.lushr X8.here hx rfl (hb hby at_81) rfl ?_
    show Steps p.tables e below (T8.setTop (mkF m 82 #[.val (.long v0), .second, .val (.int v2), .val (.int v3), .val (.ref b2), .unset, .unset, .unset, .unset] [(.long ((v0.toUInt64 >>> ((56 : Int32) &&& 0x3f).toInt64.toUInt64).toInt64)), (.int (7 : Int32)), (.ref b2)])) _
    refine XS.l2i X8.here hx rfl (hb hby at_82) rfl ?_
    show Steps p.tables e below (T8.setTop (mkF m 83 #[.val (.long v0), .second, .val (.int v2), .val (.int v3), .val (.ref b2), .unset, .unset, .unset, .unset] [(.int (((v0.toUInt64 >>> ((56 : Int32) &&& 0x3f).toInt64.toUInt64).toInt64).toInt32)), (.int (7 : Int32)), (.ref b2)])) _
    refine XS.i2b X8.here hx rfl (hb hby at_83) rfl ?_
    exact k
  have hin9 : ¬ ((7 : Int32) < 0) ∧ (7 : Int32) < (8 : Int32) := by decide
  obtain ⟨cl9, Ar9, hi9, q9⟩ := own_open V_b2_8 hin9
  obtain ⟨T9, h9, X9, e9, W9, st9⟩ := stB X8 hx hZ e8 Ar9 (j := (7 : Int32)) hi9 (g := (mkF m 84 #[.val (.long v0), .second, .val (.int v2), .val (.int v3), .val (.ref b2), .unset, .unset, .unset, .unset] [(.int ((((v0.toUInt64 >>> ((56 : Int32) &&& 0x3f).toInt64.toUInt64).toInt64).toInt32).toInt8.toInt32)), (.int (7 : Int32)), (.ref b2)])) rfl rfl (hb hby at_84)
  obtain ⟨V_b2_9, ln_b2_9⟩ : Arv Z h9 b2 k1 .byte (8 : Int32) (([(((v0.toInt32).toInt8.toInt32).toInt8.toInt32), (((((v0.toUInt64 >>> ((8 : Int32) &&& 0x3f).toInt64.toUInt64).toInt64).toInt32).toInt8.toInt32).toInt8.toInt32), (((((v0.toUInt64 >>> ((16 : Int32) &&& 0x3f).toInt64.toUInt64).toInt64).toInt32).toInt8.toInt32).toInt8.toInt32), (((((v0.toUInt64 >>> ((24 : Int32) &&& 0x3f).toInt64.toUInt64).toInt64).toInt32).toInt8.toInt32).toInt8.toInt32), (((((v0.toUInt64 >>> ((32 : Int32) &&& 0x3f).toInt64.toUInt64).toInt64).toInt32).toInt8.toInt32).toInt8.toInt32), (((((v0.toUInt64 >>> ((40 : Int32) &&& 0x3f).toInt64.toUInt64).toInt64).toInt32).toInt8.toInt32).toInt8.toInt32), (((((v0.toUInt64 >>> ((48 : Int32) &&& 0x3f).toInt64.toUInt64).toInt64).toInt32).toInt8.toInt32).toInt8.toInt32), (((((v0.toUInt64 >>> ((56 : Int32) &&& 0x3f).toInt64.toUInt64).toInt64).toInt32).toInt8.toInt32).toInt8.toInt32)] : List Int32).map Value.int) (.int 0) ∧ ([(((v0.toInt32).toInt8.toInt32).toInt8.toInt32), (((((v0.toUInt64 >>> ((8 : Int32) &&& 0x3f).toInt64.toUInt64).toInt64).toInt32).toInt8.toInt32).toInt8.toInt32), (((((v0.toUInt64 >>> ((16 : Int32) &&& 0x3f).toInt64.toUInt64).toInt64).toInt32).toInt8.toInt32).toInt8.toInt32), (((((v0.toUInt64 >>> ((24 : Int32) &&& 0x3f).toInt64.toUInt64).toInt64).toInt32).toInt8.toInt32).toInt8.toInt32), (((((v0.toUInt64 >>> ((32 : Int32) &&& 0x3f).toInt64.toUInt64).toInt64).toInt32).toInt8.toInt32).toInt8.toInt32), (((((v0.toUInt64 >>> ((40 : Int32) &&& 0x3f).toInt64.toUInt64).toInt64).toInt32).toInt8.toInt32).toInt8.toInt32), (((((v0.toUInt64 >>> ((48 : Int32) &&& 0x3f).toInt64.toUInt64).toInt64).toInt32).toInt8.toInt32).toInt8.toInt32), (((((v0.toUInt64 >>> ((56 : Int32) &&& 0x3f).toInt64.toUInt64).toInt64).toInt32).toInt8.toInt32).toInt8.toInt32)] : List Int32).length = (8 : Int32).toNatClampNeg := own_setI V_b2_8 ln_b2_8 hin9 W9 (fits_nar_byte _) 7 (by decide)
  have N9 := Fr.snoc X9 N8 g_b2
  have Z9 : n0 ≤ h9.size := Nat.le_trans Z8 (Nat.le_of_eq W9.size.symm)
  refine Fin.by (B := T9.setTop (mkF m 85 #[.val (.long v0), .second, .val (.int v2), .val (.int v3), .val (.ref b2), .unset, .unset, .unset, .unset] [])) (fun t k => st9 t k) ?_
  exact b0_85 ⟨hx, hZ, hw, hby, hml, hret, hown, hnm, hlk⟩ h0 n0 v0 v2 v3 b2 k1 ([(((v0.toInt32).toInt8.toInt32).toInt8.toInt32), (((((v0.toUInt64 >>> ((8 : Int32) &&& 0x3f).toInt64.toUInt64).toInt64).toInt32).toInt8.toInt32).toInt8.toInt32), (((((v0.toUInt64 >>> ((16 : Int32) &&& 0x3f).toInt64.toUInt64).toInt64).toInt32).toInt8.toInt32).toInt8.toInt32), (((((v0.toUInt64 >>> ((24 : Int32) &&& 0x3f).toInt64.toUInt64).toInt64).toInt32).toInt8.toInt32).toInt8.toInt32), (((((v0.toUInt64 >>> ((32 : Int32) &&& 0x3f).toInt64.toUInt64).toInt64).toInt32).toInt8.toInt32).toInt8.toInt32), (((((v0.toUInt64 >>> ((40 : Int32) &&& 0x3f).toInt64.toUInt64).toInt64).toInt32).toInt8.toInt32).toInt8.toInt32), (((((v0.toUInt64 >>> ((48 : Int32) &&& 0x3f).toInt64.toUInt64).toInt64).toInt32).toInt8.toInt32).toInt8.toInt32), (((((v0.toUInt64 >>> ((56 : Int32) &&& 0x3f).toInt64.toUInt64).toInt64).toInt32).toInt8.toInt32).toInt8.toInt32)] : List Int32) X9 e9 N9 Z9 V_b2_9 ln_b2_9 g_b2 _ hr
theorem ef_0 (m : MethodId) (v0 : Int64) (v2 : Int32) (v3 : Int32) : entryFrame m #[(.long v0), (.int v2), (.int v3)] maxLocals = (mkF m 0 #[.val (.long v0), .second, .val (.int v2), .val (.int v3), .unset, .unset, .unset, .unset, .unset] []) := by first | (simp [entryFrame, mkF, argsToLocals, Value.category, maxLocals]; done) | rfl
set_option maxRecDepth 65536 in
set_option maxHeartbeats 40000000 in
theorem rm0 (l : Launch) (Z : State) (a0 : Array Value) (hw : ∀ d ∈ tables_1, d.before a0 Z = true) (ws : List Jvm.Cond) (v0 : Int64) (v2 : Int32) (v3 : Int32) (h0 : Heap) (n0 : Nat) (Z0 : n0 ≤ h0.size) :
    MetFree l x (head1 (Jvm.Cond.code x code maxLocals ret :: ws) room_1) (fun a U => a = #[(.long v0), (.int v2), (.int v3)] ∧ Z.Warmed39 U.vm ∧ U.heap = h0) (fun _ _ _ _ _ => True) (fun _ U o U' => ∃ v L, o = .returned v ∧ (Q0 n0 (f0_0 v0 v2 v3)) v U'.heap L ∧ FrameEnd U o U' L 1 8) := by
  refine MetFree.of_bodySF (plainFor_of_name pn_0) hisR ?_
  intro p e s m args below meth c s₁ Bd hml0 hP hK
  obtain ⟨rfl, hZ, hh⟩ := hP
  have B : Ctx p Z s a0 m meth c "com/example/tallywick/tallywick/xml/TreeBuilderHashOfPinLaw" "law" code 9 (some .boolean) := ⟨Bd.exec, hZ, hw, Bd.bytes, hml0, Bd.returns, findClass_of_methodNamed Bd.named, (name_of_methodNamed Bd.named Bd.method).1, Bd.notSynchronized⟩
  have X0 : Stand p l e room_1 s m #[(.long v0), (.int v2), (.int v3)] below meth c s₁ [] 0 0 := Stand.of_body Bd
  have e0 : s₁.heap = h0 := by rw [← hh, Bd.state]; rfl
  have K := Keep.refl h0 []
  show Fin p e below s 1 8 (Q0 n0 (f0_0 v0 v2 v3)) (s₁.setTop (entryFrame m #[(.long v0), (.int v2), (.int v3)] maxLocals))
  refine Fin.by (fun t k => castTop (ef_0 m v0 v2 v3) k) ?_
  exact b0_0 B h0 n0 v0 v2 v3 X0 e0 (Fr.nil n0) Z0  _ rfl

def own_fold (xs : List Int32) (s : Int32) : Nat → Int32 → Int32 → Int32
  | 0, _, h => h
  | m + 1, i, h => own_fold xs s m (i + 1) (((31 : Int32) * h) + own_at xs (s + i))
theorem own_hash (xs : List Int32) (s l : Int32) (hs : 0 ≤ s.toInt) (hl : s.toInt + l.toInt ≤ 8) : ∀ (m : Nat) (i h : Int32) (k : Nat), 0 ≤ i.toInt → l.toInt = i.toInt + m → m < k → f3_5 k s l h (s + i) xs = own_fold xs s m i h := by
  have z1 := own_z1
  intro m
  induction m with
  | zero =>
    intro i h k hi e hk
    obtain ⟨k, rfl⟩ : ∃ k', k = k' + 1 := ⟨k - 1, by omega⟩
    have hb : (s + i).toInt = s.toInt + i.toInt := own_addI (by omega) (by omega)
    have hc : (s + l).toInt = s.toInt + l.toInt := own_addI (by omega) (by omega)
    unfold f3_5
    rw [if_neg (by rw [own_ltI]; omega)]
    rfl
  | succ m ih =>
    intro i h k hi e hk
    obtain ⟨k, rfl⟩ : ∃ k', k = k' + 1 := ⟨k - 1, by omega⟩
    have hb : (s + i).toInt = s.toInt + i.toInt := own_addI (by omega) (by omega)
    have hc : (s + l).toInt = s.toInt + l.toInt := own_addI (by omega) (by omega)
    have hd : (i + 1).toInt = i.toInt + (1 : Int32).toInt := own_addI (by omega) (by omega)
    unfold f3_5
    rw [if_pos (by rw [own_ltI]; omega), Int32.add_assoc]
    exact ih (i + 1) _ k (by omega) (by omega) (by omega)
theorem own_lits (l : Int32) (h : 0 ≤ l.toInt ∧ l.toInt ≤ 8) : l = 0 ∨ l = 1 ∨ l = 2 ∨ l = 3 ∨ l = 4 ∨ l = 5 ∨ l = 6 ∨ l = 7 ∨ l = 8 := by
  have k : ∀ a : Int32, l.toInt = a.toInt → l = a := fun a e => Int32.toInt_inj.mp e
  have : l.toInt = 0 ∨ l.toInt = 1 ∨ l.toInt = 2 ∨ l.toInt = 3 ∨ l.toInt = 4 ∨ l.toInt = 5 ∨ l.toInt = 6 ∨ l.toInt = 7 ∨ l.toInt = 8 := by omega
  rcases this with q | q | q | q | q | q | q | q | q
  · exact Or.inl (k 0 q)
  · exact Or.inr (Or.inl (k 1 q))
  · exact Or.inr (Or.inr (Or.inl (k 2 q)))
  · exact Or.inr (Or.inr (Or.inr (Or.inl (k 3 q))))
  · exact Or.inr (Or.inr (Or.inr (Or.inr (Or.inl (k 4 q)))))
  · exact Or.inr (Or.inr (Or.inr (Or.inr (Or.inr (Or.inl (k 5 q))))))
  · exact Or.inr (Or.inr (Or.inr (Or.inr (Or.inr (Or.inr (Or.inl (k 6 q)))))))
  · exact Or.inr (Or.inr (Or.inr (Or.inr (Or.inr (Or.inr (Or.inr (Or.inl (k 7 q))))))))
  · exact Or.inr (Or.inr (Or.inr (Or.inr (Or.inr (Or.inr (Or.inr (Or.inr (k 8 q))))))))
theorem own_a0 : (0 : Int32) + 1 = 1 := by decide
theorem own_a1 : (1 : Int32) + 1 = 2 := by decide
theorem own_a2 : (2 : Int32) + 1 = 3 := by decide
theorem own_a3 : (3 : Int32) + 1 = 4 := by decide
theorem own_a4 : (4 : Int32) + 1 = 5 := by decide
theorem own_a5 : (5 : Int32) + 1 = 6 := by decide
theorem own_a6 : (6 : Int32) + 1 = 7 := by decide
theorem own_k0 : (0 : Int64).toInt32 = (0 : Int32) := by decide
theorem own_k1 : (1 : Int64).toInt32 = (1 : Int32) := by decide
theorem own_k2 : (31 : Int64).toInt32 = (31 : Int32) := by decide
theorem own_k3 : (961 : Int64).toInt32 = (961 : Int32) := by decide
theorem own_k4 : (29791 : Int64).toInt32 = (29791 : Int32) := by decide
theorem own_k5 : (923521 : Int64).toInt32 = (923521 : Int32) := by decide
theorem own_k6 : (28629151 : Int64).toInt32 = (28629151 : Int32) := by decide
theorem own_k7 : (887503681 : Int64).toInt32 = (887503681 : Int32) := by decide
theorem own_k8 : (27512614111 : Int64).toInt32 = (1742810335 : Int32) := by decide
theorem own_core (xs : List Int32) (s l : Int32) (hs : 0 ≤ s.toInt ∧ 0 ≤ l.toInt ∧ s.toInt + l.toInt ≤ 8) : f3_0 s l xs = ((((((((f1_0 s l (0 : Int32) xs) + (f1_0 s l (1 : Int32) xs)) + (f1_0 s l (2 : Int32) xs)) + (f1_0 s l (3 : Int32) xs)) + (f1_0 s l (4 : Int32) xs)) + (f1_0 s l (5 : Int32) xs)) + (f1_0 s l (6 : Int32) xs)) + (f1_0 s l (7 : Int32) xs)).toInt32 := by
  have e := own_hash xs s l hs.1 hs.2.2 l.toInt.toNat 0 0 9 (by decide) (by have := own_z0; omega) (by omega)
  rw [Int32.add_zero] at e
  unfold f3_0
  rw [e]
  simp only [Int64.toInt32_add]
  unfold f1_0 f2_0
  rcases own_lits l (by omega) with rfl | rfl | rfl | rfl | rfl | rfl | rfl | rfl | rfl
  all_goals
    simp +decide only [if_true, if_false, Int64.toInt32_mul, Int32.toInt32_toInt64]
  · rfl
  · show own_fold xs s 1 0 0 = _
    simp only [own_fold, own_a0, own_a1, own_a2, own_a3, own_a4, own_a5, own_a6, own_k0, own_k1, own_k2, own_k3, own_k4, own_k5, own_k6, own_k7, own_k8]
    generalize own_at xs (s + 0) = x0
    clear e hs
    grind
  · show own_fold xs s 2 0 0 = _
    simp only [own_fold, own_a0, own_a1, own_a2, own_a3, own_a4, own_a5, own_a6, own_k0, own_k1, own_k2, own_k3, own_k4, own_k5, own_k6, own_k7, own_k8]
    generalize own_at xs (s + 0) = x0
    generalize own_at xs (s + 1) = x1
    clear e hs
    grind
  · show own_fold xs s 3 0 0 = _
    simp only [own_fold, own_a0, own_a1, own_a2, own_a3, own_a4, own_a5, own_a6, own_k0, own_k1, own_k2, own_k3, own_k4, own_k5, own_k6, own_k7, own_k8]
    generalize own_at xs (s + 0) = x0
    generalize own_at xs (s + 1) = x1
    generalize own_at xs (s + 2) = x2
    clear e hs
    grind
  · show own_fold xs s 4 0 0 = _
    simp only [own_fold, own_a0, own_a1, own_a2, own_a3, own_a4, own_a5, own_a6, own_k0, own_k1, own_k2, own_k3, own_k4, own_k5, own_k6, own_k7, own_k8]
    generalize own_at xs (s + 0) = x0
    generalize own_at xs (s + 1) = x1
    generalize own_at xs (s + 2) = x2
    generalize own_at xs (s + 3) = x3
    clear e hs
    grind
  · show own_fold xs s 5 0 0 = _
    simp only [own_fold, own_a0, own_a1, own_a2, own_a3, own_a4, own_a5, own_a6, own_k0, own_k1, own_k2, own_k3, own_k4, own_k5, own_k6, own_k7, own_k8]
    generalize own_at xs (s + 0) = x0
    generalize own_at xs (s + 1) = x1
    generalize own_at xs (s + 2) = x2
    generalize own_at xs (s + 3) = x3
    generalize own_at xs (s + 4) = x4
    clear e hs
    grind
  · show own_fold xs s 6 0 0 = _
    simp only [own_fold, own_a0, own_a1, own_a2, own_a3, own_a4, own_a5, own_a6, own_k0, own_k1, own_k2, own_k3, own_k4, own_k5, own_k6, own_k7, own_k8]
    generalize own_at xs (s + 0) = x0
    generalize own_at xs (s + 1) = x1
    generalize own_at xs (s + 2) = x2
    generalize own_at xs (s + 3) = x3
    generalize own_at xs (s + 4) = x4
    generalize own_at xs (s + 5) = x5
    clear e hs
    grind
  · show own_fold xs s 7 0 0 = _
    simp only [own_fold, own_a0, own_a1, own_a2, own_a3, own_a4, own_a5, own_a6, own_k0, own_k1, own_k2, own_k3, own_k4, own_k5, own_k6, own_k7, own_k8]
    generalize own_at xs (s + 0) = x0
    generalize own_at xs (s + 1) = x1
    generalize own_at xs (s + 2) = x2
    generalize own_at xs (s + 3) = x3
    generalize own_at xs (s + 4) = x4
    generalize own_at xs (s + 5) = x5
    generalize own_at xs (s + 6) = x6
    clear e hs
    grind
  · show own_fold xs s 8 0 0 = _
    simp only [own_fold, own_a0, own_a1, own_a2, own_a3, own_a4, own_a5, own_a6, own_k0, own_k1, own_k2, own_k3, own_k4, own_k5, own_k6, own_k7, own_k8]
    generalize own_at xs (s + 0) = x0
    generalize own_at xs (s + 1) = x1
    generalize own_at xs (s + 2) = x2
    generalize own_at xs (s + 3) = x3
    generalize own_at xs (s + 4) = x4
    generalize own_at xs (s + 5) = x5
    generalize own_at xs (s + 6) = x6
    generalize own_at xs (s + 7) = x7
    clear e hs
    grind
theorem own_law (w : Int64) (s l : Int32) : f0_0 w s l = 1 := by
  unfold f0_0 f0_85 f0_106 f0_197
  rw [if_pos]
  exact own_core _ _ _ (own_ln _ _ (own_st _))

set_option maxRecDepth 65536 in
set_option maxHeartbeats 40000000 in
theorem comes_1 {Post : Tables → Env → Array Value → State → Outcome → State → Prop} (hpost : ∀ tb e args s v u, (limb_1_1.after args s (.returned v) u = true ∧ limb_1_2.after args s (.returned v) u = true ∧ True) → FrameEnd s (.returned v) u (Jvm.fieldLocs frame_1_writes args s ++ Jvm.arrayLocs frame_1_arrays args s ++ Jvm.staticLocs frame_1_statics s) 16 128 → Post tb e args s (.returned v) u) :
    ArmFor flags0 classFile x code maxLocals ret World_1 tables_1 room_1 Calls_1 rest_1 Pre_1 Post := by
  intro l hfl _ _ p e ha hc hk s m args below hf hA hF happ hP
  obtain ⟨hcalls, hrest, hpre⟩ := hP
  obtain ⟨-, -, -, hnamed, -, -, -, hat⟩ := (Spec.applies_iff hf).mp happ
  obtain ⟨hg, hn⟩ := and_e (Cond.before_iff.mp (show (Jvm.Cond.and given_1 narrow_1).before args s = true from hpre))
  obtain ⟨gg1, gg2⟩ := and_e hg
  obtain ⟨gg3, gg4⟩ := and_e gg2
  obtain ⟨gg5, gg6⟩ := and_e gg4
  obtain ⟨w0, w1, w2, rfl⟩ : ∃ w0 w1 w2 : Value, args = #[w0, w1, w2] := by
    have hs : args.size = 3 := by simpa [Cond.value, given_1] using gg1
    obtain ⟨L⟩ := args
    match L, hs with
    | [w0, w1, w2], _ => exact ⟨w0, w1, w2, rfl⟩
  have hw := fun d (hd : d ∈ tables_1) => atoms_spec (ws := Jvm.Cond.code x code maxLocals ret :: tables_1) hat d (List.mem_cons_of_mem _ hd)
  have hfit : Fit s := fun {y c} hc i hi => by
    obtain ⟨ha, rfl⟩ := Array.getElem?_eq_some_iff.mp hc
    have q := List.all_eq_true.mp ((Array.all_eq_true_iff_forall_mem.mp hF) _ (Array.getElem_mem ha)) i (List.mem_range.mpr hi)
    simpa [Array.getElem?_eq_getElem hi] using q
  obtain ⟨i0, ei0⟩ := isL_v gg3
  obtain rfl : w0 = (.long i0) := Option.some.inj ei0
  obtain ⟨i1, ei1⟩ := is_v gg5
  obtain rfl : w1 = (.int i1) := Option.some.inj ei1
  obtain ⟨i2, ei2⟩ := is_v gg6
  obtain rfl : w2 = (.int i2) := Option.some.inj ei2
  obtain ⟨n, o, h1, h2, h3, _, L, rfl, ⟨rfl, N⟩, hq⟩ := rm0 l s _ hw tables_1 i0 i1 i2 s.heap s.heap.size (Nat.le_refl _)  p e ha hc hk s m _ below hf ((Spec.applies_iff_loose hf).mp happ).1 ⟨rfl, State.Warmed39.refl s, rfl⟩ trivial
  refine ⟨n, _, h1, h2, h3, hpost _ _ _ _ _ _ ⟨Cond.after_iff.mpr rfl, Cond.after_iff.mpr (eq_i res_at (Term.int_eval (1)) (congrArg Value.int (own_law i0 i1 i2))), trivial⟩ ⟨hq.1, hq.2.1, (hq.2.2.sift fun y hy => Or.inr (N y hy)).mono (by decide) (by decide)⟩⟩
theorem main_1_1 : Claimed_1_1 := comes_1 fun _ _ _ _ _ _ h hF => ⟨h.1, hF⟩
theorem main_1_2 : Claimed_1_2 := comes_1 fun _ _ _ _ _ _ h hF => ⟨h.2.1, hF⟩
end Jvm.Pilot.@@N@@
namespace Jvm.Pilot.@@N@@
open Jvm Jvm.ClassFile Sem Op Lib Jvm.Free Jvm.Stand Jvm.Pilot.@@N@@.Jvm.D
/-! MADE BY PROGRAM (witnessworld.py) out of the Statement's table words and the real class files: 9 classes; the members and pool entries that the words name. The judged class is class 1, her method 1. -/
namespace start1
open Jvm.ClassFile
def u (s : String) : CpInfo := .utf8 (stringToUtf16 s)
/-- a pool by its gaps: so many unusable entries, then the entry; so many at the end -/
def gap : Nat → List CpInfo → List CpInfo
  | 0, r => r
  | n + 1, r => .unusable :: gap n r
def poolList (es : List (Nat × CpInfo)) (last : Nat) : List CpInfo := es.foldr (fun e r => gap e.1 (e.2 :: r)) (gap last [])
def pool (es : List (Nat × CpInfo)) (last : Nat) : Array CpInfo := ⟨poolList es last⟩
def fileOf (pool : Array CpInfo) (this : Nat) (attrs : Array Attribute := #[]) (ms : Array MethodInfo := #[]) (fl : Nat := 33) (sup : Nat := 0) (ifs : Array Nat := #[]) (fds : Array FieldInfo := #[]) : ClassFile where
  minorVersion := 0
  majorVersion := 65
  constantPool := pool
  accessFlags := fl
  thisClass := this
  superClass := sup
  interfaces := ifs
  fields := fds
  methods := ms
  attributes := attrs
def plain (name : String) (sup : Option ClassId) : Class where
  name := name
  kind := .ordinary
  loader := none
  accessFlags := 33
  super := sup
  interfaces := #[]
  cf := none
  fields := #[]
  methods := #[]
  instanceTypes := #[]
  staticTypes := #[]
  resolved := #[]
  callSites := []
  init := .initialized
  statics := none
  mirror := none

def pool0 : Array CpInfo := pool [(5, u "<init>"), (0, u "()V"), (1, .class_ 10), (1, u "java/lang/Object")] 113

def k0m0 : Method := { name := "<init>", desc := "()V", sig := { parameters := [], returnType := none }, accessFlags := 1, code := none }
/-- java/lang/Object -/
def k0 : Class := { plain "java/lang/Object" none with
  accessFlags := 33
  interfaces := #[]
  cf := some (fileOf pool0 8 #[] #[{ accessFlags := 1, nameIndex := 5, descriptorIndex := 6, attributes := #[] }] 33 0 #[] #[])
  fields := #[]
  methods := #[k0m0]
  instanceTypes := #[]
  staticTypes := #[]
  resolved := Array.replicate 124 none
  statics := none }

def pool1 : Array CpInfo := pool [(2, .class_ 4), (1, u "java/lang/Object"), (0, u "<init>"), (0, u "()V"), (0, .integer 2147483647), (0, .methodref 9 10), (0, .class_ 11), (0, .nameAndType 12 13), (0, u "com/example/tallywick/tallywick/xml/TreeBuilderHashOfPinLaw"), (0, u "term"), (0, u "([BIII)J"), (0, .methodref 15 16), (0, .class_ 17), (0, .nameAndType 18 19), (0, u "com/example/tallywick/tallywick/xml/TreeBuilder"), (0, u "hashOf"), (0, u "([BII)I"), (0, .methodref 9 21), (0, .nameAndType 22 23), (0, u "pow31"), (0, u "(I)J"), (0, .long 31), (1, .long 961), (1, .long 29791), (1, .long 923521), (1, .long 28629151), (1, .long 887503681), (1, .long 27512614111), (3, u "law"), (0, u "(JII)Z")] 5

def k1m0 : Method := { name := "<init>", desc := "()V", sig := { parameters := [], returnType := none }, accessFlags := 1, code := none }
def k1c1 : Code := { maxStack := 6, maxLocals := 9, code := code, exceptionTable := #[], attributes := #[] }
def k1m1 : Method := { name := "law", desc := "(JII)Z", sig := { parameters := [.long, .int, .int], returnType := some .boolean }, accessFlags := 9, code := some k1c1 }
def k1c2 : Code := { maxStack := 4, maxLocals := 4, code := method_3_code, exceptionTable := #[], attributes := #[] }
def k1m2 : Method := { name := "term", desc := "([BIII)J", sig := { parameters := [(.array .byte), .int, .int, .int], returnType := some .long }, accessFlags := 10, code := some k1c2 }
def k1c3 : Code := { maxStack := 2, maxLocals := 1, code := method_4_code, exceptionTable := #[], attributes := #[] }
def k1m3 : Method := { name := "pow31", desc := "(I)J", sig := { parameters := [.int], returnType := some .long }, accessFlags := 10, code := some k1c3 }
/-- com/example/tallywick/tallywick/xml/TreeBuilderHashOfPinLaw -/
def k1 : Class := { plain "com/example/tallywick/tallywick/xml/TreeBuilderHashOfPinLaw" (some 0) with
  accessFlags := 49
  interfaces := #[]
  cf := some (fileOf pool1 9 #[] #[{ accessFlags := 1, nameIndex := 5, descriptorIndex := 6, attributes := #[] }, { accessFlags := 9, nameIndex := 40, descriptorIndex := 41, attributes := #[] }, { accessFlags := 10, nameIndex := 12, descriptorIndex := 13, attributes := #[] }, { accessFlags := 10, nameIndex := 22, descriptorIndex := 23, attributes := #[] }] 49 2 #[] #[])
  fields := #[]
  methods := #[k1m0, k1m1, k1m2, k1m3]
  instanceTypes := #[]
  staticTypes := #[]
  resolved := Array.replicate 47 none
  statics := none }

def pool2 : Array CpInfo := pool [(2, .class_ 4), (1, u "java/lang/Object"), (0, u "<init>"), (0, u "()V"), (4, .class_ 13), (1, u "com/example/tallywick/tallywick/xml/TreeBuilder"), (0, u "document"), (0, u "Lcom/example/tallywick/tallywick/xml/XmlDocument;"), (4, u "openElements"), (0, u "[Lcom/example/tallywick/tallywick/xml/XmlElement;"), (4, u "content"), (0, u "[Lcom/example/tallywick/tallywick/xml/XmlNode;"), (2, u "contentStarts"), (0, u "[I"), (4, u "attributes"), (0, u "[Lcom/example/tallywick/tallywick/xml/XmlAttribute;"), (2, u "pendingText"), (0, u "[B"), (4, u "indentations"), (0, u "[Ljava/lang/String;"), (2, u "pendingIndentation"), (0, u "I"), (2, u "sharedValues"), (3, u "sharedBytes"), (0, u "[[B"), (2, u "nextOrder"), (2, u "depth"), (41, u "contentCount"), (15, u "pendingLength"), (2, u "longText"), (13, u "longLength"), (46, u "hashOf"), (0, u "([BII)I"), (11, u "SHARED_VALUES"), (2, u "SHORT_TEXT"), (0, u "INDENTATIONS")] 26

def k2m0 : Method := { name := "<init>", desc := "()V", sig := { parameters := [], returnType := none }, accessFlags := 0, code := none }
def k2c1 : Code := { maxStack := 3, maxLocals := 5, code := prog_86_method_13_code, exceptionTable := #[], attributes := #[] }
def k2m1 : Method := { name := "hashOf", desc := "([BII)I", sig := { parameters := [(.array .byte), .int, .int], returnType := some .int }, accessFlags := 8, code := some k2c1 }
/-- com/example/tallywick/tallywick/xml/TreeBuilder -/
def k2 : Class := { plain "com/example/tallywick/tallywick/xml/TreeBuilder" (some 0) with
  accessFlags := 48
  interfaces := #[]
  cf := some (fileOf pool2 11 #[] #[{ accessFlags := 0, nameIndex := 5, descriptorIndex := 6, attributes := #[] }, { accessFlags := 8, nameIndex := 187, descriptorIndex := 188, attributes := #[] }] 48 2 #[] #[{ accessFlags := 26, nameIndex := 200, descriptorIndex := 51, attributes := #[] }, { accessFlags := 18, nameIndex := 14, descriptorIndex := 15, attributes := #[] }, { accessFlags := 2, nameIndex := 20, descriptorIndex := 21, attributes := #[] }, { accessFlags := 2, nameIndex := 65, descriptorIndex := 51, attributes := #[] }, { accessFlags := 2, nameIndex := 26, descriptorIndex := 27, attributes := #[] }, { accessFlags := 2, nameIndex := 107, descriptorIndex := 51, attributes := #[] }, { accessFlags := 2, nameIndex := 30, descriptorIndex := 31, attributes := #[] }, { accessFlags := 2, nameIndex := 36, descriptorIndex := 37, attributes := #[] }, { accessFlags := 26, nameIndex := 203, descriptorIndex := 51, attributes := #[] }, { accessFlags := 2, nameIndex := 40, descriptorIndex := 41, attributes := #[] }, { accessFlags := 2, nameIndex := 123, descriptorIndex := 51, attributes := #[] }, { accessFlags := 2, nameIndex := 126, descriptorIndex := 41, attributes := #[] }, { accessFlags := 2, nameIndex := 140, descriptorIndex := 51, attributes := #[] }, { accessFlags := 26, nameIndex := 204, descriptorIndex := 51, attributes := #[] }, { accessFlags := 18, nameIndex := 46, descriptorIndex := 47, attributes := #[] }, { accessFlags := 2, nameIndex := 50, descriptorIndex := 51, attributes := #[] }, { accessFlags := 18, nameIndex := 54, descriptorIndex := 47, attributes := #[] }, { accessFlags := 18, nameIndex := 58, descriptorIndex := 59, attributes := #[] }, { accessFlags := 2, nameIndex := 62, descriptorIndex := 51, attributes := #[] }])
  fields := #[{ name := "SHARED_VALUES", type := .int, accessFlags := 26, slot := 0, constantValue := 0 }, { name := "document", type := (.object "com/example/tallywick/tallywick/xml/XmlDocument"), accessFlags := 18, slot := 0, constantValue := 0 }, { name := "openElements", type := (.array (.object "com/example/tallywick/tallywick/xml/XmlElement")), accessFlags := 2, slot := 1, constantValue := 0 }, { name := "depth", type := .int, accessFlags := 2, slot := 2, constantValue := 0 }, { name := "content", type := (.array (.object "com/example/tallywick/tallywick/xml/XmlNode")), accessFlags := 2, slot := 3, constantValue := 0 }, { name := "contentCount", type := .int, accessFlags := 2, slot := 4, constantValue := 0 }, { name := "contentStarts", type := (.array .int), accessFlags := 2, slot := 5, constantValue := 0 }, { name := "attributes", type := (.array (.object "com/example/tallywick/tallywick/xml/XmlAttribute")), accessFlags := 2, slot := 6, constantValue := 0 }, { name := "SHORT_TEXT", type := .int, accessFlags := 26, slot := 1, constantValue := 0 }, { name := "pendingText", type := (.array .byte), accessFlags := 2, slot := 7, constantValue := 0 }, { name := "pendingLength", type := .int, accessFlags := 2, slot := 8, constantValue := 0 }, { name := "longText", type := (.array .byte), accessFlags := 2, slot := 9, constantValue := 0 }, { name := "longLength", type := .int, accessFlags := 2, slot := 10, constantValue := 0 }, { name := "INDENTATIONS", type := .int, accessFlags := 26, slot := 2, constantValue := 0 }, { name := "indentations", type := (.array (.object "java/lang/String")), accessFlags := 18, slot := 11, constantValue := 0 }, { name := "pendingIndentation", type := .int, accessFlags := 2, slot := 12, constantValue := 0 }, { name := "sharedValues", type := (.array (.object "java/lang/String")), accessFlags := 18, slot := 13, constantValue := 0 }, { name := "sharedBytes", type := (.array (.array .byte)), accessFlags := 18, slot := 14, constantValue := 0 }, { name := "nextOrder", type := .int, accessFlags := 2, slot := 15, constantValue := 0 }]
  methods := #[k2m0, k2m1]
  instanceTypes := #[(.object "com/example/tallywick/tallywick/xml/XmlDocument"), (.array (.object "com/example/tallywick/tallywick/xml/XmlElement")), .int, (.array (.object "com/example/tallywick/tallywick/xml/XmlNode")), .int, (.array .int), (.array (.object "com/example/tallywick/tallywick/xml/XmlAttribute")), (.array .byte), .int, (.array .byte), .int, (.array (.object "java/lang/String")), .int, (.array (.object "java/lang/String")), (.array (.array .byte)), .int]
  staticTypes := #[.int, .int, .int]
  resolved := Array.replicate 231 none
  statics := none }

def pool3 : Array CpInfo := pool [(1, u "java/lang/Cloneable"), (0, .class_ 1), (0, u "java/lang/Object"), (0, .class_ 3)] 3

/-- java/lang/Cloneable -/
def k3 : Class := { plain "java/lang/Cloneable" (some 0) with
  accessFlags := 1537
  interfaces := #[]
  cf := some (fileOf pool3 2 #[] #[] 1537 4 #[] #[])
  fields := #[]
  methods := #[]
  instanceTypes := #[]
  staticTypes := #[]
  resolved := Array.replicate 8 none
  statics := none }

def pool4 : Array CpInfo := pool [(1, u "java/io/Serializable"), (0, .class_ 1), (0, u "java/lang/Object"), (0, .class_ 3)] 3

/-- java/io/Serializable -/
def k4 : Class := { plain "java/io/Serializable" (some 0) with
  accessFlags := 1537
  interfaces := #[]
  cf := some (fileOf pool4 2 #[] #[] 1537 4 #[] #[])
  fields := #[]
  methods := #[]
  instanceTypes := #[]
  staticTypes := #[]
  resolved := Array.replicate 8 none
  statics := none }

/-- the primitive byte -/
def k5 : Class := { plain "byte" none with kind := .primitive 'B', accessFlags := 0x411 }
/-- [B -/
def k6 : Class := { plain "[B" (some 0) with kind := .array 5 .byte, interfaces := #[3, 4], accessFlags := 1041 }

/-- the primitive int -/
def k7 : Class := { plain "int" none with kind := .primitive 'I', accessFlags := 0x411 }
/-- [I -/
def k8 : Class := { plain "[I" (some 0) with kind := .array 7 .int, interfaces := #[3, 4], accessFlags := 1041 }

def heap : Heap := #[]
def classes : Array Class := #[k0, k1, k2, k3, k4, k5, k6, k7, k8]
def interned : List (Array UInt16 × Addr) := []
def slotsUsed : Nat := 0
def theMethod : MethodId := ⟨1, 1⟩
def args0 : Array Value := #[.long 1234567890123, .int 2, .int 3]
def aboutOver (below : List Frame) : State where
  vm := { classes := classes, interned := interned.toArray }
  heap := heap
  slotsUsed := slotsUsed
  threads := #[{ frames := .invoking theMethod args0 :: below }]
def below0 : List Frame := [.native { method := ⟨0, 0⟩, args := #[] }]
def about1 : State := aboutOver below0
def p0 : Program := .bare "" "" ""
def e0 : Env := launch0.env 0 0 0
theorem w_frames : about1.frames = Frame.invoking theMethod args0 :: below0 := rfl
set_option maxRecDepth 65536 in
theorem w_args : argsFit about1.vm theMethod args0 = true := by decide +kernel
set_option maxRecDepth 65536 in
theorem w_heap : heapFits about1 = true := by decide +kernel
set_option maxRecDepth 65536 in
theorem w_runnable : about1.curStatus? = some .runnable := by decide +kernel
set_option maxRecDepth 65536 in
theorem w_alone : about1.alone = true := by decide +kernel
set_option maxRecDepth 65536 in
theorem w_named : about1.methodNamed? x = some theMethod := by decide +kernel
set_option maxRecDepth 65536 in
theorem w_hears : about1.hears theMethod below0 = true := by decide +kernel
set_option maxRecDepth 65536 in
theorem w_ripe : about1.ripe theMethod args0 below0 = true := by decide +kernel
theorem w_running : about1.status = .running := rfl
set_option maxRecDepth 65536 in
theorem w_room : about1.hasRoom e0.platform room_1 = true :=
  launch0.hasRoom_least _ room_1 (by decide +kernel) (by decide +kernel) (by decide +kernel) (by decide +kernel) (by decide +kernel) (by decide +kernel)
theorem allAtoms_all (ts : List Jvm.Cond) (a : Array Jvm.Value) (st : Jvm.State) : (allAtoms ts).before a st = ts.all (fun c => c.before a st) := by
  induction ts with
  | nil => rfl
  | cons c t ih =>
    show (Jvm.Cond.and c (allAtoms t)).before a st = _
    rw [Jvm.Cond.before_and, ih, List.all_cons]
def words1 : List Jvm.Cond := Jvm.Cond.code x code maxLocals ret :: tables_1
/-- a 'code' word, met by the world's own term for the bytes: nothing is compared byte by byte -/
theorem code_word {y : MethodName} {bytes : ByteArray} {mx : Nat} {rt : Option FieldType} {a : Array Value} {s : State} {m : MethodId} {meth : Method} {c : Code} (h1 : s.methodNamed? y = some m) (h2 : s.vm.method? m = some meth) (h3 : meth.code = some c) (h4 : c.code = bytes)
    (h5 : (c.maxLocals == mx && c.exceptionTable.isEmpty && decide (c.maxStack ≤ mostOperands) && decide (meth.sig.returnType = rt) && !meth.locks && decide (parseMethodDescriptor y.desc = some meth.sig)) = true) : (Jvm.Cond.code y bytes mx rt).before a s = true := by
  simp only [Bool.and_eq_true, beq_iff_eq, Bool.not_eq_true', decide_eq_true_eq] at h5
  obtain ⟨⟨⟨⟨⟨g1, g2⟩, g3⟩, g4⟩, g5⟩, g6⟩ := h5
  simp [Cond.before, Cond.holds, Cond.value, h1, h2, h3, h4, g1, g2, g3, g4, g5, g6]
def isCode : Jvm.Cond → Bool
  | .code _ _ _ _ => true
  | _ => false
theorem all_split {L : List Jvm.Cond} {P : Jvm.Cond → Bool} (h1 : L.all (fun c => isCode c || P c) = true) (h2 : ∀ c ∈ L.filter isCode, P c = true) : L.all P = true := by
  refine List.all_eq_true.mpr fun c hc => ?_
  have h := List.all_eq_true.mp h1 c hc
  rcases Bool.eq_false_or_eq_true (isCode c) with hi | hi
  · exact h2 c (List.mem_filter.mpr ⟨hc, hi⟩)
  · simpa [hi] using h
set_option maxRecDepth 65536 in
theorem w_c0 : (Jvm.Cond.code x code maxLocals ret).before args0 about1 = true := code_word (m := ⟨1, 1⟩) (meth := k1m1) (c := k1c1) (by decide +kernel) rfl rfl rfl (by decide +kernel)
set_option maxRecDepth 65536 in
theorem w_c1 : (Jvm.Cond.code ({ cls := "com/example/tallywick/tallywick/xml/TreeBuilderHashOfPinLaw", name := "term", desc := "([BIII)J" } : Jvm.MethodName) method_3_code (4 : Nat) (Option.some Jvm.ClassFile.FieldType.long)).before args0 about1 = true := code_word (m := ⟨1, 2⟩) (meth := k1m2) (c := k1c2) (by decide +kernel) rfl rfl rfl (by decide +kernel)
set_option maxRecDepth 65536 in
theorem w_c2 : (Jvm.Cond.code ({ cls := "com/example/tallywick/tallywick/xml/TreeBuilderHashOfPinLaw", name := "pow31", desc := "(I)J" } : Jvm.MethodName) method_4_code (1 : Nat) (Option.some Jvm.ClassFile.FieldType.long)).before args0 about1 = true := code_word (m := ⟨1, 3⟩) (meth := k1m3) (c := k1c3) (by decide +kernel) rfl rfl rfl (by decide +kernel)
set_option maxRecDepth 65536 in
theorem w_c3 : (Jvm.Cond.code ({ cls := "com/example/tallywick/tallywick/xml/TreeBuilder", name := "hashOf", desc := "([BII)I" } : Jvm.MethodName) prog_86_method_13_code (5 : Nat) (Option.some Jvm.ClassFile.FieldType.int)).before args0 about1 = true := code_word (m := ⟨2, 1⟩) (meth := k2m1) (c := k2c1) (by decide +kernel) rfl rfl rfl (by decide +kernel)
def codes1 : List Jvm.Cond := [Jvm.Cond.code x code maxLocals ret, Jvm.Cond.code ({ cls := "com/example/tallywick/tallywick/xml/TreeBuilderHashOfPinLaw", name := "term", desc := "([BIII)J" } : Jvm.MethodName) method_3_code (4 : Nat) (Option.some Jvm.ClassFile.FieldType.long), Jvm.Cond.code ({ cls := "com/example/tallywick/tallywick/xml/TreeBuilderHashOfPinLaw", name := "pow31", desc := "(I)J" } : Jvm.MethodName) method_4_code (1 : Nat) (Option.some Jvm.ClassFile.FieldType.long), Jvm.Cond.code ({ cls := "com/example/tallywick/tallywick/xml/TreeBuilder", name := "hashOf", desc := "([BII)I" } : Jvm.MethodName) prog_86_method_13_code (5 : Nat) (Option.some Jvm.ClassFile.FieldType.int)]
set_option maxRecDepth 65536 in
theorem codes_eq : words1.filter isCode = codes1 := rfl
theorem w_codes : ∀ c ∈ words1.filter isCode, c.before args0 about1 = true := by
  rw [codes_eq]
  intro c hc
  simp only [codes1, List.mem_cons, List.not_mem_nil, or_false] at hc
  rcases hc with rfl | rfl | rfl | rfl
  · exact w_c0
  · exact w_c1
  · exact w_c2
  · exact w_c3
set_option maxRecDepth 65536 in
theorem w_t1 : words1.all (fun c => isCode c || c.before args0 about1) = true := by decide +kernel
theorem w_tables : (allAtoms (Jvm.Cond.code x code maxLocals ret :: tables_1)).before args0 about1 = true := by
  rw [allAtoms_all]
  show words1.all (fun c => c.before args0 about1) = true
  refine all_split ?_ w_codes
  rw [w_t1]
set_option maxRecDepth 65536 in
theorem w_case : (Jvm.Cond.and given_1 narrow_1).before args0 about1 = true := by decide +kernel
theorem w_applies : (headSpec (Jvm.Cond.code x code maxLocals ret :: tables_1) room_1).applies x e0.platform about1 = true :=
  (Spec.applies_iff w_frames).mpr ⟨w_running, w_runnable, w_alone, w_named, w_hears, w_ripe, w_room, w_tables⟩
theorem atStart : AtStart classFile x code maxLocals ret World_1 tables_1 room_1 Calls_1 rest_1 Pre_1 launch0 p0 e0 about1 theMethod args0 below0 :=
  ⟨lists_1, trivial, launch0.admits_env _ _ _, launch0.least_env, fairChoices_fair.cas, fairChoices_fair.clock, w_frames, w_args, w_heap, w_applies, trivial, trivial, w_case⟩
end start1
theorem witness_1 : WitnessClaimed_1 := ⟨start1.p0, start1.e0, start1.about1, start1.theMethod, start1.args0, start1.below0, start1.atStart⟩
end Jvm.Pilot.@@N@@
