import JvmDerived
import JvmDerived.Pilot.@@N@@Statement
import JvmDerived.Pilot.@@N@@Code
set_option linter.unusedVariables false
set_option linter.unusedSimpArgs false
namespace Jvm.RoadKit
open Sem ClassFile Op Lib Jvm.Stand Jvm.Free Jvm.LawKit
section New
variable {p : Program} {l : Launch} {e : Env} {R : Room} {s : State} {m : MethodId} {args : Array Value} {below : List Frame} {meth : Method} {c : Code} {T : State} {locs : List Loc} {cells slots : Nat}
theorem retI (X : Stand p l e R s m args below meth c T locs cells slots) (hx : p.tables.exec = Jvm.exec) {pc : Nat} {Ls : Array Slot} {z : Int32} {rest : List Value} (hret : meth.sig.returnType = some .int) (hd : decode c.code pc = .ok (.ireturn, 1)) {fs : List Frame}
    (hl : ∀ (f : JFrame) (acts : List Action), f.method = m → f.locked = none → f.entered = [] → (doReturn e (T.setTop f) acts (some (.int z))).1 = T.setFrames fs) : Steps p.tables e below (T.setTop (mkF m pc Ls (.int z :: rest))) (T.setFrames fs) := by
  have hm' : T.vm.method? m = some meth := X.method'
  have hn : narrow .int (.int z) = .int z := rfl
  show Steps p.tables e below (T.setTop { method := m, pc := pc, locals := Ls, stack := _ :: rest, locked := none }) _
  jvm_step X.here [X.here.top, hx, hd, hm', hret, hn]
  first | (intro acts; rw [hl _ acts rfl rfl rfl]) | rw [hl _ _ rfl rfl rfl]
  exact Steps.refl _
end New
end Jvm.RoadKit
namespace Jvm.Pilot.@@N@@
open Jvm Jvm.ClassFile Sem Op Lib Jvm.Free Jvm.Stand Jvm.LawKit Jvm.RoadKit Bundle Jvm.Pilot.@@N@@.Jvm.D
/-! what every block of a body's walk is given -/
def Ctx (p : Program) (Z s : State) (a0 : Array Value) (m : MethodId) (meth : Method) (c : Code) (own nm : String) (bytes : ByteArray) (maxl : Nat) (rt : Option FieldType) : Prop :=
  p.tables.exec = Jvm.exec ∧ Z.Warmed39 s.vm ∧ (∀ d ∈ tables_1, d.before a0 Z = true) ∧ c.code = bytes ∧ c.maxLocals = maxl ∧ meth.sig.returnType = rt ∧ s.vm.findClass own = some m.cls ∧ meth.name = nm ∧ meth.locks = false
/-- from the state A the body's run ends, returns, and leaves what Q says -/
def Fin (p : Program) (e : Env) (below : List Frame) (s : State) (cells slots : Nat) (Q : Option Value → Heap → List Loc → Prop) (A : State) : Prop :=
  ∃ s₂ o, Steps p.tables e below A s₂ ∧ s₂.status = .running ∧ Ended s₂ below o ∧ ∃ v L, o = .returned v ∧ Q v s₂.heap L ∧ FrameEnd s o s₂ L cells slots
section Ends
variable {p : Program} {l : Launch} {e : Env} {R : Room} {s : State} {m : MethodId} {args : Array Value} {below : List Frame} {meth : Method} {c : Code} {T : State} {locs : List Loc} {cells slots : Nat} {C S : Nat} {Q : Option Value → Heap → List Loc → Prop}
theorem Fin.by {A B : State} (h : ∀ t, Steps p.tables e below B t → Steps p.tables e below A t) (k : Fin p e below s C S Q B) : Fin p e below s C S Q A := by
  obtain ⟨s₂, o, h1, r⟩ := k
  exact ⟨s₂, o, h _ h1, r⟩
theorem own_retI (X : Stand p l e R s m args below meth c T locs cells slots) (hx : p.tables.exec = Jvm.exec) (hlk : meth.locks = false) {pc : Nat} {Ls : Array Slot} {z : Int32} {rest : List Value} (hret : meth.sig.returnType = some .int) (hd : decode c.code pc = .ok (.ireturn, 1)) (hc : cells ≤ C) (hs : slots ≤ S)
    (hq : Q (some (.int z)) T.heap locs) : Fin p e below s C S Q (T.setTop (mkF m pc Ls (.int z :: rest))) := by
  obtain ⟨fs, hr, hrun, hended, hW, hsame⟩ := X.leave (v := some (.int z)) (fun h => by rw [hret] at h; cases h) hlk
  exact ⟨_, _, retI X hx hret hd hr, hrun, hended, _, _, rfl, hq, ⟨_, rfl⟩, hW, hsame.mono hc hs⟩
theorem own_retN (X : Stand p l e R s m args below meth c T locs cells slots) (hx : p.tables.exec = Jvm.exec) (hlk : meth.locks = false) {pc : Nat} {Ls : Array Slot} {z : Int32} {rest : List Value} {t : FieldType} (hret : meth.sig.returnType = some t) (ht : t = .boolean ∨ t = .byte ∨ t = .char ∨ t = .short) (hd : decode c.code pc = .ok (.ireturn, 1)) (hc : cells ≤ C) (hs : slots ≤ S)
    (hq : Q (some (.int (nar t z))) T.heap locs) : Fin p e below s C S Q (T.setTop (mkF m pc Ls (.int z :: rest))) := by
  obtain ⟨fs, hr, hrun, hended, hW, hsame⟩ := X.leave (v := some (.int (nar t z))) (fun h => by rw [hret] at h; cases h) hlk
  exact ⟨_, _, retN X hx hret ht hd hr, hrun, hended, _, _, rfl, hq, ⟨_, rfl⟩, hW, hsame.mono hc hs⟩
theorem own_retJ (X : Stand p l e R s m args below meth c T locs cells slots) (hx : p.tables.exec = Jvm.exec) (hlk : meth.locks = false) {pc : Nat} {Ls : Array Slot} {z : Int64} (hret : meth.sig.returnType = some .long) (hd : decode c.code pc = .ok (.lreturn, 1)) (hc : cells ≤ C) (hs : slots ≤ S)
    (hq : Q (some (.long z)) T.heap locs) : Fin p e below s C S Q (T.setTop (mkF m pc Ls [.long z])) := by
  obtain ⟨fs, hr, hrun, hended, hW, hsame⟩ := X.leave (v := some (.long z)) (fun h => by rw [hret] at h; cases h) hlk
  exact ⟨_, _, X.lreturnOut hx hret hd hr, hrun, hended, _, _, rfl, hq, ⟨_, rfl⟩, hW, hsame.mono hc hs⟩
theorem own_retR (X : Stand p l e R s m args below meth c T locs cells slots) (hx : p.tables.exec = Jvm.exec) (hlk : meth.locks = false) {pc : Nat} {Ls : Array Slot} {z : Addr} {t : FieldType} (hret : meth.sig.returnType = some t) (ht : t.isReference = true) (hd : decode c.code pc = .ok (.areturn, 1)) (hc : cells ≤ C) (hs : slots ≤ S)
    (hq : Q (some (.ref z)) T.heap locs) : Fin p e below s C S Q (T.setTop (mkF m pc Ls [.ref z])) := by
  obtain ⟨fs, hr, hrun, hended, hW, hsame⟩ := X.leave (v := some (.ref z)) (fun h => by rw [hret] at h; cases h) hlk
  exact ⟨_, _, X.areturnOut hx rfl hret ht hd hr, hrun, hended, _, _, rfl, hq, ⟨_, rfl⟩, hW, hsame.mono hc hs⟩
theorem own_ret0 (X : Stand p l e R s m args below meth c T locs cells slots) (hx : p.tables.exec = Jvm.exec) (hlk : meth.locks = false) {pc : Nat} {Ls : Array Slot} (hret : meth.sig.returnType = none) (hd : decode c.code pc = .ok (.return_, 1)) (hc : cells ≤ C) (hs : slots ≤ S)
    (hq : Q none T.heap locs) : Fin p e below s C S Q (T.setTop (mkF m pc Ls [])) := by
  obtain ⟨fs, hr, hrun, hended, hW, hsame⟩ := X.leave (v := none) (fun _ => rfl) hlk
  exact ⟨_, _, X.returnOut hx hret hd hr, hrun, hended, _, _, rfl, hq, ⟨_, rfl⟩, hW, hsame.mono hc hs⟩
end Ends
section Arrays
variable {Z : State} {h h' : Heap} {a : Addr} {k : ClassId} {ty : FieldType} {n j : Int32} {vs : List Value} {d : Value}
/-- what an array of ints holds at the place j -/
def own_at (xs : List Int32) (j : Int32) : Int32 := xs.getD j.toNatClampNeg 0
def own_atJ (xs : List Int64) (j : Int32) : Int64 := xs.getD j.toNatClampNeg 0
theorem own_mapD (xs : List Int32) (i : Nat) : (xs.map Value.int).getD i (.int 0) = .int (xs.getD i 0) := by
  rw [List.getD_eq_getElem?_getD, List.getD_eq_getElem?_getD, List.getElem?_map]; cases xs[i]? <;> rfl
theorem own_mapDJ (xs : List Int64) (i : Nat) : (xs.map Value.long).getD i (.long 0) = .long (xs.getD i 0) := by
  rw [List.getD_eq_getElem?_getD, List.getD_eq_getElem?_getD, List.getElem?_map]; cases xs[i]? <;> rfl
theorem own_open (V : Arv Z h a k ty n vs d) (hj : ¬ (j < 0) ∧ j < n) : ∃ cl, Arr Z h a cl ty ∧ ¬ (j < 0 ∨ cl.slots.size ≤ j.toNatClampNeg) ∧ True := by
  obtain ⟨cl, Ar, -, S, -, -, -⟩ := V
  exact ⟨cl, Ar, inb_of S hj, trivial⟩
theorem own_readI {xs : List Int32} (V : Arv Z h a k ty n (xs.map Value.int) (.int 0)) (hj : ¬ (j < 0) ∧ j < n) (i : Nat) (hi : j.toNatClampNeg = i) : ∃ cl, Arr Z h a cl ty ∧ ¬ (j < 0 ∨ cl.slots.size ≤ j.toNatClampNeg) ∧ cl.slots[j.toNatClampNeg]? = some (.int (xs.getD i 0)) := by
  obtain ⟨cl, Ar, -, S, -, H, -⟩ := V
  have q := inb_of S hj
  refine ⟨cl, Ar, q, ?_⟩
  rw [H _ (Nat.lt_of_not_le fun y => q (Or.inr y)), own_mapD, hi]
theorem own_readJ {xs : List Int64} (V : Arv Z h a k ty n (xs.map Value.long) (.long 0)) (hj : ¬ (j < 0) ∧ j < n) (i : Nat) (hi : j.toNatClampNeg = i) : ∃ cl, Arr Z h a cl ty ∧ ¬ (j < 0 ∨ cl.slots.size ≤ j.toNatClampNeg) ∧ cl.slots[j.toNatClampNeg]? = some (.long (xs.getD i 0)) := by
  obtain ⟨cl, Ar, -, S, -, H, -⟩ := V
  have q := inb_of S hj
  refine ⟨cl, Ar, q, ?_⟩
  rw [H _ (Nat.lt_of_not_le fun y => q (Or.inr y)), own_mapDJ, hi]
theorem own_setI {xs : List Int32} {v : Int32} (V : Arv Z h a k ty n (xs.map Value.int) (.int 0)) (ln : xs.length = n.toNatClampNeg) (hj : ¬ (j < 0) ∧ j < n) (W : Wr h h' a j.toNatClampNeg (.int v)) (hf : fits ty (.int v) = true) (i : Nat) (hi : j.toNatClampNeg = i) :
    Arv Z h' a k ty n ((xs.set i v).map Value.int) (.int 0) ∧ (xs.set i v).length = n.toNatClampNeg := by
  subst hi
  obtain ⟨cl, Ar, q1, S, q3, H, G⟩ := V
  have q := inb_of S hj
  have W2 := Arv.set Ar q1 S q3 H G hf W j.toNatClampNeg rfl (by rw [List.length_map, ln, ← S]; exact Nat.lt_of_not_le fun y => q (Or.inr y))
  rw [List.map_set]
  exact ⟨W2, by rw [List.length_set]; exact ln⟩
theorem own_setJ {xs : List Int64} {v : Int64} (V : Arv Z h a k ty n (xs.map Value.long) (.long 0)) (ln : xs.length = n.toNatClampNeg) (hj : ¬ (j < 0) ∧ j < n) (W : Wr h h' a j.toNatClampNeg (.long v)) (hf : fits ty (.long v) = true) (i : Nat) (hi : j.toNatClampNeg = i) :
    Arv Z h' a k ty n ((xs.set i v).map Value.long) (.long 0) ∧ (xs.set i v).length = n.toNatClampNeg := by
  subst hi
  obtain ⟨cl, Ar, q1, S, q3, H, G⟩ := V
  have q := inb_of S hj
  have W2 := Arv.set Ar q1 S q3 H G hf W j.toNatClampNeg rfl (by rw [List.length_map, ln, ← S]; exact Nat.lt_of_not_le fun y => q (Or.inr y))
  rw [List.map_set]
  exact ⟨W2, by rw [List.length_set]; exact ln⟩
theorem own_newI (A : Arr Z h a (newA k ty n) ty) (hd : defaultValue ty = .int 0) (q : ¬ n < 0) {xs : List Int32} (hxs : xs = List.replicate n.toNatClampNeg 0) : Arv Z h a k ty n (xs.map Value.int) (.int 0) ∧ xs.length = n.toNatClampNeg := by
  subst hxs
  have V := Arv.new A q
  rw [hd] at V
  have V2 := V.pad (pad_rep [] (.int 0) n.toNatClampNeg)
  rw [List.map_replicate]
  exact ⟨V2, by rw [List.length_replicate]⟩
theorem own_newJ (A : Arr Z h a (newA k ty n) ty) (hd : defaultValue ty = .long 0) (q : ¬ n < 0) {xs : List Int64} (hxs : xs = List.replicate n.toNatClampNeg 0) : Arv Z h a k ty n (xs.map Value.long) (.long 0) ∧ xs.length = n.toNatClampNeg := by
  subst hxs
  have V := Arv.new A q
  rw [hd] at V
  have V2 := V.pad (pad_rep [] (.long 0) n.toNatClampNeg)
  rw [List.map_replicate]
  exact ⟨V2, by rw [List.length_replicate]⟩
end Arrays

theorem own_ltI {x y : Int32} : x < y ↔ x.toInt < y.toInt := Int32.lt_iff_toInt_lt
theorem own_addI {x y : Int32} (h1 : -2147483648 ≤ x.toInt + y.toInt) (h2 : x.toInt + y.toInt < 2147483648) : (x + y).toInt = x.toInt + y.toInt := by
  have := c_iadd x y; have := rng32 (x + y); omega
theorem own_subI {x y : Int32} (h1 : -2147483648 ≤ x.toInt - y.toInt) (h2 : x.toInt - y.toInt < 2147483648) : (x - y).toInt = x.toInt - y.toInt := by
  have := c_isub x y; have := rng32 (x - y); omega
theorem own_z0 : (0 : Int32).toInt = 0 := rfl
theorem own_z1 : (1 : Int32).toInt = 1 := rfl
theorem own_z2 : (2 : Int32).toInt = 2 := rfl
theorem own_z3 : (3 : Int32).toInt = 3 := rfl
theorem own_z4 : (4 : Int32).toInt = 4 := rfl
theorem own_z5 : (5 : Int32).toInt = 5 := rfl
/-- the masked selector's remainder by 5 -/
theorem own_5 (y : Int32) : 0 ≤ ((y &&& (7 : Int32)) % (5 : Int32)).toInt ∧ ((y &&& (7 : Int32)) % (5 : Int32)).toInt ≤ 4 := by
  have h := c_mask y 7 3 (by decide) (by decide)
  have r := (c_irem (y &&& 7) 5 5 (by decide)).1 (by omega)
  omega
theorem own_5s (a : Int32) (h : 0 ≤ a.toInt ∧ a.toInt ≤ 4) : ((5 : Int32) - a).toInt = 5 - a.toInt := by
  have z := own_z5
  have e : ((5 : Int32) - a).toInt = (5 : Int32).toInt - a.toInt := own_subI (by omega) (by omega)
  omega
theorem own_nz5 (a : Int32) (h : 0 ≤ a.toInt ∧ a.toInt ≤ 4) : ¬ (((5 : Int32) - a) = (0 : Int32)) := fun q => by
  have e := own_5s a h; rw [q] at e; have z := own_z0; omega
theorem own_ln (y a : Int32) (h : 0 ≤ a.toInt ∧ a.toInt ≤ 4) : 0 ≤ a.toInt ∧ 0 ≤ ((y &&& (7 : Int32)) % ((5 : Int32) - a)).toInt ∧ ((y &&& (7 : Int32)) % ((5 : Int32) - a)).toInt + a.toInt ≤ 4 := by
  have e := own_5s a h
  have k := c_mask y 7 3 (by decide) (by decide)
  have r := (c_iremV (y &&& 7) (5 - a)).1 (by omega) (by omega)
  omega
/-- a place of the 4 bytes -/
theorem own_pl (l s i : Int32) (h : 0 ≤ l.toInt ∧ 0 ≤ s.toInt ∧ s.toInt + l.toInt ≤ 4) (hi : 0 ≤ i.toInt) (q : ¬ (l < i + 1)) (hi2 : i.toInt ≤ 3) : ¬ ((s + i) < (0 : Int32)) ∧ (s + i) < (4 : Int32) := by
  have z0 := own_z0; have z1 := own_z1; have z4 := own_z4
  have e : (s + i).toInt = s.toInt + i.toInt := own_addI (by omega) (by omega)
  have e1 : (i + 1).toInt = i.toInt + (1 : Int32).toInt := own_addI (by omega) (by omega)
  rw [own_ltI] at q
  rw [own_ltI, own_ltI]; omega
theorem own_p0 (l s : Int32) (h : 0 ≤ l.toInt ∧ 0 ≤ s.toInt ∧ s.toInt + l.toInt ≤ 4) (q : ¬ (l < (1 : Int32))) : ¬ (s < (0 : Int32)) ∧ s < (4 : Int32) := by
  have z0 := own_z0; have z1 := own_z1; have z4 := own_z4
  rw [own_ltI] at q
  rw [own_ltI, own_ltI]; omega
theorem own_pk (s i : Int32) (h : 0 ≤ s.toInt ∧ s.toInt ≤ 4 ∧ 0 ≤ i.toInt ∧ i.toInt ≤ 3) (q : s + i < (4 : Int32)) : ¬ ((s + i) < (0 : Int32)) ∧ (s + i) < (4 : Int32) := by
  have z0 := own_z0
  have e : (s + i).toInt = s.toInt + i.toInt := own_addI (by omega) (by omega)
  exact ⟨by rw [own_ltI]; omega, q⟩
/-- a place in sameBytes' loop -/
theorem own_lp (s l j : Int32) (h : 0 ≤ s.toInt ∧ 0 ≤ l.toInt ∧ s.toInt + l.toInt ≤ 4) (hj : 0 ≤ j.toInt ∧ j.toInt ≤ l.toInt) (q : j < l) : (¬ ((s + j) < (0 : Int32)) ∧ (s + j) < (4 : Int32)) ∧ (j + (1 : Int32)).toInt = j.toInt + 1 ∧ j.toInt + 1 ≤ l.toInt ∧ ¬ (j < (0 : Int32)) := by
  have z0 := own_z0; have z1 := own_z1; have z4 := own_z4
  rw [own_ltI] at q
  have e : (s + j).toInt = s.toInt + j.toInt := own_addI (by omega) (by omega)
  have e1 : (j + 1).toInt = j.toInt + (1 : Int32).toInt := own_addI (by omega) (by omega)
  refine ⟨⟨by rw [own_ltI]; omega, by rw [own_ltI]; omega⟩, by omega, by omega, by rw [own_ltI]; omega⟩
theorem own_k4 (a : Int32) (h : 0 ≤ a.toInt ∧ a.toInt ≤ 4) (h0 : ¬ (a = 0)) (h1 : ¬ (a = 1)) (h2 : ¬ (a = 2)) (h3 : ¬ (a = 3)) : (4 : Int32) = a := by
  have k : ∀ b : Int32, ¬ (a = b) → a.toInt ≠ b.toInt := fun b q e => q (Int32.toInt_inj.mp e)
  have := k 0 h0; have := k 1 h1; have := k 2 h2; have := k 3 h3
  have z0 := own_z0; have z1 := own_z1; have z2 := own_z2; have z3 := own_z3; have z4 := own_z4
  exact Int32.toInt_inj.mp (by omega)
theorem d1_0 : decode method_2_code 0 = .ok (.iload_n 1, 1) := by decide +kernel
theorem d1_1 : decode method_2_code 1 = .ok (.iload_n 2, 1) := by decide +kernel
theorem d1_2 : decode method_2_code 2 = .ok (.iadd, 1) := by decide +kernel
theorem d1_3 : decode method_2_code 3 = .ok (.istore 5, 2) := by decide +kernel
theorem d1_5 : decode method_2_code 5 = .ok (.iload 5, 2) := by decide +kernel
theorem d1_7 : decode method_2_code 7 = .ok (.iconst 4, 1) := by decide +kernel
theorem d1_8 : decode method_2_code 8 = .ok (.if_icmp .ge 10, 3) := by decide +kernel
theorem d1_11 : decode method_2_code 11 = .ok (.aload_n 0, 1) := by decide +kernel
theorem d1_12 : decode method_2_code 12 = .ok (.iload 5, 2) := by decide +kernel
theorem d1_14 : decode method_2_code 14 = .ok (.baload, 1) := by decide +kernel
theorem d1_15 : decode method_2_code 15 = .ok (.goto 4, 3) := by decide +kernel
theorem d1_18 : decode method_2_code 18 = .ok (.iconst 0, 1) := by decide +kernel
theorem d1_19 : decode method_2_code 19 = .ok (.istore 6, 2) := by decide +kernel
theorem d1_21 : decode method_2_code 21 = .ok (.iload_n 3, 1) := by decide +kernel
theorem d1_22 : decode method_2_code 22 = .ok (.iload_n 2, 1) := by decide +kernel
theorem d1_23 : decode method_2_code 23 = .ok (.ishr, 1) := by decide +kernel
theorem d1_24 : decode method_2_code 24 = .ok (.iconst 1, 1) := by decide +kernel
theorem d1_25 : decode method_2_code 25 = .ok (.iand, 1) := by decide +kernel
theorem d1_26 : decode method_2_code 26 = .ok (.ifCond .eq 14, 3) := by decide +kernel
theorem d1_29 : decode method_2_code 29 = .ok (.iload 4, 2) := by decide +kernel
theorem d1_31 : decode method_2_code 31 = .ok (.bipush 8, 2) := by decide +kernel
theorem d1_33 : decode method_2_code 33 = .ok (.iload_n 2, 1) := by decide +kernel
theorem d1_34 : decode method_2_code 34 = .ok (.imul, 1) := by decide +kernel
theorem d1_35 : decode method_2_code 35 = .ok (.ishr, 1) := by decide +kernel
theorem d1_36 : decode method_2_code 36 = .ok (.i2b, 1) := by decide +kernel
theorem d1_37 : decode method_2_code 37 = .ok (.goto 5, 3) := by decide +kernel
theorem d1_40 : decode method_2_code 40 = .ok (.iload 6, 2) := by decide +kernel
theorem d1_42 : decode method_2_code 42 = .ok (.ireturn, 1) := by decide +kernel
theorem pn_1 : plainName "com/example/tallywick/tallywick/xml/TreeBuilderSameBytesPinLaw" = true := by first | (simp [plainName, overriddenIn]; done) | decide +kernel
def R1 : Room := { frames := 0, cells := 0, slots := 0, locals := 0 }
def Q1 (Z : State)  (h0 : Heap) (n0 : Nat) (r : Int32) (v : Option Value) (h : Heap) (L : List Loc) : Prop := v = some (.int r) ∧ Fr n0 L ∧ h = h0
def f1_19 (v1 : Int32) (v2 : Int32) (v3 : Int32) (v4 : Int32) (v5 : Int32) (t0 : Int32) (o0_xs : List Int32) : Int32 := (if ((v3 >>> (v2 &&& 31)) &&& (1 : Int32)) = (0 : Int32) then (nar .byte t0) else (nar .byte ((v4 >>> (((8 : Int32) * v2) &&& 31)).toInt8.toInt32)))
set_option maxRecDepth 65536 in
set_option maxHeartbeats 40000000 in
theorem b1_19 {p : Program} {l : Launch} {e : Env} {s : State} {m : MethodId} {args : Array Value} {below : List Frame} {meth : Method} {c : Code} {Z : State} {a0 : Array Value} (B : Ctx p Z s a0 m meth c "com/example/tallywick/tallywick/xml/TreeBuilderSameBytesPinLaw" "pick" method_2_code 7 (some .byte)) {T0 : State} {locs : List Loc} {h : Heap} (h0 : Heap) (n0 : Nat) (o0 : Addr) (v1 : Int32) (v2 : Int32) (v3 : Int32) (v4 : Int32) (v5 : Int32) (t0 : Int32) (o0_k : ClassId) (o0_xs : List Int32) (X0 : Stand p l e R1 s m args below meth c T0 locs 0 0) (e0 : T0.heap = h) (N0 : Fr n0 locs) (Z0 : n0 ≤ h.size) (hh0 : h = h0) (V_o0 : Arv Z h o0 o0_k .byte (4 : Int32) (o0_xs.map Value.int) (.int 0)) (ln_o0 : o0_xs.length = (4 : Int32).toNatClampNeg) (r : Int32) (hr : f1_19 v1 v2 v3 v4 v5 t0 o0_xs = r) :
    Fin p e below s R1.cells R1.slots (Q1 Z  h0 n0 r) (T0.setTop (mkF m 19 #[.val (.ref o0), .val (.int v1), .val (.int v2), .val (.int v3), .val (.int v4), .val (.int v5), .unset] [(.int t0)])) := by
  obtain ⟨hx, hZ, hw, hby, hml, hret, hown, hnm, hlk⟩ := B
  unfold f1_19 at hr
  refine Fin.by (B := T0.setTop (mkF m 26 #[.val (.ref o0), .val (.int v1), .val (.int v2), .val (.int v3), .val (.int v4), .val (.int v5), .val (.int t0)] [(.int ((v3 >>> (v2 &&& 31)) &&& (1 : Int32)))])) (fun t k => ?_) ?_
  · show Steps p.tables e below (T0.setTop (mkF m 19 #[.val (.ref o0), .val (.int v1), .val (.int v2), .val (.int v3), .val (.int v4), .val (.int v5), .unset] [(.int t0)])) _
    refine XS.istore X0.here hx rfl (hb hby d1_19) rfl (l' := #[.val (.ref o0), .val (.int v1), .val (.int v2), .val (.int v3), .val (.int v4), .val (.int v5), .val (.int t0)]) rfl ?_
    show Steps p.tables e below (T0.setTop (mkF m 21 #[.val (.ref o0), .val (.int v1), .val (.int v2), .val (.int v3), .val (.int v4), .val (.int v5), .val (.int t0)] [])) _
    refine XS.iloadN X0.here hx rfl (hb hby d1_21) rfl  ?_
    show Steps p.tables e below (T0.setTop (mkF m 22 #[.val (.ref o0), .val (.int v1), .val (.int v2), .val (.int v3), .val (.int v4), .val (.int v5), .val (.int t0)] [(.int v3)])) _
    refine XS.iloadN X0.here hx rfl (hb hby d1_22) rfl  ?_
    show Steps p.tables e below (T0.setTop (mkF m 23 #[.val (.ref o0), .val (.int v1), .val (.int v2), .val (.int v3), .val (.int v4), .val (.int v5), .val (.int t0)] [(.int v2), (.int v3)])) _
    refine XS.ishr X0.here hx rfl (hb hby d1_23) rfl ?_
    show Steps p.tables e below (T0.setTop (mkF m 24 #[.val (.ref o0), .val (.int v1), .val (.int v2), .val (.int v3), .val (.int v4), .val (.int v5), .val (.int t0)] [(.int (v3 >>> (v2 &&& 31)))])) _
    refine XS.iconst X0.here hx rfl (hb hby d1_24) ?_
    show Steps p.tables e below (T0.setTop (mkF m 25 #[.val (.ref o0), .val (.int v1), .val (.int v2), .val (.int v3), .val (.int v4), .val (.int v5), .val (.int t0)] [(.int (1 : Int32)), (.int (v3 >>> (v2 &&& 31)))])) _
    refine XS.iand X0.here hx rfl (hb hby d1_25) rfl ?_
    exact k
  by_cases hc26 : ((v3 >>> (v2 &&& 31)) &&& (1 : Int32)) = (0 : Int32)
  · rw [if_pos hc26] at hr
    refine Fin.by (B := T0.setTop (mkF m 40 #[.val (.ref o0), .val (.int v1), .val (.int v2), .val (.int v3), .val (.int v4), .val (.int v5), .val (.int t0)] [])) (fun t k => ?_) ?_
    · show Steps p.tables e below (T0.setTop (mkF m 26 #[.val (.ref o0), .val (.int v1), .val (.int v2), .val (.int v3), .val (.int v4), .val (.int v5), .val (.int t0)] [(.int ((v3 >>> (v2 &&& 31)) &&& (1 : Int32)))])) _
      exact XS.ifYes X0.here hx rfl (pc0 := 26) (pc' := 40) rfl (hb hby d1_26) rfl ((if0 _ _).trans (teq hc26).1) (by decide) (by decide) k
    refine Fin.by (B := T0.setTop (mkF m 42 #[.val (.ref o0), .val (.int v1), .val (.int v2), .val (.int v3), .val (.int v4), .val (.int v5), .val (.int t0)] [(.int t0)])) (fun t k => ?_) ?_
    · show Steps p.tables e below (T0.setTop (mkF m 40 #[.val (.ref o0), .val (.int v1), .val (.int v2), .val (.int v3), .val (.int v4), .val (.int v5), .val (.int t0)] [])) _
      refine XS.iload X0.here hx rfl (hb hby d1_40) rfl  ?_
      exact k
    subst hr
    exact own_retN X0 hx hlk (t := .byte) hret (by simp) (hb hby d1_42) (by decide) (by decide) ⟨rfl, N0, (e0.trans hh0)⟩
  · rw [if_neg hc26] at hr
    refine Fin.by (B := T0.setTop (mkF m 29 #[.val (.ref o0), .val (.int v1), .val (.int v2), .val (.int v3), .val (.int v4), .val (.int v5), .val (.int t0)] [])) (fun t k => ?_) ?_
    · show Steps p.tables e below (T0.setTop (mkF m 26 #[.val (.ref o0), .val (.int v1), .val (.int v2), .val (.int v3), .val (.int v4), .val (.int v5), .val (.int t0)] [(.int ((v3 >>> (v2 &&& 31)) &&& (1 : Int32)))])) _
      exact XS.ifNo X0.here hx rfl (hb hby d1_26) rfl ((if0 _ _).trans (feq hc26).1) k
    refine Fin.by (B := T0.setTop (mkF m 42 #[.val (.ref o0), .val (.int v1), .val (.int v2), .val (.int v3), .val (.int v4), .val (.int v5), .val (.int t0)] [(.int ((v4 >>> (((8 : Int32) * v2) &&& 31)).toInt8.toInt32))])) (fun t k => ?_) ?_
    · show Steps p.tables e below (T0.setTop (mkF m 29 #[.val (.ref o0), .val (.int v1), .val (.int v2), .val (.int v3), .val (.int v4), .val (.int v5), .val (.int t0)] [])) _
      refine XS.iload X0.here hx rfl (hb hby d1_29) rfl  ?_
      show Steps p.tables e below (T0.setTop (mkF m 31 #[.val (.ref o0), .val (.int v1), .val (.int v2), .val (.int v3), .val (.int v4), .val (.int v5), .val (.int t0)] [(.int v4)])) _
      refine XS.bipush X0.here hx rfl (hb hby d1_31) ?_
      show Steps p.tables e below (T0.setTop (mkF m 33 #[.val (.ref o0), .val (.int v1), .val (.int v2), .val (.int v3), .val (.int v4), .val (.int v5), .val (.int t0)] [(.int (8 : Int32)), (.int v4)])) _
      refine XS.iloadN X0.here hx rfl (hb hby d1_33) rfl  ?_
      show Steps p.tables e below (T0.setTop (mkF m 34 #[.val (.ref o0), .val (.int v1), .val (.int v2), .val (.int v3), .val (.int v4), .val (.int v5), .val (.int t0)] [(.int v2), (.int (8 : Int32)), (.int v4)])) _
      refine XS.imul X0.here hx rfl (hb hby d1_34) rfl ?_
      show Steps p.tables e below (T0.setTop (mkF m 35 #[.val (.ref o0), .val (.int v1), .val (.int v2), .val (.int v3), .val (.int v4), .val (.int v5), .val (.int t0)] [(.int ((8 : Int32) * v2)), (.int v4)])) _
      refine XS.ishr X0.here hx rfl (hb hby d1_35) rfl ?_
      show Steps p.tables e below (T0.setTop (mkF m 36 #[.val (.ref o0), .val (.int v1), .val (.int v2), .val (.int v3), .val (.int v4), .val (.int v5), .val (.int t0)] [(.int (v4 >>> (((8 : Int32) * v2) &&& 31)))])) _
      refine XS.i2b X0.here hx rfl (hb hby d1_36) rfl ?_
      show Steps p.tables e below (T0.setTop (mkF m 37 #[.val (.ref o0), .val (.int v1), .val (.int v2), .val (.int v3), .val (.int v4), .val (.int v5), .val (.int t0)] [(.int ((v4 >>> (((8 : Int32) * v2) &&& 31)).toInt8.toInt32))])) _
      refine XS.goto X0.here hx rfl (pc0 := 37) (pc' := 42) rfl (hb hby d1_37) (by decide) (by decide) ?_
      exact k
    subst hr
    exact own_retN X0 hx hlk (t := .byte) hret (by simp) (hb hby d1_42) (by decide) (by decide) ⟨rfl, N0, (e0.trans hh0)⟩
def f1_0 (v1 : Int32) (v2 : Int32) (v3 : Int32) (v4 : Int32) (o0_xs : List Int32) : Int32 := (if (v1 + v2) < (4 : Int32) then (f1_19 v1 v2 v3 v4 (v1 + v2) (own_at o0_xs (v1 + v2)) o0_xs) else (f1_19 v1 v2 v3 v4 (v1 + v2) (0 : Int32) o0_xs))
set_option maxRecDepth 65536 in
set_option maxHeartbeats 40000000 in
theorem b1_0 {p : Program} {l : Launch} {e : Env} {s : State} {m : MethodId} {args : Array Value} {below : List Frame} {meth : Method} {c : Code} {Z : State} {a0 : Array Value} (B : Ctx p Z s a0 m meth c "com/example/tallywick/tallywick/xml/TreeBuilderSameBytesPinLaw" "pick" method_2_code 7 (some .byte)) {T0 : State} {locs : List Loc} {h : Heap} (h0 : Heap) (n0 : Nat) (o0 : Addr) (v1 : Int32) (v2 : Int32) (v3 : Int32) (v4 : Int32) (o0_k : ClassId) (o0_xs : List Int32) (X0 : Stand p l e R1 s m args below meth c T0 locs 0 0) (e0 : T0.heap = h) (N0 : Fr n0 locs) (Z0 : n0 ≤ h.size) (hh0 : h = h0) (V_o0 : Arv Z h o0 o0_k .byte (4 : Int32) (o0_xs.map Value.int) (.int 0)) (ln_o0 : o0_xs.length = (4 : Int32).toNatClampNeg) (hbd : 0 ≤ v1.toInt ∧ v1.toInt ≤ 4 ∧ 0 ≤ v2.toInt ∧ v2.toInt ≤ 3) (r : Int32) (hr : f1_0 v1 v2 v3 v4 o0_xs = r) :
    Fin p e below s R1.cells R1.slots (Q1 Z  h0 n0 r) (T0.setTop (mkF m 0 #[.val (.ref o0), .val (.int v1), .val (.int v2), .val (.int v3), .val (.int v4), .unset, .unset] [])) := by
  obtain ⟨hx, hZ, hw, hby, hml, hret, hown, hnm, hlk⟩ := B
  unfold f1_0 at hr
  refine Fin.by (B := T0.setTop (mkF m 8 #[.val (.ref o0), .val (.int v1), .val (.int v2), .val (.int v3), .val (.int v4), .val (.int (v1 + v2)), .unset] [(.int (4 : Int32)), (.int (v1 + v2))])) (fun t k => ?_) ?_
  · show Steps p.tables e below (T0.setTop (mkF m 0 #[.val (.ref o0), .val (.int v1), .val (.int v2), .val (.int v3), .val (.int v4), .unset, .unset] [])) _
    refine XS.iloadN X0.here hx rfl (hb hby d1_0) rfl  ?_
    show Steps p.tables e below (T0.setTop (mkF m 1 #[.val (.ref o0), .val (.int v1), .val (.int v2), .val (.int v3), .val (.int v4), .unset, .unset] [(.int v1)])) _
    refine XS.iloadN X0.here hx rfl (hb hby d1_1) rfl  ?_
    show Steps p.tables e below (T0.setTop (mkF m 2 #[.val (.ref o0), .val (.int v1), .val (.int v2), .val (.int v3), .val (.int v4), .unset, .unset] [(.int v2), (.int v1)])) _
    refine XS.iadd X0.here hx rfl (hb hby d1_2) rfl ?_
    show Steps p.tables e below (T0.setTop (mkF m 3 #[.val (.ref o0), .val (.int v1), .val (.int v2), .val (.int v3), .val (.int v4), .unset, .unset] [(.int (v1 + v2))])) _
    refine XS.istore X0.here hx rfl (hb hby d1_3) rfl (l' := #[.val (.ref o0), .val (.int v1), .val (.int v2), .val (.int v3), .val (.int v4), .val (.int (v1 + v2)), .unset]) rfl ?_
    show Steps p.tables e below (T0.setTop (mkF m 5 #[.val (.ref o0), .val (.int v1), .val (.int v2), .val (.int v3), .val (.int v4), .val (.int (v1 + v2)), .unset] [])) _
    refine XS.iload X0.here hx rfl (hb hby d1_5) rfl  ?_
    show Steps p.tables e below (T0.setTop (mkF m 7 #[.val (.ref o0), .val (.int v1), .val (.int v2), .val (.int v3), .val (.int v4), .val (.int (v1 + v2)), .unset] [(.int (v1 + v2))])) _
    refine XS.iconst X0.here hx rfl (hb hby d1_7) ?_
    exact k
  by_cases hc8 : (v1 + v2) < (4 : Int32)
  · rw [if_pos hc8] at hr
    refine Fin.by (B := T0.setTop (mkF m 11 #[.val (.ref o0), .val (.int v1), .val (.int v2), .val (.int v3), .val (.int v4), .val (.int (v1 + v2)), .unset] [])) (fun t k => ?_) ?_
    · show Steps p.tables e below (T0.setTop (mkF m 8 #[.val (.ref o0), .val (.int v1), .val (.int v2), .val (.int v3), .val (.int v4), .val (.int (v1 + v2)), .unset] [(.int (4 : Int32)), (.int (v1 + v2))])) _
      exact XS.icmpNo X0.here hx rfl (hb hby d1_8) rfl (tlt hc8).2.1 k
    refine Fin.by (B := T0.setTop (mkF m 14 #[.val (.ref o0), .val (.int v1), .val (.int v2), .val (.int v3), .val (.int v4), .val (.int (v1 + v2)), .unset] [(.int (v1 + v2)), (.ref o0)])) (fun t k => ?_) ?_
    · show Steps p.tables e below (T0.setTop (mkF m 11 #[.val (.ref o0), .val (.int v1), .val (.int v2), .val (.int v3), .val (.int v4), .val (.int (v1 + v2)), .unset] [])) _
      refine XS.aloadN X0.here hx rfl (hb hby d1_11) rfl rfl ?_
      show Steps p.tables e below (T0.setTop (mkF m 12 #[.val (.ref o0), .val (.int v1), .val (.int v2), .val (.int v3), .val (.int v4), .val (.int (v1 + v2)), .unset] [(.ref o0)])) _
      refine XS.iload X0.here hx rfl (hb hby d1_12) rfl  ?_
      exact k
    have hin1 : ¬ ((v1 + v2) < 0) ∧ (v1 + v2) < (4 : Int32) := own_pk v1 v2 hbd hc8
    obtain ⟨cl1, Ar1, hi1, q1⟩ := own_readI V_o0 hin1 _ rfl
    refine Fin.by (B := T0.setTop (mkF m 15 #[.val (.ref o0), .val (.int v1), .val (.int v2), .val (.int v3), .val (.int v4), .val (.int (v1 + v2)), .unset] [(.int (own_at o0_xs (v1 + v2)))])) (fun t k => ?_) ?_
    · show Steps p.tables e below (T0.setTop (mkF m 14 #[.val (.ref o0), .val (.int v1), .val (.int v2), .val (.int v3), .val (.int v4), .val (.int (v1 + v2)), .unset] [(.int (v1 + v2)), (.ref o0)])) _
      exact X0.baloadBytes hx (j := (v1 + v2)) (v := (.int (own_at o0_xs (v1 + v2)))) (by rw [e0]; exact Ar1.1) (State.isArrayOf_alike hZ.alike Ar1.2.1) Ar1.2.2 hi1 q1 (g := (mkF m 14 #[.val (.ref o0), .val (.int v1), .val (.int v2), .val (.int v3), .val (.int v4), .val (.int (v1 + v2)), .unset] [(.int (v1 + v2)), (.ref o0)])) rfl rfl (hb hby d1_14) _ k
    refine Fin.by (B := T0.setTop (mkF m 19 #[.val (.ref o0), .val (.int v1), .val (.int v2), .val (.int v3), .val (.int v4), .val (.int (v1 + v2)), .unset] [(.int (own_at o0_xs (v1 + v2)))])) (fun t k => ?_) ?_
    · show Steps p.tables e below (T0.setTop (mkF m 15 #[.val (.ref o0), .val (.int v1), .val (.int v2), .val (.int v3), .val (.int v4), .val (.int (v1 + v2)), .unset] [(.int (own_at o0_xs (v1 + v2)))])) _
      refine XS.goto X0.here hx rfl (pc0 := 15) (pc' := 19) rfl (hb hby d1_15) (by decide) (by decide) ?_
      exact k
    exact b1_19 ⟨hx, hZ, hw, hby, hml, hret, hown, hnm, hlk⟩ h0 n0 o0 v1 v2 v3 v4 (v1 + v2) (own_at o0_xs (v1 + v2)) o0_k o0_xs X0 e0 N0 Z0 hh0 V_o0 ln_o0 _ hr
  · rw [if_neg hc8] at hr
    refine Fin.by (B := T0.setTop (mkF m 18 #[.val (.ref o0), .val (.int v1), .val (.int v2), .val (.int v3), .val (.int v4), .val (.int (v1 + v2)), .unset] [])) (fun t k => ?_) ?_
    · show Steps p.tables e below (T0.setTop (mkF m 8 #[.val (.ref o0), .val (.int v1), .val (.int v2), .val (.int v3), .val (.int v4), .val (.int (v1 + v2)), .unset] [(.int (4 : Int32)), (.int (v1 + v2))])) _
      exact XS.icmpYes X0.here hx rfl (pc0 := 8) (pc' := 18) rfl (hb hby d1_8) rfl (flt hc8).2.1 (by decide) (by decide) k
    refine Fin.by (B := T0.setTop (mkF m 19 #[.val (.ref o0), .val (.int v1), .val (.int v2), .val (.int v3), .val (.int v4), .val (.int (v1 + v2)), .unset] [(.int (0 : Int32))])) (fun t k => ?_) ?_
    · show Steps p.tables e below (T0.setTop (mkF m 18 #[.val (.ref o0), .val (.int v1), .val (.int v2), .val (.int v3), .val (.int v4), .val (.int (v1 + v2)), .unset] [])) _
      refine XS.iconst X0.here hx rfl (hb hby d1_18) ?_
      exact k
    exact b1_19 ⟨hx, hZ, hw, hby, hml, hret, hown, hnm, hlk⟩ h0 n0 o0 v1 v2 v3 v4 (v1 + v2) (0 : Int32) o0_k o0_xs X0 e0 N0 Z0 hh0 V_o0 ln_o0 _ hr
theorem ef_1 (m : MethodId) (o0 : Addr) (v1 : Int32) (v2 : Int32) (v3 : Int32) (v4 : Int32) : entryFrame m #[(.ref o0), (.int v1), (.int v2), (.int v3), (.int v4)] 7 = (mkF m 0 #[.val (.ref o0), .val (.int v1), .val (.int v2), .val (.int v3), .val (.int v4), .unset, .unset] []) := by first | (simp [entryFrame, mkF, argsToLocals, Value.category]; done) | rfl
set_option maxRecDepth 65536 in
set_option maxHeartbeats 40000000 in
theorem rm1 (l : Launch) (Z : State) (a0 : Array Value) (hw : ∀ d ∈ tables_1, d.before a0 Z = true) (ws : List Jvm.Cond) (o0 : Addr) (v1 : Int32) (v2 : Int32) (v3 : Int32) (v4 : Int32) (o0_k : ClassId) (o0_xs : List Int32) (h0 : Heap) (n0 : Nat) (Z0 : n0 ≤ h0.size) (V_o0 : Arv Z h0 o0 o0_k .byte (4 : Int32) (o0_xs.map Value.int) (.int 0)) (ln_o0 : o0_xs.length = (4 : Int32).toNatClampNeg) (hbd : 0 ≤ v1.toInt ∧ v1.toInt ≤ 4 ∧ 0 ≤ v2.toInt ∧ v2.toInt ≤ 3) :
    MetFree l (⟨"com/example/tallywick/tallywick/xml/TreeBuilderSameBytesPinLaw", "pick", "([BIIII)B"⟩ : MethodName) (head1 (Jvm.Cond.code (⟨"com/example/tallywick/tallywick/xml/TreeBuilderSameBytesPinLaw", "pick", "([BIIII)B"⟩ : MethodName) method_2_code 7 (some .byte) :: ws) R1) (fun a U => a = #[(.ref o0), (.int v1), (.int v2), (.int v3), (.int v4)] ∧ Z.Warmed39 U.vm ∧ U.heap = h0) (fun _ _ _ _ _ => True) (fun _ U o U' => ∃ v L, o = .returned v ∧ (Q1 Z  h0 n0 (f1_0 v1 v2 v3 v4 o0_xs)) v U'.heap L ∧ FrameEnd U o U' L R1.cells R1.slots) := by
  refine MetFree.of_bodySF (plainFor_of_name pn_1) hisR ?_
  intro p e s m args below meth c s₁ Bd hml0 hP hK
  obtain ⟨rfl, hZ, hh⟩ := hP
  have B : Ctx p Z s a0 m meth c "com/example/tallywick/tallywick/xml/TreeBuilderSameBytesPinLaw" "pick" method_2_code 7 (some .byte) := ⟨Bd.exec, hZ, hw, Bd.bytes, hml0, Bd.returns, findClass_of_methodNamed Bd.named, (name_of_methodNamed Bd.named Bd.method).1, Bd.notSynchronized⟩
  have X0 : Stand p l e R1 s m #[(.ref o0), (.int v1), (.int v2), (.int v3), (.int v4)] below meth c s₁ [] 0 0 := Stand.of_body Bd
  have e0 : s₁.heap = h0 := by rw [← hh, Bd.state]; rfl
  have K := Keep.refl h0 []
  show Fin p e below s R1.cells R1.slots (Q1 Z  h0 n0 (f1_0 v1 v2 v3 v4 o0_xs)) (s₁.setTop (entryFrame m #[(.ref o0), (.int v1), (.int v2), (.int v3), (.int v4)] 7))
  refine Fin.by (fun t k => castTop (ef_1 m o0 v1 v2 v3 v4) k) ?_
  exact b1_0 B h0 n0 o0 v1 v2 v3 v4 o0_k o0_xs X0 e0 (Fr.nil n0) Z0 rfl V_o0 ln_o0 hbd _ rfl
theorem pd_0 : parseMethodDescriptor "([BIIII)B" = some ⟨[(.array .byte), .int, .int, .int, .int], some .byte⟩ := by decide +kernel
theorem d2_0 : decode prog_86_method_14_code 0 = .ok (.aload_n 0, 1) := by decide +kernel
theorem d2_1 : decode prog_86_method_14_code 1 = .ok (.arraylength, 1) := by decide +kernel
theorem d2_2 : decode prog_86_method_14_code 2 = .ok (.iload_n 3, 1) := by decide +kernel
theorem d2_3 : decode prog_86_method_14_code 3 = .ok (.if_icmp .eq 5, 3) := by decide +kernel
theorem d2_6 : decode prog_86_method_14_code 6 = .ok (.iconst 0, 1) := by decide +kernel
theorem d2_7 : decode prog_86_method_14_code 7 = .ok (.ireturn, 1) := by decide +kernel
theorem d2_8 : decode prog_86_method_14_code 8 = .ok (.iconst 0, 1) := by decide +kernel
theorem d2_9 : decode prog_86_method_14_code 9 = .ok (.istore 4, 2) := by decide +kernel
theorem d2_11 : decode prog_86_method_14_code 11 = .ok (.iload 4, 2) := by decide +kernel
theorem d2_13 : decode prog_86_method_14_code 13 = .ok (.iload_n 3, 1) := by decide +kernel
theorem d2_14 : decode prog_86_method_14_code 14 = .ok (.if_icmp .ge 24, 3) := by decide +kernel
theorem d2_17 : decode prog_86_method_14_code 17 = .ok (.aload_n 0, 1) := by decide +kernel
theorem d2_18 : decode prog_86_method_14_code 18 = .ok (.iload 4, 2) := by decide +kernel
theorem d2_20 : decode prog_86_method_14_code 20 = .ok (.baload, 1) := by decide +kernel
theorem d2_21 : decode prog_86_method_14_code 21 = .ok (.aload_n 1, 1) := by decide +kernel
theorem d2_22 : decode prog_86_method_14_code 22 = .ok (.iload_n 2, 1) := by decide +kernel
theorem d2_23 : decode prog_86_method_14_code 23 = .ok (.iload 4, 2) := by decide +kernel
theorem d2_25 : decode prog_86_method_14_code 25 = .ok (.iadd, 1) := by decide +kernel
theorem d2_26 : decode prog_86_method_14_code 26 = .ok (.baload, 1) := by decide +kernel
theorem d2_27 : decode prog_86_method_14_code 27 = .ok (.if_icmp .eq 5, 3) := by decide +kernel
theorem d2_30 : decode prog_86_method_14_code 30 = .ok (.iconst 0, 1) := by decide +kernel
theorem d2_31 : decode prog_86_method_14_code 31 = .ok (.ireturn, 1) := by decide +kernel
theorem d2_32 : decode prog_86_method_14_code 32 = .ok (.iinc 4 1, 3) := by decide +kernel
theorem d2_35 : decode prog_86_method_14_code 35 = .ok (.goto (-24), 3) := by decide +kernel
theorem d2_38 : decode prog_86_method_14_code 38 = .ok (.iconst 1, 1) := by decide +kernel
theorem d2_39 : decode prog_86_method_14_code 39 = .ok (.ireturn, 1) := by decide +kernel
theorem pn_2 : plainName "com/example/tallywick/tallywick/xml/TreeBuilder" = true := by first | (simp [plainName, overriddenIn]; done) | decide +kernel
def R2 : Room := { frames := 0, cells := 0, slots := 0, locals := 0 }
def Q2 (Z : State)  (h0 : Heap) (n0 : Nat) (r : Int32) (v : Option Value) (h : Heap) (L : List Loc) : Prop := v = some (.int r) ∧ Fr n0 L ∧ h = h0
def f2_11 : Nat → Int32 → Int32 → Int32 → Int32 → List Int32 → List Int32 → Int32
  | 0, _, _, _, _, _, _ => ((0 : Int32))
  | k + 1, v2, v3, v4, o0_n, o0_xs, o1_xs => (if v4 < v3 then (if (own_at o0_xs v4) = (own_at o1_xs (v2 + v4)) then (f2_11 k v2 v3 (v4 + (1 : Int32)) o0_n o0_xs o1_xs) else (0 : Int32)) else (1 : Int32))
set_option maxRecDepth 65536 in
set_option maxHeartbeats 40000000 in
theorem b2_11 {p : Program} {l : Launch} {e : Env} {s : State} {m : MethodId} {args : Array Value} {below : List Frame} {meth : Method} {c : Code} {Z : State} {a0 : Array Value} (B : Ctx p Z s a0 m meth c "com/example/tallywick/tallywick/xml/TreeBuilder" "sameBytes" prog_86_method_14_code 5 (some .boolean)) (h0 : Heap) (n0 : Nat)  : ∀ (k : Nat) {T0 : State} {locs : List Loc} {h : Heap} (o0 : Addr) (o1 : Addr) (v2 : Int32) (v3 : Int32) (v4 : Int32) (o0_k : ClassId) (o0_n : Int32) (o0_xs : List Int32) (o1_k : ClassId) (o1_xs : List Int32) (X0 : Stand p l e R2 s m args below meth c T0 locs 0 0) (e0 : T0.heap = h) (N0 : Fr n0 locs) (Z0 : n0 ≤ h.size) (hh0 : h = h0) (V_o0 : Arv Z h o0 o0_k .byte o0_n (o0_xs.map Value.int) (.int 0)) (ln_o0 : o0_xs.length = o0_n.toNatClampNeg) (V_o1 : Arv Z h o1 o1_k .byte (4 : Int32) (o1_xs.map Value.int) (.int 0)) (ln_o1 : o1_xs.length = (4 : Int32).toNatClampNeg) (hbd : 0 ≤ v2.toInt ∧ 0 ≤ v3.toInt ∧ v2.toInt + v3.toInt ≤ 4) (hn : o0_n = v3) (hj : 0 ≤ v4.toInt ∧ v4.toInt ≤ v3.toInt) (hmu : (v3.toInt - v4.toInt).toNat < k) (r : Int32) (hr : f2_11 k v2 v3 v4 o0_n o0_xs o1_xs = r),
    Fin p e below s R2.cells R2.slots (Q2 Z  h0 n0 r) (T0.setTop (mkF m 11 #[.val (.ref o0), .val (.ref o1), .val (.int v2), .val (.int v3), .val (.int v4)] [])) := by
  obtain ⟨hx, hZ, hw, hby, hml, hret, hown, hnm, hlk⟩ := B
  intro k
  induction k with
  | zero => intro T0 locs h o0 o1 v2 v3 v4 o0_k o0_n o0_xs o1_k o1_xs X0 e0 N0 Z0 hh0 V_o0 ln_o0 V_o1 ln_o1 hbd hn hj hmu r hr; exact absurd hmu (Nat.not_lt_zero _)
  | succ k ih =>
    intro T0 locs h o0 o1 v2 v3 v4 o0_k o0_n o0_xs o1_k o1_xs X0 e0 N0 Z0 hh0 V_o0 ln_o0 V_o1 ln_o1 hbd hn hj hmu r hr
    unfold f2_11 at hr
    refine Fin.by (B := T0.setTop (mkF m 14 #[.val (.ref o0), .val (.ref o1), .val (.int v2), .val (.int v3), .val (.int v4)] [(.int v3), (.int v4)])) (fun t k => ?_) ?_
    · show Steps p.tables e below (T0.setTop (mkF m 11 #[.val (.ref o0), .val (.ref o1), .val (.int v2), .val (.int v3), .val (.int v4)] [])) _
      refine XS.iload X0.here hx rfl (hb hby d2_11) rfl  ?_
      show Steps p.tables e below (T0.setTop (mkF m 13 #[.val (.ref o0), .val (.ref o1), .val (.int v2), .val (.int v3), .val (.int v4)] [(.int v4)])) _
      refine XS.iloadN X0.here hx rfl (hb hby d2_13) rfl  ?_
      exact k
    by_cases hc14 : v4 < v3
    · rw [if_pos hc14] at hr
      refine Fin.by (B := T0.setTop (mkF m 17 #[.val (.ref o0), .val (.ref o1), .val (.int v2), .val (.int v3), .val (.int v4)] [])) (fun t k => ?_) ?_
      · show Steps p.tables e below (T0.setTop (mkF m 14 #[.val (.ref o0), .val (.ref o1), .val (.int v2), .val (.int v3), .val (.int v4)] [(.int v3), (.int v4)])) _
        exact XS.icmpNo X0.here hx rfl (hb hby d2_14) rfl (tlt hc14).2.1 k
      refine Fin.by (B := T0.setTop (mkF m 20 #[.val (.ref o0), .val (.ref o1), .val (.int v2), .val (.int v3), .val (.int v4)] [(.int v4), (.ref o0)])) (fun t k => ?_) ?_
      · show Steps p.tables e below (T0.setTop (mkF m 17 #[.val (.ref o0), .val (.ref o1), .val (.int v2), .val (.int v3), .val (.int v4)] [])) _
        refine XS.aloadN X0.here hx rfl (hb hby d2_17) rfl rfl ?_
        show Steps p.tables e below (T0.setTop (mkF m 18 #[.val (.ref o0), .val (.ref o1), .val (.int v2), .val (.int v3), .val (.int v4)] [(.ref o0)])) _
        refine XS.iload X0.here hx rfl (hb hby d2_18) rfl  ?_
        exact k
      have hin2 : ¬ (v4 < 0) ∧ v4 < o0_n := ⟨(own_lp v2 v3 v4 hbd hj hc14).2.2.2, hn ▸ hc14⟩
      obtain ⟨cl2, Ar2, hi2, q2⟩ := own_readI V_o0 hin2 _ rfl
      refine Fin.by (B := T0.setTop (mkF m 21 #[.val (.ref o0), .val (.ref o1), .val (.int v2), .val (.int v3), .val (.int v4)] [(.int (own_at o0_xs v4))])) (fun t k => ?_) ?_
      · show Steps p.tables e below (T0.setTop (mkF m 20 #[.val (.ref o0), .val (.ref o1), .val (.int v2), .val (.int v3), .val (.int v4)] [(.int v4), (.ref o0)])) _
        exact X0.baloadBytes hx (j := v4) (v := (.int (own_at o0_xs v4))) (by rw [e0]; exact Ar2.1) (State.isArrayOf_alike hZ.alike Ar2.2.1) Ar2.2.2 hi2 q2 (g := (mkF m 20 #[.val (.ref o0), .val (.ref o1), .val (.int v2), .val (.int v3), .val (.int v4)] [(.int v4), (.ref o0)])) rfl rfl (hb hby d2_20) _ k
      refine Fin.by (B := T0.setTop (mkF m 26 #[.val (.ref o0), .val (.ref o1), .val (.int v2), .val (.int v3), .val (.int v4)] [(.int (v2 + v4)), (.ref o1), (.int (own_at o0_xs v4))])) (fun t k => ?_) ?_
      · show Steps p.tables e below (T0.setTop (mkF m 21 #[.val (.ref o0), .val (.ref o1), .val (.int v2), .val (.int v3), .val (.int v4)] [(.int (own_at o0_xs v4))])) _
        refine XS.aloadN X0.here hx rfl (hb hby d2_21) rfl rfl ?_
        show Steps p.tables e below (T0.setTop (mkF m 22 #[.val (.ref o0), .val (.ref o1), .val (.int v2), .val (.int v3), .val (.int v4)] [(.ref o1), (.int (own_at o0_xs v4))])) _
        refine XS.iloadN X0.here hx rfl (hb hby d2_22) rfl  ?_
        show Steps p.tables e below (T0.setTop (mkF m 23 #[.val (.ref o0), .val (.ref o1), .val (.int v2), .val (.int v3), .val (.int v4)] [(.int v2), (.ref o1), (.int (own_at o0_xs v4))])) _
        refine XS.iload X0.here hx rfl (hb hby d2_23) rfl  ?_
        show Steps p.tables e below (T0.setTop (mkF m 25 #[.val (.ref o0), .val (.ref o1), .val (.int v2), .val (.int v3), .val (.int v4)] [(.int v4), (.int v2), (.ref o1), (.int (own_at o0_xs v4))])) _
        refine XS.iadd X0.here hx rfl (hb hby d2_25) rfl ?_
        exact k
      have hin3 : ¬ ((v2 + v4) < 0) ∧ (v2 + v4) < (4 : Int32) := (own_lp v2 v3 v4 hbd hj hc14).1
      obtain ⟨cl3, Ar3, hi3, q3⟩ := own_readI V_o1 hin3 _ rfl
      refine Fin.by (B := T0.setTop (mkF m 27 #[.val (.ref o0), .val (.ref o1), .val (.int v2), .val (.int v3), .val (.int v4)] [(.int (own_at o1_xs (v2 + v4))), (.int (own_at o0_xs v4))])) (fun t k => ?_) ?_
      · show Steps p.tables e below (T0.setTop (mkF m 26 #[.val (.ref o0), .val (.ref o1), .val (.int v2), .val (.int v3), .val (.int v4)] [(.int (v2 + v4)), (.ref o1), (.int (own_at o0_xs v4))])) _
        exact X0.baloadBytes hx (j := (v2 + v4)) (v := (.int (own_at o1_xs (v2 + v4)))) (by rw [e0]; exact Ar3.1) (State.isArrayOf_alike hZ.alike Ar3.2.1) Ar3.2.2 hi3 q3 (g := (mkF m 26 #[.val (.ref o0), .val (.ref o1), .val (.int v2), .val (.int v3), .val (.int v4)] [(.int (v2 + v4)), (.ref o1), (.int (own_at o0_xs v4))])) rfl rfl (hb hby d2_26) _ k
      by_cases hc27 : (own_at o0_xs v4) = (own_at o1_xs (v2 + v4))
      · rw [if_pos hc27] at hr
        refine Fin.by (B := T0.setTop (mkF m 32 #[.val (.ref o0), .val (.ref o1), .val (.int v2), .val (.int v3), .val (.int v4)] [])) (fun t k => ?_) ?_
        · show Steps p.tables e below (T0.setTop (mkF m 27 #[.val (.ref o0), .val (.ref o1), .val (.int v2), .val (.int v3), .val (.int v4)] [(.int (own_at o1_xs (v2 + v4))), (.int (own_at o0_xs v4))])) _
          exact XS.icmpYes X0.here hx rfl (pc0 := 27) (pc' := 32) rfl (hb hby d2_27) rfl (teq hc27).1 (by decide) (by decide) k
        refine Fin.by (B := T0.setTop (mkF m 11 #[.val (.ref o0), .val (.ref o1), .val (.int v2), .val (.int v3), .val (.int (v4 + (1 : Int32)))] [])) (fun t k => ?_) ?_
        · show Steps p.tables e below (T0.setTop (mkF m 32 #[.val (.ref o0), .val (.ref o1), .val (.int v2), .val (.int v3), .val (.int v4)] [])) _
          refine XS.iinc X0.here hx rfl (hb hby d2_32) rfl (l' := #[.val (.ref o0), .val (.ref o1), .val (.int v2), .val (.int v3), .val (.int (v4 + (1 : Int32)))]) rfl ?_
          show Steps p.tables e below (T0.setTop (mkF m 35 #[.val (.ref o0), .val (.ref o1), .val (.int v2), .val (.int v3), .val (.int (v4 + (1 : Int32)))] [])) _
          refine XS.goto X0.here hx rfl (pc0 := 35) (pc' := 11) rfl (hb hby d2_35) (by decide) (by decide) ?_
          exact k
        have hbd_j : 0 ≤ v2.toInt ∧ 0 ≤ v3.toInt ∧ v2.toInt + v3.toInt ≤ 4 := hbd
        have hn_j : o0_n = v3 := by assumption
        have hj_j : 0 ≤ (v4 + (1 : Int32)).toInt ∧ (v4 + (1 : Int32)).toInt ≤ v3.toInt := by first | exact ⟨by decide, by have z := own_z0; omega⟩ | (have q := own_lp v2 v3 v4 hbd hj hc14; omega)
        have hmu_j : (v3.toInt - (v4 + (1 : Int32)).toInt).toNat < k := by have q := own_lp v2 v3 v4 hbd hj hc14; omega
        exact ih o0 o1 v2 v3 (v4 + (1 : Int32)) o0_k o0_n o0_xs o1_k o1_xs X0 e0 N0 Z0 hh0 V_o0 ln_o0 V_o1 ln_o1 hbd_j hn_j hj_j hmu_j _ hr
      · rw [if_neg hc27] at hr
        refine Fin.by (B := T0.setTop (mkF m 30 #[.val (.ref o0), .val (.ref o1), .val (.int v2), .val (.int v3), .val (.int v4)] [])) (fun t k => ?_) ?_
        · show Steps p.tables e below (T0.setTop (mkF m 27 #[.val (.ref o0), .val (.ref o1), .val (.int v2), .val (.int v3), .val (.int v4)] [(.int (own_at o1_xs (v2 + v4))), (.int (own_at o0_xs v4))])) _
          exact XS.icmpNo X0.here hx rfl (hb hby d2_27) rfl (feq hc27).1 k
        refine Fin.by (B := T0.setTop (mkF m 31 #[.val (.ref o0), .val (.ref o1), .val (.int v2), .val (.int v3), .val (.int v4)] [(.int (0 : Int32))])) (fun t k => ?_) ?_
        · show Steps p.tables e below (T0.setTop (mkF m 30 #[.val (.ref o0), .val (.ref o1), .val (.int v2), .val (.int v3), .val (.int v4)] [])) _
          refine XS.iconst X0.here hx rfl (hb hby d2_30) ?_
          exact k
        subst hr
        exact own_retN X0 hx hlk (t := .boolean) hret (by simp) (hb hby d2_31) (by decide) (by decide) ⟨rfl, N0, (e0.trans hh0)⟩
    · rw [if_neg hc14] at hr
      refine Fin.by (B := T0.setTop (mkF m 38 #[.val (.ref o0), .val (.ref o1), .val (.int v2), .val (.int v3), .val (.int v4)] [])) (fun t k => ?_) ?_
      · show Steps p.tables e below (T0.setTop (mkF m 14 #[.val (.ref o0), .val (.ref o1), .val (.int v2), .val (.int v3), .val (.int v4)] [(.int v3), (.int v4)])) _
        exact XS.icmpYes X0.here hx rfl (pc0 := 14) (pc' := 38) rfl (hb hby d2_14) rfl (flt hc14).2.1 (by decide) (by decide) k
      refine Fin.by (B := T0.setTop (mkF m 39 #[.val (.ref o0), .val (.ref o1), .val (.int v2), .val (.int v3), .val (.int v4)] [(.int (1 : Int32))])) (fun t k => ?_) ?_
      · show Steps p.tables e below (T0.setTop (mkF m 38 #[.val (.ref o0), .val (.ref o1), .val (.int v2), .val (.int v3), .val (.int v4)] [])) _
        refine XS.iconst X0.here hx rfl (hb hby d2_38) ?_
        exact k
      subst hr
      exact own_retN X0 hx hlk (t := .boolean) hret (by simp) (hb hby d2_39) (by decide) (by decide) ⟨rfl, N0, (e0.trans hh0)⟩
def f2_0 (v2 : Int32) (v3 : Int32) (o0_n : Int32) (o0_xs : List Int32) (o1_xs : List Int32) : Int32 := (if o0_n = v3 then (f2_11 5 v2 v3 (0 : Int32) o0_n o0_xs o1_xs) else (0 : Int32))
set_option maxRecDepth 65536 in
set_option maxHeartbeats 40000000 in
theorem b2_0 {p : Program} {l : Launch} {e : Env} {s : State} {m : MethodId} {args : Array Value} {below : List Frame} {meth : Method} {c : Code} {Z : State} {a0 : Array Value} (B : Ctx p Z s a0 m meth c "com/example/tallywick/tallywick/xml/TreeBuilder" "sameBytes" prog_86_method_14_code 5 (some .boolean)) {T0 : State} {locs : List Loc} {h : Heap} (h0 : Heap) (n0 : Nat) (o0 : Addr) (o1 : Addr) (v2 : Int32) (v3 : Int32) (o0_k : ClassId) (o0_n : Int32) (o0_xs : List Int32) (o1_k : ClassId) (o1_xs : List Int32) (X0 : Stand p l e R2 s m args below meth c T0 locs 0 0) (e0 : T0.heap = h) (N0 : Fr n0 locs) (Z0 : n0 ≤ h.size) (hh0 : h = h0) (V_o0 : Arv Z h o0 o0_k .byte o0_n (o0_xs.map Value.int) (.int 0)) (ln_o0 : o0_xs.length = o0_n.toNatClampNeg) (V_o1 : Arv Z h o1 o1_k .byte (4 : Int32) (o1_xs.map Value.int) (.int 0)) (ln_o1 : o1_xs.length = (4 : Int32).toNatClampNeg) (hbd : 0 ≤ v2.toInt ∧ 0 ≤ v3.toInt ∧ v2.toInt + v3.toInt ≤ 4) (r : Int32) (hr : f2_0 v2 v3 o0_n o0_xs o1_xs = r) :
    Fin p e below s R2.cells R2.slots (Q2 Z  h0 n0 r) (T0.setTop (mkF m 0 #[.val (.ref o0), .val (.ref o1), .val (.int v2), .val (.int v3), .unset] [])) := by
  obtain ⟨hx, hZ, hw, hby, hml, hret, hown, hnm, hlk⟩ := B
  unfold f2_0 at hr
  refine Fin.by (B := T0.setTop (mkF m 1 #[.val (.ref o0), .val (.ref o1), .val (.int v2), .val (.int v3), .unset] [(.ref o0)])) (fun t k => ?_) ?_
  · show Steps p.tables e below (T0.setTop (mkF m 0 #[.val (.ref o0), .val (.ref o1), .val (.int v2), .val (.int v3), .unset] [])) _
    refine XS.aloadN X0.here hx rfl (hb hby d2_0) rfl rfl ?_
    exact k
  have V1 := V_o0
  obtain ⟨cl1, Ar1, -, S1, M1, -, -⟩ := V1
  refine Fin.by (B := T0.setTop (mkF m 2 #[.val (.ref o0), .val (.ref o1), .val (.int v2), .val (.int v3), .unset] [(.int o0_n)])) (fun t k => ?_) ?_
  · show Steps p.tables e below (T0.setTop (mkF m 1 #[.val (.ref o0), .val (.ref o1), .val (.int v2), .val (.int v3), .unset] [(.ref o0)])) _
    refine X0.arraylength hx (by rw [e0]; exact Ar1.1) (State.isArrayOf_alike hZ.alike Ar1.2.1) (g := (mkF m 1 #[.val (.ref o0), .val (.ref o1), .val (.int v2), .val (.int v3), .unset] [(.ref o0)])) rfl rfl (hb hby d2_1) _ ?_
    rw [len_of S1 M1]
    exact k
  refine Fin.by (B := T0.setTop (mkF m 3 #[.val (.ref o0), .val (.ref o1), .val (.int v2), .val (.int v3), .unset] [(.int v3), (.int o0_n)])) (fun t k => ?_) ?_
  · show Steps p.tables e below (T0.setTop (mkF m 2 #[.val (.ref o0), .val (.ref o1), .val (.int v2), .val (.int v3), .unset] [(.int o0_n)])) _
    refine XS.iloadN X0.here hx rfl (hb hby d2_2) rfl  ?_
    exact k
  by_cases hc3 : o0_n = v3
  · rw [if_pos hc3] at hr
    refine Fin.by (B := T0.setTop (mkF m 8 #[.val (.ref o0), .val (.ref o1), .val (.int v2), .val (.int v3), .unset] [])) (fun t k => ?_) ?_
    · show Steps p.tables e below (T0.setTop (mkF m 3 #[.val (.ref o0), .val (.ref o1), .val (.int v2), .val (.int v3), .unset] [(.int v3), (.int o0_n)])) _
      exact XS.icmpYes X0.here hx rfl (pc0 := 3) (pc' := 8) rfl (hb hby d2_3) rfl (teq hc3).1 (by decide) (by decide) k
    refine Fin.by (B := T0.setTop (mkF m 11 #[.val (.ref o0), .val (.ref o1), .val (.int v2), .val (.int v3), .val (.int (0 : Int32))] [])) (fun t k => ?_) ?_
    · show Steps p.tables e below (T0.setTop (mkF m 8 #[.val (.ref o0), .val (.ref o1), .val (.int v2), .val (.int v3), .unset] [])) _
      refine XS.iconst X0.here hx rfl (hb hby d2_8) ?_
      show Steps p.tables e below (T0.setTop (mkF m 9 #[.val (.ref o0), .val (.ref o1), .val (.int v2), .val (.int v3), .unset] [(.int (0 : Int32))])) _
      refine XS.istore X0.here hx rfl (hb hby d2_9) rfl (l' := #[.val (.ref o0), .val (.ref o1), .val (.int v2), .val (.int v3), .val (.int (0 : Int32))]) rfl ?_
      exact k
    have hbd_j : 0 ≤ v2.toInt ∧ 0 ≤ v3.toInt ∧ v2.toInt + v3.toInt ≤ 4 := hbd
    have hn_j : o0_n = v3 := by assumption
    have hj_j : 0 ≤ (0 : Int32).toInt ∧ (0 : Int32).toInt ≤ v3.toInt := by first | exact ⟨by decide, by have z := own_z0; omega⟩ | (have q := own_lp v2 v3 v4 hbd hj hc14; omega)
    have hmu_j : (v3.toInt - (0 : Int32).toInt).toNat < 5 := by have z := own_z0; omega
    exact b2_11 ⟨hx, hZ, hw, hby, hml, hret, hown, hnm, hlk⟩ h0 n0  5 o0 o1 v2 v3 (0 : Int32) o0_k o0_n o0_xs o1_k o1_xs X0 e0 N0 Z0 hh0 V_o0 ln_o0 V_o1 ln_o1 hbd_j hn_j hj_j hmu_j _ hr
  · rw [if_neg hc3] at hr
    refine Fin.by (B := T0.setTop (mkF m 6 #[.val (.ref o0), .val (.ref o1), .val (.int v2), .val (.int v3), .unset] [])) (fun t k => ?_) ?_
    · show Steps p.tables e below (T0.setTop (mkF m 3 #[.val (.ref o0), .val (.ref o1), .val (.int v2), .val (.int v3), .unset] [(.int v3), (.int o0_n)])) _
      exact XS.icmpNo X0.here hx rfl (hb hby d2_3) rfl (feq hc3).1 k
    refine Fin.by (B := T0.setTop (mkF m 7 #[.val (.ref o0), .val (.ref o1), .val (.int v2), .val (.int v3), .unset] [(.int (0 : Int32))])) (fun t k => ?_) ?_
    · show Steps p.tables e below (T0.setTop (mkF m 6 #[.val (.ref o0), .val (.ref o1), .val (.int v2), .val (.int v3), .unset] [])) _
      refine XS.iconst X0.here hx rfl (hb hby d2_6) ?_
      exact k
    subst hr
    exact own_retN X0 hx hlk (t := .boolean) hret (by simp) (hb hby d2_7) (by decide) (by decide) ⟨rfl, N0, (e0.trans hh0)⟩
theorem ef_2 (m : MethodId) (o0 : Addr) (o1 : Addr) (v2 : Int32) (v3 : Int32) : entryFrame m #[(.ref o0), (.ref o1), (.int v2), (.int v3)] 5 = (mkF m 0 #[.val (.ref o0), .val (.ref o1), .val (.int v2), .val (.int v3), .unset] []) := by first | (simp [entryFrame, mkF, argsToLocals, Value.category]; done) | rfl
set_option maxRecDepth 65536 in
set_option maxHeartbeats 40000000 in
theorem rm2 (l : Launch) (Z : State) (a0 : Array Value) (hw : ∀ d ∈ tables_1, d.before a0 Z = true) (ws : List Jvm.Cond) (o0 : Addr) (o1 : Addr) (v2 : Int32) (v3 : Int32) (o0_k : ClassId) (o0_n : Int32) (o0_xs : List Int32) (o1_k : ClassId) (o1_xs : List Int32) (h0 : Heap) (n0 : Nat) (Z0 : n0 ≤ h0.size) (V_o0 : Arv Z h0 o0 o0_k .byte o0_n (o0_xs.map Value.int) (.int 0)) (ln_o0 : o0_xs.length = o0_n.toNatClampNeg) (V_o1 : Arv Z h0 o1 o1_k .byte (4 : Int32) (o1_xs.map Value.int) (.int 0)) (ln_o1 : o1_xs.length = (4 : Int32).toNatClampNeg) (hbd : 0 ≤ v2.toInt ∧ 0 ≤ v3.toInt ∧ v2.toInt + v3.toInt ≤ 4) :
    MetFree l (⟨"com/example/tallywick/tallywick/xml/TreeBuilder", "sameBytes", "([B[BII)Z"⟩ : MethodName) (head1 (Jvm.Cond.code (⟨"com/example/tallywick/tallywick/xml/TreeBuilder", "sameBytes", "([B[BII)Z"⟩ : MethodName) prog_86_method_14_code 5 (some .boolean) :: ws) R2) (fun a U => a = #[(.ref o0), (.ref o1), (.int v2), (.int v3)] ∧ Z.Warmed39 U.vm ∧ U.heap = h0) (fun _ _ _ _ _ => True) (fun _ U o U' => ∃ v L, o = .returned v ∧ (Q2 Z  h0 n0 (f2_0 v2 v3 o0_n o0_xs o1_xs)) v U'.heap L ∧ FrameEnd U o U' L R2.cells R2.slots) := by
  refine MetFree.of_bodySF (plainFor_of_name pn_2) hisR ?_
  intro p e s m args below meth c s₁ Bd hml0 hP hK
  obtain ⟨rfl, hZ, hh⟩ := hP
  have B : Ctx p Z s a0 m meth c "com/example/tallywick/tallywick/xml/TreeBuilder" "sameBytes" prog_86_method_14_code 5 (some .boolean) := ⟨Bd.exec, hZ, hw, Bd.bytes, hml0, Bd.returns, findClass_of_methodNamed Bd.named, (name_of_methodNamed Bd.named Bd.method).1, Bd.notSynchronized⟩
  have X0 : Stand p l e R2 s m #[(.ref o0), (.ref o1), (.int v2), (.int v3)] below meth c s₁ [] 0 0 := Stand.of_body Bd
  have e0 : s₁.heap = h0 := by rw [← hh, Bd.state]; rfl
  have K := Keep.refl h0 []
  show Fin p e below s R2.cells R2.slots (Q2 Z  h0 n0 (f2_0 v2 v3 o0_n o0_xs o1_xs)) (s₁.setTop (entryFrame m #[(.ref o0), (.ref o1), (.int v2), (.int v3)] 5))
  refine Fin.by (fun t k => castTop (ef_2 m o0 o1 v2 v3) k) ?_
  exact b2_0 B h0 n0 o0 o1 v2 v3 o0_k o0_n o0_xs o1_k o1_xs X0 e0 (Fr.nil n0) Z0 rfl V_o0 ln_o0 V_o1 ln_o1 hbd _ rfl
theorem pd_1 : parseMethodDescriptor "([B[BII)Z" = some ⟨[(.array .byte), (.array .byte), .int, .int], some .boolean⟩ := by decide +kernel
theorem pn_0 : plainName "com/example/tallywick/tallywick/xml/TreeBuilderSameBytesPinLaw" = true := by first | (simp [plainName, overriddenIn]; done) | decide +kernel
def Q0 (n0 : Nat) (r : Int32) (v : Option Value) (h : Heap) (L : List Loc) : Prop := v = some (.int r) ∧ Fr n0 L
def f0_310 (v0 : Int32) (v1 : Int32) (v2 : Int32) (v3 : Int32) (v5 : Int32) (v6 : Int32) (v7 : Int32) (v8 : Int32) (v9 : Int32) (v10 : Int32) (v11 : Int32) (t0 : Int32) (b1_xs : List Int32) (kp_n : Int32) (kp_xs : List Int32) : Int32 := (if (f2_0 v6 v5 kp_n kp_xs b1_xs) = t0 then (1 : Int32) else (0 : Int32))
set_option maxRecDepth 65536 in
set_option maxHeartbeats 40000000 in
theorem b0_310 {p : Program} {l : Launch} {e : Env} {s : State} {m : MethodId} {args : Array Value} {below : List Frame} {meth : Method} {c : Code} {Z : State} {a0 : Array Value} (B : Ctx p Z s a0 m meth c "com/example/tallywick/tallywick/xml/TreeBuilderSameBytesPinLaw" "law" code 14 (some .boolean)) {T0 : State} {locs : List Loc} {h : Heap} (h0 : Heap) (n0 : Nat) (v0 : Int32) (v1 : Int32) (v2 : Int32) (v3 : Int32) (b1 : Addr) (v5 : Int32) (v6 : Int32) (v7 : Int32) (v8 : Int32) (v9 : Int32) (v10 : Int32) (v11 : Int32) (kp : Addr) (t0 : Int32) (b1_k : ClassId) (b1_xs : List Int32) (kp_k : ClassId) (kp_n : Int32) (kp_xs : List Int32) (X0 : Stand p l e room_1 s m args below meth c T0 locs 2 8) (e0 : T0.heap = h) (N0 : Fr n0 locs) (Z0 : n0 ≤ h.size) (V_b1 : Arv Z h b1 b1_k .byte (4 : Int32) (b1_xs.map Value.int) (.int 0)) (ln_b1 : b1_xs.length = (4 : Int32).toNatClampNeg) (g_b1 : n0 ≤ b1) (V_kp : Arv Z h kp kp_k .byte kp_n (kp_xs.map Value.int) (.int 0)) (ln_kp : kp_xs.length = kp_n.toNatClampNeg) (g_kp : n0 ≤ kp) (ne_b1_kp : b1 ≠ kp) (i5 : 0 ≤ v5.toInt ∧ 0 ≤ v6.toInt ∧ v6.toInt + v5.toInt ≤ 4) (ik : kp_n = v7) (r : Int32) (hr : f0_310 v0 v1 v2 v3 v5 v6 v7 v8 v9 v10 v11 t0 b1_xs kp_n kp_xs = r) :
    Fin p e below s 2 8 (Q0 n0 r) (T0.setTop (mkF m 310 #[.val (.int v0), .val (.int v1), .val (.int v2), .val (.int v3), .val (.ref b1), .val (.int v5), .val (.int v6), .val (.int v7), .val (.int v8), .val (.int v9), .val (.int v10), .val (.int v11), .val (.ref kp), .unset] [(.int t0)])) := by
  obtain ⟨hx, hZ, hw, hby, hml, hret, hown, hnm, hlk⟩ := B
  unfold f0_310 at hr
  refine Fin.by (B := T0.setTop (mkF m 320 #[.val (.int v0), .val (.int v1), .val (.int v2), .val (.int v3), .val (.ref b1), .val (.int v5), .val (.int v6), .val (.int v7), .val (.int v8), .val (.int v9), .val (.int v10), .val (.int v11), .val (.ref kp), .val (.int t0)] [(.int v5), (.int v6), (.ref b1), (.ref kp)])) (fun t k => ?_) ?_
  · show Steps p.tables e below (T0.setTop (mkF m 310 #[.val (.int v0), .val (.int v1), .val (.int v2), .val (.int v3), .val (.ref b1), .val (.int v5), .val (.int v6), .val (.int v7), .val (.int v8), .val (.int v9), .val (.int v10), .val (.int v11), .val (.ref kp), .unset] [(.int t0)])) _
    refine XS.istore X0.here hx rfl (hb hby at_310) rfl (l' := #[.val (.int v0), .val (.int v1), .val (.int v2), .val (.int v3), .val (.ref b1), .val (.int v5), .val (.int v6), .val (.int v7), .val (.int v8), .val (.int v9), .val (.int v10), .val (.int v11), .val (.ref kp), .val (.int t0)]) rfl ?_
    show Steps p.tables e below (T0.setTop (mkF m 312 #[.val (.int v0), .val (.int v1), .val (.int v2), .val (.int v3), .val (.ref b1), .val (.int v5), .val (.int v6), .val (.int v7), .val (.int v8), .val (.int v9), .val (.int v10), .val (.int v11), .val (.ref kp), .val (.int t0)] [])) _
    refine XS.aload X0.here hx rfl (hb hby at_312) rfl rfl ?_
    show Steps p.tables e below (T0.setTop (mkF m 314 #[.val (.int v0), .val (.int v1), .val (.int v2), .val (.int v3), .val (.ref b1), .val (.int v5), .val (.int v6), .val (.int v7), .val (.int v8), .val (.int v9), .val (.int v10), .val (.int v11), .val (.ref kp), .val (.int t0)] [(.ref kp)])) _
    refine XS.aload X0.here hx rfl (hb hby at_314) rfl rfl ?_
    show Steps p.tables e below (T0.setTop (mkF m 316 #[.val (.int v0), .val (.int v1), .val (.int v2), .val (.int v3), .val (.ref b1), .val (.int v5), .val (.int v6), .val (.int v7), .val (.int v8), .val (.int v9), .val (.int v10), .val (.int v11), .val (.ref kp), .val (.int t0)] [(.ref b1), (.ref kp)])) _
    refine XS.iload X0.here hx rfl (hb hby at_316) rfl  ?_
    show Steps p.tables e below (T0.setTop (mkF m 318 #[.val (.int v0), .val (.int v1), .val (.int v2), .val (.int v3), .val (.ref b1), .val (.int v5), .val (.int v6), .val (.int v7), .val (.int v8), .val (.int v9), .val (.int v10), .val (.int v11), .val (.ref kp), .val (.int t0)] [(.int v6), (.ref b1), (.ref kp)])) _
    refine XS.iload X0.here hx rfl (hb hby at_318) rfl  ?_
    exact k
  have hp11_hbd : 0 ≤ v6.toInt ∧ 0 ≤ v5.toInt ∧ v6.toInt + v5.toInt ≤ 4 := ⟨i5.2.1, i5.1, i5.2.2⟩
  -- pc 320: com/example/tallywick/tallywick/xml/TreeBuilder.sameBytes
  obtain ⟨_, _, ⟨T11, L11, k11, n11⟩, -, X11, ⟨Lc11, hQ11, l11, y11, z11⟩, st11⟩ := Jvm.LawKit.callS X0 hx (y := (⟨"com/example/tallywick/tallywick/xml/TreeBuilder", "sameBytes", "([B[BII)Z"⟩ : MethodName)) hown (mvT hZ (hw _ (List.mem_of_getElem? (i := 5) rfl))) (mvT hZ (hw _ (List.mem_of_getElem? (i := 6) rfl))) (mvT hZ (hw _ (List.mem_of_getElem? (i := 7) rfl))) (mvT hZ (hw _ (List.mem_of_getElem? (i := 8) rfl))) (by decide) (backOf (W := 0) (rm2 l Z a0 hw [] kp b1 v6 v5 kp_k kp_n kp_xs b1_k b1_xs h n0 Z0 V_kp ln_kp V_b1 ln_b1 hp11_hbd) hZ (hw _ (List.mem_of_getElem? (i := 8) rfl)) (hw _ (List.mem_of_getElem? (i := 7) rfl)) (by decide) (by decide)) (g := (mkF m 320 #[.val (.int v0), .val (.int v1), .val (.int v2), .val (.int v3), .val (.ref b1), .val (.int v5), .val (.int v6), .val (.int v7), .val (.int v8), .val (.int v9), .val (.int v10), .val (.int v11), .val (.ref kp), .val (.int t0)] [(.int v5), (.int v6), (.ref b1), (.ref kp)])) rfl (by rw [hml]; rfl) (argsL := [(.ref kp), (.ref b1), (.int v6), (.int v5)]) (rest := []) (lenOf pd_1 rfl) rfl (by show 2 * 0 + _ ≤ _; exact Nat.le_of_eq rfl) (hb hby at_320) (fun _ _ => ⟨rfl, e0, (by decide : 2 + R2.cells ≤ _), (by decide : 8 + R2.slots ≤ _)⟩)
  dsimp only [Pt.U, Pt.locs, Pt.cells, Pt.slots] at X11 l11 y11 z11 st11 hQ11
  subst l11 y11 z11
  obtain ⟨rfl, Nq11, e11⟩ := hQ11
  have N11 := Fr.app N0 Nq11
  refine Fin.by (B := T11.setTop (mkF m 323 #[.val (.int v0), .val (.int v1), .val (.int v2), .val (.int v3), .val (.ref b1), .val (.int v5), .val (.int v6), .val (.int v7), .val (.int v8), .val (.int v9), .val (.int v10), .val (.int v11), .val (.ref kp), .val (.int t0)] [(.int (f2_0 v6 v5 kp_n kp_xs b1_xs))])) (fun t k => st11 t k) ?_
  refine Fin.by (B := T11.setTop (mkF m 325 #[.val (.int v0), .val (.int v1), .val (.int v2), .val (.int v3), .val (.ref b1), .val (.int v5), .val (.int v6), .val (.int v7), .val (.int v8), .val (.int v9), .val (.int v10), .val (.int v11), .val (.ref kp), .val (.int t0)] [(.int t0), (.int (f2_0 v6 v5 kp_n kp_xs b1_xs))])) (fun t k => ?_) ?_
  · show Steps p.tables e below (T11.setTop (mkF m 323 #[.val (.int v0), .val (.int v1), .val (.int v2), .val (.int v3), .val (.ref b1), .val (.int v5), .val (.int v6), .val (.int v7), .val (.int v8), .val (.int v9), .val (.int v10), .val (.int v11), .val (.ref kp), .val (.int t0)] [(.int (f2_0 v6 v5 kp_n kp_xs b1_xs))])) _
    refine XS.iload X11.here hx rfl (hb hby at_323) rfl  ?_
    exact k
  by_cases hc325 : (f2_0 v6 v5 kp_n kp_xs b1_xs) = t0
  · rw [if_pos hc325] at hr
    refine Fin.by (B := T11.setTop (mkF m 328 #[.val (.int v0), .val (.int v1), .val (.int v2), .val (.int v3), .val (.ref b1), .val (.int v5), .val (.int v6), .val (.int v7), .val (.int v8), .val (.int v9), .val (.int v10), .val (.int v11), .val (.ref kp), .val (.int t0)] [])) (fun t k => ?_) ?_
    · show Steps p.tables e below (T11.setTop (mkF m 325 #[.val (.int v0), .val (.int v1), .val (.int v2), .val (.int v3), .val (.ref b1), .val (.int v5), .val (.int v6), .val (.int v7), .val (.int v8), .val (.int v9), .val (.int v10), .val (.int v11), .val (.ref kp), .val (.int t0)] [(.int t0), (.int (f2_0 v6 v5 kp_n kp_xs b1_xs))])) _
      exact XS.icmpNo X11.here hx rfl (hb hby at_325) rfl (teq hc325).2 k
    refine Fin.by (B := T11.setTop (mkF m 333 #[.val (.int v0), .val (.int v1), .val (.int v2), .val (.int v3), .val (.ref b1), .val (.int v5), .val (.int v6), .val (.int v7), .val (.int v8), .val (.int v9), .val (.int v10), .val (.int v11), .val (.ref kp), .val (.int t0)] [(.int (1 : Int32))])) (fun t k => ?_) ?_
    · show Steps p.tables e below (T11.setTop (mkF m 328 #[.val (.int v0), .val (.int v1), .val (.int v2), .val (.int v3), .val (.ref b1), .val (.int v5), .val (.int v6), .val (.int v7), .val (.int v8), .val (.int v9), .val (.int v10), .val (.int v11), .val (.ref kp), .val (.int t0)] [])) _
      refine XS.iconst X11.here hx rfl (hb hby at_328) ?_
      show Steps p.tables e below (T11.setTop (mkF m 329 #[.val (.int v0), .val (.int v1), .val (.int v2), .val (.int v3), .val (.ref b1), .val (.int v5), .val (.int v6), .val (.int v7), .val (.int v8), .val (.int v9), .val (.int v10), .val (.int v11), .val (.ref kp), .val (.int t0)] [(.int (1 : Int32))])) _
      refine XS.goto X11.here hx rfl (pc0 := 329) (pc' := 333) rfl (hb hby at_329) (by decide) (by decide) ?_
      exact k
    subst hr
    exact own_retN X11 hx hlk (t := .boolean) hret (by simp) (hb hby at_333) (by decide) (by decide) ⟨rfl, N11⟩
  · rw [if_neg hc325] at hr
    refine Fin.by (B := T11.setTop (mkF m 332 #[.val (.int v0), .val (.int v1), .val (.int v2), .val (.int v3), .val (.ref b1), .val (.int v5), .val (.int v6), .val (.int v7), .val (.int v8), .val (.int v9), .val (.int v10), .val (.int v11), .val (.ref kp), .val (.int t0)] [])) (fun t k => ?_) ?_
    · show Steps p.tables e below (T11.setTop (mkF m 325 #[.val (.int v0), .val (.int v1), .val (.int v2), .val (.int v3), .val (.ref b1), .val (.int v5), .val (.int v6), .val (.int v7), .val (.int v8), .val (.int v9), .val (.int v10), .val (.int v11), .val (.ref kp), .val (.int t0)] [(.int t0), (.int (f2_0 v6 v5 kp_n kp_xs b1_xs))])) _
      exact XS.icmpYes X11.here hx rfl (pc0 := 325) (pc' := 332) rfl (hb hby at_325) rfl (feq hc325).2 (by decide) (by decide) k
    refine Fin.by (B := T11.setTop (mkF m 333 #[.val (.int v0), .val (.int v1), .val (.int v2), .val (.int v3), .val (.ref b1), .val (.int v5), .val (.int v6), .val (.int v7), .val (.int v8), .val (.int v9), .val (.int v10), .val (.int v11), .val (.ref kp), .val (.int t0)] [(.int (0 : Int32))])) (fun t k => ?_) ?_
    · show Steps p.tables e below (T11.setTop (mkF m 332 #[.val (.int v0), .val (.int v1), .val (.int v2), .val (.int v3), .val (.ref b1), .val (.int v5), .val (.int v6), .val (.int v7), .val (.int v8), .val (.int v9), .val (.int v10), .val (.int v11), .val (.ref kp), .val (.int t0)] [])) _
      refine XS.iconst X11.here hx rfl (hb hby at_332) ?_
      exact k
    subst hr
    exact own_retN X11 hx hlk (t := .boolean) hret (by simp) (hb hby at_333) (by decide) (by decide) ⟨rfl, N11⟩
def f0_305 (v0 : Int32) (v1 : Int32) (v2 : Int32) (v3 : Int32) (v5 : Int32) (v6 : Int32) (v7 : Int32) (v8 : Int32) (v9 : Int32) (v10 : Int32) (v11 : Int32) (b1_xs : List Int32) (kp_n : Int32) (kp_xs : List Int32) : Int32 := (f0_310 v0 v1 v2 v3 v5 v6 v7 v8 v9 v10 v11 (1 : Int32) b1_xs kp_n kp_xs)
set_option maxRecDepth 65536 in
set_option maxHeartbeats 40000000 in
theorem b0_305 {p : Program} {l : Launch} {e : Env} {s : State} {m : MethodId} {args : Array Value} {below : List Frame} {meth : Method} {c : Code} {Z : State} {a0 : Array Value} (B : Ctx p Z s a0 m meth c "com/example/tallywick/tallywick/xml/TreeBuilderSameBytesPinLaw" "law" code 14 (some .boolean)) {T0 : State} {locs : List Loc} {h : Heap} (h0 : Heap) (n0 : Nat) (v0 : Int32) (v1 : Int32) (v2 : Int32) (v3 : Int32) (b1 : Addr) (v5 : Int32) (v6 : Int32) (v7 : Int32) (v8 : Int32) (v9 : Int32) (v10 : Int32) (v11 : Int32) (kp : Addr) (b1_k : ClassId) (b1_xs : List Int32) (kp_k : ClassId) (kp_n : Int32) (kp_xs : List Int32) (X0 : Stand p l e room_1 s m args below meth c T0 locs 2 8) (e0 : T0.heap = h) (N0 : Fr n0 locs) (Z0 : n0 ≤ h.size) (V_b1 : Arv Z h b1 b1_k .byte (4 : Int32) (b1_xs.map Value.int) (.int 0)) (ln_b1 : b1_xs.length = (4 : Int32).toNatClampNeg) (g_b1 : n0 ≤ b1) (V_kp : Arv Z h kp kp_k .byte kp_n (kp_xs.map Value.int) (.int 0)) (ln_kp : kp_xs.length = kp_n.toNatClampNeg) (g_kp : n0 ≤ kp) (ne_b1_kp : b1 ≠ kp) (i5 : 0 ≤ v5.toInt ∧ 0 ≤ v6.toInt ∧ v6.toInt + v5.toInt ≤ 4) (ik : kp_n = v7) (r : Int32) (hr : f0_305 v0 v1 v2 v3 v5 v6 v7 v8 v9 v10 v11 b1_xs kp_n kp_xs = r) :
    Fin p e below s 2 8 (Q0 n0 r) (T0.setTop (mkF m 305 #[.val (.int v0), .val (.int v1), .val (.int v2), .val (.int v3), .val (.ref b1), .val (.int v5), .val (.int v6), .val (.int v7), .val (.int v8), .val (.int v9), .val (.int v10), .val (.int v11), .val (.ref kp), .unset] [])) := by
  obtain ⟨hx, hZ, hw, hby, hml, hret, hown, hnm, hlk⟩ := B
  unfold f0_305 at hr
  refine Fin.by (B := T0.setTop (mkF m 310 #[.val (.int v0), .val (.int v1), .val (.int v2), .val (.int v3), .val (.ref b1), .val (.int v5), .val (.int v6), .val (.int v7), .val (.int v8), .val (.int v9), .val (.int v10), .val (.int v11), .val (.ref kp), .unset] [(.int (1 : Int32))])) (fun t k => ?_) ?_
  · show Steps p.tables e below (T0.setTop (mkF m 305 #[.val (.int v0), .val (.int v1), .val (.int v2), .val (.int v3), .val (.ref b1), .val (.int v5), .val (.int v6), .val (.int v7), .val (.int v8), .val (.int v9), .val (.int v10), .val (.int v11), .val (.ref kp), .unset] [])) _
    refine XS.iconst X0.here hx rfl (hb hby at_305) ?_
    show Steps p.tables e below (T0.setTop (mkF m 306 #[.val (.int v0), .val (.int v1), .val (.int v2), .val (.int v3), .val (.ref b1), .val (.int v5), .val (.int v6), .val (.int v7), .val (.int v8), .val (.int v9), .val (.int v10), .val (.int v11), .val (.ref kp), .unset] [(.int (1 : Int32))])) _
    refine XS.goto X0.here hx rfl (pc0 := 306) (pc' := 310) rfl (hb hby at_306) (by decide) (by decide) ?_
    exact k
  have i5_j : 0 ≤ v5.toInt ∧ 0 ≤ v6.toInt ∧ v6.toInt + v5.toInt ≤ 4 := by assumption
  have ik_j : kp_n = v7 := by assumption
  exact b0_310 ⟨hx, hZ, hw, hby, hml, hret, hown, hnm, hlk⟩ h0 n0 v0 v1 v2 v3 b1 v5 v6 v7 v8 v9 v10 v11 kp (1 : Int32) b1_k b1_xs kp_k kp_n kp_xs X0 e0 N0 Z0 V_b1 ln_b1 g_b1 V_kp ln_kp g_kp ne_b1_kp i5_j ik_j _ hr
def f0_309 (v0 : Int32) (v1 : Int32) (v2 : Int32) (v3 : Int32) (v5 : Int32) (v6 : Int32) (v7 : Int32) (v8 : Int32) (v9 : Int32) (v10 : Int32) (v11 : Int32) (b1_xs : List Int32) (kp_n : Int32) (kp_xs : List Int32) : Int32 := (f0_310 v0 v1 v2 v3 v5 v6 v7 v8 v9 v10 v11 (0 : Int32) b1_xs kp_n kp_xs)
set_option maxRecDepth 65536 in
set_option maxHeartbeats 40000000 in
theorem b0_309 {p : Program} {l : Launch} {e : Env} {s : State} {m : MethodId} {args : Array Value} {below : List Frame} {meth : Method} {c : Code} {Z : State} {a0 : Array Value} (B : Ctx p Z s a0 m meth c "com/example/tallywick/tallywick/xml/TreeBuilderSameBytesPinLaw" "law" code 14 (some .boolean)) {T0 : State} {locs : List Loc} {h : Heap} (h0 : Heap) (n0 : Nat) (v0 : Int32) (v1 : Int32) (v2 : Int32) (v3 : Int32) (b1 : Addr) (v5 : Int32) (v6 : Int32) (v7 : Int32) (v8 : Int32) (v9 : Int32) (v10 : Int32) (v11 : Int32) (kp : Addr) (b1_k : ClassId) (b1_xs : List Int32) (kp_k : ClassId) (kp_n : Int32) (kp_xs : List Int32) (X0 : Stand p l e room_1 s m args below meth c T0 locs 2 8) (e0 : T0.heap = h) (N0 : Fr n0 locs) (Z0 : n0 ≤ h.size) (V_b1 : Arv Z h b1 b1_k .byte (4 : Int32) (b1_xs.map Value.int) (.int 0)) (ln_b1 : b1_xs.length = (4 : Int32).toNatClampNeg) (g_b1 : n0 ≤ b1) (V_kp : Arv Z h kp kp_k .byte kp_n (kp_xs.map Value.int) (.int 0)) (ln_kp : kp_xs.length = kp_n.toNatClampNeg) (g_kp : n0 ≤ kp) (ne_b1_kp : b1 ≠ kp) (i5 : 0 ≤ v5.toInt ∧ 0 ≤ v6.toInt ∧ v6.toInt + v5.toInt ≤ 4) (ik : kp_n = v7) (r : Int32) (hr : f0_309 v0 v1 v2 v3 v5 v6 v7 v8 v9 v10 v11 b1_xs kp_n kp_xs = r) :
    Fin p e below s 2 8 (Q0 n0 r) (T0.setTop (mkF m 309 #[.val (.int v0), .val (.int v1), .val (.int v2), .val (.int v3), .val (.ref b1), .val (.int v5), .val (.int v6), .val (.int v7), .val (.int v8), .val (.int v9), .val (.int v10), .val (.int v11), .val (.ref kp), .unset] [])) := by
  obtain ⟨hx, hZ, hw, hby, hml, hret, hown, hnm, hlk⟩ := B
  unfold f0_309 at hr
  refine Fin.by (B := T0.setTop (mkF m 310 #[.val (.int v0), .val (.int v1), .val (.int v2), .val (.int v3), .val (.ref b1), .val (.int v5), .val (.int v6), .val (.int v7), .val (.int v8), .val (.int v9), .val (.int v10), .val (.int v11), .val (.ref kp), .unset] [(.int (0 : Int32))])) (fun t k => ?_) ?_
  · show Steps p.tables e below (T0.setTop (mkF m 309 #[.val (.int v0), .val (.int v1), .val (.int v2), .val (.int v3), .val (.ref b1), .val (.int v5), .val (.int v6), .val (.int v7), .val (.int v8), .val (.int v9), .val (.int v10), .val (.int v11), .val (.ref kp), .unset] [])) _
    refine XS.iconst X0.here hx rfl (hb hby at_309) ?_
    exact k
  have i5_j : 0 ≤ v5.toInt ∧ 0 ≤ v6.toInt ∧ v6.toInt + v5.toInt ≤ 4 := by assumption
  have ik_j : kp_n = v7 := by assumption
  exact b0_310 ⟨hx, hZ, hw, hby, hml, hret, hown, hnm, hlk⟩ h0 n0 v0 v1 v2 v3 b1 v5 v6 v7 v8 v9 v10 v11 kp (0 : Int32) b1_k b1_xs kp_k kp_n kp_xs X0 e0 N0 Z0 V_b1 ln_b1 g_b1 V_kp ln_kp g_kp ne_b1_kp i5_j ik_j _ hr
def f0_287 (v0 : Int32) (v1 : Int32) (v2 : Int32) (v3 : Int32) (v5 : Int32) (v6 : Int32) (v7 : Int32) (v8 : Int32) (v9 : Int32) (v10 : Int32) (v11 : Int32) (b1_xs : List Int32) (kp_n : Int32) (kp_xs : List Int32) : Int32 := (if v5 < (4 : Int32) then (f0_305 v0 v1 v2 v3 v5 v6 v7 v8 v9 v10 v11 b1_xs kp_n kp_xs) else (if v11 = (own_at b1_xs (v6 + (3 : Int32))) then (f0_305 v0 v1 v2 v3 v5 v6 v7 v8 v9 v10 v11 b1_xs kp_n kp_xs) else (f0_309 v0 v1 v2 v3 v5 v6 v7 v8 v9 v10 v11 b1_xs kp_n kp_xs)))
set_option maxRecDepth 65536 in
set_option maxHeartbeats 40000000 in
theorem b0_287 {p : Program} {l : Launch} {e : Env} {s : State} {m : MethodId} {args : Array Value} {below : List Frame} {meth : Method} {c : Code} {Z : State} {a0 : Array Value} (B : Ctx p Z s a0 m meth c "com/example/tallywick/tallywick/xml/TreeBuilderSameBytesPinLaw" "law" code 14 (some .boolean)) {T0 : State} {locs : List Loc} {h : Heap} (h0 : Heap) (n0 : Nat) (v0 : Int32) (v1 : Int32) (v2 : Int32) (v3 : Int32) (b1 : Addr) (v5 : Int32) (v6 : Int32) (v7 : Int32) (v8 : Int32) (v9 : Int32) (v10 : Int32) (v11 : Int32) (kp : Addr) (b1_k : ClassId) (b1_xs : List Int32) (kp_k : ClassId) (kp_n : Int32) (kp_xs : List Int32) (X0 : Stand p l e room_1 s m args below meth c T0 locs 2 8) (e0 : T0.heap = h) (N0 : Fr n0 locs) (Z0 : n0 ≤ h.size) (V_b1 : Arv Z h b1 b1_k .byte (4 : Int32) (b1_xs.map Value.int) (.int 0)) (ln_b1 : b1_xs.length = (4 : Int32).toNatClampNeg) (g_b1 : n0 ≤ b1) (V_kp : Arv Z h kp kp_k .byte kp_n (kp_xs.map Value.int) (.int 0)) (ln_kp : kp_xs.length = kp_n.toNatClampNeg) (g_kp : n0 ≤ kp) (ne_b1_kp : b1 ≠ kp) (i5 : 0 ≤ v5.toInt ∧ 0 ≤ v6.toInt ∧ v6.toInt + v5.toInt ≤ 4) (ik : kp_n = v7) (r : Int32) (hr : f0_287 v0 v1 v2 v3 v5 v6 v7 v8 v9 v10 v11 b1_xs kp_n kp_xs = r) :
    Fin p e below s 2 8 (Q0 n0 r) (T0.setTop (mkF m 287 #[.val (.int v0), .val (.int v1), .val (.int v2), .val (.int v3), .val (.ref b1), .val (.int v5), .val (.int v6), .val (.int v7), .val (.int v8), .val (.int v9), .val (.int v10), .val (.int v11), .val (.ref kp), .unset] [])) := by
  obtain ⟨hx, hZ, hw, hby, hml, hret, hown, hnm, hlk⟩ := B
  unfold f0_287 at hr
  refine Fin.by (B := T0.setTop (mkF m 290 #[.val (.int v0), .val (.int v1), .val (.int v2), .val (.int v3), .val (.ref b1), .val (.int v5), .val (.int v6), .val (.int v7), .val (.int v8), .val (.int v9), .val (.int v10), .val (.int v11), .val (.ref kp), .unset] [(.int (4 : Int32)), (.int v5)])) (fun t k => ?_) ?_
  · show Steps p.tables e below (T0.setTop (mkF m 287 #[.val (.int v0), .val (.int v1), .val (.int v2), .val (.int v3), .val (.ref b1), .val (.int v5), .val (.int v6), .val (.int v7), .val (.int v8), .val (.int v9), .val (.int v10), .val (.int v11), .val (.ref kp), .unset] [])) _
    refine XS.iload X0.here hx rfl (hb hby at_287) rfl  ?_
    show Steps p.tables e below (T0.setTop (mkF m 289 #[.val (.int v0), .val (.int v1), .val (.int v2), .val (.int v3), .val (.ref b1), .val (.int v5), .val (.int v6), .val (.int v7), .val (.int v8), .val (.int v9), .val (.int v10), .val (.int v11), .val (.ref kp), .unset] [(.int v5)])) _
    refine XS.iconst X0.here hx rfl (hb hby at_289) ?_
    exact k
  by_cases hc290 : v5 < (4 : Int32)
  · rw [if_pos hc290] at hr
    refine Fin.by (B := T0.setTop (mkF m 305 #[.val (.int v0), .val (.int v1), .val (.int v2), .val (.int v3), .val (.ref b1), .val (.int v5), .val (.int v6), .val (.int v7), .val (.int v8), .val (.int v9), .val (.int v10), .val (.int v11), .val (.ref kp), .unset] [])) (fun t k => ?_) ?_
    · show Steps p.tables e below (T0.setTop (mkF m 290 #[.val (.int v0), .val (.int v1), .val (.int v2), .val (.int v3), .val (.ref b1), .val (.int v5), .val (.int v6), .val (.int v7), .val (.int v8), .val (.int v9), .val (.int v10), .val (.int v11), .val (.ref kp), .unset] [(.int (4 : Int32)), (.int v5)])) _
      exact XS.icmpYes X0.here hx rfl (pc0 := 290) (pc' := 305) rfl (hb hby at_290) rfl (tlt hc290).1 (by decide) (by decide) k
    have i5_j : 0 ≤ v5.toInt ∧ 0 ≤ v6.toInt ∧ v6.toInt + v5.toInt ≤ 4 := by assumption
    have ik_j : kp_n = v7 := by assumption
    exact b0_305 ⟨hx, hZ, hw, hby, hml, hret, hown, hnm, hlk⟩ h0 n0 v0 v1 v2 v3 b1 v5 v6 v7 v8 v9 v10 v11 kp b1_k b1_xs kp_k kp_n kp_xs X0 e0 N0 Z0 V_b1 ln_b1 g_b1 V_kp ln_kp g_kp ne_b1_kp i5_j ik_j _ hr
  · rw [if_neg hc290] at hr
    refine Fin.by (B := T0.setTop (mkF m 293 #[.val (.int v0), .val (.int v1), .val (.int v2), .val (.int v3), .val (.ref b1), .val (.int v5), .val (.int v6), .val (.int v7), .val (.int v8), .val (.int v9), .val (.int v10), .val (.int v11), .val (.ref kp), .unset] [])) (fun t k => ?_) ?_
    · show Steps p.tables e below (T0.setTop (mkF m 290 #[.val (.int v0), .val (.int v1), .val (.int v2), .val (.int v3), .val (.ref b1), .val (.int v5), .val (.int v6), .val (.int v7), .val (.int v8), .val (.int v9), .val (.int v10), .val (.int v11), .val (.ref kp), .unset] [(.int (4 : Int32)), (.int v5)])) _
      exact XS.icmpNo X0.here hx rfl (hb hby at_290) rfl (flt hc290).1 k
    refine Fin.by (B := T0.setTop (mkF m 301 #[.val (.int v0), .val (.int v1), .val (.int v2), .val (.int v3), .val (.ref b1), .val (.int v5), .val (.int v6), .val (.int v7), .val (.int v8), .val (.int v9), .val (.int v10), .val (.int v11), .val (.ref kp), .unset] [(.int (v6 + (3 : Int32))), (.ref b1), (.int v11)])) (fun t k => ?_) ?_
    · show Steps p.tables e below (T0.setTop (mkF m 293 #[.val (.int v0), .val (.int v1), .val (.int v2), .val (.int v3), .val (.ref b1), .val (.int v5), .val (.int v6), .val (.int v7), .val (.int v8), .val (.int v9), .val (.int v10), .val (.int v11), .val (.ref kp), .unset] [])) _
      refine XS.iload X0.here hx rfl (hb hby at_293) rfl  ?_
      show Steps p.tables e below (T0.setTop (mkF m 295 #[.val (.int v0), .val (.int v1), .val (.int v2), .val (.int v3), .val (.ref b1), .val (.int v5), .val (.int v6), .val (.int v7), .val (.int v8), .val (.int v9), .val (.int v10), .val (.int v11), .val (.ref kp), .unset] [(.int v11)])) _
      refine XS.aload X0.here hx rfl (hb hby at_295) rfl rfl ?_
      show Steps p.tables e below (T0.setTop (mkF m 297 #[.val (.int v0), .val (.int v1), .val (.int v2), .val (.int v3), .val (.ref b1), .val (.int v5), .val (.int v6), .val (.int v7), .val (.int v8), .val (.int v9), .val (.int v10), .val (.int v11), .val (.ref kp), .unset] [(.ref b1), (.int v11)])) _
      refine XS.iload X0.here hx rfl (hb hby at_297) rfl  ?_
      show Steps p.tables e below (T0.setTop (mkF m 299 #[.val (.int v0), .val (.int v1), .val (.int v2), .val (.int v3), .val (.ref b1), .val (.int v5), .val (.int v6), .val (.int v7), .val (.int v8), .val (.int v9), .val (.int v10), .val (.int v11), .val (.ref kp), .unset] [(.int v6), (.ref b1), (.int v11)])) _
      refine XS.iconst X0.here hx rfl (hb hby at_299) ?_
      show Steps p.tables e below (T0.setTop (mkF m 300 #[.val (.int v0), .val (.int v1), .val (.int v2), .val (.int v3), .val (.ref b1), .val (.int v5), .val (.int v6), .val (.int v7), .val (.int v8), .val (.int v9), .val (.int v10), .val (.int v11), .val (.ref kp), .unset] [(.int (3 : Int32)), (.int v6), (.ref b1), (.int v11)])) _
      refine XS.iadd X0.here hx rfl (hb hby at_300) rfl ?_
      exact k
    have hin12 : ¬ ((v6 + (3 : Int32)) < 0) ∧ (v6 + (3 : Int32)) < (4 : Int32) := own_pl _ _ 3 i5 (by decide) hc290 (by decide)
    obtain ⟨cl12, Ar12, hi12, q12⟩ := own_readI V_b1 hin12 _ rfl
    refine Fin.by (B := T0.setTop (mkF m 302 #[.val (.int v0), .val (.int v1), .val (.int v2), .val (.int v3), .val (.ref b1), .val (.int v5), .val (.int v6), .val (.int v7), .val (.int v8), .val (.int v9), .val (.int v10), .val (.int v11), .val (.ref kp), .unset] [(.int (own_at b1_xs (v6 + (3 : Int32)))), (.int v11)])) (fun t k => ?_) ?_
    · show Steps p.tables e below (T0.setTop (mkF m 301 #[.val (.int v0), .val (.int v1), .val (.int v2), .val (.int v3), .val (.ref b1), .val (.int v5), .val (.int v6), .val (.int v7), .val (.int v8), .val (.int v9), .val (.int v10), .val (.int v11), .val (.ref kp), .unset] [(.int (v6 + (3 : Int32))), (.ref b1), (.int v11)])) _
      exact X0.baloadBytes hx (j := (v6 + (3 : Int32))) (v := (.int (own_at b1_xs (v6 + (3 : Int32))))) (by rw [e0]; exact Ar12.1) (State.isArrayOf_alike hZ.alike Ar12.2.1) Ar12.2.2 hi12 q12 (g := (mkF m 301 #[.val (.int v0), .val (.int v1), .val (.int v2), .val (.int v3), .val (.ref b1), .val (.int v5), .val (.int v6), .val (.int v7), .val (.int v8), .val (.int v9), .val (.int v10), .val (.int v11), .val (.ref kp), .unset] [(.int (v6 + (3 : Int32))), (.ref b1), (.int v11)])) rfl rfl (hb hby at_301) _ k
    by_cases hc302 : v11 = (own_at b1_xs (v6 + (3 : Int32)))
    · rw [if_pos hc302] at hr
      refine Fin.by (B := T0.setTop (mkF m 305 #[.val (.int v0), .val (.int v1), .val (.int v2), .val (.int v3), .val (.ref b1), .val (.int v5), .val (.int v6), .val (.int v7), .val (.int v8), .val (.int v9), .val (.int v10), .val (.int v11), .val (.ref kp), .unset] [])) (fun t k => ?_) ?_
      · show Steps p.tables e below (T0.setTop (mkF m 302 #[.val (.int v0), .val (.int v1), .val (.int v2), .val (.int v3), .val (.ref b1), .val (.int v5), .val (.int v6), .val (.int v7), .val (.int v8), .val (.int v9), .val (.int v10), .val (.int v11), .val (.ref kp), .unset] [(.int (own_at b1_xs (v6 + (3 : Int32)))), (.int v11)])) _
        exact XS.icmpNo X0.here hx rfl (hb hby at_302) rfl (teq hc302).2 k
      have i5_j : 0 ≤ v5.toInt ∧ 0 ≤ v6.toInt ∧ v6.toInt + v5.toInt ≤ 4 := by assumption
      have ik_j : kp_n = v7 := by assumption
      exact b0_305 ⟨hx, hZ, hw, hby, hml, hret, hown, hnm, hlk⟩ h0 n0 v0 v1 v2 v3 b1 v5 v6 v7 v8 v9 v10 v11 kp b1_k b1_xs kp_k kp_n kp_xs X0 e0 N0 Z0 V_b1 ln_b1 g_b1 V_kp ln_kp g_kp ne_b1_kp i5_j ik_j _ hr
    · rw [if_neg hc302] at hr
      refine Fin.by (B := T0.setTop (mkF m 309 #[.val (.int v0), .val (.int v1), .val (.int v2), .val (.int v3), .val (.ref b1), .val (.int v5), .val (.int v6), .val (.int v7), .val (.int v8), .val (.int v9), .val (.int v10), .val (.int v11), .val (.ref kp), .unset] [])) (fun t k => ?_) ?_
      · show Steps p.tables e below (T0.setTop (mkF m 302 #[.val (.int v0), .val (.int v1), .val (.int v2), .val (.int v3), .val (.ref b1), .val (.int v5), .val (.int v6), .val (.int v7), .val (.int v8), .val (.int v9), .val (.int v10), .val (.int v11), .val (.ref kp), .unset] [(.int (own_at b1_xs (v6 + (3 : Int32)))), (.int v11)])) _
        exact XS.icmpYes X0.here hx rfl (pc0 := 302) (pc' := 309) rfl (hb hby at_302) rfl (feq hc302).2 (by decide) (by decide) k
      have i5_j : 0 ≤ v5.toInt ∧ 0 ≤ v6.toInt ∧ v6.toInt + v5.toInt ≤ 4 := by assumption
      have ik_j : kp_n = v7 := by assumption
      exact b0_309 ⟨hx, hZ, hw, hby, hml, hret, hown, hnm, hlk⟩ h0 n0 v0 v1 v2 v3 b1 v5 v6 v7 v8 v9 v10 v11 kp b1_k b1_xs kp_k kp_n kp_xs X0 e0 N0 Z0 V_b1 ln_b1 g_b1 V_kp ln_kp g_kp ne_b1_kp i5_j ik_j _ hr
def f0_269 (v0 : Int32) (v1 : Int32) (v2 : Int32) (v3 : Int32) (v5 : Int32) (v6 : Int32) (v7 : Int32) (v8 : Int32) (v9 : Int32) (v10 : Int32) (v11 : Int32) (b1_xs : List Int32) (kp_n : Int32) (kp_xs : List Int32) : Int32 := (if v5 < (3 : Int32) then (f0_287 v0 v1 v2 v3 v5 v6 v7 v8 v9 v10 v11 b1_xs kp_n kp_xs) else (if v10 = (own_at b1_xs (v6 + (2 : Int32))) then (f0_287 v0 v1 v2 v3 v5 v6 v7 v8 v9 v10 v11 b1_xs kp_n kp_xs) else (f0_309 v0 v1 v2 v3 v5 v6 v7 v8 v9 v10 v11 b1_xs kp_n kp_xs)))
set_option maxRecDepth 65536 in
set_option maxHeartbeats 40000000 in
theorem b0_269 {p : Program} {l : Launch} {e : Env} {s : State} {m : MethodId} {args : Array Value} {below : List Frame} {meth : Method} {c : Code} {Z : State} {a0 : Array Value} (B : Ctx p Z s a0 m meth c "com/example/tallywick/tallywick/xml/TreeBuilderSameBytesPinLaw" "law" code 14 (some .boolean)) {T0 : State} {locs : List Loc} {h : Heap} (h0 : Heap) (n0 : Nat) (v0 : Int32) (v1 : Int32) (v2 : Int32) (v3 : Int32) (b1 : Addr) (v5 : Int32) (v6 : Int32) (v7 : Int32) (v8 : Int32) (v9 : Int32) (v10 : Int32) (v11 : Int32) (kp : Addr) (b1_k : ClassId) (b1_xs : List Int32) (kp_k : ClassId) (kp_n : Int32) (kp_xs : List Int32) (X0 : Stand p l e room_1 s m args below meth c T0 locs 2 8) (e0 : T0.heap = h) (N0 : Fr n0 locs) (Z0 : n0 ≤ h.size) (V_b1 : Arv Z h b1 b1_k .byte (4 : Int32) (b1_xs.map Value.int) (.int 0)) (ln_b1 : b1_xs.length = (4 : Int32).toNatClampNeg) (g_b1 : n0 ≤ b1) (V_kp : Arv Z h kp kp_k .byte kp_n (kp_xs.map Value.int) (.int 0)) (ln_kp : kp_xs.length = kp_n.toNatClampNeg) (g_kp : n0 ≤ kp) (ne_b1_kp : b1 ≠ kp) (i5 : 0 ≤ v5.toInt ∧ 0 ≤ v6.toInt ∧ v6.toInt + v5.toInt ≤ 4) (ik : kp_n = v7) (r : Int32) (hr : f0_269 v0 v1 v2 v3 v5 v6 v7 v8 v9 v10 v11 b1_xs kp_n kp_xs = r) :
    Fin p e below s 2 8 (Q0 n0 r) (T0.setTop (mkF m 269 #[.val (.int v0), .val (.int v1), .val (.int v2), .val (.int v3), .val (.ref b1), .val (.int v5), .val (.int v6), .val (.int v7), .val (.int v8), .val (.int v9), .val (.int v10), .val (.int v11), .val (.ref kp), .unset] [])) := by
  obtain ⟨hx, hZ, hw, hby, hml, hret, hown, hnm, hlk⟩ := B
  unfold f0_269 at hr
  refine Fin.by (B := T0.setTop (mkF m 272 #[.val (.int v0), .val (.int v1), .val (.int v2), .val (.int v3), .val (.ref b1), .val (.int v5), .val (.int v6), .val (.int v7), .val (.int v8), .val (.int v9), .val (.int v10), .val (.int v11), .val (.ref kp), .unset] [(.int (3 : Int32)), (.int v5)])) (fun t k => ?_) ?_
  · show Steps p.tables e below (T0.setTop (mkF m 269 #[.val (.int v0), .val (.int v1), .val (.int v2), .val (.int v3), .val (.ref b1), .val (.int v5), .val (.int v6), .val (.int v7), .val (.int v8), .val (.int v9), .val (.int v10), .val (.int v11), .val (.ref kp), .unset] [])) _
    refine XS.iload X0.here hx rfl (hb hby at_269) rfl  ?_
    show Steps p.tables e below (T0.setTop (mkF m 271 #[.val (.int v0), .val (.int v1), .val (.int v2), .val (.int v3), .val (.ref b1), .val (.int v5), .val (.int v6), .val (.int v7), .val (.int v8), .val (.int v9), .val (.int v10), .val (.int v11), .val (.ref kp), .unset] [(.int v5)])) _
    refine XS.iconst X0.here hx rfl (hb hby at_271) ?_
    exact k
  by_cases hc272 : v5 < (3 : Int32)
  · rw [if_pos hc272] at hr
    refine Fin.by (B := T0.setTop (mkF m 287 #[.val (.int v0), .val (.int v1), .val (.int v2), .val (.int v3), .val (.ref b1), .val (.int v5), .val (.int v6), .val (.int v7), .val (.int v8), .val (.int v9), .val (.int v10), .val (.int v11), .val (.ref kp), .unset] [])) (fun t k => ?_) ?_
    · show Steps p.tables e below (T0.setTop (mkF m 272 #[.val (.int v0), .val (.int v1), .val (.int v2), .val (.int v3), .val (.ref b1), .val (.int v5), .val (.int v6), .val (.int v7), .val (.int v8), .val (.int v9), .val (.int v10), .val (.int v11), .val (.ref kp), .unset] [(.int (3 : Int32)), (.int v5)])) _
      exact XS.icmpYes X0.here hx rfl (pc0 := 272) (pc' := 287) rfl (hb hby at_272) rfl (tlt hc272).1 (by decide) (by decide) k
    have i5_j : 0 ≤ v5.toInt ∧ 0 ≤ v6.toInt ∧ v6.toInt + v5.toInt ≤ 4 := by assumption
    have ik_j : kp_n = v7 := by assumption
    exact b0_287 ⟨hx, hZ, hw, hby, hml, hret, hown, hnm, hlk⟩ h0 n0 v0 v1 v2 v3 b1 v5 v6 v7 v8 v9 v10 v11 kp b1_k b1_xs kp_k kp_n kp_xs X0 e0 N0 Z0 V_b1 ln_b1 g_b1 V_kp ln_kp g_kp ne_b1_kp i5_j ik_j _ hr
  · rw [if_neg hc272] at hr
    refine Fin.by (B := T0.setTop (mkF m 275 #[.val (.int v0), .val (.int v1), .val (.int v2), .val (.int v3), .val (.ref b1), .val (.int v5), .val (.int v6), .val (.int v7), .val (.int v8), .val (.int v9), .val (.int v10), .val (.int v11), .val (.ref kp), .unset] [])) (fun t k => ?_) ?_
    · show Steps p.tables e below (T0.setTop (mkF m 272 #[.val (.int v0), .val (.int v1), .val (.int v2), .val (.int v3), .val (.ref b1), .val (.int v5), .val (.int v6), .val (.int v7), .val (.int v8), .val (.int v9), .val (.int v10), .val (.int v11), .val (.ref kp), .unset] [(.int (3 : Int32)), (.int v5)])) _
      exact XS.icmpNo X0.here hx rfl (hb hby at_272) rfl (flt hc272).1 k
    refine Fin.by (B := T0.setTop (mkF m 283 #[.val (.int v0), .val (.int v1), .val (.int v2), .val (.int v3), .val (.ref b1), .val (.int v5), .val (.int v6), .val (.int v7), .val (.int v8), .val (.int v9), .val (.int v10), .val (.int v11), .val (.ref kp), .unset] [(.int (v6 + (2 : Int32))), (.ref b1), (.int v10)])) (fun t k => ?_) ?_
    · show Steps p.tables e below (T0.setTop (mkF m 275 #[.val (.int v0), .val (.int v1), .val (.int v2), .val (.int v3), .val (.ref b1), .val (.int v5), .val (.int v6), .val (.int v7), .val (.int v8), .val (.int v9), .val (.int v10), .val (.int v11), .val (.ref kp), .unset] [])) _
      refine XS.iload X0.here hx rfl (hb hby at_275) rfl  ?_
      show Steps p.tables e below (T0.setTop (mkF m 277 #[.val (.int v0), .val (.int v1), .val (.int v2), .val (.int v3), .val (.ref b1), .val (.int v5), .val (.int v6), .val (.int v7), .val (.int v8), .val (.int v9), .val (.int v10), .val (.int v11), .val (.ref kp), .unset] [(.int v10)])) _
      refine XS.aload X0.here hx rfl (hb hby at_277) rfl rfl ?_
      show Steps p.tables e below (T0.setTop (mkF m 279 #[.val (.int v0), .val (.int v1), .val (.int v2), .val (.int v3), .val (.ref b1), .val (.int v5), .val (.int v6), .val (.int v7), .val (.int v8), .val (.int v9), .val (.int v10), .val (.int v11), .val (.ref kp), .unset] [(.ref b1), (.int v10)])) _
      refine XS.iload X0.here hx rfl (hb hby at_279) rfl  ?_
      show Steps p.tables e below (T0.setTop (mkF m 281 #[.val (.int v0), .val (.int v1), .val (.int v2), .val (.int v3), .val (.ref b1), .val (.int v5), .val (.int v6), .val (.int v7), .val (.int v8), .val (.int v9), .val (.int v10), .val (.int v11), .val (.ref kp), .unset] [(.int v6), (.ref b1), (.int v10)])) _
      refine XS.iconst X0.here hx rfl (hb hby at_281) ?_
      show Steps p.tables e below (T0.setTop (mkF m 282 #[.val (.int v0), .val (.int v1), .val (.int v2), .val (.int v3), .val (.ref b1), .val (.int v5), .val (.int v6), .val (.int v7), .val (.int v8), .val (.int v9), .val (.int v10), .val (.int v11), .val (.ref kp), .unset] [(.int (2 : Int32)), (.int v6), (.ref b1), (.int v10)])) _
      refine XS.iadd X0.here hx rfl (hb hby at_282) rfl ?_
      exact k
    have hin13 : ¬ ((v6 + (2 : Int32)) < 0) ∧ (v6 + (2 : Int32)) < (4 : Int32) := own_pl _ _ 2 i5 (by decide) hc272 (by decide)
    obtain ⟨cl13, Ar13, hi13, q13⟩ := own_readI V_b1 hin13 _ rfl
    refine Fin.by (B := T0.setTop (mkF m 284 #[.val (.int v0), .val (.int v1), .val (.int v2), .val (.int v3), .val (.ref b1), .val (.int v5), .val (.int v6), .val (.int v7), .val (.int v8), .val (.int v9), .val (.int v10), .val (.int v11), .val (.ref kp), .unset] [(.int (own_at b1_xs (v6 + (2 : Int32)))), (.int v10)])) (fun t k => ?_) ?_
    · show Steps p.tables e below (T0.setTop (mkF m 283 #[.val (.int v0), .val (.int v1), .val (.int v2), .val (.int v3), .val (.ref b1), .val (.int v5), .val (.int v6), .val (.int v7), .val (.int v8), .val (.int v9), .val (.int v10), .val (.int v11), .val (.ref kp), .unset] [(.int (v6 + (2 : Int32))), (.ref b1), (.int v10)])) _
      exact X0.baloadBytes hx (j := (v6 + (2 : Int32))) (v := (.int (own_at b1_xs (v6 + (2 : Int32))))) (by rw [e0]; exact Ar13.1) (State.isArrayOf_alike hZ.alike Ar13.2.1) Ar13.2.2 hi13 q13 (g := (mkF m 283 #[.val (.int v0), .val (.int v1), .val (.int v2), .val (.int v3), .val (.ref b1), .val (.int v5), .val (.int v6), .val (.int v7), .val (.int v8), .val (.int v9), .val (.int v10), .val (.int v11), .val (.ref kp), .unset] [(.int (v6 + (2 : Int32))), (.ref b1), (.int v10)])) rfl rfl (hb hby at_283) _ k
    by_cases hc284 : v10 = (own_at b1_xs (v6 + (2 : Int32)))
    · rw [if_pos hc284] at hr
      refine Fin.by (B := T0.setTop (mkF m 287 #[.val (.int v0), .val (.int v1), .val (.int v2), .val (.int v3), .val (.ref b1), .val (.int v5), .val (.int v6), .val (.int v7), .val (.int v8), .val (.int v9), .val (.int v10), .val (.int v11), .val (.ref kp), .unset] [])) (fun t k => ?_) ?_
      · show Steps p.tables e below (T0.setTop (mkF m 284 #[.val (.int v0), .val (.int v1), .val (.int v2), .val (.int v3), .val (.ref b1), .val (.int v5), .val (.int v6), .val (.int v7), .val (.int v8), .val (.int v9), .val (.int v10), .val (.int v11), .val (.ref kp), .unset] [(.int (own_at b1_xs (v6 + (2 : Int32)))), (.int v10)])) _
        exact XS.icmpNo X0.here hx rfl (hb hby at_284) rfl (teq hc284).2 k
      have i5_j : 0 ≤ v5.toInt ∧ 0 ≤ v6.toInt ∧ v6.toInt + v5.toInt ≤ 4 := by assumption
      have ik_j : kp_n = v7 := by assumption
      exact b0_287 ⟨hx, hZ, hw, hby, hml, hret, hown, hnm, hlk⟩ h0 n0 v0 v1 v2 v3 b1 v5 v6 v7 v8 v9 v10 v11 kp b1_k b1_xs kp_k kp_n kp_xs X0 e0 N0 Z0 V_b1 ln_b1 g_b1 V_kp ln_kp g_kp ne_b1_kp i5_j ik_j _ hr
    · rw [if_neg hc284] at hr
      refine Fin.by (B := T0.setTop (mkF m 309 #[.val (.int v0), .val (.int v1), .val (.int v2), .val (.int v3), .val (.ref b1), .val (.int v5), .val (.int v6), .val (.int v7), .val (.int v8), .val (.int v9), .val (.int v10), .val (.int v11), .val (.ref kp), .unset] [])) (fun t k => ?_) ?_
      · show Steps p.tables e below (T0.setTop (mkF m 284 #[.val (.int v0), .val (.int v1), .val (.int v2), .val (.int v3), .val (.ref b1), .val (.int v5), .val (.int v6), .val (.int v7), .val (.int v8), .val (.int v9), .val (.int v10), .val (.int v11), .val (.ref kp), .unset] [(.int (own_at b1_xs (v6 + (2 : Int32)))), (.int v10)])) _
        exact XS.icmpYes X0.here hx rfl (pc0 := 284) (pc' := 309) rfl (hb hby at_284) rfl (feq hc284).2 (by decide) (by decide) k
      have i5_j : 0 ≤ v5.toInt ∧ 0 ≤ v6.toInt ∧ v6.toInt + v5.toInt ≤ 4 := by assumption
      have ik_j : kp_n = v7 := by assumption
      exact b0_309 ⟨hx, hZ, hw, hby, hml, hret, hown, hnm, hlk⟩ h0 n0 v0 v1 v2 v3 b1 v5 v6 v7 v8 v9 v10 v11 kp b1_k b1_xs kp_k kp_n kp_xs X0 e0 N0 Z0 V_b1 ln_b1 g_b1 V_kp ln_kp g_kp ne_b1_kp i5_j ik_j _ hr
def f0_251 (v0 : Int32) (v1 : Int32) (v2 : Int32) (v3 : Int32) (v5 : Int32) (v6 : Int32) (v7 : Int32) (v8 : Int32) (v9 : Int32) (v10 : Int32) (v11 : Int32) (b1_xs : List Int32) (kp_n : Int32) (kp_xs : List Int32) : Int32 := (if v5 < (2 : Int32) then (f0_269 v0 v1 v2 v3 v5 v6 v7 v8 v9 v10 v11 b1_xs kp_n kp_xs) else (if v9 = (own_at b1_xs (v6 + (1 : Int32))) then (f0_269 v0 v1 v2 v3 v5 v6 v7 v8 v9 v10 v11 b1_xs kp_n kp_xs) else (f0_309 v0 v1 v2 v3 v5 v6 v7 v8 v9 v10 v11 b1_xs kp_n kp_xs)))
set_option maxRecDepth 65536 in
set_option maxHeartbeats 40000000 in
theorem b0_251 {p : Program} {l : Launch} {e : Env} {s : State} {m : MethodId} {args : Array Value} {below : List Frame} {meth : Method} {c : Code} {Z : State} {a0 : Array Value} (B : Ctx p Z s a0 m meth c "com/example/tallywick/tallywick/xml/TreeBuilderSameBytesPinLaw" "law" code 14 (some .boolean)) {T0 : State} {locs : List Loc} {h : Heap} (h0 : Heap) (n0 : Nat) (v0 : Int32) (v1 : Int32) (v2 : Int32) (v3 : Int32) (b1 : Addr) (v5 : Int32) (v6 : Int32) (v7 : Int32) (v8 : Int32) (v9 : Int32) (v10 : Int32) (v11 : Int32) (kp : Addr) (b1_k : ClassId) (b1_xs : List Int32) (kp_k : ClassId) (kp_n : Int32) (kp_xs : List Int32) (X0 : Stand p l e room_1 s m args below meth c T0 locs 2 8) (e0 : T0.heap = h) (N0 : Fr n0 locs) (Z0 : n0 ≤ h.size) (V_b1 : Arv Z h b1 b1_k .byte (4 : Int32) (b1_xs.map Value.int) (.int 0)) (ln_b1 : b1_xs.length = (4 : Int32).toNatClampNeg) (g_b1 : n0 ≤ b1) (V_kp : Arv Z h kp kp_k .byte kp_n (kp_xs.map Value.int) (.int 0)) (ln_kp : kp_xs.length = kp_n.toNatClampNeg) (g_kp : n0 ≤ kp) (ne_b1_kp : b1 ≠ kp) (i5 : 0 ≤ v5.toInt ∧ 0 ≤ v6.toInt ∧ v6.toInt + v5.toInt ≤ 4) (ik : kp_n = v7) (r : Int32) (hr : f0_251 v0 v1 v2 v3 v5 v6 v7 v8 v9 v10 v11 b1_xs kp_n kp_xs = r) :
    Fin p e below s 2 8 (Q0 n0 r) (T0.setTop (mkF m 251 #[.val (.int v0), .val (.int v1), .val (.int v2), .val (.int v3), .val (.ref b1), .val (.int v5), .val (.int v6), .val (.int v7), .val (.int v8), .val (.int v9), .val (.int v10), .val (.int v11), .val (.ref kp), .unset] [])) := by
  obtain ⟨hx, hZ, hw, hby, hml, hret, hown, hnm, hlk⟩ := B
  unfold f0_251 at hr
  refine Fin.by (B := T0.setTop (mkF m 254 #[.val (.int v0), .val (.int v1), .val (.int v2), .val (.int v3), .val (.ref b1), .val (.int v5), .val (.int v6), .val (.int v7), .val (.int v8), .val (.int v9), .val (.int v10), .val (.int v11), .val (.ref kp), .unset] [(.int (2 : Int32)), (.int v5)])) (fun t k => ?_) ?_
  · show Steps p.tables e below (T0.setTop (mkF m 251 #[.val (.int v0), .val (.int v1), .val (.int v2), .val (.int v3), .val (.ref b1), .val (.int v5), .val (.int v6), .val (.int v7), .val (.int v8), .val (.int v9), .val (.int v10), .val (.int v11), .val (.ref kp), .unset] [])) _
    refine XS.iload X0.here hx rfl (hb hby at_251) rfl  ?_
    show Steps p.tables e below (T0.setTop (mkF m 253 #[.val (.int v0), .val (.int v1), .val (.int v2), .val (.int v3), .val (.ref b1), .val (.int v5), .val (.int v6), .val (.int v7), .val (.int v8), .val (.int v9), .val (.int v10), .val (.int v11), .val (.ref kp), .unset] [(.int v5)])) _
    refine XS.iconst X0.here hx rfl (hb hby at_253) ?_
    exact k
  by_cases hc254 : v5 < (2 : Int32)
  · rw [if_pos hc254] at hr
    refine Fin.by (B := T0.setTop (mkF m 269 #[.val (.int v0), .val (.int v1), .val (.int v2), .val (.int v3), .val (.ref b1), .val (.int v5), .val (.int v6), .val (.int v7), .val (.int v8), .val (.int v9), .val (.int v10), .val (.int v11), .val (.ref kp), .unset] [])) (fun t k => ?_) ?_
    · show Steps p.tables e below (T0.setTop (mkF m 254 #[.val (.int v0), .val (.int v1), .val (.int v2), .val (.int v3), .val (.ref b1), .val (.int v5), .val (.int v6), .val (.int v7), .val (.int v8), .val (.int v9), .val (.int v10), .val (.int v11), .val (.ref kp), .unset] [(.int (2 : Int32)), (.int v5)])) _
      exact XS.icmpYes X0.here hx rfl (pc0 := 254) (pc' := 269) rfl (hb hby at_254) rfl (tlt hc254).1 (by decide) (by decide) k
    have i5_j : 0 ≤ v5.toInt ∧ 0 ≤ v6.toInt ∧ v6.toInt + v5.toInt ≤ 4 := by assumption
    have ik_j : kp_n = v7 := by assumption
    exact b0_269 ⟨hx, hZ, hw, hby, hml, hret, hown, hnm, hlk⟩ h0 n0 v0 v1 v2 v3 b1 v5 v6 v7 v8 v9 v10 v11 kp b1_k b1_xs kp_k kp_n kp_xs X0 e0 N0 Z0 V_b1 ln_b1 g_b1 V_kp ln_kp g_kp ne_b1_kp i5_j ik_j _ hr
  · rw [if_neg hc254] at hr
    refine Fin.by (B := T0.setTop (mkF m 257 #[.val (.int v0), .val (.int v1), .val (.int v2), .val (.int v3), .val (.ref b1), .val (.int v5), .val (.int v6), .val (.int v7), .val (.int v8), .val (.int v9), .val (.int v10), .val (.int v11), .val (.ref kp), .unset] [])) (fun t k => ?_) ?_
    · show Steps p.tables e below (T0.setTop (mkF m 254 #[.val (.int v0), .val (.int v1), .val (.int v2), .val (.int v3), .val (.ref b1), .val (.int v5), .val (.int v6), .val (.int v7), .val (.int v8), .val (.int v9), .val (.int v10), .val (.int v11), .val (.ref kp), .unset] [(.int (2 : Int32)), (.int v5)])) _
      exact XS.icmpNo X0.here hx rfl (hb hby at_254) rfl (flt hc254).1 k
    refine Fin.by (B := T0.setTop (mkF m 265 #[.val (.int v0), .val (.int v1), .val (.int v2), .val (.int v3), .val (.ref b1), .val (.int v5), .val (.int v6), .val (.int v7), .val (.int v8), .val (.int v9), .val (.int v10), .val (.int v11), .val (.ref kp), .unset] [(.int (v6 + (1 : Int32))), (.ref b1), (.int v9)])) (fun t k => ?_) ?_
    · show Steps p.tables e below (T0.setTop (mkF m 257 #[.val (.int v0), .val (.int v1), .val (.int v2), .val (.int v3), .val (.ref b1), .val (.int v5), .val (.int v6), .val (.int v7), .val (.int v8), .val (.int v9), .val (.int v10), .val (.int v11), .val (.ref kp), .unset] [])) _
      refine XS.iload X0.here hx rfl (hb hby at_257) rfl  ?_
      show Steps p.tables e below (T0.setTop (mkF m 259 #[.val (.int v0), .val (.int v1), .val (.int v2), .val (.int v3), .val (.ref b1), .val (.int v5), .val (.int v6), .val (.int v7), .val (.int v8), .val (.int v9), .val (.int v10), .val (.int v11), .val (.ref kp), .unset] [(.int v9)])) _
      refine XS.aload X0.here hx rfl (hb hby at_259) rfl rfl ?_
      show Steps p.tables e below (T0.setTop (mkF m 261 #[.val (.int v0), .val (.int v1), .val (.int v2), .val (.int v3), .val (.ref b1), .val (.int v5), .val (.int v6), .val (.int v7), .val (.int v8), .val (.int v9), .val (.int v10), .val (.int v11), .val (.ref kp), .unset] [(.ref b1), (.int v9)])) _
      refine XS.iload X0.here hx rfl (hb hby at_261) rfl  ?_
      show Steps p.tables e below (T0.setTop (mkF m 263 #[.val (.int v0), .val (.int v1), .val (.int v2), .val (.int v3), .val (.ref b1), .val (.int v5), .val (.int v6), .val (.int v7), .val (.int v8), .val (.int v9), .val (.int v10), .val (.int v11), .val (.ref kp), .unset] [(.int v6), (.ref b1), (.int v9)])) _
      refine XS.iconst X0.here hx rfl (hb hby at_263) ?_
      show Steps p.tables e below (T0.setTop (mkF m 264 #[.val (.int v0), .val (.int v1), .val (.int v2), .val (.int v3), .val (.ref b1), .val (.int v5), .val (.int v6), .val (.int v7), .val (.int v8), .val (.int v9), .val (.int v10), .val (.int v11), .val (.ref kp), .unset] [(.int (1 : Int32)), (.int v6), (.ref b1), (.int v9)])) _
      refine XS.iadd X0.here hx rfl (hb hby at_264) rfl ?_
      exact k
    have hin14 : ¬ ((v6 + (1 : Int32)) < 0) ∧ (v6 + (1 : Int32)) < (4 : Int32) := own_pl _ _ 1 i5 (by decide) hc254 (by decide)
    obtain ⟨cl14, Ar14, hi14, q14⟩ := own_readI V_b1 hin14 _ rfl
    refine Fin.by (B := T0.setTop (mkF m 266 #[.val (.int v0), .val (.int v1), .val (.int v2), .val (.int v3), .val (.ref b1), .val (.int v5), .val (.int v6), .val (.int v7), .val (.int v8), .val (.int v9), .val (.int v10), .val (.int v11), .val (.ref kp), .unset] [(.int (own_at b1_xs (v6 + (1 : Int32)))), (.int v9)])) (fun t k => ?_) ?_
    · show Steps p.tables e below (T0.setTop (mkF m 265 #[.val (.int v0), .val (.int v1), .val (.int v2), .val (.int v3), .val (.ref b1), .val (.int v5), .val (.int v6), .val (.int v7), .val (.int v8), .val (.int v9), .val (.int v10), .val (.int v11), .val (.ref kp), .unset] [(.int (v6 + (1 : Int32))), (.ref b1), (.int v9)])) _
      exact X0.baloadBytes hx (j := (v6 + (1 : Int32))) (v := (.int (own_at b1_xs (v6 + (1 : Int32))))) (by rw [e0]; exact Ar14.1) (State.isArrayOf_alike hZ.alike Ar14.2.1) Ar14.2.2 hi14 q14 (g := (mkF m 265 #[.val (.int v0), .val (.int v1), .val (.int v2), .val (.int v3), .val (.ref b1), .val (.int v5), .val (.int v6), .val (.int v7), .val (.int v8), .val (.int v9), .val (.int v10), .val (.int v11), .val (.ref kp), .unset] [(.int (v6 + (1 : Int32))), (.ref b1), (.int v9)])) rfl rfl (hb hby at_265) _ k
    by_cases hc266 : v9 = (own_at b1_xs (v6 + (1 : Int32)))
    · rw [if_pos hc266] at hr
      refine Fin.by (B := T0.setTop (mkF m 269 #[.val (.int v0), .val (.int v1), .val (.int v2), .val (.int v3), .val (.ref b1), .val (.int v5), .val (.int v6), .val (.int v7), .val (.int v8), .val (.int v9), .val (.int v10), .val (.int v11), .val (.ref kp), .unset] [])) (fun t k => ?_) ?_
      · show Steps p.tables e below (T0.setTop (mkF m 266 #[.val (.int v0), .val (.int v1), .val (.int v2), .val (.int v3), .val (.ref b1), .val (.int v5), .val (.int v6), .val (.int v7), .val (.int v8), .val (.int v9), .val (.int v10), .val (.int v11), .val (.ref kp), .unset] [(.int (own_at b1_xs (v6 + (1 : Int32)))), (.int v9)])) _
        exact XS.icmpNo X0.here hx rfl (hb hby at_266) rfl (teq hc266).2 k
      have i5_j : 0 ≤ v5.toInt ∧ 0 ≤ v6.toInt ∧ v6.toInt + v5.toInt ≤ 4 := by assumption
      have ik_j : kp_n = v7 := by assumption
      exact b0_269 ⟨hx, hZ, hw, hby, hml, hret, hown, hnm, hlk⟩ h0 n0 v0 v1 v2 v3 b1 v5 v6 v7 v8 v9 v10 v11 kp b1_k b1_xs kp_k kp_n kp_xs X0 e0 N0 Z0 V_b1 ln_b1 g_b1 V_kp ln_kp g_kp ne_b1_kp i5_j ik_j _ hr
    · rw [if_neg hc266] at hr
      refine Fin.by (B := T0.setTop (mkF m 309 #[.val (.int v0), .val (.int v1), .val (.int v2), .val (.int v3), .val (.ref b1), .val (.int v5), .val (.int v6), .val (.int v7), .val (.int v8), .val (.int v9), .val (.int v10), .val (.int v11), .val (.ref kp), .unset] [])) (fun t k => ?_) ?_
      · show Steps p.tables e below (T0.setTop (mkF m 266 #[.val (.int v0), .val (.int v1), .val (.int v2), .val (.int v3), .val (.ref b1), .val (.int v5), .val (.int v6), .val (.int v7), .val (.int v8), .val (.int v9), .val (.int v10), .val (.int v11), .val (.ref kp), .unset] [(.int (own_at b1_xs (v6 + (1 : Int32)))), (.int v9)])) _
        exact XS.icmpYes X0.here hx rfl (pc0 := 266) (pc' := 309) rfl (hb hby at_266) rfl (feq hc266).2 (by decide) (by decide) k
      have i5_j : 0 ≤ v5.toInt ∧ 0 ≤ v6.toInt ∧ v6.toInt + v5.toInt ≤ 4 := by assumption
      have ik_j : kp_n = v7 := by assumption
      exact b0_309 ⟨hx, hZ, hw, hby, hml, hret, hown, hnm, hlk⟩ h0 n0 v0 v1 v2 v3 b1 v5 v6 v7 v8 v9 v10 v11 kp b1_k b1_xs kp_k kp_n kp_xs X0 e0 N0 Z0 V_b1 ln_b1 g_b1 V_kp ln_kp g_kp ne_b1_kp i5_j ik_j _ hr
def f0_228 (v0 : Int32) (v1 : Int32) (v2 : Int32) (v3 : Int32) (v5 : Int32) (v6 : Int32) (v7 : Int32) (v8 : Int32) (v9 : Int32) (v10 : Int32) (v11 : Int32) (b1_xs : List Int32) (kp_n : Int32) (kp_xs : List Int32) : Int32 := (if v7 = v5 then (if v5 < (1 : Int32) then (f0_251 v0 v1 v2 v3 v5 v6 v7 v8 v9 v10 v11 b1_xs kp_n kp_xs) else (if v8 = (own_at b1_xs v6) then (f0_251 v0 v1 v2 v3 v5 v6 v7 v8 v9 v10 v11 b1_xs kp_n kp_xs) else (f0_309 v0 v1 v2 v3 v5 v6 v7 v8 v9 v10 v11 b1_xs kp_n kp_xs))) else (f0_309 v0 v1 v2 v3 v5 v6 v7 v8 v9 v10 v11 b1_xs kp_n kp_xs))
set_option maxRecDepth 65536 in
set_option maxHeartbeats 40000000 in
theorem b0_228 {p : Program} {l : Launch} {e : Env} {s : State} {m : MethodId} {args : Array Value} {below : List Frame} {meth : Method} {c : Code} {Z : State} {a0 : Array Value} (B : Ctx p Z s a0 m meth c "com/example/tallywick/tallywick/xml/TreeBuilderSameBytesPinLaw" "law" code 14 (some .boolean)) {T0 : State} {locs : List Loc} {h : Heap} (h0 : Heap) (n0 : Nat) (v0 : Int32) (v1 : Int32) (v2 : Int32) (v3 : Int32) (b1 : Addr) (v5 : Int32) (v6 : Int32) (v7 : Int32) (v8 : Int32) (v9 : Int32) (v10 : Int32) (v11 : Int32) (kp : Addr) (b1_k : ClassId) (b1_xs : List Int32) (kp_k : ClassId) (kp_n : Int32) (kp_xs : List Int32) (X0 : Stand p l e room_1 s m args below meth c T0 locs 2 8) (e0 : T0.heap = h) (N0 : Fr n0 locs) (Z0 : n0 ≤ h.size) (V_b1 : Arv Z h b1 b1_k .byte (4 : Int32) (b1_xs.map Value.int) (.int 0)) (ln_b1 : b1_xs.length = (4 : Int32).toNatClampNeg) (g_b1 : n0 ≤ b1) (V_kp : Arv Z h kp kp_k .byte kp_n (kp_xs.map Value.int) (.int 0)) (ln_kp : kp_xs.length = kp_n.toNatClampNeg) (g_kp : n0 ≤ kp) (ne_b1_kp : b1 ≠ kp) (i5 : 0 ≤ v5.toInt ∧ 0 ≤ v6.toInt ∧ v6.toInt + v5.toInt ≤ 4) (ik : kp_n = v7) (r : Int32) (hr : f0_228 v0 v1 v2 v3 v5 v6 v7 v8 v9 v10 v11 b1_xs kp_n kp_xs = r) :
    Fin p e below s 2 8 (Q0 n0 r) (T0.setTop (mkF m 228 #[.val (.int v0), .val (.int v1), .val (.int v2), .val (.int v3), .val (.ref b1), .val (.int v5), .val (.int v6), .val (.int v7), .val (.int v8), .val (.int v9), .val (.int v10), .val (.int v11), .val (.ref kp), .unset] [])) := by
  obtain ⟨hx, hZ, hw, hby, hml, hret, hown, hnm, hlk⟩ := B
  unfold f0_228 at hr
  refine Fin.by (B := T0.setTop (mkF m 232 #[.val (.int v0), .val (.int v1), .val (.int v2), .val (.int v3), .val (.ref b1), .val (.int v5), .val (.int v6), .val (.int v7), .val (.int v8), .val (.int v9), .val (.int v10), .val (.int v11), .val (.ref kp), .unset] [(.int v5), (.int v7)])) (fun t k => ?_) ?_
  · show Steps p.tables e below (T0.setTop (mkF m 228 #[.val (.int v0), .val (.int v1), .val (.int v2), .val (.int v3), .val (.ref b1), .val (.int v5), .val (.int v6), .val (.int v7), .val (.int v8), .val (.int v9), .val (.int v10), .val (.int v11), .val (.ref kp), .unset] [])) _
    refine XS.iload X0.here hx rfl (hb hby at_228) rfl  ?_
    show Steps p.tables e below (T0.setTop (mkF m 230 #[.val (.int v0), .val (.int v1), .val (.int v2), .val (.int v3), .val (.ref b1), .val (.int v5), .val (.int v6), .val (.int v7), .val (.int v8), .val (.int v9), .val (.int v10), .val (.int v11), .val (.ref kp), .unset] [(.int v7)])) _
    refine XS.iload X0.here hx rfl (hb hby at_230) rfl  ?_
    exact k
  by_cases hc232 : v7 = v5
  · rw [if_pos hc232] at hr
    refine Fin.by (B := T0.setTop (mkF m 235 #[.val (.int v0), .val (.int v1), .val (.int v2), .val (.int v3), .val (.ref b1), .val (.int v5), .val (.int v6), .val (.int v7), .val (.int v8), .val (.int v9), .val (.int v10), .val (.int v11), .val (.ref kp), .unset] [])) (fun t k => ?_) ?_
    · show Steps p.tables e below (T0.setTop (mkF m 232 #[.val (.int v0), .val (.int v1), .val (.int v2), .val (.int v3), .val (.ref b1), .val (.int v5), .val (.int v6), .val (.int v7), .val (.int v8), .val (.int v9), .val (.int v10), .val (.int v11), .val (.ref kp), .unset] [(.int v5), (.int v7)])) _
      exact XS.icmpNo X0.here hx rfl (hb hby at_232) rfl (teq hc232).2 k
    refine Fin.by (B := T0.setTop (mkF m 238 #[.val (.int v0), .val (.int v1), .val (.int v2), .val (.int v3), .val (.ref b1), .val (.int v5), .val (.int v6), .val (.int v7), .val (.int v8), .val (.int v9), .val (.int v10), .val (.int v11), .val (.ref kp), .unset] [(.int (1 : Int32)), (.int v5)])) (fun t k => ?_) ?_
    · show Steps p.tables e below (T0.setTop (mkF m 235 #[.val (.int v0), .val (.int v1), .val (.int v2), .val (.int v3), .val (.ref b1), .val (.int v5), .val (.int v6), .val (.int v7), .val (.int v8), .val (.int v9), .val (.int v10), .val (.int v11), .val (.ref kp), .unset] [])) _
      refine XS.iload X0.here hx rfl (hb hby at_235) rfl  ?_
      show Steps p.tables e below (T0.setTop (mkF m 237 #[.val (.int v0), .val (.int v1), .val (.int v2), .val (.int v3), .val (.ref b1), .val (.int v5), .val (.int v6), .val (.int v7), .val (.int v8), .val (.int v9), .val (.int v10), .val (.int v11), .val (.ref kp), .unset] [(.int v5)])) _
      refine XS.iconst X0.here hx rfl (hb hby at_237) ?_
      exact k
    by_cases hc238 : v5 < (1 : Int32)
    · rw [if_pos hc238] at hr
      refine Fin.by (B := T0.setTop (mkF m 251 #[.val (.int v0), .val (.int v1), .val (.int v2), .val (.int v3), .val (.ref b1), .val (.int v5), .val (.int v6), .val (.int v7), .val (.int v8), .val (.int v9), .val (.int v10), .val (.int v11), .val (.ref kp), .unset] [])) (fun t k => ?_) ?_
      · show Steps p.tables e below (T0.setTop (mkF m 238 #[.val (.int v0), .val (.int v1), .val (.int v2), .val (.int v3), .val (.ref b1), .val (.int v5), .val (.int v6), .val (.int v7), .val (.int v8), .val (.int v9), .val (.int v10), .val (.int v11), .val (.ref kp), .unset] [(.int (1 : Int32)), (.int v5)])) _
        exact XS.icmpYes X0.here hx rfl (pc0 := 238) (pc' := 251) rfl (hb hby at_238) rfl (tlt hc238).1 (by decide) (by decide) k
      have i5_j : 0 ≤ v5.toInt ∧ 0 ≤ v6.toInt ∧ v6.toInt + v5.toInt ≤ 4 := by assumption
      have ik_j : kp_n = v7 := by assumption
      exact b0_251 ⟨hx, hZ, hw, hby, hml, hret, hown, hnm, hlk⟩ h0 n0 v0 v1 v2 v3 b1 v5 v6 v7 v8 v9 v10 v11 kp b1_k b1_xs kp_k kp_n kp_xs X0 e0 N0 Z0 V_b1 ln_b1 g_b1 V_kp ln_kp g_kp ne_b1_kp i5_j ik_j _ hr
    · rw [if_neg hc238] at hr
      refine Fin.by (B := T0.setTop (mkF m 241 #[.val (.int v0), .val (.int v1), .val (.int v2), .val (.int v3), .val (.ref b1), .val (.int v5), .val (.int v6), .val (.int v7), .val (.int v8), .val (.int v9), .val (.int v10), .val (.int v11), .val (.ref kp), .unset] [])) (fun t k => ?_) ?_
      · show Steps p.tables e below (T0.setTop (mkF m 238 #[.val (.int v0), .val (.int v1), .val (.int v2), .val (.int v3), .val (.ref b1), .val (.int v5), .val (.int v6), .val (.int v7), .val (.int v8), .val (.int v9), .val (.int v10), .val (.int v11), .val (.ref kp), .unset] [(.int (1 : Int32)), (.int v5)])) _
        exact XS.icmpNo X0.here hx rfl (hb hby at_238) rfl (flt hc238).1 k
      refine Fin.by (B := T0.setTop (mkF m 247 #[.val (.int v0), .val (.int v1), .val (.int v2), .val (.int v3), .val (.ref b1), .val (.int v5), .val (.int v6), .val (.int v7), .val (.int v8), .val (.int v9), .val (.int v10), .val (.int v11), .val (.ref kp), .unset] [(.int v6), (.ref b1), (.int v8)])) (fun t k => ?_) ?_
      · show Steps p.tables e below (T0.setTop (mkF m 241 #[.val (.int v0), .val (.int v1), .val (.int v2), .val (.int v3), .val (.ref b1), .val (.int v5), .val (.int v6), .val (.int v7), .val (.int v8), .val (.int v9), .val (.int v10), .val (.int v11), .val (.ref kp), .unset] [])) _
        refine XS.iload X0.here hx rfl (hb hby at_241) rfl  ?_
        show Steps p.tables e below (T0.setTop (mkF m 243 #[.val (.int v0), .val (.int v1), .val (.int v2), .val (.int v3), .val (.ref b1), .val (.int v5), .val (.int v6), .val (.int v7), .val (.int v8), .val (.int v9), .val (.int v10), .val (.int v11), .val (.ref kp), .unset] [(.int v8)])) _
        refine XS.aload X0.here hx rfl (hb hby at_243) rfl rfl ?_
        show Steps p.tables e below (T0.setTop (mkF m 245 #[.val (.int v0), .val (.int v1), .val (.int v2), .val (.int v3), .val (.ref b1), .val (.int v5), .val (.int v6), .val (.int v7), .val (.int v8), .val (.int v9), .val (.int v10), .val (.int v11), .val (.ref kp), .unset] [(.ref b1), (.int v8)])) _
        refine XS.iload X0.here hx rfl (hb hby at_245) rfl  ?_
        exact k
      have hin15 : ¬ (v6 < 0) ∧ v6 < (4 : Int32) := own_p0 _ _ i5 hc238
      obtain ⟨cl15, Ar15, hi15, q15⟩ := own_readI V_b1 hin15 _ rfl
      refine Fin.by (B := T0.setTop (mkF m 248 #[.val (.int v0), .val (.int v1), .val (.int v2), .val (.int v3), .val (.ref b1), .val (.int v5), .val (.int v6), .val (.int v7), .val (.int v8), .val (.int v9), .val (.int v10), .val (.int v11), .val (.ref kp), .unset] [(.int (own_at b1_xs v6)), (.int v8)])) (fun t k => ?_) ?_
      · show Steps p.tables e below (T0.setTop (mkF m 247 #[.val (.int v0), .val (.int v1), .val (.int v2), .val (.int v3), .val (.ref b1), .val (.int v5), .val (.int v6), .val (.int v7), .val (.int v8), .val (.int v9), .val (.int v10), .val (.int v11), .val (.ref kp), .unset] [(.int v6), (.ref b1), (.int v8)])) _
        exact X0.baloadBytes hx (j := v6) (v := (.int (own_at b1_xs v6))) (by rw [e0]; exact Ar15.1) (State.isArrayOf_alike hZ.alike Ar15.2.1) Ar15.2.2 hi15 q15 (g := (mkF m 247 #[.val (.int v0), .val (.int v1), .val (.int v2), .val (.int v3), .val (.ref b1), .val (.int v5), .val (.int v6), .val (.int v7), .val (.int v8), .val (.int v9), .val (.int v10), .val (.int v11), .val (.ref kp), .unset] [(.int v6), (.ref b1), (.int v8)])) rfl rfl (hb hby at_247) _ k
      by_cases hc248 : v8 = (own_at b1_xs v6)
      · rw [if_pos hc248] at hr
        refine Fin.by (B := T0.setTop (mkF m 251 #[.val (.int v0), .val (.int v1), .val (.int v2), .val (.int v3), .val (.ref b1), .val (.int v5), .val (.int v6), .val (.int v7), .val (.int v8), .val (.int v9), .val (.int v10), .val (.int v11), .val (.ref kp), .unset] [])) (fun t k => ?_) ?_
        · show Steps p.tables e below (T0.setTop (mkF m 248 #[.val (.int v0), .val (.int v1), .val (.int v2), .val (.int v3), .val (.ref b1), .val (.int v5), .val (.int v6), .val (.int v7), .val (.int v8), .val (.int v9), .val (.int v10), .val (.int v11), .val (.ref kp), .unset] [(.int (own_at b1_xs v6)), (.int v8)])) _
          exact XS.icmpNo X0.here hx rfl (hb hby at_248) rfl (teq hc248).2 k
        have i5_j : 0 ≤ v5.toInt ∧ 0 ≤ v6.toInt ∧ v6.toInt + v5.toInt ≤ 4 := by assumption
        have ik_j : kp_n = v7 := by assumption
        exact b0_251 ⟨hx, hZ, hw, hby, hml, hret, hown, hnm, hlk⟩ h0 n0 v0 v1 v2 v3 b1 v5 v6 v7 v8 v9 v10 v11 kp b1_k b1_xs kp_k kp_n kp_xs X0 e0 N0 Z0 V_b1 ln_b1 g_b1 V_kp ln_kp g_kp ne_b1_kp i5_j ik_j _ hr
      · rw [if_neg hc248] at hr
        refine Fin.by (B := T0.setTop (mkF m 309 #[.val (.int v0), .val (.int v1), .val (.int v2), .val (.int v3), .val (.ref b1), .val (.int v5), .val (.int v6), .val (.int v7), .val (.int v8), .val (.int v9), .val (.int v10), .val (.int v11), .val (.ref kp), .unset] [])) (fun t k => ?_) ?_
        · show Steps p.tables e below (T0.setTop (mkF m 248 #[.val (.int v0), .val (.int v1), .val (.int v2), .val (.int v3), .val (.ref b1), .val (.int v5), .val (.int v6), .val (.int v7), .val (.int v8), .val (.int v9), .val (.int v10), .val (.int v11), .val (.ref kp), .unset] [(.int (own_at b1_xs v6)), (.int v8)])) _
          exact XS.icmpYes X0.here hx rfl (pc0 := 248) (pc' := 309) rfl (hb hby at_248) rfl (feq hc248).2 (by decide) (by decide) k
        have i5_j : 0 ≤ v5.toInt ∧ 0 ≤ v6.toInt ∧ v6.toInt + v5.toInt ≤ 4 := by assumption
        have ik_j : kp_n = v7 := by assumption
        exact b0_309 ⟨hx, hZ, hw, hby, hml, hret, hown, hnm, hlk⟩ h0 n0 v0 v1 v2 v3 b1 v5 v6 v7 v8 v9 v10 v11 kp b1_k b1_xs kp_k kp_n kp_xs X0 e0 N0 Z0 V_b1 ln_b1 g_b1 V_kp ln_kp g_kp ne_b1_kp i5_j ik_j _ hr
  · rw [if_neg hc232] at hr
    refine Fin.by (B := T0.setTop (mkF m 309 #[.val (.int v0), .val (.int v1), .val (.int v2), .val (.int v3), .val (.ref b1), .val (.int v5), .val (.int v6), .val (.int v7), .val (.int v8), .val (.int v9), .val (.int v10), .val (.int v11), .val (.ref kp), .unset] [])) (fun t k => ?_) ?_
    · show Steps p.tables e below (T0.setTop (mkF m 232 #[.val (.int v0), .val (.int v1), .val (.int v2), .val (.int v3), .val (.ref b1), .val (.int v5), .val (.int v6), .val (.int v7), .val (.int v8), .val (.int v9), .val (.int v10), .val (.int v11), .val (.ref kp), .unset] [(.int v5), (.int v7)])) _
      exact XS.icmpYes X0.here hx rfl (pc0 := 232) (pc' := 309) rfl (hb hby at_232) rfl (feq hc232).2 (by decide) (by decide) k
    have i5_j : 0 ≤ v5.toInt ∧ 0 ≤ v6.toInt ∧ v6.toInt + v5.toInt ≤ 4 := by assumption
    have ik_j : kp_n = v7 := by assumption
    exact b0_309 ⟨hx, hZ, hw, hby, hml, hret, hown, hnm, hlk⟩ h0 n0 v0 v1 v2 v3 b1 v5 v6 v7 v8 v9 v10 v11 kp b1_k b1_xs kp_k kp_n kp_xs X0 e0 N0 Z0 V_b1 ln_b1 g_b1 V_kp ln_kp g_kp ne_b1_kp i5_j ik_j _ hr
def f0_118 (v0 : Int32) (v1 : Int32) (v2 : Int32) (v3 : Int32) (v5 : Int32) (v6 : Int32) (v7 : Int32) (v8 : Int32) (v9 : Int32) (v10 : Int32) (v11 : Int32) (b1_xs : List Int32) : Int32 := (if v7 = (0 : Int32) then (f0_228 v0 v1 v2 v3 v5 v6 v7 v8 v9 v10 v11 b1_xs (0 : Int32) ([] : List Int32)) else (if v7 = (1 : Int32) then (f0_228 v0 v1 v2 v3 v5 v6 v7 v8 v9 v10 v11 b1_xs (1 : Int32) ([(v8.toInt8.toInt32)] : List Int32)) else (if v7 = (2 : Int32) then (f0_228 v0 v1 v2 v3 v5 v6 v7 v8 v9 v10 v11 b1_xs (2 : Int32) ([(v8.toInt8.toInt32), (v9.toInt8.toInt32)] : List Int32)) else (if v7 = (3 : Int32) then (f0_228 v0 v1 v2 v3 v5 v6 v7 v8 v9 v10 v11 b1_xs (3 : Int32) ([(v8.toInt8.toInt32), (v9.toInt8.toInt32), (v10.toInt8.toInt32)] : List Int32)) else (f0_228 v0 v1 v2 v3 v5 v6 v7 v8 v9 v10 v11 b1_xs (4 : Int32) ([(v8.toInt8.toInt32), (v9.toInt8.toInt32), (v10.toInt8.toInt32), (v11.toInt8.toInt32)] : List Int32))))))
set_option maxRecDepth 65536 in
set_option maxHeartbeats 40000000 in
theorem b0_118 {p : Program} {l : Launch} {e : Env} {s : State} {m : MethodId} {args : Array Value} {below : List Frame} {meth : Method} {c : Code} {Z : State} {a0 : Array Value} (B : Ctx p Z s a0 m meth c "com/example/tallywick/tallywick/xml/TreeBuilderSameBytesPinLaw" "law" code 14 (some .boolean)) {T0 : State} {locs : List Loc} {h : Heap} (h0 : Heap) (n0 : Nat) (v0 : Int32) (v1 : Int32) (v2 : Int32) (v3 : Int32) (b1 : Addr) (v5 : Int32) (v6 : Int32) (v7 : Int32) (v8 : Int32) (v9 : Int32) (v10 : Int32) (v11 : Int32) (b1_k : ClassId) (b1_xs : List Int32) (X0 : Stand p l e room_1 s m args below meth c T0 locs 1 4) (e0 : T0.heap = h) (N0 : Fr n0 locs) (Z0 : n0 ≤ h.size) (V_b1 : Arv Z h b1 b1_k .byte (4 : Int32) (b1_xs.map Value.int) (.int 0)) (ln_b1 : b1_xs.length = (4 : Int32).toNatClampNeg) (g_b1 : n0 ≤ b1) (i5 : 0 ≤ v5.toInt ∧ 0 ≤ v6.toInt ∧ v6.toInt + v5.toInt ≤ 4) (i7 : 0 ≤ v7.toInt ∧ v7.toInt ≤ 4) (r : Int32) (hr : f0_118 v0 v1 v2 v3 v5 v6 v7 v8 v9 v10 v11 b1_xs = r) :
    Fin p e below s 2 8 (Q0 n0 r) (T0.setTop (mkF m 118 #[.val (.int v0), .val (.int v1), .val (.int v2), .val (.int v3), .val (.ref b1), .val (.int v5), .val (.int v6), .val (.int v7), .val (.int v8), .val (.int v9), .val (.int v10), .val (.int v11), .unset, .unset] [])) := by
  obtain ⟨hx, hZ, hw, hby, hml, hret, hown, hnm, hlk⟩ := B
  unfold f0_118 at hr
  refine Fin.by (B := T0.setTop (mkF m 120 #[.val (.int v0), .val (.int v1), .val (.int v2), .val (.int v3), .val (.ref b1), .val (.int v5), .val (.int v6), .val (.int v7), .val (.int v8), .val (.int v9), .val (.int v10), .val (.int v11), .unset, .unset] [(.int v7)])) (fun t k => ?_) ?_
  · show Steps p.tables e below (T0.setTop (mkF m 118 #[.val (.int v0), .val (.int v1), .val (.int v2), .val (.int v3), .val (.ref b1), .val (.int v5), .val (.int v6), .val (.int v7), .val (.int v8), .val (.int v9), .val (.int v10), .val (.int v11), .unset, .unset] [])) _
    refine XS.iload X0.here hx rfl (hb hby at_118) rfl  ?_
    exact k
  by_cases hc120 : v7 = (0 : Int32)
  · rw [if_pos hc120] at hr
    refine Fin.by (B := T0.setTop (mkF m 123 #[.val (.int v0), .val (.int v1), .val (.int v2), .val (.int v3), .val (.ref b1), .val (.int v5), .val (.int v6), .val (.int v7), .val (.int v8), .val (.int v9), .val (.int v10), .val (.int v11), .unset, .unset] [])) (fun t k => ?_) ?_
    · show Steps p.tables e below (T0.setTop (mkF m 120 #[.val (.int v0), .val (.int v1), .val (.int v2), .val (.int v3), .val (.ref b1), .val (.int v5), .val (.int v6), .val (.int v7), .val (.int v8), .val (.int v9), .val (.int v10), .val (.int v11), .unset, .unset] [(.int v7)])) _
      exact XS.ifNo X0.here hx rfl (hb hby at_120) rfl ((if0 _ _).trans (teq hc120).2) k
    refine Fin.by (B := T0.setTop (mkF m 124 #[.val (.int v0), .val (.int v1), .val (.int v2), .val (.int v3), .val (.ref b1), .val (.int v5), .val (.int v6), .val (.int v7), .val (.int v8), .val (.int v9), .val (.int v10), .val (.int v11), .unset, .unset] [(.int (0 : Int32))])) (fun t k => ?_) ?_
    · show Steps p.tables e below (T0.setTop (mkF m 123 #[.val (.int v0), .val (.int v1), .val (.int v2), .val (.int v3), .val (.ref b1), .val (.int v5), .val (.int v6), .val (.int v7), .val (.int v8), .val (.int v9), .val (.int v10), .val (.int v11), .unset, .unset] [])) _
      refine XS.iconst X0.here hx rfl (hb hby at_123) ?_
      exact k
    obtain ⟨T10, h10, k10, X10, e10, X10e, A10, st10⟩ := newP X0 hx hZ (hw _ (List.mem_of_getElem? (i := 0) rfl)) e0 (g := (mkF m 124 #[.val (.int v0), .val (.int v1), .val (.int v2), .val (.int v3), .val (.ref b1), .val (.int v5), .val (.int v6), .val (.int v7), .val (.int v8), .val (.int v9), .val (.int v10), .val (.int v11), .unset, .unset] [(.int (0 : Int32))])) rfl (hb hby at_124) rfl (by decide) (cap := 0) (by decide) (by decide) (by decide) (by decide)
    obtain ⟨kp, g10⟩ : ∃ z, z = h.size := ⟨_, rfl⟩
    rw [← g10] at A10 st10
    have g_kp : n0 ≤ kp := Nat.le_trans Z0 (Nat.le_of_eq g10.symm)
    have ne_b1_kp : b1 ≠ kp := Nat.ne_of_lt (Nat.lt_of_lt_of_le V_b1.lt (Nat.le_of_eq g10.symm))
    have V_b1_10 := V_b1.ext X10e
    have Z10 : n0 ≤ h10.size := Nat.le_trans Z0 X10e.1
    obtain ⟨V_kp_10, ln_kp_10⟩ : Arv Z h10 kp k10 .byte (0 : Int32) (([] : List Int32).map Value.int) (.int 0) ∧ ([] : List Int32).length = (0 : Int32).toNatClampNeg := own_newI A10 rfl (by decide) (xs := ([] : List Int32)) (by decide)
    refine Fin.by (B := T10.setTop (mkF m 126 #[.val (.int v0), .val (.int v1), .val (.int v2), .val (.int v3), .val (.ref b1), .val (.int v5), .val (.int v6), .val (.int v7), .val (.int v8), .val (.int v9), .val (.int v10), .val (.int v11), .unset, .unset] [(.ref kp)])) (fun t k => st10 t k) ?_
    refine Fin.by (B := T10.setTop (mkF m 228 #[.val (.int v0), .val (.int v1), .val (.int v2), .val (.int v3), .val (.ref b1), .val (.int v5), .val (.int v6), .val (.int v7), .val (.int v8), .val (.int v9), .val (.int v10), .val (.int v11), .val (.ref kp), .unset] [])) (fun t k => ?_) ?_
    · show Steps p.tables e below (T10.setTop (mkF m 126 #[.val (.int v0), .val (.int v1), .val (.int v2), .val (.int v3), .val (.ref b1), .val (.int v5), .val (.int v6), .val (.int v7), .val (.int v8), .val (.int v9), .val (.int v10), .val (.int v11), .unset, .unset] [(.ref kp)])) _
      refine XS.astore X10.here hx rfl (hb hby at_126) rfl rfl (l' := #[.val (.int v0), .val (.int v1), .val (.int v2), .val (.int v3), .val (.ref b1), .val (.int v5), .val (.int v6), .val (.int v7), .val (.int v8), .val (.int v9), .val (.int v10), .val (.int v11), .val (.ref kp), .unset]) rfl ?_
      show Steps p.tables e below (T10.setTop (mkF m 128 #[.val (.int v0), .val (.int v1), .val (.int v2), .val (.int v3), .val (.ref b1), .val (.int v5), .val (.int v6), .val (.int v7), .val (.int v8), .val (.int v9), .val (.int v10), .val (.int v11), .val (.ref kp), .unset] [])) _
      refine XS.goto X10.here hx rfl (pc0 := 128) (pc' := 228) rfl (hb hby at_128) (by decide) (by decide) ?_
      exact k
    have i5_j : 0 ≤ v5.toInt ∧ 0 ≤ v6.toInt ∧ v6.toInt + v5.toInt ≤ 4 := by assumption
    have ik_j : (0 : Int32) = v7 := by first | exact hc120.symm | exact hc134.symm | exact hc153.symm | exact hc177.symm | exact own_k4 _ i7 hc120 hc134 hc153 hc177
    exact b0_228 ⟨hx, hZ, hw, hby, hml, hret, hown, hnm, hlk⟩ h0 n0 v0 v1 v2 v3 b1 v5 v6 v7 v8 v9 v10 v11 kp b1_k b1_xs k10 (0 : Int32) ([] : List Int32) (X10.more (by decide) (by decide)) e10 N0 Z10 V_b1_10 ln_b1 g_b1 V_kp_10 ln_kp_10 g_kp ne_b1_kp i5_j ik_j _ hr
  · rw [if_neg hc120] at hr
    refine Fin.by (B := T0.setTop (mkF m 131 #[.val (.int v0), .val (.int v1), .val (.int v2), .val (.int v3), .val (.ref b1), .val (.int v5), .val (.int v6), .val (.int v7), .val (.int v8), .val (.int v9), .val (.int v10), .val (.int v11), .unset, .unset] [])) (fun t k => ?_) ?_
    · show Steps p.tables e below (T0.setTop (mkF m 120 #[.val (.int v0), .val (.int v1), .val (.int v2), .val (.int v3), .val (.ref b1), .val (.int v5), .val (.int v6), .val (.int v7), .val (.int v8), .val (.int v9), .val (.int v10), .val (.int v11), .unset, .unset] [(.int v7)])) _
      exact XS.ifYes X0.here hx rfl (pc0 := 120) (pc' := 131) rfl (hb hby at_120) rfl ((if0 _ _).trans (feq hc120).2) (by decide) (by decide) k
    refine Fin.by (B := T0.setTop (mkF m 134 #[.val (.int v0), .val (.int v1), .val (.int v2), .val (.int v3), .val (.ref b1), .val (.int v5), .val (.int v6), .val (.int v7), .val (.int v8), .val (.int v9), .val (.int v10), .val (.int v11), .unset, .unset] [(.int (1 : Int32)), (.int v7)])) (fun t k => ?_) ?_
    · show Steps p.tables e below (T0.setTop (mkF m 131 #[.val (.int v0), .val (.int v1), .val (.int v2), .val (.int v3), .val (.ref b1), .val (.int v5), .val (.int v6), .val (.int v7), .val (.int v8), .val (.int v9), .val (.int v10), .val (.int v11), .unset, .unset] [])) _
      refine XS.iload X0.here hx rfl (hb hby at_131) rfl  ?_
      show Steps p.tables e below (T0.setTop (mkF m 133 #[.val (.int v0), .val (.int v1), .val (.int v2), .val (.int v3), .val (.ref b1), .val (.int v5), .val (.int v6), .val (.int v7), .val (.int v8), .val (.int v9), .val (.int v10), .val (.int v11), .unset, .unset] [(.int v7)])) _
      refine XS.iconst X0.here hx rfl (hb hby at_133) ?_
      exact k
    by_cases hc134 : v7 = (1 : Int32)
    · rw [if_pos hc134] at hr
      refine Fin.by (B := T0.setTop (mkF m 137 #[.val (.int v0), .val (.int v1), .val (.int v2), .val (.int v3), .val (.ref b1), .val (.int v5), .val (.int v6), .val (.int v7), .val (.int v8), .val (.int v9), .val (.int v10), .val (.int v11), .unset, .unset] [])) (fun t k => ?_) ?_
      · show Steps p.tables e below (T0.setTop (mkF m 134 #[.val (.int v0), .val (.int v1), .val (.int v2), .val (.int v3), .val (.ref b1), .val (.int v5), .val (.int v6), .val (.int v7), .val (.int v8), .val (.int v9), .val (.int v10), .val (.int v11), .unset, .unset] [(.int (1 : Int32)), (.int v7)])) _
        exact XS.icmpNo X0.here hx rfl (hb hby at_134) rfl (teq hc134).2 k
      refine Fin.by (B := T0.setTop (mkF m 138 #[.val (.int v0), .val (.int v1), .val (.int v2), .val (.int v3), .val (.ref b1), .val (.int v5), .val (.int v6), .val (.int v7), .val (.int v8), .val (.int v9), .val (.int v10), .val (.int v11), .unset, .unset] [(.int (1 : Int32))])) (fun t k => ?_) ?_
      · show Steps p.tables e below (T0.setTop (mkF m 137 #[.val (.int v0), .val (.int v1), .val (.int v2), .val (.int v3), .val (.ref b1), .val (.int v5), .val (.int v6), .val (.int v7), .val (.int v8), .val (.int v9), .val (.int v10), .val (.int v11), .unset, .unset] [])) _
        refine XS.iconst X0.here hx rfl (hb hby at_137) ?_
        exact k
      obtain ⟨T16, h16, k16, X16, e16, X16e, A16, st16⟩ := newP X0 hx hZ (hw _ (List.mem_of_getElem? (i := 0) rfl)) e0 (g := (mkF m 138 #[.val (.int v0), .val (.int v1), .val (.int v2), .val (.int v3), .val (.ref b1), .val (.int v5), .val (.int v6), .val (.int v7), .val (.int v8), .val (.int v9), .val (.int v10), .val (.int v11), .unset, .unset] [(.int (1 : Int32))])) rfl (hb hby at_138) rfl (by decide) (cap := 1) (by decide) (by decide) (by decide) (by decide)
      obtain ⟨kp, g16⟩ : ∃ z, z = h.size := ⟨_, rfl⟩
      rw [← g16] at A16 st16
      have g_kp : n0 ≤ kp := Nat.le_trans Z0 (Nat.le_of_eq g16.symm)
      have ne_b1_kp : b1 ≠ kp := Nat.ne_of_lt (Nat.lt_of_lt_of_le V_b1.lt (Nat.le_of_eq g16.symm))
      have V_b1_16 := V_b1.ext X16e
      have Z16 : n0 ≤ h16.size := Nat.le_trans Z0 X16e.1
      obtain ⟨V_kp_16, ln_kp_16⟩ : Arv Z h16 kp k16 .byte (1 : Int32) (([0] : List Int32).map Value.int) (.int 0) ∧ ([0] : List Int32).length = (1 : Int32).toNatClampNeg := own_newI A16 rfl (by decide) (xs := ([0] : List Int32)) (by decide)
      refine Fin.by (B := T16.setTop (mkF m 140 #[.val (.int v0), .val (.int v1), .val (.int v2), .val (.int v3), .val (.ref b1), .val (.int v5), .val (.int v6), .val (.int v7), .val (.int v8), .val (.int v9), .val (.int v10), .val (.int v11), .unset, .unset] [(.ref kp)])) (fun t k => st16 t k) ?_
      refine Fin.by (B := T16.setTop (mkF m 144 #[.val (.int v0), .val (.int v1), .val (.int v2), .val (.int v3), .val (.ref b1), .val (.int v5), .val (.int v6), .val (.int v7), .val (.int v8), .val (.int v9), .val (.int v10), .val (.int v11), .unset, .unset] [(.int v8), (.int (0 : Int32)), (.ref kp), (.ref kp)])) (fun t k => ?_) ?_
      · show Steps p.tables e below (T16.setTop (mkF m 140 #[.val (.int v0), .val (.int v1), .val (.int v2), .val (.int v3), .val (.ref b1), .val (.int v5), .val (.int v6), .val (.int v7), .val (.int v8), .val (.int v9), .val (.int v10), .val (.int v11), .unset, .unset] [(.ref kp)])) _
        refine XS.dup X16.here hx rfl (hb hby at_140) rfl rfl ?_
        show Steps p.tables e below (T16.setTop (mkF m 141 #[.val (.int v0), .val (.int v1), .val (.int v2), .val (.int v3), .val (.ref b1), .val (.int v5), .val (.int v6), .val (.int v7), .val (.int v8), .val (.int v9), .val (.int v10), .val (.int v11), .unset, .unset] [(.ref kp), (.ref kp)])) _
        refine XS.iconst X16.here hx rfl (hb hby at_141) ?_
        show Steps p.tables e below (T16.setTop (mkF m 142 #[.val (.int v0), .val (.int v1), .val (.int v2), .val (.int v3), .val (.ref b1), .val (.int v5), .val (.int v6), .val (.int v7), .val (.int v8), .val (.int v9), .val (.int v10), .val (.int v11), .unset, .unset] [(.int (0 : Int32)), (.ref kp), (.ref kp)])) _
        refine XS.iload X16.here hx rfl (hb hby at_142) rfl  ?_
        exact k
      have hin17 : ¬ ((0 : Int32) < 0) ∧ (0 : Int32) < (1 : Int32) := by decide
      obtain ⟨cl17, Ar17, hi17, q17⟩ := own_open V_kp_16 hin17
      obtain ⟨T17, h17, X17, e17, W17, st17⟩ := stB X16 hx hZ e16 Ar17 (j := (0 : Int32)) hi17 (g := (mkF m 144 #[.val (.int v0), .val (.int v1), .val (.int v2), .val (.int v3), .val (.ref b1), .val (.int v5), .val (.int v6), .val (.int v7), .val (.int v8), .val (.int v9), .val (.int v10), .val (.int v11), .unset, .unset] [(.int v8), (.int (0 : Int32)), (.ref kp), (.ref kp)])) rfl rfl (hb hby at_144)
      have V_b1_17 := V_b1_16.other W17 ne_b1_kp
      obtain ⟨V_kp_17, ln_kp_17⟩ : Arv Z h17 kp k16 .byte (1 : Int32) (([(v8.toInt8.toInt32)] : List Int32).map Value.int) (.int 0) ∧ ([(v8.toInt8.toInt32)] : List Int32).length = (1 : Int32).toNatClampNeg := own_setI V_kp_16 ln_kp_16 hin17 W17 (fits_nar_byte _) 0 (by decide)
      have N17 := Fr.snoc X17 N0 g_kp
      have Z17 : n0 ≤ h17.size := Nat.le_trans Z16 (Nat.le_of_eq W17.size.symm)
      refine Fin.by (B := T17.setTop (mkF m 145 #[.val (.int v0), .val (.int v1), .val (.int v2), .val (.int v3), .val (.ref b1), .val (.int v5), .val (.int v6), .val (.int v7), .val (.int v8), .val (.int v9), .val (.int v10), .val (.int v11), .unset, .unset] [(.ref kp)])) (fun t k => st17 t k) ?_
      refine Fin.by (B := T17.setTop (mkF m 228 #[.val (.int v0), .val (.int v1), .val (.int v2), .val (.int v3), .val (.ref b1), .val (.int v5), .val (.int v6), .val (.int v7), .val (.int v8), .val (.int v9), .val (.int v10), .val (.int v11), .val (.ref kp), .unset] [])) (fun t k => ?_) ?_
      · show Steps p.tables e below (T17.setTop (mkF m 145 #[.val (.int v0), .val (.int v1), .val (.int v2), .val (.int v3), .val (.ref b1), .val (.int v5), .val (.int v6), .val (.int v7), .val (.int v8), .val (.int v9), .val (.int v10), .val (.int v11), .unset, .unset] [(.ref kp)])) _
        refine XS.astore X17.here hx rfl (hb hby at_145) rfl rfl (l' := #[.val (.int v0), .val (.int v1), .val (.int v2), .val (.int v3), .val (.ref b1), .val (.int v5), .val (.int v6), .val (.int v7), .val (.int v8), .val (.int v9), .val (.int v10), .val (.int v11), .val (.ref kp), .unset]) rfl ?_
        show Steps p.tables e below (T17.setTop (mkF m 147 #[.val (.int v0), .val (.int v1), .val (.int v2), .val (.int v3), .val (.ref b1), .val (.int v5), .val (.int v6), .val (.int v7), .val (.int v8), .val (.int v9), .val (.int v10), .val (.int v11), .val (.ref kp), .unset] [])) _
        refine XS.goto X17.here hx rfl (pc0 := 147) (pc' := 228) rfl (hb hby at_147) (by decide) (by decide) ?_
        exact k
      have i5_j : 0 ≤ v5.toInt ∧ 0 ≤ v6.toInt ∧ v6.toInt + v5.toInt ≤ 4 := by assumption
      have ik_j : (1 : Int32) = v7 := by first | exact hc120.symm | exact hc134.symm | exact hc153.symm | exact hc177.symm | exact own_k4 _ i7 hc120 hc134 hc153 hc177
      exact b0_228 ⟨hx, hZ, hw, hby, hml, hret, hown, hnm, hlk⟩ h0 n0 v0 v1 v2 v3 b1 v5 v6 v7 v8 v9 v10 v11 kp b1_k b1_xs k16 (1 : Int32) ([(v8.toInt8.toInt32)] : List Int32) (X17.more (by decide) (by decide)) e17 N17 Z17 V_b1_17 ln_b1 g_b1 V_kp_17 ln_kp_17 g_kp ne_b1_kp i5_j ik_j _ hr
    · rw [if_neg hc134] at hr
      refine Fin.by (B := T0.setTop (mkF m 150 #[.val (.int v0), .val (.int v1), .val (.int v2), .val (.int v3), .val (.ref b1), .val (.int v5), .val (.int v6), .val (.int v7), .val (.int v8), .val (.int v9), .val (.int v10), .val (.int v11), .unset, .unset] [])) (fun t k => ?_) ?_
      · show Steps p.tables e below (T0.setTop (mkF m 134 #[.val (.int v0), .val (.int v1), .val (.int v2), .val (.int v3), .val (.ref b1), .val (.int v5), .val (.int v6), .val (.int v7), .val (.int v8), .val (.int v9), .val (.int v10), .val (.int v11), .unset, .unset] [(.int (1 : Int32)), (.int v7)])) _
        exact XS.icmpYes X0.here hx rfl (pc0 := 134) (pc' := 150) rfl (hb hby at_134) rfl (feq hc134).2 (by decide) (by decide) k
      refine Fin.by (B := T0.setTop (mkF m 153 #[.val (.int v0), .val (.int v1), .val (.int v2), .val (.int v3), .val (.ref b1), .val (.int v5), .val (.int v6), .val (.int v7), .val (.int v8), .val (.int v9), .val (.int v10), .val (.int v11), .unset, .unset] [(.int (2 : Int32)), (.int v7)])) (fun t k => ?_) ?_
      · show Steps p.tables e below (T0.setTop (mkF m 150 #[.val (.int v0), .val (.int v1), .val (.int v2), .val (.int v3), .val (.ref b1), .val (.int v5), .val (.int v6), .val (.int v7), .val (.int v8), .val (.int v9), .val (.int v10), .val (.int v11), .unset, .unset] [])) _
        refine XS.iload X0.here hx rfl (hb hby at_150) rfl  ?_
        show Steps p.tables e below (T0.setTop (mkF m 152 #[.val (.int v0), .val (.int v1), .val (.int v2), .val (.int v3), .val (.ref b1), .val (.int v5), .val (.int v6), .val (.int v7), .val (.int v8), .val (.int v9), .val (.int v10), .val (.int v11), .unset, .unset] [(.int v7)])) _
        refine XS.iconst X0.here hx rfl (hb hby at_152) ?_
        exact k
      by_cases hc153 : v7 = (2 : Int32)
      · rw [if_pos hc153] at hr
        refine Fin.by (B := T0.setTop (mkF m 156 #[.val (.int v0), .val (.int v1), .val (.int v2), .val (.int v3), .val (.ref b1), .val (.int v5), .val (.int v6), .val (.int v7), .val (.int v8), .val (.int v9), .val (.int v10), .val (.int v11), .unset, .unset] [])) (fun t k => ?_) ?_
        · show Steps p.tables e below (T0.setTop (mkF m 153 #[.val (.int v0), .val (.int v1), .val (.int v2), .val (.int v3), .val (.ref b1), .val (.int v5), .val (.int v6), .val (.int v7), .val (.int v8), .val (.int v9), .val (.int v10), .val (.int v11), .unset, .unset] [(.int (2 : Int32)), (.int v7)])) _
          exact XS.icmpNo X0.here hx rfl (hb hby at_153) rfl (teq hc153).2 k
        refine Fin.by (B := T0.setTop (mkF m 157 #[.val (.int v0), .val (.int v1), .val (.int v2), .val (.int v3), .val (.ref b1), .val (.int v5), .val (.int v6), .val (.int v7), .val (.int v8), .val (.int v9), .val (.int v10), .val (.int v11), .unset, .unset] [(.int (2 : Int32))])) (fun t k => ?_) ?_
        · show Steps p.tables e below (T0.setTop (mkF m 156 #[.val (.int v0), .val (.int v1), .val (.int v2), .val (.int v3), .val (.ref b1), .val (.int v5), .val (.int v6), .val (.int v7), .val (.int v8), .val (.int v9), .val (.int v10), .val (.int v11), .unset, .unset] [])) _
          refine XS.iconst X0.here hx rfl (hb hby at_156) ?_
          exact k
        obtain ⟨T18, h18, k18, X18, e18, X18e, A18, st18⟩ := newP X0 hx hZ (hw _ (List.mem_of_getElem? (i := 0) rfl)) e0 (g := (mkF m 157 #[.val (.int v0), .val (.int v1), .val (.int v2), .val (.int v3), .val (.ref b1), .val (.int v5), .val (.int v6), .val (.int v7), .val (.int v8), .val (.int v9), .val (.int v10), .val (.int v11), .unset, .unset] [(.int (2 : Int32))])) rfl (hb hby at_157) rfl (by decide) (cap := 2) (by decide) (by decide) (by decide) (by decide)
        obtain ⟨kp, g18⟩ : ∃ z, z = h.size := ⟨_, rfl⟩
        rw [← g18] at A18 st18
        have g_kp : n0 ≤ kp := Nat.le_trans Z0 (Nat.le_of_eq g18.symm)
        have ne_b1_kp : b1 ≠ kp := Nat.ne_of_lt (Nat.lt_of_lt_of_le V_b1.lt (Nat.le_of_eq g18.symm))
        have V_b1_18 := V_b1.ext X18e
        have Z18 : n0 ≤ h18.size := Nat.le_trans Z0 X18e.1
        obtain ⟨V_kp_18, ln_kp_18⟩ : Arv Z h18 kp k18 .byte (2 : Int32) (([0, 0] : List Int32).map Value.int) (.int 0) ∧ ([0, 0] : List Int32).length = (2 : Int32).toNatClampNeg := own_newI A18 rfl (by decide) (xs := ([0, 0] : List Int32)) (by decide)
        refine Fin.by (B := T18.setTop (mkF m 159 #[.val (.int v0), .val (.int v1), .val (.int v2), .val (.int v3), .val (.ref b1), .val (.int v5), .val (.int v6), .val (.int v7), .val (.int v8), .val (.int v9), .val (.int v10), .val (.int v11), .unset, .unset] [(.ref kp)])) (fun t k => st18 t k) ?_
        refine Fin.by (B := T18.setTop (mkF m 163 #[.val (.int v0), .val (.int v1), .val (.int v2), .val (.int v3), .val (.ref b1), .val (.int v5), .val (.int v6), .val (.int v7), .val (.int v8), .val (.int v9), .val (.int v10), .val (.int v11), .unset, .unset] [(.int v8), (.int (0 : Int32)), (.ref kp), (.ref kp)])) (fun t k => ?_) ?_
        · show Steps p.tables e below (T18.setTop (mkF m 159 #[.val (.int v0), .val (.int v1), .val (.int v2), .val (.int v3), .val (.ref b1), .val (.int v5), .val (.int v6), .val (.int v7), .val (.int v8), .val (.int v9), .val (.int v10), .val (.int v11), .unset, .unset] [(.ref kp)])) _
          refine XS.dup X18.here hx rfl (hb hby at_159) rfl rfl ?_
          show Steps p.tables e below (T18.setTop (mkF m 160 #[.val (.int v0), .val (.int v1), .val (.int v2), .val (.int v3), .val (.ref b1), .val (.int v5), .val (.int v6), .val (.int v7), .val (.int v8), .val (.int v9), .val (.int v10), .val (.int v11), .unset, .unset] [(.ref kp), (.ref kp)])) _
          refine XS.iconst X18.here hx rfl (hb hby at_160) ?_
          show Steps p.tables e below (T18.setTop (mkF m 161 #[.val (.int v0), .val (.int v1), .val (.int v2), .val (.int v3), .val (.ref b1), .val (.int v5), .val (.int v6), .val (.int v7), .val (.int v8), .val (.int v9), .val (.int v10), .val (.int v11), .unset, .unset] [(.int (0 : Int32)), (.ref kp), (.ref kp)])) _
          refine XS.iload X18.here hx rfl (hb hby at_161) rfl  ?_
          exact k
        have hin19 : ¬ ((0 : Int32) < 0) ∧ (0 : Int32) < (2 : Int32) := by decide
        obtain ⟨cl19, Ar19, hi19, q19⟩ := own_open V_kp_18 hin19
        obtain ⟨T19, h19, X19, e19, W19, st19⟩ := stB X18 hx hZ e18 Ar19 (j := (0 : Int32)) hi19 (g := (mkF m 163 #[.val (.int v0), .val (.int v1), .val (.int v2), .val (.int v3), .val (.ref b1), .val (.int v5), .val (.int v6), .val (.int v7), .val (.int v8), .val (.int v9), .val (.int v10), .val (.int v11), .unset, .unset] [(.int v8), (.int (0 : Int32)), (.ref kp), (.ref kp)])) rfl rfl (hb hby at_163)
        have V_b1_19 := V_b1_18.other W19 ne_b1_kp
        obtain ⟨V_kp_19, ln_kp_19⟩ : Arv Z h19 kp k18 .byte (2 : Int32) (([(v8.toInt8.toInt32), 0] : List Int32).map Value.int) (.int 0) ∧ ([(v8.toInt8.toInt32), 0] : List Int32).length = (2 : Int32).toNatClampNeg := own_setI V_kp_18 ln_kp_18 hin19 W19 (fits_nar_byte _) 0 (by decide)
        have N19 := Fr.snoc X19 N0 g_kp
        have Z19 : n0 ≤ h19.size := Nat.le_trans Z18 (Nat.le_of_eq W19.size.symm)
        refine Fin.by (B := T19.setTop (mkF m 164 #[.val (.int v0), .val (.int v1), .val (.int v2), .val (.int v3), .val (.ref b1), .val (.int v5), .val (.int v6), .val (.int v7), .val (.int v8), .val (.int v9), .val (.int v10), .val (.int v11), .unset, .unset] [(.ref kp)])) (fun t k => st19 t k) ?_
        refine Fin.by (B := T19.setTop (mkF m 168 #[.val (.int v0), .val (.int v1), .val (.int v2), .val (.int v3), .val (.ref b1), .val (.int v5), .val (.int v6), .val (.int v7), .val (.int v8), .val (.int v9), .val (.int v10), .val (.int v11), .unset, .unset] [(.int v9), (.int (1 : Int32)), (.ref kp), (.ref kp)])) (fun t k => ?_) ?_
        · show Steps p.tables e below (T19.setTop (mkF m 164 #[.val (.int v0), .val (.int v1), .val (.int v2), .val (.int v3), .val (.ref b1), .val (.int v5), .val (.int v6), .val (.int v7), .val (.int v8), .val (.int v9), .val (.int v10), .val (.int v11), .unset, .unset] [(.ref kp)])) _
          refine XS.dup X19.here hx rfl (hb hby at_164) rfl rfl ?_
          show Steps p.tables e below (T19.setTop (mkF m 165 #[.val (.int v0), .val (.int v1), .val (.int v2), .val (.int v3), .val (.ref b1), .val (.int v5), .val (.int v6), .val (.int v7), .val (.int v8), .val (.int v9), .val (.int v10), .val (.int v11), .unset, .unset] [(.ref kp), (.ref kp)])) _
          refine XS.iconst X19.here hx rfl (hb hby at_165) ?_
          show Steps p.tables e below (T19.setTop (mkF m 166 #[.val (.int v0), .val (.int v1), .val (.int v2), .val (.int v3), .val (.ref b1), .val (.int v5), .val (.int v6), .val (.int v7), .val (.int v8), .val (.int v9), .val (.int v10), .val (.int v11), .unset, .unset] [(.int (1 : Int32)), (.ref kp), (.ref kp)])) _
          refine XS.iload X19.here hx rfl (hb hby at_166) rfl  ?_
          exact k
        have hin20 : ¬ ((1 : Int32) < 0) ∧ (1 : Int32) < (2 : Int32) := by decide
        obtain ⟨cl20, Ar20, hi20, q20⟩ := own_open V_kp_19 hin20
        obtain ⟨T20, h20, X20, e20, W20, st20⟩ := stB X19 hx hZ e19 Ar20 (j := (1 : Int32)) hi20 (g := (mkF m 168 #[.val (.int v0), .val (.int v1), .val (.int v2), .val (.int v3), .val (.ref b1), .val (.int v5), .val (.int v6), .val (.int v7), .val (.int v8), .val (.int v9), .val (.int v10), .val (.int v11), .unset, .unset] [(.int v9), (.int (1 : Int32)), (.ref kp), (.ref kp)])) rfl rfl (hb hby at_168)
        have V_b1_20 := V_b1_19.other W20 ne_b1_kp
        obtain ⟨V_kp_20, ln_kp_20⟩ : Arv Z h20 kp k18 .byte (2 : Int32) (([(v8.toInt8.toInt32), (v9.toInt8.toInt32)] : List Int32).map Value.int) (.int 0) ∧ ([(v8.toInt8.toInt32), (v9.toInt8.toInt32)] : List Int32).length = (2 : Int32).toNatClampNeg := own_setI V_kp_19 ln_kp_19 hin20 W20 (fits_nar_byte _) 1 (by decide)
        have N20 := Fr.snoc X20 N19 g_kp
        have Z20 : n0 ≤ h20.size := Nat.le_trans Z19 (Nat.le_of_eq W20.size.symm)
        refine Fin.by (B := T20.setTop (mkF m 169 #[.val (.int v0), .val (.int v1), .val (.int v2), .val (.int v3), .val (.ref b1), .val (.int v5), .val (.int v6), .val (.int v7), .val (.int v8), .val (.int v9), .val (.int v10), .val (.int v11), .unset, .unset] [(.ref kp)])) (fun t k => st20 t k) ?_
        refine Fin.by (B := T20.setTop (mkF m 228 #[.val (.int v0), .val (.int v1), .val (.int v2), .val (.int v3), .val (.ref b1), .val (.int v5), .val (.int v6), .val (.int v7), .val (.int v8), .val (.int v9), .val (.int v10), .val (.int v11), .val (.ref kp), .unset] [])) (fun t k => ?_) ?_
        · show Steps p.tables e below (T20.setTop (mkF m 169 #[.val (.int v0), .val (.int v1), .val (.int v2), .val (.int v3), .val (.ref b1), .val (.int v5), .val (.int v6), .val (.int v7), .val (.int v8), .val (.int v9), .val (.int v10), .val (.int v11), .unset, .unset] [(.ref kp)])) _
          refine XS.astore X20.here hx rfl (hb hby at_169) rfl rfl (l' := #[.val (.int v0), .val (.int v1), .val (.int v2), .val (.int v3), .val (.ref b1), .val (.int v5), .val (.int v6), .val (.int v7), .val (.int v8), .val (.int v9), .val (.int v10), .val (.int v11), .val (.ref kp), .unset]) rfl ?_
          show Steps p.tables e below (T20.setTop (mkF m 171 #[.val (.int v0), .val (.int v1), .val (.int v2), .val (.int v3), .val (.ref b1), .val (.int v5), .val (.int v6), .val (.int v7), .val (.int v8), .val (.int v9), .val (.int v10), .val (.int v11), .val (.ref kp), .unset] [])) _
          refine XS.goto X20.here hx rfl (pc0 := 171) (pc' := 228) rfl (hb hby at_171) (by decide) (by decide) ?_
          exact k
        have i5_j : 0 ≤ v5.toInt ∧ 0 ≤ v6.toInt ∧ v6.toInt + v5.toInt ≤ 4 := by assumption
        have ik_j : (2 : Int32) = v7 := by first | exact hc120.symm | exact hc134.symm | exact hc153.symm | exact hc177.symm | exact own_k4 _ i7 hc120 hc134 hc153 hc177
        exact b0_228 ⟨hx, hZ, hw, hby, hml, hret, hown, hnm, hlk⟩ h0 n0 v0 v1 v2 v3 b1 v5 v6 v7 v8 v9 v10 v11 kp b1_k b1_xs k18 (2 : Int32) ([(v8.toInt8.toInt32), (v9.toInt8.toInt32)] : List Int32) (X20.more (by decide) (by decide)) e20 N20 Z20 V_b1_20 ln_b1 g_b1 V_kp_20 ln_kp_20 g_kp ne_b1_kp i5_j ik_j _ hr
      · rw [if_neg hc153] at hr
        refine Fin.by (B := T0.setTop (mkF m 174 #[.val (.int v0), .val (.int v1), .val (.int v2), .val (.int v3), .val (.ref b1), .val (.int v5), .val (.int v6), .val (.int v7), .val (.int v8), .val (.int v9), .val (.int v10), .val (.int v11), .unset, .unset] [])) (fun t k => ?_) ?_
        · show Steps p.tables e below (T0.setTop (mkF m 153 #[.val (.int v0), .val (.int v1), .val (.int v2), .val (.int v3), .val (.ref b1), .val (.int v5), .val (.int v6), .val (.int v7), .val (.int v8), .val (.int v9), .val (.int v10), .val (.int v11), .unset, .unset] [(.int (2 : Int32)), (.int v7)])) _
          exact XS.icmpYes X0.here hx rfl (pc0 := 153) (pc' := 174) rfl (hb hby at_153) rfl (feq hc153).2 (by decide) (by decide) k
        refine Fin.by (B := T0.setTop (mkF m 177 #[.val (.int v0), .val (.int v1), .val (.int v2), .val (.int v3), .val (.ref b1), .val (.int v5), .val (.int v6), .val (.int v7), .val (.int v8), .val (.int v9), .val (.int v10), .val (.int v11), .unset, .unset] [(.int (3 : Int32)), (.int v7)])) (fun t k => ?_) ?_
        · show Steps p.tables e below (T0.setTop (mkF m 174 #[.val (.int v0), .val (.int v1), .val (.int v2), .val (.int v3), .val (.ref b1), .val (.int v5), .val (.int v6), .val (.int v7), .val (.int v8), .val (.int v9), .val (.int v10), .val (.int v11), .unset, .unset] [])) _
          refine XS.iload X0.here hx rfl (hb hby at_174) rfl  ?_
          show Steps p.tables e below (T0.setTop (mkF m 176 #[.val (.int v0), .val (.int v1), .val (.int v2), .val (.int v3), .val (.ref b1), .val (.int v5), .val (.int v6), .val (.int v7), .val (.int v8), .val (.int v9), .val (.int v10), .val (.int v11), .unset, .unset] [(.int v7)])) _
          refine XS.iconst X0.here hx rfl (hb hby at_176) ?_
          exact k
        by_cases hc177 : v7 = (3 : Int32)
        · rw [if_pos hc177] at hr
          refine Fin.by (B := T0.setTop (mkF m 180 #[.val (.int v0), .val (.int v1), .val (.int v2), .val (.int v3), .val (.ref b1), .val (.int v5), .val (.int v6), .val (.int v7), .val (.int v8), .val (.int v9), .val (.int v10), .val (.int v11), .unset, .unset] [])) (fun t k => ?_) ?_
          · show Steps p.tables e below (T0.setTop (mkF m 177 #[.val (.int v0), .val (.int v1), .val (.int v2), .val (.int v3), .val (.ref b1), .val (.int v5), .val (.int v6), .val (.int v7), .val (.int v8), .val (.int v9), .val (.int v10), .val (.int v11), .unset, .unset] [(.int (3 : Int32)), (.int v7)])) _
            exact XS.icmpNo X0.here hx rfl (hb hby at_177) rfl (teq hc177).2 k
          refine Fin.by (B := T0.setTop (mkF m 181 #[.val (.int v0), .val (.int v1), .val (.int v2), .val (.int v3), .val (.ref b1), .val (.int v5), .val (.int v6), .val (.int v7), .val (.int v8), .val (.int v9), .val (.int v10), .val (.int v11), .unset, .unset] [(.int (3 : Int32))])) (fun t k => ?_) ?_
          · show Steps p.tables e below (T0.setTop (mkF m 180 #[.val (.int v0), .val (.int v1), .val (.int v2), .val (.int v3), .val (.ref b1), .val (.int v5), .val (.int v6), .val (.int v7), .val (.int v8), .val (.int v9), .val (.int v10), .val (.int v11), .unset, .unset] [])) _
            refine XS.iconst X0.here hx rfl (hb hby at_180) ?_
            exact k
          obtain ⟨T21, h21, k21, X21, e21, X21e, A21, st21⟩ := newP X0 hx hZ (hw _ (List.mem_of_getElem? (i := 0) rfl)) e0 (g := (mkF m 181 #[.val (.int v0), .val (.int v1), .val (.int v2), .val (.int v3), .val (.ref b1), .val (.int v5), .val (.int v6), .val (.int v7), .val (.int v8), .val (.int v9), .val (.int v10), .val (.int v11), .unset, .unset] [(.int (3 : Int32))])) rfl (hb hby at_181) rfl (by decide) (cap := 3) (by decide) (by decide) (by decide) (by decide)
          obtain ⟨kp, g21⟩ : ∃ z, z = h.size := ⟨_, rfl⟩
          rw [← g21] at A21 st21
          have g_kp : n0 ≤ kp := Nat.le_trans Z0 (Nat.le_of_eq g21.symm)
          have ne_b1_kp : b1 ≠ kp := Nat.ne_of_lt (Nat.lt_of_lt_of_le V_b1.lt (Nat.le_of_eq g21.symm))
          have V_b1_21 := V_b1.ext X21e
          have Z21 : n0 ≤ h21.size := Nat.le_trans Z0 X21e.1
          obtain ⟨V_kp_21, ln_kp_21⟩ : Arv Z h21 kp k21 .byte (3 : Int32) (([0, 0, 0] : List Int32).map Value.int) (.int 0) ∧ ([0, 0, 0] : List Int32).length = (3 : Int32).toNatClampNeg := own_newI A21 rfl (by decide) (xs := ([0, 0, 0] : List Int32)) (by decide)
          refine Fin.by (B := T21.setTop (mkF m 183 #[.val (.int v0), .val (.int v1), .val (.int v2), .val (.int v3), .val (.ref b1), .val (.int v5), .val (.int v6), .val (.int v7), .val (.int v8), .val (.int v9), .val (.int v10), .val (.int v11), .unset, .unset] [(.ref kp)])) (fun t k => st21 t k) ?_
          refine Fin.by (B := T21.setTop (mkF m 187 #[.val (.int v0), .val (.int v1), .val (.int v2), .val (.int v3), .val (.ref b1), .val (.int v5), .val (.int v6), .val (.int v7), .val (.int v8), .val (.int v9), .val (.int v10), .val (.int v11), .unset, .unset] [(.int v8), (.int (0 : Int32)), (.ref kp), (.ref kp)])) (fun t k => ?_) ?_
          · show Steps p.tables e below (T21.setTop (mkF m 183 #[.val (.int v0), .val (.int v1), .val (.int v2), .val (.int v3), .val (.ref b1), .val (.int v5), .val (.int v6), .val (.int v7), .val (.int v8), .val (.int v9), .val (.int v10), .val (.int v11), .unset, .unset] [(.ref kp)])) _
            refine XS.dup X21.here hx rfl (hb hby at_183) rfl rfl ?_
            show Steps p.tables e below (T21.setTop (mkF m 184 #[.val (.int v0), .val (.int v1), .val (.int v2), .val (.int v3), .val (.ref b1), .val (.int v5), .val (.int v6), .val (.int v7), .val (.int v8), .val (.int v9), .val (.int v10), .val (.int v11), .unset, .unset] [(.ref kp), (.ref kp)])) _
            refine XS.iconst X21.here hx rfl (hb hby at_184) ?_
            show Steps p.tables e below (T21.setTop (mkF m 185 #[.val (.int v0), .val (.int v1), .val (.int v2), .val (.int v3), .val (.ref b1), .val (.int v5), .val (.int v6), .val (.int v7), .val (.int v8), .val (.int v9), .val (.int v10), .val (.int v11), .unset, .unset] [(.int (0 : Int32)), (.ref kp), (.ref kp)])) _
            refine XS.iload X21.here hx rfl (hb hby at_185) rfl  ?_
            exact k
          have hin22 : ¬ ((0 : Int32) < 0) ∧ (0 : Int32) < (3 : Int32) := by decide
          obtain ⟨cl22, Ar22, hi22, q22⟩ := own_open V_kp_21 hin22
          obtain ⟨T22, h22, X22, e22, W22, st22⟩ := stB X21 hx hZ e21 Ar22 (j := (0 : Int32)) hi22 (g := (mkF m 187 #[.val (.int v0), .val (.int v1), .val (.int v2), .val (.int v3), .val (.ref b1), .val (.int v5), .val (.int v6), .val (.int v7), .val (.int v8), .val (.int v9), .val (.int v10), .val (.int v11), .unset, .unset] [(.int v8), (.int (0 : Int32)), (.ref kp), (.ref kp)])) rfl rfl (hb hby at_187)
          have V_b1_22 := V_b1_21.other W22 ne_b1_kp
          obtain ⟨V_kp_22, ln_kp_22⟩ : Arv Z h22 kp k21 .byte (3 : Int32) (([(v8.toInt8.toInt32), 0, 0] : List Int32).map Value.int) (.int 0) ∧ ([(v8.toInt8.toInt32), 0, 0] : List Int32).length = (3 : Int32).toNatClampNeg := own_setI V_kp_21 ln_kp_21 hin22 W22 (fits_nar_byte _) 0 (by decide)
          have N22 := Fr.snoc X22 N0 g_kp
          have Z22 : n0 ≤ h22.size := Nat.le_trans Z21 (Nat.le_of_eq W22.size.symm)
          refine Fin.by (B := T22.setTop (mkF m 188 #[.val (.int v0), .val (.int v1), .val (.int v2), .val (.int v3), .val (.ref b1), .val (.int v5), .val (.int v6), .val (.int v7), .val (.int v8), .val (.int v9), .val (.int v10), .val (.int v11), .unset, .unset] [(.ref kp)])) (fun t k => st22 t k) ?_
          refine Fin.by (B := T22.setTop (mkF m 192 #[.val (.int v0), .val (.int v1), .val (.int v2), .val (.int v3), .val (.ref b1), .val (.int v5), .val (.int v6), .val (.int v7), .val (.int v8), .val (.int v9), .val (.int v10), .val (.int v11), .unset, .unset] [(.int v9), (.int (1 : Int32)), (.ref kp), (.ref kp)])) (fun t k => ?_) ?_
          · show Steps p.tables e below (T22.setTop (mkF m 188 #[.val (.int v0), .val (.int v1), .val (.int v2), .val (.int v3), .val (.ref b1), .val (.int v5), .val (.int v6), .val (.int v7), .val (.int v8), .val (.int v9), .val (.int v10), .val (.int v11), .unset, .unset] [(.ref kp)])) _
            refine XS.dup X22.here hx rfl (hb hby at_188) rfl rfl ?_
            show Steps p.tables e below (T22.setTop (mkF m 189 #[.val (.int v0), .val (.int v1), .val (.int v2), .val (.int v3), .val (.ref b1), .val (.int v5), .val (.int v6), .val (.int v7), .val (.int v8), .val (.int v9), .val (.int v10), .val (.int v11), .unset, .unset] [(.ref kp), (.ref kp)])) _
            refine XS.iconst X22.here hx rfl (hb hby at_189) ?_
            show Steps p.tables e below (T22.setTop (mkF m 190 #[.val (.int v0), .val (.int v1), .val (.int v2), .val (.int v3), .val (.ref b1), .val (.int v5), .val (.int v6), .val (.int v7), .val (.int v8), .val (.int v9), .val (.int v10), .val (.int v11), .unset, .unset] [(.int (1 : Int32)), (.ref kp), (.ref kp)])) _
            refine XS.iload X22.here hx rfl (hb hby at_190) rfl  ?_
            exact k
          have hin23 : ¬ ((1 : Int32) < 0) ∧ (1 : Int32) < (3 : Int32) := by decide
          obtain ⟨cl23, Ar23, hi23, q23⟩ := own_open V_kp_22 hin23
          obtain ⟨T23, h23, X23, e23, W23, st23⟩ := stB X22 hx hZ e22 Ar23 (j := (1 : Int32)) hi23 (g := (mkF m 192 #[.val (.int v0), .val (.int v1), .val (.int v2), .val (.int v3), .val (.ref b1), .val (.int v5), .val (.int v6), .val (.int v7), .val (.int v8), .val (.int v9), .val (.int v10), .val (.int v11), .unset, .unset] [(.int v9), (.int (1 : Int32)), (.ref kp), (.ref kp)])) rfl rfl (hb hby at_192)
          have V_b1_23 := V_b1_22.other W23 ne_b1_kp
          obtain ⟨V_kp_23, ln_kp_23⟩ : Arv Z h23 kp k21 .byte (3 : Int32) (([(v8.toInt8.toInt32), (v9.toInt8.toInt32), 0] : List Int32).map Value.int) (.int 0) ∧ ([(v8.toInt8.toInt32), (v9.toInt8.toInt32), 0] : List Int32).length = (3 : Int32).toNatClampNeg := own_setI V_kp_22 ln_kp_22 hin23 W23 (fits_nar_byte _) 1 (by decide)
          have N23 := Fr.snoc X23 N22 g_kp
          have Z23 : n0 ≤ h23.size := Nat.le_trans Z22 (Nat.le_of_eq W23.size.symm)
          refine Fin.by (B := T23.setTop (mkF m 193 #[.val (.int v0), .val (.int v1), .val (.int v2), .val (.int v3), .val (.ref b1), .val (.int v5), .val (.int v6), .val (.int v7), .val (.int v8), .val (.int v9), .val (.int v10), .val (.int v11), .unset, .unset] [(.ref kp)])) (fun t k => st23 t k) ?_
          refine Fin.by (B := T23.setTop (mkF m 197 #[.val (.int v0), .val (.int v1), .val (.int v2), .val (.int v3), .val (.ref b1), .val (.int v5), .val (.int v6), .val (.int v7), .val (.int v8), .val (.int v9), .val (.int v10), .val (.int v11), .unset, .unset] [(.int v10), (.int (2 : Int32)), (.ref kp), (.ref kp)])) (fun t k => ?_) ?_
          · show Steps p.tables e below (T23.setTop (mkF m 193 #[.val (.int v0), .val (.int v1), .val (.int v2), .val (.int v3), .val (.ref b1), .val (.int v5), .val (.int v6), .val (.int v7), .val (.int v8), .val (.int v9), .val (.int v10), .val (.int v11), .unset, .unset] [(.ref kp)])) _
            refine XS.dup X23.here hx rfl (hb hby at_193) rfl rfl ?_
            show Steps p.tables e below (T23.setTop (mkF m 194 #[.val (.int v0), .val (.int v1), .val (.int v2), .val (.int v3), .val (.ref b1), .val (.int v5), .val (.int v6), .val (.int v7), .val (.int v8), .val (.int v9), .val (.int v10), .val (.int v11), .unset, .unset] [(.ref kp), (.ref kp)])) _
            refine XS.iconst X23.here hx rfl (hb hby at_194) ?_
            show Steps p.tables e below (T23.setTop (mkF m 195 #[.val (.int v0), .val (.int v1), .val (.int v2), .val (.int v3), .val (.ref b1), .val (.int v5), .val (.int v6), .val (.int v7), .val (.int v8), .val (.int v9), .val (.int v10), .val (.int v11), .unset, .unset] [(.int (2 : Int32)), (.ref kp), (.ref kp)])) _
            refine XS.iload X23.here hx rfl (hb hby at_195) rfl  ?_
            exact k
          have hin24 : ¬ ((2 : Int32) < 0) ∧ (2 : Int32) < (3 : Int32) := by decide
          obtain ⟨cl24, Ar24, hi24, q24⟩ := own_open V_kp_23 hin24
          obtain ⟨T24, h24, X24, e24, W24, st24⟩ := stB X23 hx hZ e23 Ar24 (j := (2 : Int32)) hi24 (g := (mkF m 197 #[.val (.int v0), .val (.int v1), .val (.int v2), .val (.int v3), .val (.ref b1), .val (.int v5), .val (.int v6), .val (.int v7), .val (.int v8), .val (.int v9), .val (.int v10), .val (.int v11), .unset, .unset] [(.int v10), (.int (2 : Int32)), (.ref kp), (.ref kp)])) rfl rfl (hb hby at_197)
          have V_b1_24 := V_b1_23.other W24 ne_b1_kp
          obtain ⟨V_kp_24, ln_kp_24⟩ : Arv Z h24 kp k21 .byte (3 : Int32) (([(v8.toInt8.toInt32), (v9.toInt8.toInt32), (v10.toInt8.toInt32)] : List Int32).map Value.int) (.int 0) ∧ ([(v8.toInt8.toInt32), (v9.toInt8.toInt32), (v10.toInt8.toInt32)] : List Int32).length = (3 : Int32).toNatClampNeg := own_setI V_kp_23 ln_kp_23 hin24 W24 (fits_nar_byte _) 2 (by decide)
          have N24 := Fr.snoc X24 N23 g_kp
          have Z24 : n0 ≤ h24.size := Nat.le_trans Z23 (Nat.le_of_eq W24.size.symm)
          refine Fin.by (B := T24.setTop (mkF m 198 #[.val (.int v0), .val (.int v1), .val (.int v2), .val (.int v3), .val (.ref b1), .val (.int v5), .val (.int v6), .val (.int v7), .val (.int v8), .val (.int v9), .val (.int v10), .val (.int v11), .unset, .unset] [(.ref kp)])) (fun t k => st24 t k) ?_
          refine Fin.by (B := T24.setTop (mkF m 228 #[.val (.int v0), .val (.int v1), .val (.int v2), .val (.int v3), .val (.ref b1), .val (.int v5), .val (.int v6), .val (.int v7), .val (.int v8), .val (.int v9), .val (.int v10), .val (.int v11), .val (.ref kp), .unset] [])) (fun t k => ?_) ?_
          · show Steps p.tables e below (T24.setTop (mkF m 198 #[.val (.int v0), .val (.int v1), .val (.int v2), .val (.int v3), .val (.ref b1), .val (.int v5), .val (.int v6), .val (.int v7), .val (.int v8), .val (.int v9), .val (.int v10), .val (.int v11), .unset, .unset] [(.ref kp)])) _
            refine XS.astore X24.here hx rfl (hb hby at_198) rfl rfl (l' := #[.val (.int v0), .val (.int v1), .val (.int v2), .val (.int v3), .val (.ref b1), .val (.int v5), .val (.int v6), .val (.int v7), .val (.int v8), .val (.int v9), .val (.int v10), .val (.int v11), .val (.ref kp), .unset]) rfl ?_
            show Steps p.tables e below (T24.setTop (mkF m 200 #[.val (.int v0), .val (.int v1), .val (.int v2), .val (.int v3), .val (.ref b1), .val (.int v5), .val (.int v6), .val (.int v7), .val (.int v8), .val (.int v9), .val (.int v10), .val (.int v11), .val (.ref kp), .unset] [])) _
            refine XS.goto X24.here hx rfl (pc0 := 200) (pc' := 228) rfl (hb hby at_200) (by decide) (by decide) ?_
            exact k
          have i5_j : 0 ≤ v5.toInt ∧ 0 ≤ v6.toInt ∧ v6.toInt + v5.toInt ≤ 4 := by assumption
          have ik_j : (3 : Int32) = v7 := by first | exact hc120.symm | exact hc134.symm | exact hc153.symm | exact hc177.symm | exact own_k4 _ i7 hc120 hc134 hc153 hc177
          exact b0_228 ⟨hx, hZ, hw, hby, hml, hret, hown, hnm, hlk⟩ h0 n0 v0 v1 v2 v3 b1 v5 v6 v7 v8 v9 v10 v11 kp b1_k b1_xs k21 (3 : Int32) ([(v8.toInt8.toInt32), (v9.toInt8.toInt32), (v10.toInt8.toInt32)] : List Int32) (X24.more (by decide) (by decide)) e24 N24 Z24 V_b1_24 ln_b1 g_b1 V_kp_24 ln_kp_24 g_kp ne_b1_kp i5_j ik_j _ hr
        · rw [if_neg hc177] at hr
          refine Fin.by (B := T0.setTop (mkF m 203 #[.val (.int v0), .val (.int v1), .val (.int v2), .val (.int v3), .val (.ref b1), .val (.int v5), .val (.int v6), .val (.int v7), .val (.int v8), .val (.int v9), .val (.int v10), .val (.int v11), .unset, .unset] [])) (fun t k => ?_) ?_
          · show Steps p.tables e below (T0.setTop (mkF m 177 #[.val (.int v0), .val (.int v1), .val (.int v2), .val (.int v3), .val (.ref b1), .val (.int v5), .val (.int v6), .val (.int v7), .val (.int v8), .val (.int v9), .val (.int v10), .val (.int v11), .unset, .unset] [(.int (3 : Int32)), (.int v7)])) _
            exact XS.icmpYes X0.here hx rfl (pc0 := 177) (pc' := 203) rfl (hb hby at_177) rfl (feq hc177).2 (by decide) (by decide) k
          refine Fin.by (B := T0.setTop (mkF m 204 #[.val (.int v0), .val (.int v1), .val (.int v2), .val (.int v3), .val (.ref b1), .val (.int v5), .val (.int v6), .val (.int v7), .val (.int v8), .val (.int v9), .val (.int v10), .val (.int v11), .unset, .unset] [(.int (4 : Int32))])) (fun t k => ?_) ?_
          · show Steps p.tables e below (T0.setTop (mkF m 203 #[.val (.int v0), .val (.int v1), .val (.int v2), .val (.int v3), .val (.ref b1), .val (.int v5), .val (.int v6), .val (.int v7), .val (.int v8), .val (.int v9), .val (.int v10), .val (.int v11), .unset, .unset] [])) _
            refine XS.iconst X0.here hx rfl (hb hby at_203) ?_
            exact k
          obtain ⟨T25, h25, k25, X25, e25, X25e, A25, st25⟩ := newP X0 hx hZ (hw _ (List.mem_of_getElem? (i := 0) rfl)) e0 (g := (mkF m 204 #[.val (.int v0), .val (.int v1), .val (.int v2), .val (.int v3), .val (.ref b1), .val (.int v5), .val (.int v6), .val (.int v7), .val (.int v8), .val (.int v9), .val (.int v10), .val (.int v11), .unset, .unset] [(.int (4 : Int32))])) rfl (hb hby at_204) rfl (by decide) (cap := 4) (by decide) (by decide) (by decide) (by decide)
          obtain ⟨kp, g25⟩ : ∃ z, z = h.size := ⟨_, rfl⟩
          rw [← g25] at A25 st25
          have g_kp : n0 ≤ kp := Nat.le_trans Z0 (Nat.le_of_eq g25.symm)
          have ne_b1_kp : b1 ≠ kp := Nat.ne_of_lt (Nat.lt_of_lt_of_le V_b1.lt (Nat.le_of_eq g25.symm))
          have V_b1_25 := V_b1.ext X25e
          have Z25 : n0 ≤ h25.size := Nat.le_trans Z0 X25e.1
          obtain ⟨V_kp_25, ln_kp_25⟩ : Arv Z h25 kp k25 .byte (4 : Int32) (([0, 0, 0, 0] : List Int32).map Value.int) (.int 0) ∧ ([0, 0, 0, 0] : List Int32).length = (4 : Int32).toNatClampNeg := own_newI A25 rfl (by decide) (xs := ([0, 0, 0, 0] : List Int32)) (by decide)
          refine Fin.by (B := T25.setTop (mkF m 206 #[.val (.int v0), .val (.int v1), .val (.int v2), .val (.int v3), .val (.ref b1), .val (.int v5), .val (.int v6), .val (.int v7), .val (.int v8), .val (.int v9), .val (.int v10), .val (.int v11), .unset, .unset] [(.ref kp)])) (fun t k => st25 t k) ?_
          refine Fin.by (B := T25.setTop (mkF m 210 #[.val (.int v0), .val (.int v1), .val (.int v2), .val (.int v3), .val (.ref b1), .val (.int v5), .val (.int v6), .val (.int v7), .val (.int v8), .val (.int v9), .val (.int v10), .val (.int v11), .unset, .unset] [(.int v8), (.int (0 : Int32)), (.ref kp), (.ref kp)])) (fun t k => ?_) ?_
          · show Steps p.tables e below (T25.setTop (mkF m 206 #[.val (.int v0), .val (.int v1), .val (.int v2), .val (.int v3), .val (.ref b1), .val (.int v5), .val (.int v6), .val (.int v7), .val (.int v8), .val (.int v9), .val (.int v10), .val (.int v11), .unset, .unset] [(.ref kp)])) _
            refine XS.dup X25.here hx rfl (hb hby at_206) rfl rfl ?_
            show Steps p.tables e below (T25.setTop (mkF m 207 #[.val (.int v0), .val (.int v1), .val (.int v2), .val (.int v3), .val (.ref b1), .val (.int v5), .val (.int v6), .val (.int v7), .val (.int v8), .val (.int v9), .val (.int v10), .val (.int v11), .unset, .unset] [(.ref kp), (.ref kp)])) _
            refine XS.iconst X25.here hx rfl (hb hby at_207) ?_
            show Steps p.tables e below (T25.setTop (mkF m 208 #[.val (.int v0), .val (.int v1), .val (.int v2), .val (.int v3), .val (.ref b1), .val (.int v5), .val (.int v6), .val (.int v7), .val (.int v8), .val (.int v9), .val (.int v10), .val (.int v11), .unset, .unset] [(.int (0 : Int32)), (.ref kp), (.ref kp)])) _
            refine XS.iload X25.here hx rfl (hb hby at_208) rfl  ?_
            exact k
          have hin26 : ¬ ((0 : Int32) < 0) ∧ (0 : Int32) < (4 : Int32) := by decide
          obtain ⟨cl26, Ar26, hi26, q26⟩ := own_open V_kp_25 hin26
          obtain ⟨T26, h26, X26, e26, W26, st26⟩ := stB X25 hx hZ e25 Ar26 (j := (0 : Int32)) hi26 (g := (mkF m 210 #[.val (.int v0), .val (.int v1), .val (.int v2), .val (.int v3), .val (.ref b1), .val (.int v5), .val (.int v6), .val (.int v7), .val (.int v8), .val (.int v9), .val (.int v10), .val (.int v11), .unset, .unset] [(.int v8), (.int (0 : Int32)), (.ref kp), (.ref kp)])) rfl rfl (hb hby at_210)
          have V_b1_26 := V_b1_25.other W26 ne_b1_kp
          obtain ⟨V_kp_26, ln_kp_26⟩ : Arv Z h26 kp k25 .byte (4 : Int32) (([(v8.toInt8.toInt32), 0, 0, 0] : List Int32).map Value.int) (.int 0) ∧ ([(v8.toInt8.toInt32), 0, 0, 0] : List Int32).length = (4 : Int32).toNatClampNeg := own_setI V_kp_25 ln_kp_25 hin26 W26 (fits_nar_byte _) 0 (by decide)
          have N26 := Fr.snoc X26 N0 g_kp
          have Z26 : n0 ≤ h26.size := Nat.le_trans Z25 (Nat.le_of_eq W26.size.symm)
          refine Fin.by (B := T26.setTop (mkF m 211 #[.val (.int v0), .val (.int v1), .val (.int v2), .val (.int v3), .val (.ref b1), .val (.int v5), .val (.int v6), .val (.int v7), .val (.int v8), .val (.int v9), .val (.int v10), .val (.int v11), .unset, .unset] [(.ref kp)])) (fun t k => st26 t k) ?_
          refine Fin.by (B := T26.setTop (mkF m 215 #[.val (.int v0), .val (.int v1), .val (.int v2), .val (.int v3), .val (.ref b1), .val (.int v5), .val (.int v6), .val (.int v7), .val (.int v8), .val (.int v9), .val (.int v10), .val (.int v11), .unset, .unset] [(.int v9), (.int (1 : Int32)), (.ref kp), (.ref kp)])) (fun t k => ?_) ?_
          · show Steps p.tables e below (T26.setTop (mkF m 211 #[.val (.int v0), .val (.int v1), .val (.int v2), .val (.int v3), .val (.ref b1), .val (.int v5), .val (.int v6), .val (.int v7), .val (.int v8), .val (.int v9), .val (.int v10), .val (.int v11), .unset, .unset] [(.ref kp)])) _
            refine XS.dup X26.here hx rfl (hb hby at_211) rfl rfl ?_
            show Steps p.tables e below (T26.setTop (mkF m 212 #[.val (.int v0), .val (.int v1), .val (.int v2), .val (.int v3), .val (.ref b1), .val (.int v5), .val (.int v6), .val (.int v7), .val (.int v8), .val (.int v9), .val (.int v10), .val (.int v11), .unset, .unset] [(.ref kp), (.ref kp)])) _
            refine XS.iconst X26.here hx rfl (hb hby at_212) ?_
            show Steps p.tables e below (T26.setTop (mkF m 213 #[.val (.int v0), .val (.int v1), .val (.int v2), .val (.int v3), .val (.ref b1), .val (.int v5), .val (.int v6), .val (.int v7), .val (.int v8), .val (.int v9), .val (.int v10), .val (.int v11), .unset, .unset] [(.int (1 : Int32)), (.ref kp), (.ref kp)])) _
            refine XS.iload X26.here hx rfl (hb hby at_213) rfl  ?_
            exact k
          have hin27 : ¬ ((1 : Int32) < 0) ∧ (1 : Int32) < (4 : Int32) := by decide
          obtain ⟨cl27, Ar27, hi27, q27⟩ := own_open V_kp_26 hin27
          obtain ⟨T27, h27, X27, e27, W27, st27⟩ := stB X26 hx hZ e26 Ar27 (j := (1 : Int32)) hi27 (g := (mkF m 215 #[.val (.int v0), .val (.int v1), .val (.int v2), .val (.int v3), .val (.ref b1), .val (.int v5), .val (.int v6), .val (.int v7), .val (.int v8), .val (.int v9), .val (.int v10), .val (.int v11), .unset, .unset] [(.int v9), (.int (1 : Int32)), (.ref kp), (.ref kp)])) rfl rfl (hb hby at_215)
          have V_b1_27 := V_b1_26.other W27 ne_b1_kp
          obtain ⟨V_kp_27, ln_kp_27⟩ : Arv Z h27 kp k25 .byte (4 : Int32) (([(v8.toInt8.toInt32), (v9.toInt8.toInt32), 0, 0] : List Int32).map Value.int) (.int 0) ∧ ([(v8.toInt8.toInt32), (v9.toInt8.toInt32), 0, 0] : List Int32).length = (4 : Int32).toNatClampNeg := own_setI V_kp_26 ln_kp_26 hin27 W27 (fits_nar_byte _) 1 (by decide)
          have N27 := Fr.snoc X27 N26 g_kp
          have Z27 : n0 ≤ h27.size := Nat.le_trans Z26 (Nat.le_of_eq W27.size.symm)
          refine Fin.by (B := T27.setTop (mkF m 216 #[.val (.int v0), .val (.int v1), .val (.int v2), .val (.int v3), .val (.ref b1), .val (.int v5), .val (.int v6), .val (.int v7), .val (.int v8), .val (.int v9), .val (.int v10), .val (.int v11), .unset, .unset] [(.ref kp)])) (fun t k => st27 t k) ?_
          refine Fin.by (B := T27.setTop (mkF m 220 #[.val (.int v0), .val (.int v1), .val (.int v2), .val (.int v3), .val (.ref b1), .val (.int v5), .val (.int v6), .val (.int v7), .val (.int v8), .val (.int v9), .val (.int v10), .val (.int v11), .unset, .unset] [(.int v10), (.int (2 : Int32)), (.ref kp), (.ref kp)])) (fun t k => ?_) ?_
          · show Steps p.tables e below (T27.setTop (mkF m 216 #[.val (.int v0), .val (.int v1), .val (.int v2), .val (.int v3), .val (.ref b1), .val (.int v5), .val (.int v6), .val (.int v7), .val (.int v8), .val (.int v9), .val (.int v10), .val (.int v11), .unset, .unset] [(.ref kp)])) _
            refine XS.dup X27.here hx rfl (hb hby at_216) rfl rfl ?_
            show Steps p.tables e below (T27.setTop (mkF m 217 #[.val (.int v0), .val (.int v1), .val (.int v2), .val (.int v3), .val (.ref b1), .val (.int v5), .val (.int v6), .val (.int v7), .val (.int v8), .val (.int v9), .val (.int v10), .val (.int v11), .unset, .unset] [(.ref kp), (.ref kp)])) _
            refine XS.iconst X27.here hx rfl (hb hby at_217) ?_
            show Steps p.tables e below (T27.setTop (mkF m 218 #[.val (.int v0), .val (.int v1), .val (.int v2), .val (.int v3), .val (.ref b1), .val (.int v5), .val (.int v6), .val (.int v7), .val (.int v8), .val (.int v9), .val (.int v10), .val (.int v11), .unset, .unset] [(.int (2 : Int32)), (.ref kp), (.ref kp)])) _
            refine XS.iload X27.here hx rfl (hb hby at_218) rfl  ?_
            exact k
          have hin28 : ¬ ((2 : Int32) < 0) ∧ (2 : Int32) < (4 : Int32) := by decide
          obtain ⟨cl28, Ar28, hi28, q28⟩ := own_open V_kp_27 hin28
          obtain ⟨T28, h28, X28, e28, W28, st28⟩ := stB X27 hx hZ e27 Ar28 (j := (2 : Int32)) hi28 (g := (mkF m 220 #[.val (.int v0), .val (.int v1), .val (.int v2), .val (.int v3), .val (.ref b1), .val (.int v5), .val (.int v6), .val (.int v7), .val (.int v8), .val (.int v9), .val (.int v10), .val (.int v11), .unset, .unset] [(.int v10), (.int (2 : Int32)), (.ref kp), (.ref kp)])) rfl rfl (hb hby at_220)
          have V_b1_28 := V_b1_27.other W28 ne_b1_kp
          obtain ⟨V_kp_28, ln_kp_28⟩ : Arv Z h28 kp k25 .byte (4 : Int32) (([(v8.toInt8.toInt32), (v9.toInt8.toInt32), (v10.toInt8.toInt32), 0] : List Int32).map Value.int) (.int 0) ∧ ([(v8.toInt8.toInt32), (v9.toInt8.toInt32), (v10.toInt8.toInt32), 0] : List Int32).length = (4 : Int32).toNatClampNeg := own_setI V_kp_27 ln_kp_27 hin28 W28 (fits_nar_byte _) 2 (by decide)
          have N28 := Fr.snoc X28 N27 g_kp
          have Z28 : n0 ≤ h28.size := Nat.le_trans Z27 (Nat.le_of_eq W28.size.symm)
          refine Fin.by (B := T28.setTop (mkF m 221 #[.val (.int v0), .val (.int v1), .val (.int v2), .val (.int v3), .val (.ref b1), .val (.int v5), .val (.int v6), .val (.int v7), .val (.int v8), .val (.int v9), .val (.int v10), .val (.int v11), .unset, .unset] [(.ref kp)])) (fun t k => st28 t k) ?_
          refine Fin.by (B := T28.setTop (mkF m 225 #[.val (.int v0), .val (.int v1), .val (.int v2), .val (.int v3), .val (.ref b1), .val (.int v5), .val (.int v6), .val (.int v7), .val (.int v8), .val (.int v9), .val (.int v10), .val (.int v11), .unset, .unset] [(.int v11), (.int (3 : Int32)), (.ref kp), (.ref kp)])) (fun t k => ?_) ?_
          · show Steps p.tables e below (T28.setTop (mkF m 221 #[.val (.int v0), .val (.int v1), .val (.int v2), .val (.int v3), .val (.ref b1), .val (.int v5), .val (.int v6), .val (.int v7), .val (.int v8), .val (.int v9), .val (.int v10), .val (.int v11), .unset, .unset] [(.ref kp)])) _
            refine XS.dup X28.here hx rfl (hb hby at_221) rfl rfl ?_
            show Steps p.tables e below (T28.setTop (mkF m 222 #[.val (.int v0), .val (.int v1), .val (.int v2), .val (.int v3), .val (.ref b1), .val (.int v5), .val (.int v6), .val (.int v7), .val (.int v8), .val (.int v9), .val (.int v10), .val (.int v11), .unset, .unset] [(.ref kp), (.ref kp)])) _
            refine XS.iconst X28.here hx rfl (hb hby at_222) ?_
            show Steps p.tables e below (T28.setTop (mkF m 223 #[.val (.int v0), .val (.int v1), .val (.int v2), .val (.int v3), .val (.ref b1), .val (.int v5), .val (.int v6), .val (.int v7), .val (.int v8), .val (.int v9), .val (.int v10), .val (.int v11), .unset, .unset] [(.int (3 : Int32)), (.ref kp), (.ref kp)])) _
            refine XS.iload X28.here hx rfl (hb hby at_223) rfl  ?_
            exact k
          have hin29 : ¬ ((3 : Int32) < 0) ∧ (3 : Int32) < (4 : Int32) := by decide
          obtain ⟨cl29, Ar29, hi29, q29⟩ := own_open V_kp_28 hin29
          obtain ⟨T29, h29, X29, e29, W29, st29⟩ := stB X28 hx hZ e28 Ar29 (j := (3 : Int32)) hi29 (g := (mkF m 225 #[.val (.int v0), .val (.int v1), .val (.int v2), .val (.int v3), .val (.ref b1), .val (.int v5), .val (.int v6), .val (.int v7), .val (.int v8), .val (.int v9), .val (.int v10), .val (.int v11), .unset, .unset] [(.int v11), (.int (3 : Int32)), (.ref kp), (.ref kp)])) rfl rfl (hb hby at_225)
          have V_b1_29 := V_b1_28.other W29 ne_b1_kp
          obtain ⟨V_kp_29, ln_kp_29⟩ : Arv Z h29 kp k25 .byte (4 : Int32) (([(v8.toInt8.toInt32), (v9.toInt8.toInt32), (v10.toInt8.toInt32), (v11.toInt8.toInt32)] : List Int32).map Value.int) (.int 0) ∧ ([(v8.toInt8.toInt32), (v9.toInt8.toInt32), (v10.toInt8.toInt32), (v11.toInt8.toInt32)] : List Int32).length = (4 : Int32).toNatClampNeg := own_setI V_kp_28 ln_kp_28 hin29 W29 (fits_nar_byte _) 3 (by decide)
          have N29 := Fr.snoc X29 N28 g_kp
          have Z29 : n0 ≤ h29.size := Nat.le_trans Z28 (Nat.le_of_eq W29.size.symm)
          refine Fin.by (B := T29.setTop (mkF m 226 #[.val (.int v0), .val (.int v1), .val (.int v2), .val (.int v3), .val (.ref b1), .val (.int v5), .val (.int v6), .val (.int v7), .val (.int v8), .val (.int v9), .val (.int v10), .val (.int v11), .unset, .unset] [(.ref kp)])) (fun t k => st29 t k) ?_
          refine Fin.by (B := T29.setTop (mkF m 228 #[.val (.int v0), .val (.int v1), .val (.int v2), .val (.int v3), .val (.ref b1), .val (.int v5), .val (.int v6), .val (.int v7), .val (.int v8), .val (.int v9), .val (.int v10), .val (.int v11), .val (.ref kp), .unset] [])) (fun t k => ?_) ?_
          · show Steps p.tables e below (T29.setTop (mkF m 226 #[.val (.int v0), .val (.int v1), .val (.int v2), .val (.int v3), .val (.ref b1), .val (.int v5), .val (.int v6), .val (.int v7), .val (.int v8), .val (.int v9), .val (.int v10), .val (.int v11), .unset, .unset] [(.ref kp)])) _
            refine XS.astore X29.here hx rfl (hb hby at_226) rfl rfl (l' := #[.val (.int v0), .val (.int v1), .val (.int v2), .val (.int v3), .val (.ref b1), .val (.int v5), .val (.int v6), .val (.int v7), .val (.int v8), .val (.int v9), .val (.int v10), .val (.int v11), .val (.ref kp), .unset]) rfl ?_
            exact k
          have i5_j : 0 ≤ v5.toInt ∧ 0 ≤ v6.toInt ∧ v6.toInt + v5.toInt ≤ 4 := by assumption
          have ik_j : (4 : Int32) = v7 := by first | exact hc120.symm | exact hc134.symm | exact hc153.symm | exact hc177.symm | exact own_k4 _ i7 hc120 hc134 hc153 hc177
          exact b0_228 ⟨hx, hZ, hw, hby, hml, hret, hown, hnm, hlk⟩ h0 n0 v0 v1 v2 v3 b1 v5 v6 v7 v8 v9 v10 v11 kp b1_k b1_xs k25 (4 : Int32) ([(v8.toInt8.toInt32), (v9.toInt8.toInt32), (v10.toInt8.toInt32), (v11.toInt8.toInt32)] : List Int32) (X29.more (by decide) (by decide)) e29 N29 Z29 V_b1_29 ln_b1 g_b1 V_kp_29 ln_kp_29 g_kp ne_b1_kp i5_j ik_j _ hr
def f0_70 (v0 : Int32) (v1 : Int32) (v2 : Int32) (v3 : Int32) (v5 : Int32) (v6 : Int32) (v7 : Int32) (b1_xs : List Int32) : Int32 := (f0_118 v0 v1 v2 v3 v5 v6 v7 (f1_0 v6 (0 : Int32) v2 v1 b1_xs) (f1_0 v6 (1 : Int32) v2 v1 b1_xs) (f1_0 v6 (2 : Int32) v2 v1 b1_xs) (f1_0 v6 (3 : Int32) v2 v1 b1_xs) b1_xs)
set_option maxRecDepth 65536 in
set_option maxHeartbeats 40000000 in
theorem b0_70 {p : Program} {l : Launch} {e : Env} {s : State} {m : MethodId} {args : Array Value} {below : List Frame} {meth : Method} {c : Code} {Z : State} {a0 : Array Value} (B : Ctx p Z s a0 m meth c "com/example/tallywick/tallywick/xml/TreeBuilderSameBytesPinLaw" "law" code 14 (some .boolean)) {T0 : State} {locs : List Loc} {h : Heap} (h0 : Heap) (n0 : Nat) (v0 : Int32) (v1 : Int32) (v2 : Int32) (v3 : Int32) (b1 : Addr) (v5 : Int32) (v6 : Int32) (v7 : Int32) (b1_k : ClassId) (b1_xs : List Int32) (X0 : Stand p l e room_1 s m args below meth c T0 locs 1 4) (e0 : T0.heap = h) (N0 : Fr n0 locs) (Z0 : n0 ≤ h.size) (V_b1 : Arv Z h b1 b1_k .byte (4 : Int32) (b1_xs.map Value.int) (.int 0)) (ln_b1 : b1_xs.length = (4 : Int32).toNatClampNeg) (g_b1 : n0 ≤ b1) (i5 : 0 ≤ v5.toInt ∧ 0 ≤ v6.toInt ∧ v6.toInt + v5.toInt ≤ 4) (i7 : 0 ≤ v7.toInt ∧ v7.toInt ≤ 4) (r : Int32) (hr : f0_70 v0 v1 v2 v3 v5 v6 v7 b1_xs = r) :
    Fin p e below s 2 8 (Q0 n0 r) (T0.setTop (mkF m 70 #[.val (.int v0), .val (.int v1), .val (.int v2), .val (.int v3), .val (.ref b1), .val (.int v5), .val (.int v6), .val (.int v7), .unset, .unset, .unset, .unset, .unset, .unset] [])) := by
  obtain ⟨hx, hZ, hw, hby, hml, hret, hown, hnm, hlk⟩ := B
  unfold f0_70 at hr
  refine Fin.by (B := T0.setTop (mkF m 77 #[.val (.int v0), .val (.int v1), .val (.int v2), .val (.int v3), .val (.ref b1), .val (.int v5), .val (.int v6), .val (.int v7), .unset, .unset, .unset, .unset, .unset, .unset] [(.int v1), (.int v2), (.int (0 : Int32)), (.int v6), (.ref b1)])) (fun t k => ?_) ?_
  · show Steps p.tables e below (T0.setTop (mkF m 70 #[.val (.int v0), .val (.int v1), .val (.int v2), .val (.int v3), .val (.ref b1), .val (.int v5), .val (.int v6), .val (.int v7), .unset, .unset, .unset, .unset, .unset, .unset] [])) _
    refine XS.aload X0.here hx rfl (hb hby at_70) rfl rfl ?_
    show Steps p.tables e below (T0.setTop (mkF m 72 #[.val (.int v0), .val (.int v1), .val (.int v2), .val (.int v3), .val (.ref b1), .val (.int v5), .val (.int v6), .val (.int v7), .unset, .unset, .unset, .unset, .unset, .unset] [(.ref b1)])) _
    refine XS.iload X0.here hx rfl (hb hby at_72) rfl  ?_
    show Steps p.tables e below (T0.setTop (mkF m 74 #[.val (.int v0), .val (.int v1), .val (.int v2), .val (.int v3), .val (.ref b1), .val (.int v5), .val (.int v6), .val (.int v7), .unset, .unset, .unset, .unset, .unset, .unset] [(.int v6), (.ref b1)])) _
    refine XS.iconst X0.here hx rfl (hb hby at_74) ?_
    show Steps p.tables e below (T0.setTop (mkF m 75 #[.val (.int v0), .val (.int v1), .val (.int v2), .val (.int v3), .val (.ref b1), .val (.int v5), .val (.int v6), .val (.int v7), .unset, .unset, .unset, .unset, .unset, .unset] [(.int (0 : Int32)), (.int v6), (.ref b1)])) _
    refine XS.iloadN X0.here hx rfl (hb hby at_75) rfl  ?_
    show Steps p.tables e below (T0.setTop (mkF m 76 #[.val (.int v0), .val (.int v1), .val (.int v2), .val (.int v3), .val (.ref b1), .val (.int v5), .val (.int v6), .val (.int v7), .unset, .unset, .unset, .unset, .unset, .unset] [(.int v2), (.int (0 : Int32)), (.int v6), (.ref b1)])) _
    refine XS.iloadN X0.here hx rfl (hb hby at_76) rfl  ?_
    exact k
  have hp6_hbd : 0 ≤ v6.toInt ∧ v6.toInt ≤ 4 ∧ 0 ≤ (0 : Int32).toInt ∧ (0 : Int32).toInt ≤ 3 := ⟨i5.2.1, by omega, by decide, by decide⟩
  -- pc 77: com/example/tallywick/tallywick/xml/TreeBuilderSameBytesPinLaw.pick
  obtain ⟨_, _, ⟨T6, L6, k6, n6⟩, -, X6, ⟨Lc6, hQ6, l6, y6, z6⟩, st6⟩ := Jvm.LawKit.callS X0 hx (y := (⟨"com/example/tallywick/tallywick/xml/TreeBuilderSameBytesPinLaw", "pick", "([BIIII)B"⟩ : MethodName)) hown (mvT hZ (hw _ (List.mem_of_getElem? (i := 1) rfl))) (mvT hZ (hw _ (List.mem_of_getElem? (i := 2) rfl))) (mvT hZ (hw _ (List.mem_of_getElem? (i := 3) rfl))) (mvT hZ (hw _ (List.mem_of_getElem? (i := 4) rfl))) (by decide) (backOf (W := 0) (rm1 l Z a0 hw [] b1 v6 (0 : Int32) v2 v1 b1_k b1_xs h n0 Z0 V_b1 ln_b1 hp6_hbd) hZ (hw _ (List.mem_of_getElem? (i := 4) rfl)) (hw _ (List.mem_of_getElem? (i := 3) rfl)) (by decide) (by decide)) (g := (mkF m 77 #[.val (.int v0), .val (.int v1), .val (.int v2), .val (.int v3), .val (.ref b1), .val (.int v5), .val (.int v6), .val (.int v7), .unset, .unset, .unset, .unset, .unset, .unset] [(.int v1), (.int v2), (.int (0 : Int32)), (.int v6), (.ref b1)])) rfl (by rw [hml]; rfl) (argsL := [(.ref b1), (.int v6), (.int (0 : Int32)), (.int v2), (.int v1)]) (rest := []) (lenOf pd_0 rfl) rfl (by show 2 * 0 + _ ≤ _; exact Nat.le_of_eq rfl) (hb hby at_77) (fun _ _ => ⟨rfl, e0, (by decide : 1 + R1.cells ≤ _), (by decide : 4 + R1.slots ≤ _)⟩)
  dsimp only [Pt.U, Pt.locs, Pt.cells, Pt.slots] at X6 l6 y6 z6 st6 hQ6
  subst l6 y6 z6
  obtain ⟨rfl, Nq6, e6⟩ := hQ6
  have N6 := Fr.app N0 Nq6
  refine Fin.by (B := T6.setTop (mkF m 80 #[.val (.int v0), .val (.int v1), .val (.int v2), .val (.int v3), .val (.ref b1), .val (.int v5), .val (.int v6), .val (.int v7), .unset, .unset, .unset, .unset, .unset, .unset] [(.int (f1_0 v6 (0 : Int32) v2 v1 b1_xs))])) (fun t k => st6 t k) ?_
  refine Fin.by (B := T6.setTop (mkF m 89 #[.val (.int v0), .val (.int v1), .val (.int v2), .val (.int v3), .val (.ref b1), .val (.int v5), .val (.int v6), .val (.int v7), .val (.int (f1_0 v6 (0 : Int32) v2 v1 b1_xs)), .unset, .unset, .unset, .unset, .unset] [(.int v1), (.int v2), (.int (1 : Int32)), (.int v6), (.ref b1)])) (fun t k => ?_) ?_
  · show Steps p.tables e below (T6.setTop (mkF m 80 #[.val (.int v0), .val (.int v1), .val (.int v2), .val (.int v3), .val (.ref b1), .val (.int v5), .val (.int v6), .val (.int v7), .unset, .unset, .unset, .unset, .unset, .unset] [(.int (f1_0 v6 (0 : Int32) v2 v1 b1_xs))])) _
    refine XS.istore X6.here hx rfl (hb hby at_80) rfl (l' := #[.val (.int v0), .val (.int v1), .val (.int v2), .val (.int v3), .val (.ref b1), .val (.int v5), .val (.int v6), .val (.int v7), .val (.int (f1_0 v6 (0 : Int32) v2 v1 b1_xs)), .unset, .unset, .unset, .unset, .unset]) rfl ?_
    show Steps p.tables e below (T6.setTop (mkF m 82 #[.val (.int v0), .val (.int v1), .val (.int v2), .val (.int v3), .val (.ref b1), .val (.int v5), .val (.int v6), .val (.int v7), .val (.int (f1_0 v6 (0 : Int32) v2 v1 b1_xs)), .unset, .unset, .unset, .unset, .unset] [])) _
    refine XS.aload X6.here hx rfl (hb hby at_82) rfl rfl ?_
    show Steps p.tables e below (T6.setTop (mkF m 84 #[.val (.int v0), .val (.int v1), .val (.int v2), .val (.int v3), .val (.ref b1), .val (.int v5), .val (.int v6), .val (.int v7), .val (.int (f1_0 v6 (0 : Int32) v2 v1 b1_xs)), .unset, .unset, .unset, .unset, .unset] [(.ref b1)])) _
    refine XS.iload X6.here hx rfl (hb hby at_84) rfl  ?_
    show Steps p.tables e below (T6.setTop (mkF m 86 #[.val (.int v0), .val (.int v1), .val (.int v2), .val (.int v3), .val (.ref b1), .val (.int v5), .val (.int v6), .val (.int v7), .val (.int (f1_0 v6 (0 : Int32) v2 v1 b1_xs)), .unset, .unset, .unset, .unset, .unset] [(.int v6), (.ref b1)])) _
    refine XS.iconst X6.here hx rfl (hb hby at_86) ?_
    show Steps p.tables e below (T6.setTop (mkF m 87 #[.val (.int v0), .val (.int v1), .val (.int v2), .val (.int v3), .val (.ref b1), .val (.int v5), .val (.int v6), .val (.int v7), .val (.int (f1_0 v6 (0 : Int32) v2 v1 b1_xs)), .unset, .unset, .unset, .unset, .unset] [(.int (1 : Int32)), (.int v6), (.ref b1)])) _
    refine XS.iloadN X6.here hx rfl (hb hby at_87) rfl  ?_
    show Steps p.tables e below (T6.setTop (mkF m 88 #[.val (.int v0), .val (.int v1), .val (.int v2), .val (.int v3), .val (.ref b1), .val (.int v5), .val (.int v6), .val (.int v7), .val (.int (f1_0 v6 (0 : Int32) v2 v1 b1_xs)), .unset, .unset, .unset, .unset, .unset] [(.int v2), (.int (1 : Int32)), (.int v6), (.ref b1)])) _
    refine XS.iloadN X6.here hx rfl (hb hby at_88) rfl  ?_
    exact k
  have hp7_hbd : 0 ≤ v6.toInt ∧ v6.toInt ≤ 4 ∧ 0 ≤ (1 : Int32).toInt ∧ (1 : Int32).toInt ≤ 3 := ⟨i5.2.1, by omega, by decide, by decide⟩
  -- pc 89: com/example/tallywick/tallywick/xml/TreeBuilderSameBytesPinLaw.pick
  obtain ⟨_, _, ⟨T7, L7, k7, n7⟩, -, X7, ⟨Lc7, hQ7, l7, y7, z7⟩, st7⟩ := Jvm.LawKit.callS X6 hx (y := (⟨"com/example/tallywick/tallywick/xml/TreeBuilderSameBytesPinLaw", "pick", "([BIIII)B"⟩ : MethodName)) hown (mvT hZ (hw _ (List.mem_of_getElem? (i := 1) rfl))) (mvT hZ (hw _ (List.mem_of_getElem? (i := 2) rfl))) (mvT hZ (hw _ (List.mem_of_getElem? (i := 3) rfl))) (mvT hZ (hw _ (List.mem_of_getElem? (i := 4) rfl))) (by decide) (backOf (W := 0) (rm1 l Z a0 hw [] b1 v6 (1 : Int32) v2 v1 b1_k b1_xs h n0 Z0 V_b1 ln_b1 hp7_hbd) hZ (hw _ (List.mem_of_getElem? (i := 4) rfl)) (hw _ (List.mem_of_getElem? (i := 3) rfl)) (by decide) (by decide)) (g := (mkF m 89 #[.val (.int v0), .val (.int v1), .val (.int v2), .val (.int v3), .val (.ref b1), .val (.int v5), .val (.int v6), .val (.int v7), .val (.int (f1_0 v6 (0 : Int32) v2 v1 b1_xs)), .unset, .unset, .unset, .unset, .unset] [(.int v1), (.int v2), (.int (1 : Int32)), (.int v6), (.ref b1)])) rfl (by rw [hml]; rfl) (argsL := [(.ref b1), (.int v6), (.int (1 : Int32)), (.int v2), (.int v1)]) (rest := []) (lenOf pd_0 rfl) rfl (by show 2 * 0 + _ ≤ _; exact Nat.le_of_eq rfl) (hb hby at_89) (fun _ _ => ⟨rfl, e6, (by decide : 1 + R1.cells ≤ _), (by decide : 4 + R1.slots ≤ _)⟩)
  dsimp only [Pt.U, Pt.locs, Pt.cells, Pt.slots] at X7 l7 y7 z7 st7 hQ7
  subst l7 y7 z7
  obtain ⟨rfl, Nq7, e7⟩ := hQ7
  have N7 := Fr.app N6 Nq7
  refine Fin.by (B := T7.setTop (mkF m 92 #[.val (.int v0), .val (.int v1), .val (.int v2), .val (.int v3), .val (.ref b1), .val (.int v5), .val (.int v6), .val (.int v7), .val (.int (f1_0 v6 (0 : Int32) v2 v1 b1_xs)), .unset, .unset, .unset, .unset, .unset] [(.int (f1_0 v6 (1 : Int32) v2 v1 b1_xs))])) (fun t k => st7 t k) ?_
  refine Fin.by (B := T7.setTop (mkF m 101 #[.val (.int v0), .val (.int v1), .val (.int v2), .val (.int v3), .val (.ref b1), .val (.int v5), .val (.int v6), .val (.int v7), .val (.int (f1_0 v6 (0 : Int32) v2 v1 b1_xs)), .val (.int (f1_0 v6 (1 : Int32) v2 v1 b1_xs)), .unset, .unset, .unset, .unset] [(.int v1), (.int v2), (.int (2 : Int32)), (.int v6), (.ref b1)])) (fun t k => ?_) ?_
  · show Steps p.tables e below (T7.setTop (mkF m 92 #[.val (.int v0), .val (.int v1), .val (.int v2), .val (.int v3), .val (.ref b1), .val (.int v5), .val (.int v6), .val (.int v7), .val (.int (f1_0 v6 (0 : Int32) v2 v1 b1_xs)), .unset, .unset, .unset, .unset, .unset] [(.int (f1_0 v6 (1 : Int32) v2 v1 b1_xs))])) _
    refine XS.istore X7.here hx rfl (hb hby at_92) rfl (l' := #[.val (.int v0), .val (.int v1), .val (.int v2), .val (.int v3), .val (.ref b1), .val (.int v5), .val (.int v6), .val (.int v7), .val (.int (f1_0 v6 (0 : Int32) v2 v1 b1_xs)), .val (.int (f1_0 v6 (1 : Int32) v2 v1 b1_xs)), .unset, .unset, .unset, .unset]) rfl ?_
    show Steps p.tables e below (T7.setTop (mkF m 94 #[.val (.int v0), .val (.int v1), .val (.int v2), .val (.int v3), .val (.ref b1), .val (.int v5), .val (.int v6), .val (.int v7), .val (.int (f1_0 v6 (0 : Int32) v2 v1 b1_xs)), .val (.int (f1_0 v6 (1 : Int32) v2 v1 b1_xs)), .unset, .unset, .unset, .unset] [])) _
    refine XS.aload X7.here hx rfl (hb hby at_94) rfl rfl ?_
    show Steps p.tables e below (T7.setTop (mkF m 96 #[.val (.int v0), .val (.int v1), .val (.int v2), .val (.int v3), .val (.ref b1), .val (.int v5), .val (.int v6), .val (.int v7), .val (.int (f1_0 v6 (0 : Int32) v2 v1 b1_xs)), .val (.int (f1_0 v6 (1 : Int32) v2 v1 b1_xs)), .unset, .unset, .unset, .unset] [(.ref b1)])) _
    refine XS.iload X7.here hx rfl (hb hby at_96) rfl  ?_
    show Steps p.tables e below (T7.setTop (mkF m 98 #[.val (.int v0), .val (.int v1), .val (.int v2), .val (.int v3), .val (.ref b1), .val (.int v5), .val (.int v6), .val (.int v7), .val (.int (f1_0 v6 (0 : Int32) v2 v1 b1_xs)), .val (.int (f1_0 v6 (1 : Int32) v2 v1 b1_xs)), .unset, .unset, .unset, .unset] [(.int v6), (.ref b1)])) _
    refine XS.iconst X7.here hx rfl (hb hby at_98) ?_
    show Steps p.tables e below (T7.setTop (mkF m 99 #[.val (.int v0), .val (.int v1), .val (.int v2), .val (.int v3), .val (.ref b1), .val (.int v5), .val (.int v6), .val (.int v7), .val (.int (f1_0 v6 (0 : Int32) v2 v1 b1_xs)), .val (.int (f1_0 v6 (1 : Int32) v2 v1 b1_xs)), .unset, .unset, .unset, .unset] [(.int (2 : Int32)), (.int v6), (.ref b1)])) _
    refine XS.iloadN X7.here hx rfl (hb hby at_99) rfl  ?_
    show Steps p.tables e below (T7.setTop (mkF m 100 #[.val (.int v0), .val (.int v1), .val (.int v2), .val (.int v3), .val (.ref b1), .val (.int v5), .val (.int v6), .val (.int v7), .val (.int (f1_0 v6 (0 : Int32) v2 v1 b1_xs)), .val (.int (f1_0 v6 (1 : Int32) v2 v1 b1_xs)), .unset, .unset, .unset, .unset] [(.int v2), (.int (2 : Int32)), (.int v6), (.ref b1)])) _
    refine XS.iloadN X7.here hx rfl (hb hby at_100) rfl  ?_
    exact k
  have hp8_hbd : 0 ≤ v6.toInt ∧ v6.toInt ≤ 4 ∧ 0 ≤ (2 : Int32).toInt ∧ (2 : Int32).toInt ≤ 3 := ⟨i5.2.1, by omega, by decide, by decide⟩
  -- pc 101: com/example/tallywick/tallywick/xml/TreeBuilderSameBytesPinLaw.pick
  obtain ⟨_, _, ⟨T8, L8, k8, n8⟩, -, X8, ⟨Lc8, hQ8, l8, y8, z8⟩, st8⟩ := Jvm.LawKit.callS X7 hx (y := (⟨"com/example/tallywick/tallywick/xml/TreeBuilderSameBytesPinLaw", "pick", "([BIIII)B"⟩ : MethodName)) hown (mvT hZ (hw _ (List.mem_of_getElem? (i := 1) rfl))) (mvT hZ (hw _ (List.mem_of_getElem? (i := 2) rfl))) (mvT hZ (hw _ (List.mem_of_getElem? (i := 3) rfl))) (mvT hZ (hw _ (List.mem_of_getElem? (i := 4) rfl))) (by decide) (backOf (W := 0) (rm1 l Z a0 hw [] b1 v6 (2 : Int32) v2 v1 b1_k b1_xs h n0 Z0 V_b1 ln_b1 hp8_hbd) hZ (hw _ (List.mem_of_getElem? (i := 4) rfl)) (hw _ (List.mem_of_getElem? (i := 3) rfl)) (by decide) (by decide)) (g := (mkF m 101 #[.val (.int v0), .val (.int v1), .val (.int v2), .val (.int v3), .val (.ref b1), .val (.int v5), .val (.int v6), .val (.int v7), .val (.int (f1_0 v6 (0 : Int32) v2 v1 b1_xs)), .val (.int (f1_0 v6 (1 : Int32) v2 v1 b1_xs)), .unset, .unset, .unset, .unset] [(.int v1), (.int v2), (.int (2 : Int32)), (.int v6), (.ref b1)])) rfl (by rw [hml]; rfl) (argsL := [(.ref b1), (.int v6), (.int (2 : Int32)), (.int v2), (.int v1)]) (rest := []) (lenOf pd_0 rfl) rfl (by show 2 * 0 + _ ≤ _; exact Nat.le_of_eq rfl) (hb hby at_101) (fun _ _ => ⟨rfl, e7, (by decide : 1 + R1.cells ≤ _), (by decide : 4 + R1.slots ≤ _)⟩)
  dsimp only [Pt.U, Pt.locs, Pt.cells, Pt.slots] at X8 l8 y8 z8 st8 hQ8
  subst l8 y8 z8
  obtain ⟨rfl, Nq8, e8⟩ := hQ8
  have N8 := Fr.app N7 Nq8
  refine Fin.by (B := T8.setTop (mkF m 104 #[.val (.int v0), .val (.int v1), .val (.int v2), .val (.int v3), .val (.ref b1), .val (.int v5), .val (.int v6), .val (.int v7), .val (.int (f1_0 v6 (0 : Int32) v2 v1 b1_xs)), .val (.int (f1_0 v6 (1 : Int32) v2 v1 b1_xs)), .unset, .unset, .unset, .unset] [(.int (f1_0 v6 (2 : Int32) v2 v1 b1_xs))])) (fun t k => st8 t k) ?_
  refine Fin.by (B := T8.setTop (mkF m 113 #[.val (.int v0), .val (.int v1), .val (.int v2), .val (.int v3), .val (.ref b1), .val (.int v5), .val (.int v6), .val (.int v7), .val (.int (f1_0 v6 (0 : Int32) v2 v1 b1_xs)), .val (.int (f1_0 v6 (1 : Int32) v2 v1 b1_xs)), .val (.int (f1_0 v6 (2 : Int32) v2 v1 b1_xs)), .unset, .unset, .unset] [(.int v1), (.int v2), (.int (3 : Int32)), (.int v6), (.ref b1)])) (fun t k => ?_) ?_
  · show Steps p.tables e below (T8.setTop (mkF m 104 #[.val (.int v0), .val (.int v1), .val (.int v2), .val (.int v3), .val (.ref b1), .val (.int v5), .val (.int v6), .val (.int v7), .val (.int (f1_0 v6 (0 : Int32) v2 v1 b1_xs)), .val (.int (f1_0 v6 (1 : Int32) v2 v1 b1_xs)), .unset, .unset, .unset, .unset] [(.int (f1_0 v6 (2 : Int32) v2 v1 b1_xs))])) _
    refine XS.istore X8.here hx rfl (hb hby at_104) rfl (l' := #[.val (.int v0), .val (.int v1), .val (.int v2), .val (.int v3), .val (.ref b1), .val (.int v5), .val (.int v6), .val (.int v7), .val (.int (f1_0 v6 (0 : Int32) v2 v1 b1_xs)), .val (.int (f1_0 v6 (1 : Int32) v2 v1 b1_xs)), .val (.int (f1_0 v6 (2 : Int32) v2 v1 b1_xs)), .unset, .unset, .unset]) rfl ?_
    show Steps p.tables e below (T8.setTop (mkF m 106 #[.val (.int v0), .val (.int v1), .val (.int v2), .val (.int v3), .val (.ref b1), .val (.int v5), .val (.int v6), .val (.int v7), .val (.int (f1_0 v6 (0 : Int32) v2 v1 b1_xs)), .val (.int (f1_0 v6 (1 : Int32) v2 v1 b1_xs)), .val (.int (f1_0 v6 (2 : Int32) v2 v1 b1_xs)), .unset, .unset, .unset] [])) _
    refine XS.aload X8.here hx rfl (hb hby at_106) rfl rfl ?_
    show Steps p.tables e below (T8.setTop (mkF m 108 #[.val (.int v0), .val (.int v1), .val (.int v2), .val (.int v3), .val (.ref b1), .val (.int v5), .val (.int v6), .val (.int v7), .val (.int (f1_0 v6 (0 : Int32) v2 v1 b1_xs)), .val (.int (f1_0 v6 (1 : Int32) v2 v1 b1_xs)), .val (.int (f1_0 v6 (2 : Int32) v2 v1 b1_xs)), .unset, .unset, .unset] [(.ref b1)])) _
    refine XS.iload X8.here hx rfl (hb hby at_108) rfl  ?_
    show Steps p.tables e below (T8.setTop (mkF m 110 #[.val (.int v0), .val (.int v1), .val (.int v2), .val (.int v3), .val (.ref b1), .val (.int v5), .val (.int v6), .val (.int v7), .val (.int (f1_0 v6 (0 : Int32) v2 v1 b1_xs)), .val (.int (f1_0 v6 (1 : Int32) v2 v1 b1_xs)), .val (.int (f1_0 v6 (2 : Int32) v2 v1 b1_xs)), .unset, .unset, .unset] [(.int v6), (.ref b1)])) _
    refine XS.iconst X8.here hx rfl (hb hby at_110) ?_
    show Steps p.tables e below (T8.setTop (mkF m 111 #[.val (.int v0), .val (.int v1), .val (.int v2), .val (.int v3), .val (.ref b1), .val (.int v5), .val (.int v6), .val (.int v7), .val (.int (f1_0 v6 (0 : Int32) v2 v1 b1_xs)), .val (.int (f1_0 v6 (1 : Int32) v2 v1 b1_xs)), .val (.int (f1_0 v6 (2 : Int32) v2 v1 b1_xs)), .unset, .unset, .unset] [(.int (3 : Int32)), (.int v6), (.ref b1)])) _
    refine XS.iloadN X8.here hx rfl (hb hby at_111) rfl  ?_
    show Steps p.tables e below (T8.setTop (mkF m 112 #[.val (.int v0), .val (.int v1), .val (.int v2), .val (.int v3), .val (.ref b1), .val (.int v5), .val (.int v6), .val (.int v7), .val (.int (f1_0 v6 (0 : Int32) v2 v1 b1_xs)), .val (.int (f1_0 v6 (1 : Int32) v2 v1 b1_xs)), .val (.int (f1_0 v6 (2 : Int32) v2 v1 b1_xs)), .unset, .unset, .unset] [(.int v2), (.int (3 : Int32)), (.int v6), (.ref b1)])) _
    refine XS.iloadN X8.here hx rfl (hb hby at_112) rfl  ?_
    exact k
  have hp9_hbd : 0 ≤ v6.toInt ∧ v6.toInt ≤ 4 ∧ 0 ≤ (3 : Int32).toInt ∧ (3 : Int32).toInt ≤ 3 := ⟨i5.2.1, by omega, by decide, by decide⟩
  -- pc 113: com/example/tallywick/tallywick/xml/TreeBuilderSameBytesPinLaw.pick
  obtain ⟨_, _, ⟨T9, L9, k9, n9⟩, -, X9, ⟨Lc9, hQ9, l9, y9, z9⟩, st9⟩ := Jvm.LawKit.callS X8 hx (y := (⟨"com/example/tallywick/tallywick/xml/TreeBuilderSameBytesPinLaw", "pick", "([BIIII)B"⟩ : MethodName)) hown (mvT hZ (hw _ (List.mem_of_getElem? (i := 1) rfl))) (mvT hZ (hw _ (List.mem_of_getElem? (i := 2) rfl))) (mvT hZ (hw _ (List.mem_of_getElem? (i := 3) rfl))) (mvT hZ (hw _ (List.mem_of_getElem? (i := 4) rfl))) (by decide) (backOf (W := 0) (rm1 l Z a0 hw [] b1 v6 (3 : Int32) v2 v1 b1_k b1_xs h n0 Z0 V_b1 ln_b1 hp9_hbd) hZ (hw _ (List.mem_of_getElem? (i := 4) rfl)) (hw _ (List.mem_of_getElem? (i := 3) rfl)) (by decide) (by decide)) (g := (mkF m 113 #[.val (.int v0), .val (.int v1), .val (.int v2), .val (.int v3), .val (.ref b1), .val (.int v5), .val (.int v6), .val (.int v7), .val (.int (f1_0 v6 (0 : Int32) v2 v1 b1_xs)), .val (.int (f1_0 v6 (1 : Int32) v2 v1 b1_xs)), .val (.int (f1_0 v6 (2 : Int32) v2 v1 b1_xs)), .unset, .unset, .unset] [(.int v1), (.int v2), (.int (3 : Int32)), (.int v6), (.ref b1)])) rfl (by rw [hml]; rfl) (argsL := [(.ref b1), (.int v6), (.int (3 : Int32)), (.int v2), (.int v1)]) (rest := []) (lenOf pd_0 rfl) rfl (by show 2 * 0 + _ ≤ _; exact Nat.le_of_eq rfl) (hb hby at_113) (fun _ _ => ⟨rfl, e8, (by decide : 1 + R1.cells ≤ _), (by decide : 4 + R1.slots ≤ _)⟩)
  dsimp only [Pt.U, Pt.locs, Pt.cells, Pt.slots] at X9 l9 y9 z9 st9 hQ9
  subst l9 y9 z9
  obtain ⟨rfl, Nq9, e9⟩ := hQ9
  have N9 := Fr.app N8 Nq9
  refine Fin.by (B := T9.setTop (mkF m 116 #[.val (.int v0), .val (.int v1), .val (.int v2), .val (.int v3), .val (.ref b1), .val (.int v5), .val (.int v6), .val (.int v7), .val (.int (f1_0 v6 (0 : Int32) v2 v1 b1_xs)), .val (.int (f1_0 v6 (1 : Int32) v2 v1 b1_xs)), .val (.int (f1_0 v6 (2 : Int32) v2 v1 b1_xs)), .unset, .unset, .unset] [(.int (f1_0 v6 (3 : Int32) v2 v1 b1_xs))])) (fun t k => st9 t k) ?_
  refine Fin.by (B := T9.setTop (mkF m 118 #[.val (.int v0), .val (.int v1), .val (.int v2), .val (.int v3), .val (.ref b1), .val (.int v5), .val (.int v6), .val (.int v7), .val (.int (f1_0 v6 (0 : Int32) v2 v1 b1_xs)), .val (.int (f1_0 v6 (1 : Int32) v2 v1 b1_xs)), .val (.int (f1_0 v6 (2 : Int32) v2 v1 b1_xs)), .val (.int (f1_0 v6 (3 : Int32) v2 v1 b1_xs)), .unset, .unset] [])) (fun t k => ?_) ?_
  · show Steps p.tables e below (T9.setTop (mkF m 116 #[.val (.int v0), .val (.int v1), .val (.int v2), .val (.int v3), .val (.ref b1), .val (.int v5), .val (.int v6), .val (.int v7), .val (.int (f1_0 v6 (0 : Int32) v2 v1 b1_xs)), .val (.int (f1_0 v6 (1 : Int32) v2 v1 b1_xs)), .val (.int (f1_0 v6 (2 : Int32) v2 v1 b1_xs)), .unset, .unset, .unset] [(.int (f1_0 v6 (3 : Int32) v2 v1 b1_xs))])) _
    refine XS.istore X9.here hx rfl (hb hby at_116) rfl (l' := #[.val (.int v0), .val (.int v1), .val (.int v2), .val (.int v3), .val (.ref b1), .val (.int v5), .val (.int v6), .val (.int v7), .val (.int (f1_0 v6 (0 : Int32) v2 v1 b1_xs)), .val (.int (f1_0 v6 (1 : Int32) v2 v1 b1_xs)), .val (.int (f1_0 v6 (2 : Int32) v2 v1 b1_xs)), .val (.int (f1_0 v6 (3 : Int32) v2 v1 b1_xs)), .unset, .unset]) rfl ?_
    exact k
  have i5_j : 0 ≤ v5.toInt ∧ 0 ≤ v6.toInt ∧ v6.toInt + v5.toInt ≤ 4 := i5
  have i7_j : 0 ≤ v7.toInt ∧ v7.toInt ≤ 4 := i7
  exact b0_118 ⟨hx, hZ, hw, hby, hml, hret, hown, hnm, hlk⟩ h0 n0 v0 v1 v2 v3 b1 v5 v6 v7 (f1_0 v6 (0 : Int32) v2 v1 b1_xs) (f1_0 v6 (1 : Int32) v2 v1 b1_xs) (f1_0 v6 (2 : Int32) v2 v1 b1_xs) (f1_0 v6 (3 : Int32) v2 v1 b1_xs) b1_k b1_xs X9 e9 N9 Z0 V_b1 ln_b1 g_b1 i5_j i7_j _ hr
def f0_38 (v0 : Int32) (v1 : Int32) (v2 : Int32) (v3 : Int32) (b1_xs : List Int32) : Int32 := (f0_70 v0 v1 v2 v3 ((v3 &&& (7 : Int32)) % (5 : Int32)) ((((v3.toUInt32 >>> ((3 : Int32) &&& 31).toUInt32).toInt32) &&& (7 : Int32)) % ((5 : Int32) - ((v3 &&& (7 : Int32)) % (5 : Int32)))) ((((v3.toUInt32 >>> ((6 : Int32) &&& 31).toUInt32).toInt32) &&& (7 : Int32)) % (5 : Int32)) b1_xs)
set_option maxRecDepth 65536 in
set_option maxHeartbeats 40000000 in
theorem b0_38 {p : Program} {l : Launch} {e : Env} {s : State} {m : MethodId} {args : Array Value} {below : List Frame} {meth : Method} {c : Code} {Z : State} {a0 : Array Value} (B : Ctx p Z s a0 m meth c "com/example/tallywick/tallywick/xml/TreeBuilderSameBytesPinLaw" "law" code 14 (some .boolean)) {T0 : State} {locs : List Loc} {h : Heap} (h0 : Heap) (n0 : Nat) (v0 : Int32) (v1 : Int32) (v2 : Int32) (v3 : Int32) (b1 : Addr) (b1_k : ClassId) (b1_xs : List Int32) (X0 : Stand p l e room_1 s m args below meth c T0 locs 1 4) (e0 : T0.heap = h) (N0 : Fr n0 locs) (Z0 : n0 ≤ h.size) (V_b1 : Arv Z h b1 b1_k .byte (4 : Int32) (b1_xs.map Value.int) (.int 0)) (ln_b1 : b1_xs.length = (4 : Int32).toNatClampNeg) (g_b1 : n0 ≤ b1) (r : Int32) (hr : f0_38 v0 v1 v2 v3 b1_xs = r) :
    Fin p e below s 2 8 (Q0 n0 r) (T0.setTop (mkF m 38 #[.val (.int v0), .val (.int v1), .val (.int v2), .val (.int v3), .val (.ref b1), .unset, .unset, .unset, .unset, .unset, .unset, .unset, .unset, .unset] [])) := by
  obtain ⟨hx, hZ, hw, hby, hml, hret, hown, hnm, hlk⟩ := B
  unfold f0_38 at hr
  refine Fin.by (B := T0.setTop (mkF m 43 #[.val (.int v0), .val (.int v1), .val (.int v2), .val (.int v3), .val (.ref b1), .unset, .unset, .unset, .unset, .unset, .unset, .unset, .unset, .unset] [(.int (5 : Int32)), (.int (v3 &&& (7 : Int32)))])) (fun t k => ?_) ?_
  · show Steps p.tables e below (T0.setTop (mkF m 38 #[.val (.int v0), .val (.int v1), .val (.int v2), .val (.int v3), .val (.ref b1), .unset, .unset, .unset, .unset, .unset, .unset, .unset, .unset, .unset] [])) _
    refine XS.iloadN X0.here hx rfl (hb hby at_38) rfl  ?_
    show Steps p.tables e below (T0.setTop (mkF m 39 #[.val (.int v0), .val (.int v1), .val (.int v2), .val (.int v3), .val (.ref b1), .unset, .unset, .unset, .unset, .unset, .unset, .unset, .unset, .unset] [(.int v3)])) _
    refine XS.bipush X0.here hx rfl (hb hby at_39) ?_
    show Steps p.tables e below (T0.setTop (mkF m 41 #[.val (.int v0), .val (.int v1), .val (.int v2), .val (.int v3), .val (.ref b1), .unset, .unset, .unset, .unset, .unset, .unset, .unset, .unset, .unset] [(.int (7 : Int32)), (.int v3)])) _
    refine XS.iand X0.here hx rfl (hb hby at_41) rfl ?_
    show Steps p.tables e below (T0.setTop (mkF m 42 #[.val (.int v0), .val (.int v1), .val (.int v2), .val (.int v3), .val (.ref b1), .unset, .unset, .unset, .unset, .unset, .unset, .unset, .unset, .unset] [(.int (v3 &&& (7 : Int32)))])) _
    refine XS.iconst X0.here hx rfl (hb hby at_42) ?_
    exact k
  have hnz43 : ¬ ((5 : Int32) = (0 : Int32)) := by decide
  refine Fin.by (B := T0.setTop (mkF m 56 #[.val (.int v0), .val (.int v1), .val (.int v2), .val (.int v3), .val (.ref b1), .val (.int ((v3 &&& (7 : Int32)) % (5 : Int32))), .unset, .unset, .unset, .unset, .unset, .unset, .unset, .unset] [(.int ((5 : Int32) - ((v3 &&& (7 : Int32)) % (5 : Int32)))), (.int (((v3.toUInt32 >>> ((3 : Int32) &&& 31).toUInt32).toInt32) &&& (7 : Int32)))])) (fun t k => ?_) ?_
  · show Steps p.tables e below (T0.setTop (mkF m 43 #[.val (.int v0), .val (.int v1), .val (.int v2), .val (.int v3), .val (.ref b1), .unset, .unset, .unset, .unset, .unset, .unset, .unset, .unset, .unset] [(.int (5 : Int32)), (.int (v3 &&& (7 : Int32)))])) _
    refine iremM X0 hx rfl (hb hby at_43) rfl hnz43 ?_
    show Steps p.tables e below (T0.setTop (mkF m 44 #[.val (.int v0), .val (.int v1), .val (.int v2), .val (.int v3), .val (.ref b1), .unset, .unset, .unset, .unset, .unset, .unset, .unset, .unset, .unset] [(.int ((v3 &&& (7 : Int32)) % (5 : Int32)))])) _
    refine XS.istore X0.here hx rfl (hb hby at_44) rfl (l' := #[.val (.int v0), .val (.int v1), .val (.int v2), .val (.int v3), .val (.ref b1), .val (.int ((v3 &&& (7 : Int32)) % (5 : Int32))), .unset, .unset, .unset, .unset, .unset, .unset, .unset, .unset]) rfl ?_
    show Steps p.tables e below (T0.setTop (mkF m 46 #[.val (.int v0), .val (.int v1), .val (.int v2), .val (.int v3), .val (.ref b1), .val (.int ((v3 &&& (7 : Int32)) % (5 : Int32))), .unset, .unset, .unset, .unset, .unset, .unset, .unset, .unset] [])) _
    refine XS.iloadN X0.here hx rfl (hb hby at_46) rfl  ?_
    show Steps p.tables e below (T0.setTop (mkF m 47 #[.val (.int v0), .val (.int v1), .val (.int v2), .val (.int v3), .val (.ref b1), .val (.int ((v3 &&& (7 : Int32)) % (5 : Int32))), .unset, .unset, .unset, .unset, .unset, .unset, .unset, .unset] [(.int v3)])) _
    refine XS.iconst X0.here hx rfl (hb hby at_47) ?_
    show Steps p.tables e below (T0.setTop (mkF m 48 #[.val (.int v0), .val (.int v1), .val (.int v2), .val (.int v3), .val (.ref b1), .val (.int ((v3 &&& (7 : Int32)) % (5 : Int32))), .unset, .unset, .unset, .unset, .unset, .unset, .unset, .unset] [(.int (3 : Int32)), (.int v3)])) _
    refine XS.iushr X0.here hx rfl (hb hby at_48) rfl ?_
    show Steps p.tables e below (T0.setTop (mkF m 49 #[.val (.int v0), .val (.int v1), .val (.int v2), .val (.int v3), .val (.ref b1), .val (.int ((v3 &&& (7 : Int32)) % (5 : Int32))), .unset, .unset, .unset, .unset, .unset, .unset, .unset, .unset] [(.int ((v3.toUInt32 >>> ((3 : Int32) &&& 31).toUInt32).toInt32))])) _
    refine XS.bipush X0.here hx rfl (hb hby at_49) ?_
    show Steps p.tables e below (T0.setTop (mkF m 51 #[.val (.int v0), .val (.int v1), .val (.int v2), .val (.int v3), .val (.ref b1), .val (.int ((v3 &&& (7 : Int32)) % (5 : Int32))), .unset, .unset, .unset, .unset, .unset, .unset, .unset, .unset] [(.int (7 : Int32)), (.int ((v3.toUInt32 >>> ((3 : Int32) &&& 31).toUInt32).toInt32))])) _
    refine XS.iand X0.here hx rfl (hb hby at_51) rfl ?_
    show Steps p.tables e below (T0.setTop (mkF m 52 #[.val (.int v0), .val (.int v1), .val (.int v2), .val (.int v3), .val (.ref b1), .val (.int ((v3 &&& (7 : Int32)) % (5 : Int32))), .unset, .unset, .unset, .unset, .unset, .unset, .unset, .unset] [(.int (((v3.toUInt32 >>> ((3 : Int32) &&& 31).toUInt32).toInt32) &&& (7 : Int32)))])) _
    refine XS.iconst X0.here hx rfl (hb hby at_52) ?_
    show Steps p.tables e below (T0.setTop (mkF m 53 #[.val (.int v0), .val (.int v1), .val (.int v2), .val (.int v3), .val (.ref b1), .val (.int ((v3 &&& (7 : Int32)) % (5 : Int32))), .unset, .unset, .unset, .unset, .unset, .unset, .unset, .unset] [(.int (5 : Int32)), (.int (((v3.toUInt32 >>> ((3 : Int32) &&& 31).toUInt32).toInt32) &&& (7 : Int32)))])) _
    refine XS.iload X0.here hx rfl (hb hby at_53) rfl  ?_
    show Steps p.tables e below (T0.setTop (mkF m 55 #[.val (.int v0), .val (.int v1), .val (.int v2), .val (.int v3), .val (.ref b1), .val (.int ((v3 &&& (7 : Int32)) % (5 : Int32))), .unset, .unset, .unset, .unset, .unset, .unset, .unset, .unset] [(.int ((v3 &&& (7 : Int32)) % (5 : Int32))), (.int (5 : Int32)), (.int (((v3.toUInt32 >>> ((3 : Int32) &&& 31).toUInt32).toInt32) &&& (7 : Int32)))])) _
    refine XS.isub X0.here hx rfl (hb hby at_55) rfl ?_
    exact k
  have hnz56 : ¬ (((5 : Int32) - ((v3 &&& (7 : Int32)) % (5 : Int32))) = (0 : Int32)) := own_nz5 _ (own_5 _)
  refine Fin.by (B := T0.setTop (mkF m 67 #[.val (.int v0), .val (.int v1), .val (.int v2), .val (.int v3), .val (.ref b1), .val (.int ((v3 &&& (7 : Int32)) % (5 : Int32))), .val (.int ((((v3.toUInt32 >>> ((3 : Int32) &&& 31).toUInt32).toInt32) &&& (7 : Int32)) % ((5 : Int32) - ((v3 &&& (7 : Int32)) % (5 : Int32))))), .unset, .unset, .unset, .unset, .unset, .unset, .unset] [(.int (5 : Int32)), (.int (((v3.toUInt32 >>> ((6 : Int32) &&& 31).toUInt32).toInt32) &&& (7 : Int32)))])) (fun t k => ?_) ?_
  · show Steps p.tables e below (T0.setTop (mkF m 56 #[.val (.int v0), .val (.int v1), .val (.int v2), .val (.int v3), .val (.ref b1), .val (.int ((v3 &&& (7 : Int32)) % (5 : Int32))), .unset, .unset, .unset, .unset, .unset, .unset, .unset, .unset] [(.int ((5 : Int32) - ((v3 &&& (7 : Int32)) % (5 : Int32)))), (.int (((v3.toUInt32 >>> ((3 : Int32) &&& 31).toUInt32).toInt32) &&& (7 : Int32)))])) _
    refine iremM X0 hx rfl (hb hby at_56) rfl hnz56 ?_
    show Steps p.tables e below (T0.setTop (mkF m 57 #[.val (.int v0), .val (.int v1), .val (.int v2), .val (.int v3), .val (.ref b1), .val (.int ((v3 &&& (7 : Int32)) % (5 : Int32))), .unset, .unset, .unset, .unset, .unset, .unset, .unset, .unset] [(.int ((((v3.toUInt32 >>> ((3 : Int32) &&& 31).toUInt32).toInt32) &&& (7 : Int32)) % ((5 : Int32) - ((v3 &&& (7 : Int32)) % (5 : Int32)))))])) _
    refine XS.istore X0.here hx rfl (hb hby at_57) rfl (l' := #[.val (.int v0), .val (.int v1), .val (.int v2), .val (.int v3), .val (.ref b1), .val (.int ((v3 &&& (7 : Int32)) % (5 : Int32))), .val (.int ((((v3.toUInt32 >>> ((3 : Int32) &&& 31).toUInt32).toInt32) &&& (7 : Int32)) % ((5 : Int32) - ((v3 &&& (7 : Int32)) % (5 : Int32))))), .unset, .unset, .unset, .unset, .unset, .unset, .unset]) rfl ?_
    show Steps p.tables e below (T0.setTop (mkF m 59 #[.val (.int v0), .val (.int v1), .val (.int v2), .val (.int v3), .val (.ref b1), .val (.int ((v3 &&& (7 : Int32)) % (5 : Int32))), .val (.int ((((v3.toUInt32 >>> ((3 : Int32) &&& 31).toUInt32).toInt32) &&& (7 : Int32)) % ((5 : Int32) - ((v3 &&& (7 : Int32)) % (5 : Int32))))), .unset, .unset, .unset, .unset, .unset, .unset, .unset] [])) _
    refine XS.iloadN X0.here hx rfl (hb hby at_59) rfl  ?_
    show Steps p.tables e below (T0.setTop (mkF m 60 #[.val (.int v0), .val (.int v1), .val (.int v2), .val (.int v3), .val (.ref b1), .val (.int ((v3 &&& (7 : Int32)) % (5 : Int32))), .val (.int ((((v3.toUInt32 >>> ((3 : Int32) &&& 31).toUInt32).toInt32) &&& (7 : Int32)) % ((5 : Int32) - ((v3 &&& (7 : Int32)) % (5 : Int32))))), .unset, .unset, .unset, .unset, .unset, .unset, .unset] [(.int v3)])) _
    refine XS.bipush X0.here hx rfl (hb hby at_60) ?_
    show Steps p.tables e below (T0.setTop (mkF m 62 #[.val (.int v0), .val (.int v1), .val (.int v2), .val (.int v3), .val (.ref b1), .val (.int ((v3 &&& (7 : Int32)) % (5 : Int32))), .val (.int ((((v3.toUInt32 >>> ((3 : Int32) &&& 31).toUInt32).toInt32) &&& (7 : Int32)) % ((5 : Int32) - ((v3 &&& (7 : Int32)) % (5 : Int32))))), .unset, .unset, .unset, .unset, .unset, .unset, .unset] [(.int (6 : Int32)), (.int v3)])) _
    refine XS.iushr X0.here hx rfl (hb hby at_62) rfl ?_
    show Steps p.tables e below (T0.setTop (mkF m 63 #[.val (.int v0), .val (.int v1), .val (.int v2), .val (.int v3), .val (.ref b1), .val (.int ((v3 &&& (7 : Int32)) % (5 : Int32))), .val (.int ((((v3.toUInt32 >>> ((3 : Int32) &&& 31).toUInt32).toInt32) &&& (7 : Int32)) % ((5 : Int32) - ((v3 &&& (7 : Int32)) % (5 : Int32))))), .unset, .unset, .unset, .unset, .unset, .unset, .unset] [(.int ((v3.toUInt32 >>> ((6 : Int32) &&& 31).toUInt32).toInt32))])) _
    refine XS.bipush X0.here hx rfl (hb hby at_63) ?_
    show Steps p.tables e below (T0.setTop (mkF m 65 #[.val (.int v0), .val (.int v1), .val (.int v2), .val (.int v3), .val (.ref b1), .val (.int ((v3 &&& (7 : Int32)) % (5 : Int32))), .val (.int ((((v3.toUInt32 >>> ((3 : Int32) &&& 31).toUInt32).toInt32) &&& (7 : Int32)) % ((5 : Int32) - ((v3 &&& (7 : Int32)) % (5 : Int32))))), .unset, .unset, .unset, .unset, .unset, .unset, .unset] [(.int (7 : Int32)), (.int ((v3.toUInt32 >>> ((6 : Int32) &&& 31).toUInt32).toInt32))])) _
    refine XS.iand X0.here hx rfl (hb hby at_65) rfl ?_
    show Steps p.tables e below (T0.setTop (mkF m 66 #[.val (.int v0), .val (.int v1), .val (.int v2), .val (.int v3), .val (.ref b1), .val (.int ((v3 &&& (7 : Int32)) % (5 : Int32))), .val (.int ((((v3.toUInt32 >>> ((3 : Int32) &&& 31).toUInt32).toInt32) &&& (7 : Int32)) % ((5 : Int32) - ((v3 &&& (7 : Int32)) % (5 : Int32))))), .unset, .unset, .unset, .unset, .unset, .unset, .unset] [(.int (((v3.toUInt32 >>> ((6 : Int32) &&& 31).toUInt32).toInt32) &&& (7 : Int32)))])) _
    refine XS.iconst X0.here hx rfl (hb hby at_66) ?_
    exact k
  have hnz67 : ¬ ((5 : Int32) = (0 : Int32)) := by decide
  refine Fin.by (B := T0.setTop (mkF m 70 #[.val (.int v0), .val (.int v1), .val (.int v2), .val (.int v3), .val (.ref b1), .val (.int ((v3 &&& (7 : Int32)) % (5 : Int32))), .val (.int ((((v3.toUInt32 >>> ((3 : Int32) &&& 31).toUInt32).toInt32) &&& (7 : Int32)) % ((5 : Int32) - ((v3 &&& (7 : Int32)) % (5 : Int32))))), .val (.int ((((v3.toUInt32 >>> ((6 : Int32) &&& 31).toUInt32).toInt32) &&& (7 : Int32)) % (5 : Int32))), .unset, .unset, .unset, .unset, .unset, .unset] [])) (fun t k => ?_) ?_
  · show Steps p.tables e below (T0.setTop (mkF m 67 #[.val (.int v0), .val (.int v1), .val (.int v2), .val (.int v3), .val (.ref b1), .val (.int ((v3 &&& (7 : Int32)) % (5 : Int32))), .val (.int ((((v3.toUInt32 >>> ((3 : Int32) &&& 31).toUInt32).toInt32) &&& (7 : Int32)) % ((5 : Int32) - ((v3 &&& (7 : Int32)) % (5 : Int32))))), .unset, .unset, .unset, .unset, .unset, .unset, .unset] [(.int (5 : Int32)), (.int (((v3.toUInt32 >>> ((6 : Int32) &&& 31).toUInt32).toInt32) &&& (7 : Int32)))])) _
    refine iremM X0 hx rfl (hb hby at_67) rfl hnz67 ?_
    show Steps p.tables e below (T0.setTop (mkF m 68 #[.val (.int v0), .val (.int v1), .val (.int v2), .val (.int v3), .val (.ref b1), .val (.int ((v3 &&& (7 : Int32)) % (5 : Int32))), .val (.int ((((v3.toUInt32 >>> ((3 : Int32) &&& 31).toUInt32).toInt32) &&& (7 : Int32)) % ((5 : Int32) - ((v3 &&& (7 : Int32)) % (5 : Int32))))), .unset, .unset, .unset, .unset, .unset, .unset, .unset] [(.int ((((v3.toUInt32 >>> ((6 : Int32) &&& 31).toUInt32).toInt32) &&& (7 : Int32)) % (5 : Int32)))])) _
    refine XS.istore X0.here hx rfl (hb hby at_68) rfl (l' := #[.val (.int v0), .val (.int v1), .val (.int v2), .val (.int v3), .val (.ref b1), .val (.int ((v3 &&& (7 : Int32)) % (5 : Int32))), .val (.int ((((v3.toUInt32 >>> ((3 : Int32) &&& 31).toUInt32).toInt32) &&& (7 : Int32)) % ((5 : Int32) - ((v3 &&& (7 : Int32)) % (5 : Int32))))), .val (.int ((((v3.toUInt32 >>> ((6 : Int32) &&& 31).toUInt32).toInt32) &&& (7 : Int32)) % (5 : Int32))), .unset, .unset, .unset, .unset, .unset, .unset]) rfl ?_
    exact k
  have i5_j : 0 ≤ ((v3 &&& (7 : Int32)) % (5 : Int32)).toInt ∧ 0 ≤ ((((v3.toUInt32 >>> ((3 : Int32) &&& 31).toUInt32).toInt32) &&& (7 : Int32)) % ((5 : Int32) - ((v3 &&& (7 : Int32)) % (5 : Int32)))).toInt ∧ ((((v3.toUInt32 >>> ((3 : Int32) &&& 31).toUInt32).toInt32) &&& (7 : Int32)) % ((5 : Int32) - ((v3 &&& (7 : Int32)) % (5 : Int32)))).toInt + ((v3 &&& (7 : Int32)) % (5 : Int32)).toInt ≤ 4 := own_ln _ _ (own_5 _)
  have i7_j : 0 ≤ ((((v3.toUInt32 >>> ((6 : Int32) &&& 31).toUInt32).toInt32) &&& (7 : Int32)) % (5 : Int32)).toInt ∧ ((((v3.toUInt32 >>> ((6 : Int32) &&& 31).toUInt32).toInt32) &&& (7 : Int32)) % (5 : Int32)).toInt ≤ 4 := own_5 _
  exact b0_70 ⟨hx, hZ, hw, hby, hml, hret, hown, hnm, hlk⟩ h0 n0 v0 v1 v2 v3 b1 ((v3 &&& (7 : Int32)) % (5 : Int32)) ((((v3.toUInt32 >>> ((3 : Int32) &&& 31).toUInt32).toInt32) &&& (7 : Int32)) % ((5 : Int32) - ((v3 &&& (7 : Int32)) % (5 : Int32)))) ((((v3.toUInt32 >>> ((6 : Int32) &&& 31).toUInt32).toInt32) &&& (7 : Int32)) % (5 : Int32)) b1_k b1_xs X0 e0 N0 Z0 V_b1 ln_b1 g_b1 i5_j i7_j _ hr
def f0_0 (v0 : Int32) (v1 : Int32) (v2 : Int32) (v3 : Int32) : Int32 := (f0_38 v0 v1 v2 v3 ([((v0.toInt8.toInt32).toInt8.toInt32), (((v0 >>> ((8 : Int32) &&& 31)).toInt8.toInt32).toInt8.toInt32), ((((v0.toUInt32 >>> ((16 : Int32) &&& 31).toUInt32).toInt32).toInt8.toInt32).toInt8.toInt32), ((((v0.toUInt32 >>> ((24 : Int32) &&& 31).toUInt32).toInt32).toInt8.toInt32).toInt8.toInt32)] : List Int32))
set_option maxRecDepth 65536 in
set_option maxHeartbeats 40000000 in
theorem b0_0 {p : Program} {l : Launch} {e : Env} {s : State} {m : MethodId} {args : Array Value} {below : List Frame} {meth : Method} {c : Code} {Z : State} {a0 : Array Value} (B : Ctx p Z s a0 m meth c "com/example/tallywick/tallywick/xml/TreeBuilderSameBytesPinLaw" "law" code 14 (some .boolean)) {T0 : State} {locs : List Loc} {h : Heap} (h0 : Heap) (n0 : Nat) (v0 : Int32) (v1 : Int32) (v2 : Int32) (v3 : Int32) (X0 : Stand p l e room_1 s m args below meth c T0 locs 0 0) (e0 : T0.heap = h) (N0 : Fr n0 locs) (Z0 : n0 ≤ h.size) (r : Int32) (hr : f0_0 v0 v1 v2 v3 = r) :
    Fin p e below s 2 8 (Q0 n0 r) (T0.setTop (mkF m 0 #[.val (.int v0), .val (.int v1), .val (.int v2), .val (.int v3), .unset, .unset, .unset, .unset, .unset, .unset, .unset, .unset, .unset, .unset] [])) := by
  obtain ⟨hx, hZ, hw, hby, hml, hret, hown, hnm, hlk⟩ := B
  unfold f0_0 at hr
  refine Fin.by (B := T0.setTop (mkF m 1 #[.val (.int v0), .val (.int v1), .val (.int v2), .val (.int v3), .unset, .unset, .unset, .unset, .unset, .unset, .unset, .unset, .unset, .unset] [(.int (4 : Int32))])) (fun t k => ?_) ?_
  · show Steps p.tables e below (T0.setTop (mkF m 0 #[.val (.int v0), .val (.int v1), .val (.int v2), .val (.int v3), .unset, .unset, .unset, .unset, .unset, .unset, .unset, .unset, .unset, .unset] [])) _
    refine XS.iconst X0.here hx rfl (hb hby at_0) ?_
    exact k
  obtain ⟨T1, h1, k1, X1, e1, X1e, A1, st1⟩ := newP X0 hx hZ (hw _ (List.mem_of_getElem? (i := 0) rfl)) e0 (g := (mkF m 1 #[.val (.int v0), .val (.int v1), .val (.int v2), .val (.int v3), .unset, .unset, .unset, .unset, .unset, .unset, .unset, .unset, .unset, .unset] [(.int (4 : Int32))])) rfl (hb hby at_1) rfl (by decide) (cap := 4) (by decide) (by decide) (by decide) (by decide)
  obtain ⟨b1, g1⟩ : ∃ z, z = h.size := ⟨_, rfl⟩
  rw [← g1] at A1 st1
  have g_b1 : n0 ≤ b1 := Nat.le_trans Z0 (Nat.le_of_eq g1.symm)
  have Z1 : n0 ≤ h1.size := Nat.le_trans Z0 X1e.1
  obtain ⟨V_b1_1, ln_b1_1⟩ : Arv Z h1 b1 k1 .byte (4 : Int32) (([0, 0, 0, 0] : List Int32).map Value.int) (.int 0) ∧ ([0, 0, 0, 0] : List Int32).length = (4 : Int32).toNatClampNeg := own_newI A1 rfl (by decide) (xs := ([0, 0, 0, 0] : List Int32)) (by decide)
  refine Fin.by (B := T1.setTop (mkF m 3 #[.val (.int v0), .val (.int v1), .val (.int v2), .val (.int v3), .unset, .unset, .unset, .unset, .unset, .unset, .unset, .unset, .unset, .unset] [(.ref b1)])) (fun t k => st1 t k) ?_
  refine Fin.by (B := T1.setTop (mkF m 10 #[.val (.int v0), .val (.int v1), .val (.int v2), .val (.int v3), .val (.ref b1), .unset, .unset, .unset, .unset, .unset, .unset, .unset, .unset, .unset] [(.int (v0.toInt8.toInt32)), (.int (0 : Int32)), (.ref b1)])) (fun t k => ?_) ?_
  · show Steps p.tables e below (T1.setTop (mkF m 3 #[.val (.int v0), .val (.int v1), .val (.int v2), .val (.int v3), .unset, .unset, .unset, .unset, .unset, .unset, .unset, .unset, .unset, .unset] [(.ref b1)])) _
    refine XS.astore X1.here hx rfl (hb hby at_3) rfl rfl (l' := #[.val (.int v0), .val (.int v1), .val (.int v2), .val (.int v3), .val (.ref b1), .unset, .unset, .unset, .unset, .unset, .unset, .unset, .unset, .unset]) rfl ?_
    show Steps p.tables e below (T1.setTop (mkF m 5 #[.val (.int v0), .val (.int v1), .val (.int v2), .val (.int v3), .val (.ref b1), .unset, .unset, .unset, .unset, .unset, .unset, .unset, .unset, .unset] [])) _
    refine XS.aload X1.here hx rfl (hb hby at_5) rfl rfl ?_
    show Steps p.tables e below (T1.setTop (mkF m 7 #[.val (.int v0), .val (.int v1), .val (.int v2), .val (.int v3), .val (.ref b1), .unset, .unset, .unset, .unset, .unset, .unset, .unset, .unset, .unset] [(.ref b1)])) _
    refine XS.iconst X1.here hx rfl (hb hby at_7) ?_
    show Steps p.tables e below (T1.setTop (mkF m 8 #[.val (.int v0), .val (.int v1), .val (.int v2), .val (.int v3), .val (.ref b1), .unset, .unset, .unset, .unset, .unset, .unset, .unset, .unset, .unset] [(.int (0 : Int32)), (.ref b1)])) _
    refine XS.iloadN X1.here hx rfl (hb hby at_8) rfl  ?_
    show Steps p.tables e below (T1.setTop (mkF m 9 #[.val (.int v0), .val (.int v1), .val (.int v2), .val (.int v3), .val (.ref b1), .unset, .unset, .unset, .unset, .unset, .unset, .unset, .unset, .unset] [(.int v0), (.int (0 : Int32)), (.ref b1)])) _
    refine XS.i2b X1.here hx rfl (hb hby at_9) rfl ?_
    exact k
  have hin2 : ¬ ((0 : Int32) < 0) ∧ (0 : Int32) < (4 : Int32) := by decide
  obtain ⟨cl2, Ar2, hi2, q2⟩ := own_open V_b1_1 hin2
  obtain ⟨T2, h2, X2, e2, W2, st2⟩ := stB X1 hx hZ e1 Ar2 (j := (0 : Int32)) hi2 (g := (mkF m 10 #[.val (.int v0), .val (.int v1), .val (.int v2), .val (.int v3), .val (.ref b1), .unset, .unset, .unset, .unset, .unset, .unset, .unset, .unset, .unset] [(.int (v0.toInt8.toInt32)), (.int (0 : Int32)), (.ref b1)])) rfl rfl (hb hby at_10)
  obtain ⟨V_b1_2, ln_b1_2⟩ : Arv Z h2 b1 k1 .byte (4 : Int32) (([((v0.toInt8.toInt32).toInt8.toInt32), 0, 0, 0] : List Int32).map Value.int) (.int 0) ∧ ([((v0.toInt8.toInt32).toInt8.toInt32), 0, 0, 0] : List Int32).length = (4 : Int32).toNatClampNeg := own_setI V_b1_1 ln_b1_1 hin2 W2 (fits_nar_byte _) 0 (by decide)
  have N2 := Fr.snoc X2 N0 g_b1
  have Z2 : n0 ≤ h2.size := Nat.le_trans Z1 (Nat.le_of_eq W2.size.symm)
  refine Fin.by (B := T2.setTop (mkF m 11 #[.val (.int v0), .val (.int v1), .val (.int v2), .val (.int v3), .val (.ref b1), .unset, .unset, .unset, .unset, .unset, .unset, .unset, .unset, .unset] [])) (fun t k => st2 t k) ?_
  refine Fin.by (B := T2.setTop (mkF m 19 #[.val (.int v0), .val (.int v1), .val (.int v2), .val (.int v3), .val (.ref b1), .unset, .unset, .unset, .unset, .unset, .unset, .unset, .unset, .unset] [(.int ((v0 >>> ((8 : Int32) &&& 31)).toInt8.toInt32)), (.int (1 : Int32)), (.ref b1)])) (fun t k => ?_) ?_
  · show Steps p.tables e below (T2.setTop (mkF m 11 #[.val (.int v0), .val (.int v1), .val (.int v2), .val (.int v3), .val (.ref b1), .unset, .unset, .unset, .unset, .unset, .unset, .unset, .unset, .unset] [])) _
    refine XS.aload X2.here hx rfl (hb hby at_11) rfl rfl ?_
    show Steps p.tables e below (T2.setTop (mkF m 13 #[.val (.int v0), .val (.int v1), .val (.int v2), .val (.int v3), .val (.ref b1), .unset, .unset, .unset, .unset, .unset, .unset, .unset, .unset, .unset] [(.ref b1)])) _
    refine XS.iconst X2.here hx rfl (hb hby at_13) ?_
    show Steps p.tables e below (T2.setTop (mkF m 14 #[.val (.int v0), .val (.int v1), .val (.int v2), .val (.int v3), .val (.ref b1), .unset, .unset, .unset, .unset, .unset, .unset, .unset, .unset, .unset] [(.int (1 : Int32)), (.ref b1)])) _
    refine XS.iloadN X2.here hx rfl (hb hby at_14) rfl  ?_
    show Steps p.tables e below (T2.setTop (mkF m 15 #[.val (.int v0), .val (.int v1), .val (.int v2), .val (.int v3), .val (.ref b1), .unset, .unset, .unset, .unset, .unset, .unset, .unset, .unset, .unset] [(.int v0), (.int (1 : Int32)), (.ref b1)])) _
    refine XS.bipush X2.here hx rfl (hb hby at_15) ?_
    show Steps p.tables e below (T2.setTop (mkF m 17 #[.val (.int v0), .val (.int v1), .val (.int v2), .val (.int v3), .val (.ref b1), .unset, .unset, .unset, .unset, .unset, .unset, .unset, .unset, .unset] [(.int (8 : Int32)), (.int v0), (.int (1 : Int32)), (.ref b1)])) _
    refine XS.ishr X2.here hx rfl (hb hby at_17) rfl ?_
    show Steps p.tables e below (T2.setTop (mkF m 18 #[.val (.int v0), .val (.int v1), .val (.int v2), .val (.int v3), .val (.ref b1), .unset, .unset, .unset, .unset, .unset, .unset, .unset, .unset, .unset] [(.int (v0 >>> ((8 : Int32) &&& 31))), (.int (1 : Int32)), (.ref b1)])) _
    refine XS.i2b X2.here hx rfl (hb hby at_18) rfl ?_
    exact k
  have hin3 : ¬ ((1 : Int32) < 0) ∧ (1 : Int32) < (4 : Int32) := by decide
  obtain ⟨cl3, Ar3, hi3, q3⟩ := own_open V_b1_2 hin3
  obtain ⟨T3, h3, X3, e3, W3, st3⟩ := stB X2 hx hZ e2 Ar3 (j := (1 : Int32)) hi3 (g := (mkF m 19 #[.val (.int v0), .val (.int v1), .val (.int v2), .val (.int v3), .val (.ref b1), .unset, .unset, .unset, .unset, .unset, .unset, .unset, .unset, .unset] [(.int ((v0 >>> ((8 : Int32) &&& 31)).toInt8.toInt32)), (.int (1 : Int32)), (.ref b1)])) rfl rfl (hb hby at_19)
  obtain ⟨V_b1_3, ln_b1_3⟩ : Arv Z h3 b1 k1 .byte (4 : Int32) (([((v0.toInt8.toInt32).toInt8.toInt32), (((v0 >>> ((8 : Int32) &&& 31)).toInt8.toInt32).toInt8.toInt32), 0, 0] : List Int32).map Value.int) (.int 0) ∧ ([((v0.toInt8.toInt32).toInt8.toInt32), (((v0 >>> ((8 : Int32) &&& 31)).toInt8.toInt32).toInt8.toInt32), 0, 0] : List Int32).length = (4 : Int32).toNatClampNeg := own_setI V_b1_2 ln_b1_2 hin3 W3 (fits_nar_byte _) 1 (by decide)
  have N3 := Fr.snoc X3 N2 g_b1
  have Z3 : n0 ≤ h3.size := Nat.le_trans Z2 (Nat.le_of_eq W3.size.symm)
  refine Fin.by (B := T3.setTop (mkF m 20 #[.val (.int v0), .val (.int v1), .val (.int v2), .val (.int v3), .val (.ref b1), .unset, .unset, .unset, .unset, .unset, .unset, .unset, .unset, .unset] [])) (fun t k => st3 t k) ?_
  refine Fin.by (B := T3.setTop (mkF m 28 #[.val (.int v0), .val (.int v1), .val (.int v2), .val (.int v3), .val (.ref b1), .unset, .unset, .unset, .unset, .unset, .unset, .unset, .unset, .unset] [(.int (((v0.toUInt32 >>> ((16 : Int32) &&& 31).toUInt32).toInt32).toInt8.toInt32)), (.int (2 : Int32)), (.ref b1)])) (fun t k => ?_) ?_
  · show Steps p.tables e below (T3.setTop (mkF m 20 #[.val (.int v0), .val (.int v1), .val (.int v2), .val (.int v3), .val (.ref b1), .unset, .unset, .unset, .unset, .unset, .unset, .unset, .unset, .unset] [])) _
    refine XS.aload X3.here hx rfl (hb hby at_20) rfl rfl ?_
    show Steps p.tables e below (T3.setTop (mkF m 22 #[.val (.int v0), .val (.int v1), .val (.int v2), .val (.int v3), .val (.ref b1), .unset, .unset, .unset, .unset, .unset, .unset, .unset, .unset, .unset] [(.ref b1)])) _
    refine XS.iconst X3.here hx rfl (hb hby at_22) ?_
    show Steps p.tables e below (T3.setTop (mkF m 23 #[.val (.int v0), .val (.int v1), .val (.int v2), .val (.int v3), .val (.ref b1), .unset, .unset, .unset, .unset, .unset, .unset, .unset, .unset, .unset] [(.int (2 : Int32)), (.ref b1)])) _
    refine XS.iloadN X3.here hx rfl (hb hby at_23) rfl  ?_
    show Steps p.tables e below (T3.setTop (mkF m 24 #[.val (.int v0), .val (.int v1), .val (.int v2), .val (.int v3), .val (.ref b1), .unset, .unset, .unset, .unset, .unset, .unset, .unset, .unset, .unset] [(.int v0), (.int (2 : Int32)), (.ref b1)])) _
    refine XS.bipush X3.here hx rfl (hb hby at_24) ?_
    show Steps p.tables e below (T3.setTop (mkF m 26 #[.val (.int v0), .val (.int v1), .val (.int v2), .val (.int v3), .val (.ref b1), .unset, .unset, .unset, .unset, .unset, .unset, .unset, .unset, .unset] [(.int (16 : Int32)), (.int v0), (.int (2 : Int32)), (.ref b1)])) _
    refine XS.iushr X3.here hx rfl (hb hby at_26) rfl ?_
    show Steps p.tables e below (T3.setTop (mkF m 27 #[.val (.int v0), .val (.int v1), .val (.int v2), .val (.int v3), .val (.ref b1), .unset, .unset, .unset, .unset, .unset, .unset, .unset, .unset, .unset] [(.int ((v0.toUInt32 >>> ((16 : Int32) &&& 31).toUInt32).toInt32)), (.int (2 : Int32)), (.ref b1)])) _
    refine XS.i2b X3.here hx rfl (hb hby at_27) rfl ?_
    exact k
  have hin4 : ¬ ((2 : Int32) < 0) ∧ (2 : Int32) < (4 : Int32) := by decide
  obtain ⟨cl4, Ar4, hi4, q4⟩ := own_open V_b1_3 hin4
  obtain ⟨T4, h4, X4, e4, W4, st4⟩ := stB X3 hx hZ e3 Ar4 (j := (2 : Int32)) hi4 (g := (mkF m 28 #[.val (.int v0), .val (.int v1), .val (.int v2), .val (.int v3), .val (.ref b1), .unset, .unset, .unset, .unset, .unset, .unset, .unset, .unset, .unset] [(.int (((v0.toUInt32 >>> ((16 : Int32) &&& 31).toUInt32).toInt32).toInt8.toInt32)), (.int (2 : Int32)), (.ref b1)])) rfl rfl (hb hby at_28)
  obtain ⟨V_b1_4, ln_b1_4⟩ : Arv Z h4 b1 k1 .byte (4 : Int32) (([((v0.toInt8.toInt32).toInt8.toInt32), (((v0 >>> ((8 : Int32) &&& 31)).toInt8.toInt32).toInt8.toInt32), ((((v0.toUInt32 >>> ((16 : Int32) &&& 31).toUInt32).toInt32).toInt8.toInt32).toInt8.toInt32), 0] : List Int32).map Value.int) (.int 0) ∧ ([((v0.toInt8.toInt32).toInt8.toInt32), (((v0 >>> ((8 : Int32) &&& 31)).toInt8.toInt32).toInt8.toInt32), ((((v0.toUInt32 >>> ((16 : Int32) &&& 31).toUInt32).toInt32).toInt8.toInt32).toInt8.toInt32), 0] : List Int32).length = (4 : Int32).toNatClampNeg := own_setI V_b1_3 ln_b1_3 hin4 W4 (fits_nar_byte _) 2 (by decide)
  have N4 := Fr.snoc X4 N3 g_b1
  have Z4 : n0 ≤ h4.size := Nat.le_trans Z3 (Nat.le_of_eq W4.size.symm)
  refine Fin.by (B := T4.setTop (mkF m 29 #[.val (.int v0), .val (.int v1), .val (.int v2), .val (.int v3), .val (.ref b1), .unset, .unset, .unset, .unset, .unset, .unset, .unset, .unset, .unset] [])) (fun t k => st4 t k) ?_
  refine Fin.by (B := T4.setTop (mkF m 37 #[.val (.int v0), .val (.int v1), .val (.int v2), .val (.int v3), .val (.ref b1), .unset, .unset, .unset, .unset, .unset, .unset, .unset, .unset, .unset] [(.int (((v0.toUInt32 >>> ((24 : Int32) &&& 31).toUInt32).toInt32).toInt8.toInt32)), (.int (3 : Int32)), (.ref b1)])) (fun t k => ?_) ?_
  · show Steps p.tables e below (T4.setTop (mkF m 29 #[.val (.int v0), .val (.int v1), .val (.int v2), .val (.int v3), .val (.ref b1), .unset, .unset, .unset, .unset, .unset, .unset, .unset, .unset, .unset] [])) _
    refine XS.aload X4.here hx rfl (hb hby at_29) rfl rfl ?_
    show Steps p.tables e below (T4.setTop (mkF m 31 #[.val (.int v0), .val (.int v1), .val (.int v2), .val (.int v3), .val (.ref b1), .unset, .unset, .unset, .unset, .unset, .unset, .unset, .unset, .unset] [(.ref b1)])) _
    refine XS.iconst X4.here hx rfl (hb hby at_31) ?_
    show Steps p.tables e below (T4.setTop (mkF m 32 #[.val (.int v0), .val (.int v1), .val (.int v2), .val (.int v3), .val (.ref b1), .unset, .unset, .unset, .unset, .unset, .unset, .unset, .unset, .unset] [(.int (3 : Int32)), (.ref b1)])) _
    refine XS.iloadN X4.here hx rfl (hb hby at_32) rfl  ?_
    show Steps p.tables e below (T4.setTop (mkF m 33 #[.val (.int v0), .val (.int v1), .val (.int v2), .val (.int v3), .val (.ref b1), .unset, .unset, .unset, .unset, .unset, .unset, .unset, .unset, .unset] [(.int v0), (.int (3 : Int32)), (.ref b1)])) _
    refine XS.bipush X4.here hx rfl (hb hby at_33) ?_
    show Steps p.tables e below (T4.setTop (mkF m 35 #[.val (.int v0), .val (.int v1), .val (.int v2), .val (.int v3), .val (.ref b1), .unset, .unset, .unset, .unset, .unset, .unset, .unset, .unset, .unset] [(.int (24 : Int32)), (.int v0), (.int (3 : Int32)), (.ref b1)])) _
    refine XS.iushr X4.here hx rfl (hb hby at_35) rfl ?_
    show Steps p.tables e below (T4.setTop (mkF m 36 #[.val (.int v0), .val (.int v1), .val (.int v2), .val (.int v3), .val (.ref b1), .unset, .unset, .unset, .unset, .unset, .unset, .unset, .unset, .unset] [(.int ((v0.toUInt32 >>> ((24 : Int32) &&& 31).toUInt32).toInt32)), (.int (3 : Int32)), (.ref b1)])) _
    refine XS.i2b X4.here hx rfl (hb hby at_36) rfl ?_
    exact k
  have hin5 : ¬ ((3 : Int32) < 0) ∧ (3 : Int32) < (4 : Int32) := by decide
  obtain ⟨cl5, Ar5, hi5, q5⟩ := own_open V_b1_4 hin5
  obtain ⟨T5, h5, X5, e5, W5, st5⟩ := stB X4 hx hZ e4 Ar5 (j := (3 : Int32)) hi5 (g := (mkF m 37 #[.val (.int v0), .val (.int v1), .val (.int v2), .val (.int v3), .val (.ref b1), .unset, .unset, .unset, .unset, .unset, .unset, .unset, .unset, .unset] [(.int (((v0.toUInt32 >>> ((24 : Int32) &&& 31).toUInt32).toInt32).toInt8.toInt32)), (.int (3 : Int32)), (.ref b1)])) rfl rfl (hb hby at_37)
  obtain ⟨V_b1_5, ln_b1_5⟩ : Arv Z h5 b1 k1 .byte (4 : Int32) (([((v0.toInt8.toInt32).toInt8.toInt32), (((v0 >>> ((8 : Int32) &&& 31)).toInt8.toInt32).toInt8.toInt32), ((((v0.toUInt32 >>> ((16 : Int32) &&& 31).toUInt32).toInt32).toInt8.toInt32).toInt8.toInt32), ((((v0.toUInt32 >>> ((24 : Int32) &&& 31).toUInt32).toInt32).toInt8.toInt32).toInt8.toInt32)] : List Int32).map Value.int) (.int 0) ∧ ([((v0.toInt8.toInt32).toInt8.toInt32), (((v0 >>> ((8 : Int32) &&& 31)).toInt8.toInt32).toInt8.toInt32), ((((v0.toUInt32 >>> ((16 : Int32) &&& 31).toUInt32).toInt32).toInt8.toInt32).toInt8.toInt32), ((((v0.toUInt32 >>> ((24 : Int32) &&& 31).toUInt32).toInt32).toInt8.toInt32).toInt8.toInt32)] : List Int32).length = (4 : Int32).toNatClampNeg := own_setI V_b1_4 ln_b1_4 hin5 W5 (fits_nar_byte _) 3 (by decide)
  have N5 := Fr.snoc X5 N4 g_b1
  have Z5 : n0 ≤ h5.size := Nat.le_trans Z4 (Nat.le_of_eq W5.size.symm)
  refine Fin.by (B := T5.setTop (mkF m 38 #[.val (.int v0), .val (.int v1), .val (.int v2), .val (.int v3), .val (.ref b1), .unset, .unset, .unset, .unset, .unset, .unset, .unset, .unset, .unset] [])) (fun t k => st5 t k) ?_
  exact b0_38 ⟨hx, hZ, hw, hby, hml, hret, hown, hnm, hlk⟩ h0 n0 v0 v1 v2 v3 b1 k1 ([((v0.toInt8.toInt32).toInt8.toInt32), (((v0 >>> ((8 : Int32) &&& 31)).toInt8.toInt32).toInt8.toInt32), ((((v0.toUInt32 >>> ((16 : Int32) &&& 31).toUInt32).toInt32).toInt8.toInt32).toInt8.toInt32), ((((v0.toUInt32 >>> ((24 : Int32) &&& 31).toUInt32).toInt32).toInt8.toInt32).toInt8.toInt32)] : List Int32) X5 e5 N5 Z5 V_b1_5 ln_b1_5 g_b1 _ hr
theorem ef_0 (m : MethodId) (v0 : Int32) (v1 : Int32) (v2 : Int32) (v3 : Int32) : entryFrame m #[(.int v0), (.int v1), (.int v2), (.int v3)] maxLocals = (mkF m 0 #[.val (.int v0), .val (.int v1), .val (.int v2), .val (.int v3), .unset, .unset, .unset, .unset, .unset, .unset, .unset, .unset, .unset, .unset] []) := by first | (simp [entryFrame, mkF, argsToLocals, Value.category, maxLocals]; done) | rfl
set_option maxRecDepth 65536 in
set_option maxHeartbeats 40000000 in
theorem rm0 (l : Launch) (Z : State) (a0 : Array Value) (hw : ∀ d ∈ tables_1, d.before a0 Z = true) (ws : List Jvm.Cond) (v0 : Int32) (v1 : Int32) (v2 : Int32) (v3 : Int32) (h0 : Heap) (n0 : Nat) (Z0 : n0 ≤ h0.size) :
    MetFree l x (head1 (Jvm.Cond.code x code maxLocals ret :: ws) room_1) (fun a U => a = #[(.int v0), (.int v1), (.int v2), (.int v3)] ∧ Z.Warmed39 U.vm ∧ U.heap = h0) (fun _ _ _ _ _ => True) (fun _ U o U' => ∃ v L, o = .returned v ∧ (Q0 n0 (f0_0 v0 v1 v2 v3)) v U'.heap L ∧ FrameEnd U o U' L 2 8) := by
  refine MetFree.of_bodySF (plainFor_of_name pn_0) hisR ?_
  intro p e s m args below meth c s₁ Bd hml0 hP hK
  obtain ⟨rfl, hZ, hh⟩ := hP
  have B : Ctx p Z s a0 m meth c "com/example/tallywick/tallywick/xml/TreeBuilderSameBytesPinLaw" "law" code 14 (some .boolean) := ⟨Bd.exec, hZ, hw, Bd.bytes, hml0, Bd.returns, findClass_of_methodNamed Bd.named, (name_of_methodNamed Bd.named Bd.method).1, Bd.notSynchronized⟩
  have X0 : Stand p l e room_1 s m #[(.int v0), (.int v1), (.int v2), (.int v3)] below meth c s₁ [] 0 0 := Stand.of_body Bd
  have e0 : s₁.heap = h0 := by rw [← hh, Bd.state]; rfl
  have K := Keep.refl h0 []
  show Fin p e below s 2 8 (Q0 n0 (f0_0 v0 v1 v2 v3)) (s₁.setTop (entryFrame m #[(.int v0), (.int v1), (.int v2), (.int v3)] maxLocals))
  refine Fin.by (fun t k => castTop (ef_0 m v0 v1 v2 v3) k) ?_
  exact b0_0 B h0 n0 v0 v1 v2 v3 X0 e0 (Fr.nil n0) Z0  _ rfl

theorem own_bb (x : Int32) : (nar .byte x).toInt8.toInt32 = nar .byte x := by
  show (x.toInt8.toInt32).toInt8.toInt32 = x.toInt8.toInt32
  apply Int32.toInt_inj.mp
  have h3 := c_i2b x; have h4 := c_i2b x.toInt8.toInt32
  omega
theorem own_pb (a b c d : Int32) (xs : List Int32) : (f1_0 a b c d xs).toInt8.toInt32 = f1_0 a b c d xs := by
  unfold f1_0 f1_19
  split <;> split <;> exact own_bb _
theorem own_lits (l : Int32) (h : 0 ≤ l.toInt ∧ l.toInt ≤ 4) : l = 0 ∨ l = 1 ∨ l = 2 ∨ l = 3 ∨ l = 4 := by
  by_cases h0 : l = 0
  · exact Or.inl h0
  · by_cases h1 : l = 1
    · exact Or.inr (Or.inl h1)
    · by_cases h2 : l = 2
      · exact Or.inr (Or.inr (Or.inl h2))
      · by_cases h3 : l = 3
        · exact Or.inr (Or.inr (Or.inr (Or.inl h3)))
        · exact Or.inr (Or.inr (Or.inr (Or.inr (own_k4 l h h0 h1 h2 h3).symm)))
theorem own_a0 (c : Int32) (t : List Int32) : own_at (c :: t) 0 = c := rfl
theorem own_a1 (c d : Int32) (t : List Int32) : own_at (c :: d :: t) 1 = d := rfl
theorem own_a2 (c d e : Int32) (t : List Int32) : own_at (c :: d :: e :: t) 2 = e := rfl
theorem own_a3 (c d e f : Int32) (t : List Int32) : own_at (c :: d :: e :: f :: t) 3 = f := rfl
theorem own_n0 : (0 : Int32) + 1 = 1 := by decide
theorem own_n1 : (1 : Int32) + 1 = 2 := by decide
theorem own_n2 : (2 : Int32) + 1 = 3 := by decide
theorem own_n3 : (3 : Int32) + 1 = 4 := by decide
theorem own_diff (v0 v1 v2 v3 l s k c0 c1 c2 c3 : Int32) (bs ks : List Int32) (h : ¬ (k = l)) : f0_228 v0 v1 v2 v3 l s k c0 c1 c2 c3 bs k ks = 1 := by
  unfold f0_228 f0_309 f0_310 f2_0
  rw [if_neg h, if_neg h, if_pos rfl]
theorem own_118 (v0 v1 v2 v3 l s k c0 c1 c2 c3 : Int32) (bs : List Int32) (hl : 0 ≤ l.toInt ∧ l.toInt ≤ 4) (hk : 0 ≤ k.toInt ∧ k.toInt ≤ 4) (h0 : c0.toInt8.toInt32 = c0) (h1 : c1.toInt8.toInt32 = c1) (h2 : c2.toInt8.toInt32 = c2) (h3 : c3.toInt8.toInt32 = c3) :
    f0_118 v0 v1 v2 v3 l s k c0 c1 c2 c3 bs = 1 := by
  unfold f0_118
  rw [h0, h1, h2, h3]
  rcases own_lits k hk with rfl | rfl | rfl | rfl | rfl
  · rw [if_pos rfl]
    by_cases q : (0 : Int32) = l
    · subst q
      simp +decide only [f0_228, f0_251, f0_269, f0_287, f0_305, f0_309, f0_310, f2_0, f2_11, if_true, if_false]
    · exact own_diff _ _ _ _ _ _ _ _ _ _ _ _ _ q
  · rw [if_neg (by decide), if_pos rfl]
    by_cases q : (1 : Int32) = l
    · subst q
      simp +decide only [f0_228, f0_251, f0_269, f0_287, f0_305, f0_309, f0_310, f2_0, f2_11, if_true, if_false, own_a0, own_n0, Int32.add_zero]
      by_cases e0 : c0 = own_at bs s
      · simp +decide only [if_pos e0, if_true]
      · simp +decide only [if_neg e0, if_true]
    · exact own_diff _ _ _ _ _ _ _ _ _ _ _ _ _ q
  · rw [if_neg (by decide), if_neg (by decide), if_pos rfl]
    by_cases q : (2 : Int32) = l
    · subst q
      simp +decide only [f0_228, f0_251, f0_269, f0_287, f0_305, f0_309, f0_310, f2_0, f2_11, if_true, if_false, own_a0, own_a1, own_n0, own_n1, Int32.add_zero]
      by_cases e0 : c0 = own_at bs s
      · by_cases e1 : c1 = own_at bs (s + 1)
        · simp +decide only [if_pos e0, if_pos e1, if_true]
        · simp +decide only [if_pos e0, if_neg e1, if_true]
      · simp +decide only [if_neg e0, if_true]
    · exact own_diff _ _ _ _ _ _ _ _ _ _ _ _ _ q
  · rw [if_neg (by decide), if_neg (by decide), if_neg (by decide), if_pos rfl]
    by_cases q : (3 : Int32) = l
    · subst q
      simp +decide only [f0_228, f0_251, f0_269, f0_287, f0_305, f0_309, f0_310, f2_0, f2_11, if_true, if_false, own_a0, own_a1, own_a2, own_n0, own_n1, own_n2, Int32.add_zero]
      by_cases e0 : c0 = own_at bs s
      · by_cases e1 : c1 = own_at bs (s + 1)
        · by_cases e2 : c2 = own_at bs (s + 2)
          · simp +decide only [if_pos e0, if_pos e1, if_pos e2, if_true]
          · simp +decide only [if_pos e0, if_pos e1, if_neg e2, if_true]
        · simp +decide only [if_pos e0, if_neg e1, if_true]
      · simp +decide only [if_neg e0, if_true]
    · exact own_diff _ _ _ _ _ _ _ _ _ _ _ _ _ q
  · rw [if_neg (by decide), if_neg (by decide), if_neg (by decide), if_neg (by decide)]
    by_cases q : (4 : Int32) = l
    · subst q
      simp +decide only [f0_228, f0_251, f0_269, f0_287, f0_305, f0_309, f0_310, f2_0, f2_11, if_true, if_false, own_a0, own_a1, own_a2, own_a3, own_n0, own_n1, own_n2, own_n3, Int32.add_zero]
      by_cases e0 : c0 = own_at bs s
      · by_cases e1 : c1 = own_at bs (s + 1)
        · by_cases e2 : c2 = own_at bs (s + 2)
          · by_cases e3 : c3 = own_at bs (s + 3)
            · simp +decide only [if_pos e0, if_pos e1, if_pos e2, if_pos e3, if_true]
            · simp +decide only [if_pos e0, if_pos e1, if_pos e2, if_neg e3, if_true]
          · simp +decide only [if_pos e0, if_pos e1, if_neg e2, if_true]
        · simp +decide only [if_pos e0, if_neg e1, if_true]
      · simp +decide only [if_neg e0, if_true]
    · exact own_diff _ _ _ _ _ _ _ _ _ _ _ _ _ q
theorem own_law (b k f s : Int32) : f0_0 b k f s = 1 := by
  unfold f0_0 f0_38 f0_70
  exact own_118 _ _ _ _ _ _ _ _ _ _ _ _ (own_5 _) (own_5 _) (own_pb _ _ _ _ _) (own_pb _ _ _ _ _) (own_pb _ _ _ _ _) (own_pb _ _ _ _ _)

set_option maxRecDepth 65536 in
set_option maxHeartbeats 40000000 in
theorem comes_1 {Post : Tables → Env → Array Value → State → Outcome → State → Prop} (hpost : ∀ tb e args s v u, (limb_1_1.after args s (.returned v) u = true ∧ limb_1_2.after args s (.returned v) u = true ∧ True) → FrameEnd s (.returned v) u (Jvm.fieldLocs frame_1_writes args s ++ Jvm.arrayLocs frame_1_arrays args s ++ Jvm.staticLocs frame_1_statics s) 16 128 → Post tb e args s (.returned v) u) :
    ArmFor flags0 classFile x code maxLocals ret World_1 tables_1 room_1 Calls_1 rest_1 Pre_1 Post := by
  intro l hfl _ _ p e ha hc hk s m args below hf hA hF happ hP
  obtain ⟨hcalls, hrest, hpre⟩ := hP
  obtain ⟨-, -, -, hnamed, -, -, -, hat⟩ := (Spec.applies_iff hf).mp happ
  obtain ⟨hg, hn⟩ := and_e (Cond.before_iff.mp (show (Jvm.Cond.and given_1 narrow_1).before args s = true from hpre))
  obtain ⟨gg1, gg2⟩ := and_e hg
  obtain ⟨gg3, gg4⟩ := and_e gg2
  obtain ⟨gg5, gg6⟩ := and_e gg4
  obtain ⟨gg7, gg8⟩ := and_e gg6
  obtain ⟨w0, w1, w2, w3, rfl⟩ : ∃ w0 w1 w2 w3 : Value, args = #[w0, w1, w2, w3] := by
    have hs : args.size = 4 := by simpa [Cond.value, given_1] using gg1
    obtain ⟨L⟩ := args
    match L, hs with
    | [w0, w1, w2, w3], _ => exact ⟨w0, w1, w2, w3, rfl⟩
  have hw := fun d (hd : d ∈ tables_1) => atoms_spec (ws := Jvm.Cond.code x code maxLocals ret :: tables_1) hat d (List.mem_cons_of_mem _ hd)
  have hfit : Fit s := fun {y c} hc i hi => by
    obtain ⟨ha, rfl⟩ := Array.getElem?_eq_some_iff.mp hc
    have q := List.all_eq_true.mp ((Array.all_eq_true_iff_forall_mem.mp hF) _ (Array.getElem_mem ha)) i (List.mem_range.mpr hi)
    simpa [Array.getElem?_eq_getElem hi] using q
  obtain ⟨i0, ei0⟩ := is_v gg3
  obtain rfl : w0 = (.int i0) := Option.some.inj ei0
  obtain ⟨i1, ei1⟩ := is_v gg5
  obtain rfl : w1 = (.int i1) := Option.some.inj ei1
  obtain ⟨i2, ei2⟩ := is_v gg7
  obtain rfl : w2 = (.int i2) := Option.some.inj ei2
  obtain ⟨i3, ei3⟩ := is_v gg8
  obtain rfl : w3 = (.int i3) := Option.some.inj ei3
  obtain ⟨n, o, h1, h2, h3, _, L, rfl, ⟨rfl, N⟩, hq⟩ := rm0 l s _ hw tables_1 i0 i1 i2 i3 s.heap s.heap.size (Nat.le_refl _)  p e ha hc hk s m _ below hf ((Spec.applies_iff_loose hf).mp happ).1 ⟨rfl, State.Warmed39.refl s, rfl⟩ trivial
  refine ⟨n, _, h1, h2, h3, hpost _ _ _ _ _ _ ⟨Cond.after_iff.mpr rfl, Cond.after_iff.mpr (eq_i res_at (Term.int_eval (1)) (congrArg Value.int (own_law i0 i1 i2 i3))), trivial⟩ ⟨hq.1, hq.2.1, (hq.2.2.sift fun y hy => Or.inr (N y hy)).mono (by decide) (by decide)⟩⟩
theorem main_1_1 : Claimed_1_1 := comes_1 fun _ _ _ _ _ _ h hF => ⟨h.1, hF⟩
theorem main_1_2 : Claimed_1_2 := comes_1 fun _ _ _ _ _ _ h hF => ⟨h.2.1, hF⟩
end Jvm.Pilot.@@N@@
namespace Jvm.Pilot.@@N@@
open Jvm Jvm.ClassFile Sem Op Lib Jvm.Free Jvm.Stand Jvm.Pilot.@@N@@.Jvm.D
/-! MADE BY PROGRAM (witnessworld.py) out of the Statement's table words and the real class files: 9 classes; the members and pool entries that the words name. The judged class is class 1, her method 2. -/
namespace start1
open Jvm.ClassFile
def u (s : String) : CpInfo := .utf8 (stringToUtf16 s)
/-- a pool by its gaps: so many unusable entries, then the entry; so many at the end -/
def gap : Nat → List CpInfo → List CpInfo
  | 0, r => r
  | n + 1, r => .unusable :: gap n r
def poolList (es : List (Nat × CpInfo)) (last : Nat) : List CpInfo := es.foldr (fun e r => gap e.1 (e.2 :: r)) (gap last [])
def pool (es : List (Nat × CpInfo)) (last : Nat) : Array CpInfo := ⟨poolList es last⟩
def fileOf (pool : Array CpInfo) (this : Nat) (attrs : Array Attribute := #[]) (ms : Array MethodInfo := #[]) (fl : Nat := 33) (sup : Nat := 0) (ifs : Array Nat := #[]) (fds : Array FieldInfo := #[]) : ClassFile where
  minorVersion := 0
  majorVersion := 65
  constantPool := pool
  accessFlags := fl
  thisClass := this
  superClass := sup
  interfaces := ifs
  fields := fds
  methods := ms
  attributes := attrs
def plain (name : String) (sup : Option ClassId) : Class where
  name := name
  kind := .ordinary
  loader := none
  accessFlags := 33
  super := sup
  interfaces := #[]
  cf := none
  fields := #[]
  methods := #[]
  instanceTypes := #[]
  staticTypes := #[]
  resolved := #[]
  callSites := []
  init := .initialized
  statics := none
  mirror := none

def pool0 : Array CpInfo := pool [(5, u "<init>"), (0, u "()V"), (1, .class_ 10), (1, u "java/lang/Object")] 113

def k0m0 : Method := { name := "<init>", desc := "()V", sig := { parameters := [], returnType := none }, accessFlags := 1, code := none }
/-- java/lang/Object -/
def k0 : Class := { plain "java/lang/Object" none with
  accessFlags := 33
  interfaces := #[]
  cf := some (fileOf pool0 8 #[] #[{ accessFlags := 1, nameIndex := 5, descriptorIndex := 6, attributes := #[] }] 33 0 #[] #[])
  fields := #[]
  methods := #[k0m0]
  instanceTypes := #[]
  staticTypes := #[]
  resolved := Array.replicate 124 none
  statics := none }

def pool1 : Array CpInfo := pool [(2, .class_ 4), (1, u "java/lang/Object"), (0, u "<init>"), (0, u "()V"), (0, .methodref 8 9), (0, .class_ 10), (0, .nameAndType 11 12), (0, u "com/example/tallywick/tallywick/xml/TreeBuilderSameBytesPinLaw"), (0, u "pick"), (0, u "([BIIII)B"), (0, .methodref 14 15), (0, .class_ 16), (0, .nameAndType 17 18), (0, u "com/example/tallywick/tallywick/xml/TreeBuilder"), (0, u "sameBytes"), (0, u "([B[BII)Z"), (3, u "law"), (0, u "(IIII)Z")] 4

def k1m0 : Method := { name := "<init>", desc := "()V", sig := { parameters := [], returnType := none }, accessFlags := 2, code := none }
def k1c1 : Code := { maxStack := 3, maxLocals := 7, code := method_2_code, exceptionTable := #[], attributes := #[] }
def k1m1 : Method := { name := "pick", desc := "([BIIII)B", sig := { parameters := [(.array .byte), .int, .int, .int, .int], returnType := some .byte }, accessFlags := 10, code := some k1c1 }
def k1c2 : Code := { maxStack := 5, maxLocals := 14, code := code, exceptionTable := #[], attributes := #[] }
def k1m2 : Method := { name := "law", desc := "(IIII)Z", sig := { parameters := [.int, .int, .int, .int], returnType := some .boolean }, accessFlags := 9, code := some k1c2 }
/-- com/example/tallywick/tallywick/xml/TreeBuilderSameBytesPinLaw -/
def k1 : Class := { plain "com/example/tallywick/tallywick/xml/TreeBuilderSameBytesPinLaw" (some 0) with
  accessFlags := 49
  interfaces := #[]
  cf := some (fileOf pool1 8 #[] #[{ accessFlags := 2, nameIndex := 5, descriptorIndex := 6, attributes := #[] }, { accessFlags := 10, nameIndex := 11, descriptorIndex := 12, attributes := #[] }, { accessFlags := 9, nameIndex := 22, descriptorIndex := 23, attributes := #[] }] 49 2 #[] #[])
  fields := #[]
  methods := #[k1m0, k1m1, k1m2]
  instanceTypes := #[]
  staticTypes := #[]
  resolved := Array.replicate 28 none
  statics := none }

def pool2 : Array CpInfo := pool [(2, .class_ 4), (1, u "java/lang/Object"), (0, u "<init>"), (0, u "()V"), (4, .class_ 13), (1, u "com/example/tallywick/tallywick/xml/TreeBuilder"), (0, u "document"), (0, u "Lcom/example/tallywick/tallywick/xml/XmlDocument;"), (4, u "openElements"), (0, u "[Lcom/example/tallywick/tallywick/xml/XmlElement;"), (4, u "content"), (0, u "[Lcom/example/tallywick/tallywick/xml/XmlNode;"), (2, u "contentStarts"), (0, u "[I"), (4, u "attributes"), (0, u "[Lcom/example/tallywick/tallywick/xml/XmlAttribute;"), (2, u "pendingText"), (0, u "[B"), (4, u "indentations"), (0, u "[Ljava/lang/String;"), (2, u "pendingIndentation"), (0, u "I"), (2, u "sharedValues"), (3, u "sharedBytes"), (0, u "[[B"), (2, u "nextOrder"), (2, u "depth"), (41, u "contentCount"), (15, u "pendingLength"), (2, u "longText"), (13, u "longLength"), (50, u "sameBytes"), (0, u "([B[BII)Z"), (7, u "SHARED_VALUES"), (2, u "SHORT_TEXT"), (0, u "INDENTATIONS")] 26

def k2m0 : Method := { name := "<init>", desc := "()V", sig := { parameters := [], returnType := none }, accessFlags := 0, code := none }
def k2c1 : Code := { maxStack := 4, maxLocals := 5, code := prog_86_method_14_code, exceptionTable := #[], attributes := #[] }
def k2m1 : Method := { name := "sameBytes", desc := "([B[BII)Z", sig := { parameters := [(.array .byte), (.array .byte), .int, .int], returnType := some .boolean }, accessFlags := 8, code := some k2c1 }
/-- com/example/tallywick/tallywick/xml/TreeBuilder -/
def k2 : Class := { plain "com/example/tallywick/tallywick/xml/TreeBuilder" (some 0) with
  accessFlags := 48
  interfaces := #[]
  cf := some (fileOf pool2 11 #[] #[{ accessFlags := 0, nameIndex := 5, descriptorIndex := 6, attributes := #[] }, { accessFlags := 8, nameIndex := 191, descriptorIndex := 192, attributes := #[] }] 48 2 #[] #[{ accessFlags := 26, nameIndex := 200, descriptorIndex := 51, attributes := #[] }, { accessFlags := 18, nameIndex := 14, descriptorIndex := 15, attributes := #[] }, { accessFlags := 2, nameIndex := 20, descriptorIndex := 21, attributes := #[] }, { accessFlags := 2, nameIndex := 65, descriptorIndex := 51, attributes := #[] }, { accessFlags := 2, nameIndex := 26, descriptorIndex := 27, attributes := #[] }, { accessFlags := 2, nameIndex := 107, descriptorIndex := 51, attributes := #[] }, { accessFlags := 2, nameIndex := 30, descriptorIndex := 31, attributes := #[] }, { accessFlags := 2, nameIndex := 36, descriptorIndex := 37, attributes := #[] }, { accessFlags := 26, nameIndex := 203, descriptorIndex := 51, attributes := #[] }, { accessFlags := 2, nameIndex := 40, descriptorIndex := 41, attributes := #[] }, { accessFlags := 2, nameIndex := 123, descriptorIndex := 51, attributes := #[] }, { accessFlags := 2, nameIndex := 126, descriptorIndex := 41, attributes := #[] }, { accessFlags := 2, nameIndex := 140, descriptorIndex := 51, attributes := #[] }, { accessFlags := 26, nameIndex := 204, descriptorIndex := 51, attributes := #[] }, { accessFlags := 18, nameIndex := 46, descriptorIndex := 47, attributes := #[] }, { accessFlags := 2, nameIndex := 50, descriptorIndex := 51, attributes := #[] }, { accessFlags := 18, nameIndex := 54, descriptorIndex := 47, attributes := #[] }, { accessFlags := 18, nameIndex := 58, descriptorIndex := 59, attributes := #[] }, { accessFlags := 2, nameIndex := 62, descriptorIndex := 51, attributes := #[] }])
  fields := #[{ name := "SHARED_VALUES", type := .int, accessFlags := 26, slot := 0, constantValue := 0 }, { name := "document", type := (.object "com/example/tallywick/tallywick/xml/XmlDocument"), accessFlags := 18, slot := 0, constantValue := 0 }, { name := "openElements", type := (.array (.object "com/example/tallywick/tallywick/xml/XmlElement")), accessFlags := 2, slot := 1, constantValue := 0 }, { name := "depth", type := .int, accessFlags := 2, slot := 2, constantValue := 0 }, { name := "content", type := (.array (.object "com/example/tallywick/tallywick/xml/XmlNode")), accessFlags := 2, slot := 3, constantValue := 0 }, { name := "contentCount", type := .int, accessFlags := 2, slot := 4, constantValue := 0 }, { name := "contentStarts", type := (.array .int), accessFlags := 2, slot := 5, constantValue := 0 }, { name := "attributes", type := (.array (.object "com/example/tallywick/tallywick/xml/XmlAttribute")), accessFlags := 2, slot := 6, constantValue := 0 }, { name := "SHORT_TEXT", type := .int, accessFlags := 26, slot := 1, constantValue := 0 }, { name := "pendingText", type := (.array .byte), accessFlags := 2, slot := 7, constantValue := 0 }, { name := "pendingLength", type := .int, accessFlags := 2, slot := 8, constantValue := 0 }, { name := "longText", type := (.array .byte), accessFlags := 2, slot := 9, constantValue := 0 }, { name := "longLength", type := .int, accessFlags := 2, slot := 10, constantValue := 0 }, { name := "INDENTATIONS", type := .int, accessFlags := 26, slot := 2, constantValue := 0 }, { name := "indentations", type := (.array (.object "java/lang/String")), accessFlags := 18, slot := 11, constantValue := 0 }, { name := "pendingIndentation", type := .int, accessFlags := 2, slot := 12, constantValue := 0 }, { name := "sharedValues", type := (.array (.object "java/lang/String")), accessFlags := 18, slot := 13, constantValue := 0 }, { name := "sharedBytes", type := (.array (.array .byte)), accessFlags := 18, slot := 14, constantValue := 0 }, { name := "nextOrder", type := .int, accessFlags := 2, slot := 15, constantValue := 0 }]
  methods := #[k2m0, k2m1]
  instanceTypes := #[(.object "com/example/tallywick/tallywick/xml/XmlDocument"), (.array (.object "com/example/tallywick/tallywick/xml/XmlElement")), .int, (.array (.object "com/example/tallywick/tallywick/xml/XmlNode")), .int, (.array .int), (.array (.object "com/example/tallywick/tallywick/xml/XmlAttribute")), (.array .byte), .int, (.array .byte), .int, (.array (.object "java/lang/String")), .int, (.array (.object "java/lang/String")), (.array (.array .byte)), .int]
  staticTypes := #[.int, .int, .int]
  resolved := Array.replicate 231 none
  statics := none }

def pool3 : Array CpInfo := pool [(1, u "java/lang/Cloneable"), (0, .class_ 1), (0, u "java/lang/Object"), (0, .class_ 3)] 3

/-- java/lang/Cloneable -/
def k3 : Class := { plain "java/lang/Cloneable" (some 0) with
  accessFlags := 1537
  interfaces := #[]
  cf := some (fileOf pool3 2 #[] #[] 1537 4 #[] #[])
  fields := #[]
  methods := #[]
  instanceTypes := #[]
  staticTypes := #[]
  resolved := Array.replicate 8 none
  statics := none }

def pool4 : Array CpInfo := pool [(1, u "java/io/Serializable"), (0, .class_ 1), (0, u "java/lang/Object"), (0, .class_ 3)] 3

/-- java/io/Serializable -/
def k4 : Class := { plain "java/io/Serializable" (some 0) with
  accessFlags := 1537
  interfaces := #[]
  cf := some (fileOf pool4 2 #[] #[] 1537 4 #[] #[])
  fields := #[]
  methods := #[]
  instanceTypes := #[]
  staticTypes := #[]
  resolved := Array.replicate 8 none
  statics := none }

/-- the primitive byte -/
def k5 : Class := { plain "byte" none with kind := .primitive 'B', accessFlags := 0x411 }
/-- [B -/
def k6 : Class := { plain "[B" (some 0) with kind := .array 5 .byte, interfaces := #[3, 4], accessFlags := 1041 }

/-- the primitive int -/
def k7 : Class := { plain "int" none with kind := .primitive 'I', accessFlags := 0x411 }
/-- [I -/
def k8 : Class := { plain "[I" (some 0) with kind := .array 7 .int, interfaces := #[3, 4], accessFlags := 1041 }

def heap : Heap := #[]
def classes : Array Class := #[k0, k1, k2, k3, k4, k5, k6, k7, k8]
def interned : List (Array UInt16 × Addr) := []
def slotsUsed : Nat := 0
def theMethod : MethodId := ⟨1, 2⟩
def args0 : Array Value := #[.int 305419896, .int 7, .int 5, .int 73]
def aboutOver (below : List Frame) : State where
  vm := { classes := classes, interned := interned.toArray }
  heap := heap
  slotsUsed := slotsUsed
  threads := #[{ frames := .invoking theMethod args0 :: below }]
def below0 : List Frame := [.native { method := ⟨0, 0⟩, args := #[] }]
def about1 : State := aboutOver below0
def p0 : Program := .bare "" "" ""
def e0 : Env := launch0.env 0 0 0
theorem w_frames : about1.frames = Frame.invoking theMethod args0 :: below0 := rfl
set_option maxRecDepth 65536 in
theorem w_args : argsFit about1.vm theMethod args0 = true := by decide +kernel
set_option maxRecDepth 65536 in
theorem w_heap : heapFits about1 = true := by decide +kernel
set_option maxRecDepth 65536 in
theorem w_runnable : about1.curStatus? = some .runnable := by decide +kernel
set_option maxRecDepth 65536 in
theorem w_alone : about1.alone = true := by decide +kernel
set_option maxRecDepth 65536 in
theorem w_named : about1.methodNamed? x = some theMethod := by decide +kernel
set_option maxRecDepth 65536 in
theorem w_hears : about1.hears theMethod below0 = true := by decide +kernel
set_option maxRecDepth 65536 in
theorem w_ripe : about1.ripe theMethod args0 below0 = true := by decide +kernel
theorem w_running : about1.status = .running := rfl
set_option maxRecDepth 65536 in
theorem w_room : about1.hasRoom e0.platform room_1 = true :=
  launch0.hasRoom_least _ room_1 (by decide +kernel) (by decide +kernel) (by decide +kernel) (by decide +kernel) (by decide +kernel) (by decide +kernel)
theorem allAtoms_all (ts : List Jvm.Cond) (a : Array Jvm.Value) (st : Jvm.State) : (allAtoms ts).before a st = ts.all (fun c => c.before a st) := by
  induction ts with
  | nil => rfl
  | cons c t ih =>
    show (Jvm.Cond.and c (allAtoms t)).before a st = _
    rw [Jvm.Cond.before_and, ih, List.all_cons]
def words1 : List Jvm.Cond := Jvm.Cond.code x code maxLocals ret :: tables_1
/-- a 'code' word, met by the world's own term for the bytes: nothing is compared byte by byte -/
theorem code_word {y : MethodName} {bytes : ByteArray} {mx : Nat} {rt : Option FieldType} {a : Array Value} {s : State} {m : MethodId} {meth : Method} {c : Code} (h1 : s.methodNamed? y = some m) (h2 : s.vm.method? m = some meth) (h3 : meth.code = some c) (h4 : c.code = bytes)
    (h5 : (c.maxLocals == mx && c.exceptionTable.isEmpty && decide (c.maxStack ≤ mostOperands) && decide (meth.sig.returnType = rt) && !meth.locks && decide (parseMethodDescriptor y.desc = some meth.sig)) = true) : (Jvm.Cond.code y bytes mx rt).before a s = true := by
  simp only [Bool.and_eq_true, beq_iff_eq, Bool.not_eq_true', decide_eq_true_eq] at h5
  obtain ⟨⟨⟨⟨⟨g1, g2⟩, g3⟩, g4⟩, g5⟩, g6⟩ := h5
  simp [Cond.before, Cond.holds, Cond.value, h1, h2, h3, h4, g1, g2, g3, g4, g5, g6]
def isCode : Jvm.Cond → Bool
  | .code _ _ _ _ => true
  | _ => false
theorem all_split {L : List Jvm.Cond} {P : Jvm.Cond → Bool} (h1 : L.all (fun c => isCode c || P c) = true) (h2 : ∀ c ∈ L.filter isCode, P c = true) : L.all P = true := by
  refine List.all_eq_true.mpr fun c hc => ?_
  have h := List.all_eq_true.mp h1 c hc
  rcases Bool.eq_false_or_eq_true (isCode c) with hi | hi
  · exact h2 c (List.mem_filter.mpr ⟨hc, hi⟩)
  · simpa [hi] using h
set_option maxRecDepth 65536 in
theorem w_c0 : (Jvm.Cond.code x code maxLocals ret).before args0 about1 = true := code_word (m := ⟨1, 2⟩) (meth := k1m2) (c := k1c2) (by decide +kernel) rfl rfl rfl (by decide +kernel)
set_option maxRecDepth 65536 in
theorem w_c1 : (Jvm.Cond.code ({ cls := "com/example/tallywick/tallywick/xml/TreeBuilderSameBytesPinLaw", name := "pick", desc := "([BIIII)B" } : Jvm.MethodName) method_2_code (7 : Nat) (Option.some Jvm.ClassFile.FieldType.byte)).before args0 about1 = true := code_word (m := ⟨1, 1⟩) (meth := k1m1) (c := k1c1) (by decide +kernel) rfl rfl rfl (by decide +kernel)
set_option maxRecDepth 65536 in
theorem w_c2 : (Jvm.Cond.code ({ cls := "com/example/tallywick/tallywick/xml/TreeBuilder", name := "sameBytes", desc := "([B[BII)Z" } : Jvm.MethodName) prog_86_method_14_code (5 : Nat) (Option.some Jvm.ClassFile.FieldType.boolean)).before args0 about1 = true := code_word (m := ⟨2, 1⟩) (meth := k2m1) (c := k2c1) (by decide +kernel) rfl rfl rfl (by decide +kernel)
def codes1 : List Jvm.Cond := [Jvm.Cond.code x code maxLocals ret, Jvm.Cond.code ({ cls := "com/example/tallywick/tallywick/xml/TreeBuilderSameBytesPinLaw", name := "pick", desc := "([BIIII)B" } : Jvm.MethodName) method_2_code (7 : Nat) (Option.some Jvm.ClassFile.FieldType.byte), Jvm.Cond.code ({ cls := "com/example/tallywick/tallywick/xml/TreeBuilder", name := "sameBytes", desc := "([B[BII)Z" } : Jvm.MethodName) prog_86_method_14_code (5 : Nat) (Option.some Jvm.ClassFile.FieldType.boolean)]
set_option maxRecDepth 65536 in
theorem codes_eq : words1.filter isCode = codes1 := rfl
theorem w_codes : ∀ c ∈ words1.filter isCode, c.before args0 about1 = true := by
  rw [codes_eq]
  intro c hc
  simp only [codes1, List.mem_cons, List.not_mem_nil, or_false] at hc
  rcases hc with rfl | rfl | rfl
  · exact w_c0
  · exact w_c1
  · exact w_c2
set_option maxRecDepth 65536 in
theorem w_t1 : words1.all (fun c => isCode c || c.before args0 about1) = true := by decide +kernel
theorem w_tables : (allAtoms (Jvm.Cond.code x code maxLocals ret :: tables_1)).before args0 about1 = true := by
  rw [allAtoms_all]
  show words1.all (fun c => c.before args0 about1) = true
  refine all_split ?_ w_codes
  rw [w_t1]
set_option maxRecDepth 65536 in
theorem w_case : (Jvm.Cond.and given_1 narrow_1).before args0 about1 = true := by decide +kernel
theorem w_applies : (headSpec (Jvm.Cond.code x code maxLocals ret :: tables_1) room_1).applies x e0.platform about1 = true :=
  (Spec.applies_iff w_frames).mpr ⟨w_running, w_runnable, w_alone, w_named, w_hears, w_ripe, w_room, w_tables⟩
theorem atStart : AtStart classFile x code maxLocals ret World_1 tables_1 room_1 Calls_1 rest_1 Pre_1 launch0 p0 e0 about1 theMethod args0 below0 :=
  ⟨lists_1, trivial, launch0.admits_env _ _ _, launch0.least_env, fairChoices_fair.cas, fairChoices_fair.clock, w_frames, w_args, w_heap, w_applies, trivial, trivial, w_case⟩
end start1
theorem witness_1 : WitnessClaimed_1 := ⟨start1.p0, start1.e0, start1.about1, start1.theMethod, start1.args0, start1.below0, start1.atStart⟩
end Jvm.Pilot.@@N@@
